import JvmDerived
import JvmDerived.Pilot.@@N@@Statement
import JvmDerived.Pilot.@@N@@Code
set_option linter.unusedVariables false
set_option linter.unusedSimpArgs false
namespace Jvm.Own
open Jvm Jvm.ClassFile Sem Op Lib Jvm.Free Jvm.Stand Jvm.LawKit Jvm.RoadKit Bundle
/-- from pc, with these locals and this stack, over the heap h, the body runs to its return, and Q holds of what it returns and of the heap it leaves -/
def Go (l : Launch) (Z : State) (n0 : Nat) (R : Room) (own nm : String) (code : ByteArray) (mL : Nat) (ret : Option FieldType) (I : State → Heap → Prop) (F : State → Option Value → State → List Loc → Prop)
    (h : Heap) (cells slots pc : Nat) (Ls : Array Slot) (st : List Value) : Prop :=
  ∀ (p : Program) (e : Env) (s : State) (m : MethodId) (args : Array Value) (below : List Frame) (meth : Method) (c : Code) (T : State) (locs : List Loc),
    p.tables.exec = Jvm.exec → Z.Warmed39 s.vm → s.vm.findClass own = some m.cls → meth.name = nm → c.code = code → c.maxLocals = mL → meth.sig.returnType = ret → meth.locks = false →
    Stand p l e R s m args below meth c T locs cells slots → Fr n0 locs → T.heap = h → I s h →
    ∃ s₂ v L, Steps p.tables e below (T.setTop (mkF m pc Ls st)) s₂ ∧ s₂.status = .running ∧ Ended s₂ below (.returned v) ∧ F s v s₂ L
/-- nothing is asked beside -/
abbrev IN : State → Heap → Prop := fun _ _ => True
/-- the end of a walk that interns nothing -/
def FN (n0 : Nat) (R : Room) (Q : Option Value → Heap → Prop) : State → Option Value → State → List Loc → Prop := fun s v s₂ L => Fr n0 L ∧ Q v s₂.heap ∧ FrameEnd s (.returned v) s₂ L R.cells R.slots
/-- a body's contract: called with as' over the heap h0 it returns, and Q holds -/
def Ct (l : Launch) (Z : State) (n0 : Nat) (own nm ds : String) (ws : List Cond) (code : ByteArray) (mL : Nat) (ret : Option FieldType) (rm : Room) (as' : Array Value) (h0 : Heap) (Q : Option Value → Heap → Prop) : Prop :=
  MetFree l (⟨own, nm, ds⟩ : MethodName) (head1 (Cond.code (⟨own, nm, ds⟩ : MethodName) code mL ret :: ws) rm) (fun a U => a = as' ∧ Z.Warmed39 U.vm ∧ U.heap = h0) (fun _ _ _ _ _ => True)
    (fun _ U o U' => ∃ v L, o = .returned v ∧ (Fr n0 L ∧ Q v U'.heap) ∧ FrameEnd U o U' L rm.cells rm.slots)
theorem cat_ref {v : Value} (h : v.isRef = true) : v.category = 1 := by cases v <;> simp_all [Value.isRef, Value.category]
theorem fits_ref' {v : Value} {C : String} (h : v.isRef = true) : fits (.object C) v = true := by cases v <;> simp_all [Value.isRef, fits]
theorem st_at {Ls Ls' : Array Slot} {k : Nat} {v : Value} {o : Slot} (hold : Ls[k]? = some o) (ho : One o) (hv : v.category = 1) (e : Ls.setIfInBounds k (.val v) = Ls') : storeLocals Ls k v = some Ls' := by rw [XS.store1 hold ho hv, e]
/-- null, or an object of just that class -/
def Nul (Z : State) (h : Heap) (v : Value) (C : String) : Prop := v = .null ∨ ∃ a, v = .ref a ∧ Exa Z h a C
theorem Nul.keep {Z : State} {h h' : Heap} {v : Value} {C : String} {ws : List Addr} (F : Nul Z h v C) (K : Keep h h' ws) : Nul Z h' v C := F.imp id fun ⟨a, e, E⟩ => ⟨a, e, E.keep K⟩
theorem Nul.isRef {Z : State} {h : Heap} {v : Value} {C : String} (F : Nul Z h v C) : v.isRef = true := by rcases F with rfl | ⟨a, rfl, -⟩ <;> rfl
theorem Nul.ins {Z : State} {h : Heap} {v : Value} {C : String} (F : Nul Z h v C) : v = .null ∨ ∃ a, v = .ref a ∧ Ins Z h a C true := F.imp id fun ⟨a, e, E⟩ => ⟨a, e, Ins.self E⟩
/-- a private method of a class that can be made selects itself -/
theorem sel_priv {Z : State} {a0 : Array Value} {y : MethodName} {n : Nat} (wi : (Cond.instantiable y.cls n).before a0 Z = true) (wm : (Cond.instanceMethod y).before a0 Z = true) (wp : (Cond.privateMethod y).before a0 Z = true) (hy : y.cls ≠ "java/lang/invoke/MethodHandle" ∧ y.cls ≠ "java/lang/invoke/VarHandle") : (Cond.selects y.cls y y).before a0 Z = true := by
  obtain ⟨mk, meth, hnamed, hmeth, -, -⟩ := Cond.instanceMethod_spec wm
  obtain ⟨c, k, hc, hk, -, hi, -, -⟩ := Cond.instantiable_spec wi
  have hfound := State.methodFound?_of_named hnamed hy
  have hc' := findClass_of_methodNamed hnamed
  cases hc.symm.trans hc'
  have hsel : selectMethod {} Z.vm mk.cls mk = .method mk := selectMethod_private hmeth (Cond.privateMethod_at wp mk meth hnamed hmeth)
  have hni : k.isInterface = false := by simp only [Bool.or_eq_false_iff] at hi; exact hi.1
  simp [Cond.before, Cond.holds, Cond.value, hc', hfound, hnamed, hsel, hk, hni]
/-- a call that is paid: by whatever theorem -/
def Pays (l : Launch) (Z : State) (n0 : Nat) (R : Room) (y : MethodName) (len W : Nat) (as' : Array Value) (h : Heap) (kc ks : Nat) (Q : Option Value → Heap → Prop) : Prop :=
  ∀ (p : Program) (e : Env) (below : List Frame) (s : State) (args : Array Value), Z.Warmed39 s.vm →
    Back l R p e below s args y len W (fun A a => a = as' ∧ A.U.heap = h ∧ A.cells + kc ≤ R.cells ∧ A.slots + ks ≤ R.slots) (fun A _ v B => ∃ L, (Fr n0 L ∧ Q v B.U.heap) ∧ B.locs = A.locs ++ L ∧ B.cells = A.cells + kc ∧ B.slots = A.slots + ks)
theorem nI {h : Heap} {ws : List Addr} : ∀ (s : State) (h' : Heap), Keep h h' ws → IN s h → IN s h' := fun _ _ _ _ => trivial
theorem nE {h : Heap} : ∀ (s : State) (h' : Heap), Ext h h' → h.size < h'.size → IN s h → IN s h' := fun _ _ _ _ _ => trivial
theorem nQ {h : Heap} {Q : Option Value → Heap → Prop} : ∀ (v : Option Value) (s : State) (h' : Heap), Q v h' → IN s h → IN s h' := fun _ _ _ _ _ => trivial
section Go
variable {l : Launch} {Z : State} {n0 : Nat} {R : Room} {own nm : String} {code : ByteArray} {mL : Nat} {ret : Option FieldType} {Q : Option Value → Heap → Prop} {I I' : State → Heap → Prop} {F : State → Option Value → State → List Loc → Prop} {h : Heap} {cells slots pc : Nat} {Ls : Array Slot} {st rest : List Value} {a0 : Array Value}
theorem Ct.of_go {ds : String} {ws : List Cond} {rm : Room} {as' : Array Value} {h0 : Heap} (hp : plainFor (⟨own, nm, ds⟩ : MethodName) = true) (hef : ∀ m, entryFrame m as' mL = mkF m 0 Ls []) (hg : Go l Z n0 rm own nm code mL ret IN (FN n0 rm Q) h0 0 0 0 Ls []) : Ct l Z n0 own nm ds ws code mL ret rm as' h0 Q := by
  refine MetFree.of_bodySF hp hisR ?_
  intro p e s m args below meth c s₁ Bd hml hP hK
  obtain ⟨rfl, hZ, hh⟩ := hP
  have hown : s.vm.findClass own = some m.cls := findClass_of_methodNamed Bd.named
  have hnm := (name_of_methodNamed Bd.named Bd.method).1
  have X0 : Stand p l e rm s m args below meth c s₁ [] 0 0 := Stand.of_body Bd
  have e0 : s₁.heap = h0 := by rw [← hh, Bd.state]; rfl
  obtain ⟨s₂, v, L, h1, h2, h3, h4, h5, h6⟩ := hg p e s m args below meth c s₁ [] Bd.exec hZ hown hnm Bd.bytes hml Bd.returns Bd.notSynchronized X0 (Fr.nil n0) e0 trivial
  exact ⟨s₂, _, castTop (hef m) h1, h2, h3, v, L, rfl, ⟨h4, h5⟩, h6⟩
theorem Ct.mono {ds : String} {ws : List Cond} {rm : Room} {as' : Array Value} {h0 : Heap} {Q' : Option Value → Heap → Prop} (C : Ct l Z n0 own nm ds ws code mL ret rm as' h0 Q) (hq : ∀ v h, Q v h → Q' v h) : Ct l Z n0 own nm ds ws code mL ret rm as' h0 Q' := by
  intro p e ha hc hk s m args below hf happ hP hK
  obtain ⟨n, o, h1, h2, h3, v, L, h4, ⟨h5, h6⟩, h7⟩ := C p e ha hc hk s m args below hf happ hP hK
  exact ⟨n, o, h1, h2, h3, v, L, h4, ⟨h5, hq _ _ h6⟩, h7⟩
theorem Go.more {cells' slots' : Nat} (hg : Go l Z n0 R own nm code mL ret I F h cells' slots' pc Ls st) (hc : cells ≤ cells') (hs : slots ≤ slots') : Go l Z n0 R own nm code mL ret I F h cells slots pc Ls st := by
  intro p e s m args below meth c T locs hx hZ ho hn hc' hm hr hk X N eT hJ
  exact hg p e s m args below meth c T locs hx hZ ho hn hc' hm hr hk (X.more hc hs) N eT hJ
theorem Go.castL {Ls' : Array Slot} (q : Ls = Ls') (hg : Go l Z n0 R own nm code mL ret I F h cells slots pc Ls' st) : Go l Z n0 R own nm code mL ret I F h cells slots pc Ls st := q ▸ hg
/-- a step that leaves the heap as it is -/
theorem Go.pure {pc' : Nat} {Ls' : Array Slot} {st' : List Value}
    (H : ∀ {p : Program} {e : Env} {s : State} {m : MethodId} {args : Array Value} {below : List Frame} {meth : Method} {c : Code} {T : State} {locs : List Loc} {target : State}, p.tables.exec = Jvm.exec → Z.Warmed39 s.vm → s.vm.findClass own = some m.cls → c.code = code →
      Stand p l e R s m args below meth c T locs cells slots → T.heap = h → Steps p.tables e below (T.setTop (mkF m pc' Ls' st')) target → Steps p.tables e below (T.setTop (mkF m pc Ls st)) target)
    (hr : Go l Z n0 R own nm code mL ret I F h cells slots pc' Ls' st') : Go l Z n0 R own nm code mL ret I F h cells slots pc Ls st := by
  intro p e s m args below meth c T locs hx hZ ho hn hc hm hr' hk X N eT hJ
  obtain ⟨s₂, v, L, h1, r⟩ := hr p e s m args below meth c T locs hx hZ ho hn hc hm hr' hk X N eT hJ
  exact ⟨s₂, v, L, H hx hZ ho hc X eT h1, r⟩
/-- a step over the tables that leaves the heap as it is -/
theorem Go.warm {pc' : Nat} {Ls' : Array Slot} {st' : List Value}
    (H : ∀ {p : Program} {e : Env} {s : State} {m : MethodId} {args : Array Value} {below : List Frame} {meth : Method} {c : Code} {T : State} {locs : List Loc}, p.tables.exec = Jvm.exec → Z.Warmed39 s.vm → s.vm.findClass own = some m.cls → c.code = code → c.maxLocals = mL →
      Stand p l e R s m args below meth c T locs cells slots → T.heap = h → ∃ T', Stand p l e R s m args below meth c T' locs cells slots ∧ T'.heap = h ∧ ∀ target, Steps p.tables e below (T'.setTop (mkF m pc' Ls' st')) target → Steps p.tables e below (T.setTop (mkF m pc Ls st)) target)
    (hr : Go l Z n0 R own nm code mL ret I F h cells slots pc' Ls' st') : Go l Z n0 R own nm code mL ret I F h cells slots pc Ls st := by
  intro p e s m args below meth c T locs hx hZ ho hn hc hm hr' hk X N eT hJ
  obtain ⟨T', X', e', stp⟩ := H hx hZ ho hc hm X eT
  obtain ⟨s₂, v, L, h1, r⟩ := hr p e s m args below meth c T' locs hx hZ ho hn hc hm hr' hk X' N e' hJ
  exact ⟨s₂, v, L, stp _ h1, r⟩
/-! plain steps -/
theorem Go.iloadN {k : Fin 4} {v : Int32} (hd : decode code pc = .ok (.iload_n k, 1)) (hl : Ls[k.val]? = some (.val (.int v))) (hr : Go l Z n0 R own nm code mL ret I F h cells slots (pc + 1) Ls (.int v :: st)) : Go l Z n0 R own nm code mL ret I F h cells slots pc Ls st := Go.pure (fun hx _ _ hc X _ k => XS.iloadN X.here hx rfl (hb hc hd) hl k) hr
theorem Go.iload {k : Nat} {v : Int32} (hd : decode code pc = .ok (.iload k, 2)) (hl : Ls[k]? = some (.val (.int v))) (hr : Go l Z n0 R own nm code mL ret I F h cells slots (pc + 2) Ls (.int v :: st)) : Go l Z n0 R own nm code mL ret I F h cells slots pc Ls st := Go.pure (fun hx _ _ hc X _ k => XS.iload X.here hx rfl (hb hc hd) hl k) hr
theorem Go.lloadN {k : Fin 4} {v : Int64} (hd : decode code pc = .ok (.lload_n k, 1)) (hl : Ls[k.val]? = some (.val (.long v))) (hr : Go l Z n0 R own nm code mL ret I F h cells slots (pc + 1) Ls (.long v :: st)) : Go l Z n0 R own nm code mL ret I F h cells slots pc Ls st := Go.pure (fun hx _ _ hc X _ k => XT.lloadN X.here hx rfl (hb hc hd) hl k) hr
theorem Go.lload {k : Nat} {v : Int64} (hd : decode code pc = .ok (.lload k, 2)) (hl : Ls[k]? = some (.val (.long v))) (hr : Go l Z n0 R own nm code mL ret I F h cells slots (pc + 2) Ls (.long v :: st)) : Go l Z n0 R own nm code mL ret I F h cells slots pc Ls st := Go.pure (fun hx _ _ hc X _ k => XT.lload X.here hx rfl (hb hc hd) hl k) hr
theorem Go.aloadN {k : Fin 4} {v : Value} (hd : decode code pc = .ok (.aload_n k, 1)) (hl : Ls[k.val]? = some (.val v)) (hv : v.isRef = true) (hr : Go l Z n0 R own nm code mL ret I F h cells slots (pc + 1) Ls (v :: st)) : Go l Z n0 R own nm code mL ret I F h cells slots pc Ls st := Go.pure (fun hx _ _ hc X _ k => XS.aloadN X.here hx rfl (hb hc hd) hl hv k) hr
theorem Go.aload {k : Nat} {v : Value} (hd : decode code pc = .ok (.aload k, 2)) (hl : Ls[k]? = some (.val v)) (hv : v.isRef = true) (hr : Go l Z n0 R own nm code mL ret I F h cells slots (pc + 2) Ls (v :: st)) : Go l Z n0 R own nm code mL ret I F h cells slots pc Ls st := Go.pure (fun hx _ _ hc X _ k => XS.aload X.here hx rfl (hb hc hd) hl hv k) hr
theorem Go.istoreN {k : Fin 4} {x : Int32} {Ls' : Array Slot} (hd : decode code pc = .ok (.istore_n k, 1)) (hl : storeLocals Ls k.val (.int x) = some Ls') (hr : Go l Z n0 R own nm code mL ret I F h cells slots (pc + 1) Ls' st) : Go l Z n0 R own nm code mL ret I F h cells slots pc Ls (.int x :: st) := Go.pure (fun hx _ _ hc X _ k => XS.istoreN X.here hx rfl (hb hc hd) rfl hl k) hr
theorem Go.istore {k : Nat} {x : Int32} {Ls' : Array Slot} (hd : decode code pc = .ok (.istore k, 2)) (hl : storeLocals Ls k (.int x) = some Ls') (hr : Go l Z n0 R own nm code mL ret I F h cells slots (pc + 2) Ls' st) : Go l Z n0 R own nm code mL ret I F h cells slots pc Ls (.int x :: st) := Go.pure (fun hx _ _ hc X _ k => XS.istore X.here hx rfl (hb hc hd) rfl hl k) hr
theorem Go.lstoreN {k : Fin 4} {x : Int64} {Ls' : Array Slot} (hd : decode code pc = .ok (.lstore_n k, 1)) (hl : storeLocals Ls k.val (.long x) = some Ls') (hr : Go l Z n0 R own nm code mL ret I F h cells slots (pc + 1) Ls' st) : Go l Z n0 R own nm code mL ret I F h cells slots pc Ls (.long x :: st) := Go.pure (fun hx _ _ hc X _ k => XT.lstoreN X.here hx rfl (hb hc hd) rfl hl k) hr
theorem Go.lstore {k : Nat} {x : Int64} {Ls' : Array Slot} (hd : decode code pc = .ok (.lstore k, 2)) (hl : storeLocals Ls k (.long x) = some Ls') (hr : Go l Z n0 R own nm code mL ret I F h cells slots (pc + 2) Ls' st) : Go l Z n0 R own nm code mL ret I F h cells slots pc Ls (.long x :: st) := Go.pure (fun hx _ _ hc X _ k => XT.lstore X.here hx rfl (hb hc hd) rfl hl k) hr
theorem Go.astoreN {k : Fin 4} {x : Value} {Ls' : Array Slot} (hd : decode code pc = .ok (.astore_n k, 1)) (hv : x.isRef = true) (hl : storeLocals Ls k.val x = some Ls') (hr : Go l Z n0 R own nm code mL ret I F h cells slots (pc + 1) Ls' st) : Go l Z n0 R own nm code mL ret I F h cells slots pc Ls (x :: st) := Go.pure (fun hx _ _ hc X _ k => XS.astoreN X.here hx rfl (hb hc hd) rfl hv hl k) hr
theorem Go.astore {k : Nat} {x : Value} {Ls' : Array Slot} (hd : decode code pc = .ok (.astore k, 2)) (hv : x.isRef = true) (hl : storeLocals Ls k x = some Ls') (hr : Go l Z n0 R own nm code mL ret I F h cells slots (pc + 2) Ls' st) : Go l Z n0 R own nm code mL ret I F h cells slots pc Ls (x :: st) := Go.pure (fun hx _ _ hc X _ k => XS.astore X.here hx rfl (hb hc hd) rfl hv hl k) hr
theorem Go.iconst {i : Int} (z : Int32) (hd : decode code pc = .ok (.iconst i, 1)) (hz : Int32.ofInt i = z) (hr : Go l Z n0 R own nm code mL ret I F h cells slots (pc + 1) Ls (.int z :: st)) : Go l Z n0 R own nm code mL ret I F h cells slots pc Ls st := by subst hz; exact Go.pure (fun hx _ _ hc X _ k => XS.iconst X.here hx rfl (hb hc hd) k) hr
theorem Go.bipush {i : Int} (z : Int32) (hd : decode code pc = .ok (.bipush i, 2)) (hz : (Int8.ofInt i).toInt32 = z) (hr : Go l Z n0 R own nm code mL ret I F h cells slots (pc + 2) Ls (.int z :: st)) : Go l Z n0 R own nm code mL ret I F h cells slots pc Ls st := by subst hz; exact Go.pure (fun hx _ _ hc X _ k => XS.bipush X.here hx rfl (hb hc hd) k) hr
theorem Go.sipush {i : Int} (z : Int32) (hd : decode code pc = .ok (.sipush i, 3)) (hz : (Int16.ofInt i).toInt32 = z) (hr : Go l Z n0 R own nm code mL ret I F h cells slots (pc + 3) Ls (.int z :: st)) : Go l Z n0 R own nm code mL ret I F h cells slots pc Ls st := by subst hz; exact Go.pure (fun hx _ _ hc X _ k => XS.sipush X.here hx rfl (hb hc hd) k) hr
theorem Go.null (hd : decode code pc = .ok (.aconst_null, 1)) (hr : Go l Z n0 R own nm code mL ret I F h cells slots (pc + 1) Ls (.null :: st)) : Go l Z n0 R own nm code mL ret I F h cells slots pc Ls st := Go.pure (fun hx _ _ hc X _ k => XS.aconstNull X.here hx rfl (hb hc hd) k) hr
theorem Go.iadd {x y : Int32} (hd : decode code pc = .ok (.iadd, 1)) (hr : Go l Z n0 R own nm code mL ret I F h cells slots (pc + 1) Ls (.int (x + y) :: st)) : Go l Z n0 R own nm code mL ret I F h cells slots pc Ls (.int y :: .int x :: st) := Go.pure (fun hx _ _ hc X _ k => XS.iadd X.here hx rfl (hb hc hd) rfl k) hr
theorem Go.isub {x y : Int32} (hd : decode code pc = .ok (.isub, 1)) (hr : Go l Z n0 R own nm code mL ret I F h cells slots (pc + 1) Ls (.int (x - y) :: st)) : Go l Z n0 R own nm code mL ret I F h cells slots pc Ls (.int y :: .int x :: st) := Go.pure (fun hx _ _ hc X _ k => XS.isub X.here hx rfl (hb hc hd) rfl k) hr
theorem Go.imul {x y : Int32} (hd : decode code pc = .ok (.imul, 1)) (hr : Go l Z n0 R own nm code mL ret I F h cells slots (pc + 1) Ls (.int (x * y) :: st)) : Go l Z n0 R own nm code mL ret I F h cells slots pc Ls (.int y :: .int x :: st) := Go.pure (fun hx _ _ hc X _ k => XS.imul X.here hx rfl (hb hc hd) rfl k) hr
theorem Go.idiv {x y : Int32} (hd : decode code pc = .ok (.idiv, 1)) (hy : y ≠ 0) (hr : Go l Z n0 R own nm code mL ret I F h cells slots (pc + 1) Ls (.int (x / y) :: st)) : Go l Z n0 R own nm code mL ret I F h cells slots pc Ls (.int y :: .int x :: st) := Go.pure (fun hx _ _ hc X _ k => XS.idiv X.here hx rfl (hb hc hd) rfl hy k) hr
theorem Go.irem {x y : Int32} (hd : decode code pc = .ok (.irem, 1)) (hy : y ≠ 0) (hr : Go l Z n0 R own nm code mL ret I F h cells slots (pc + 1) Ls (.int (x % y) :: st)) : Go l Z n0 R own nm code mL ret I F h cells slots pc Ls (.int y :: .int x :: st) := Go.pure (fun hx _ _ hc X _ k => iremM X hx (g := mkF _ pc Ls _) rfl (hb hc hd) rfl hy k) hr
theorem Go.ineg {x : Int32} (hd : decode code pc = .ok (.ineg, 1)) (hr : Go l Z n0 R own nm code mL ret I F h cells slots (pc + 1) Ls (.int (-x) :: st)) : Go l Z n0 R own nm code mL ret I F h cells slots pc Ls (.int x :: st) := Go.pure (fun hx _ _ hc X _ k => XS.ineg X.here hx rfl (hb hc hd) rfl k) hr
theorem Go.iand {x y : Int32} (hd : decode code pc = .ok (.iand, 1)) (hr : Go l Z n0 R own nm code mL ret I F h cells slots (pc + 1) Ls (.int (x &&& y) :: st)) : Go l Z n0 R own nm code mL ret I F h cells slots pc Ls (.int y :: .int x :: st) := Go.pure (fun hx _ _ hc X _ k => XS.iand X.here hx rfl (hb hc hd) rfl k) hr
theorem Go.ior {x y : Int32} (hd : decode code pc = .ok (.ior, 1)) (hr : Go l Z n0 R own nm code mL ret I F h cells slots (pc + 1) Ls (.int (x ||| y) :: st)) : Go l Z n0 R own nm code mL ret I F h cells slots pc Ls (.int y :: .int x :: st) := Go.pure (fun hx _ _ hc X _ k => XT.ior X.here hx rfl (hb hc hd) rfl k) hr
theorem Go.ixor {x y : Int32} (hd : decode code pc = .ok (.ixor, 1)) (hr : Go l Z n0 R own nm code mL ret I F h cells slots (pc + 1) Ls (.int (x ^^^ y) :: st)) : Go l Z n0 R own nm code mL ret I F h cells slots pc Ls (.int y :: .int x :: st) := Go.pure (fun hx _ _ hc X _ k => XT.ixor X.here hx rfl (hb hc hd) rfl k) hr
theorem Go.ishl {x y : Int32} (hd : decode code pc = .ok (.ishl, 1)) (hr : Go l Z n0 R own nm code mL ret I F h cells slots (pc + 1) Ls (.int (x <<< (y &&& 31)) :: st)) : Go l Z n0 R own nm code mL ret I F h cells slots pc Ls (.int y :: .int x :: st) := Go.pure (fun hx _ _ hc X _ k => XT.ishl X.here hx rfl (hb hc hd) rfl k) hr
theorem Go.ishr {x y : Int32} (hd : decode code pc = .ok (.ishr, 1)) (hr : Go l Z n0 R own nm code mL ret I F h cells slots (pc + 1) Ls (.int (x >>> (y &&& 31)) :: st)) : Go l Z n0 R own nm code mL ret I F h cells slots pc Ls (.int y :: .int x :: st) := Go.pure (fun hx _ _ hc X _ k => XT.ishr X.here hx rfl (hb hc hd) rfl k) hr
theorem Go.iushr {x y : Int32} (hd : decode code pc = .ok (.iushr, 1)) (hr : Go l Z n0 R own nm code mL ret I F h cells slots (pc + 1) Ls (.int ((x.toUInt32 >>> (y &&& 31).toUInt32).toInt32) :: st)) : Go l Z n0 R own nm code mL ret I F h cells slots pc Ls (.int y :: .int x :: st) := Go.pure (fun hx _ _ hc X _ k => XT.iushr X.here hx rfl (hb hc hd) rfl k) hr
theorem Go.i2c {x : Int32} (hd : decode code pc = .ok (.i2c, 1)) (hr : Go l Z n0 R own nm code mL ret I F h cells slots (pc + 1) Ls (.int x.toUInt32.toUInt16.toUInt32.toInt32 :: st)) : Go l Z n0 R own nm code mL ret I F h cells slots pc Ls (.int x :: st) := Go.pure (fun hx _ _ hc X _ k => XT.i2c X.here hx rfl (hb hc hd) rfl k) hr
theorem Go.i2b {x : Int32} (hd : decode code pc = .ok (.i2b, 1)) (hr : Go l Z n0 R own nm code mL ret I F h cells slots (pc + 1) Ls (.int x.toInt8.toInt32 :: st)) : Go l Z n0 R own nm code mL ret I F h cells slots pc Ls (.int x :: st) := Go.pure (fun hx _ _ hc X _ k => XT.i2b X.here hx rfl (hb hc hd) rfl k) hr
theorem Go.i2s {x : Int32} (hd : decode code pc = .ok (.i2s, 1)) (hr : Go l Z n0 R own nm code mL ret I F h cells slots (pc + 1) Ls (.int x.toInt16.toInt32 :: st)) : Go l Z n0 R own nm code mL ret I F h cells slots pc Ls (.int x :: st) := Go.pure (fun hx _ _ hc X _ k => XT.i2s X.here hx rfl (hb hc hd) rfl k) hr
theorem Go.iinc {k : Nat} {cst : Int} {x : Int32} {Ls' : Array Slot} (z : Int32) (hz : Int32.ofInt cst = z) (hd : decode code pc = .ok (.iinc k cst, 3)) (hl : Ls[k]? = some (.val (.int x))) (hl' : storeLocals Ls k (.int (x + z)) = some Ls') (hr : Go l Z n0 R own nm code mL ret I F h cells slots (pc + 3) Ls' st) : Go l Z n0 R own nm code mL ret I F h cells slots pc Ls st := by subst hz; exact Go.pure (fun hx _ _ hc X _ k => XS.iinc X.here hx rfl (hb hc hd) hl hl' k) hr
theorem Go.dup {x : Value} (hd : decode code pc = .ok (.dup, 1)) (hc : x.category = 1) (hr : Go l Z n0 R own nm code mL ret I F h cells slots (pc + 1) Ls (x :: x :: st)) : Go l Z n0 R own nm code mL ret I F h cells slots pc Ls (x :: st) := Go.pure (fun hx _ _ hc' X _ k => XS.dup X.here hx rfl (hb hc' hd) rfl hc k) hr
theorem Go.pop {x : Value} (hd : decode code pc = .ok (.pop, 1)) (hc : x.category = 1) (hr : Go l Z n0 R own nm code mL ret I F h cells slots (pc + 1) Ls st) : Go l Z n0 R own nm code mL ret I F h cells slots pc Ls (x :: st) := Go.pure (fun hx _ _ hc' X _ k => XT.pop X.here hx rfl (hb hc' hd) rfl hc k) hr
theorem Go.dupX1 {x y : Value} (hd : decode code pc = .ok (.dup_x1, 1)) (hc : x.category = 1) (hc2 : y.category = 1) (hr : Go l Z n0 R own nm code mL ret I F h cells slots (pc + 1) Ls (x :: y :: x :: st)) : Go l Z n0 R own nm code mL ret I F h cells slots pc Ls (x :: y :: st) := Go.pure (fun hx _ _ hc' X _ k => XT.dupX1 X.here hx rfl (hb hc' hd) rfl hc hc2 k) hr
theorem Go.dup2 {x y : Value} (hd : decode code pc = .ok (.dup2, 1)) (hc : x.category = 1) (hc2 : y.category = 1) (hr : Go l Z n0 R own nm code mL ret I F h cells slots (pc + 1) Ls (x :: y :: x :: y :: st)) : Go l Z n0 R own nm code mL ret I F h cells slots pc Ls (x :: y :: st) := Go.pure (fun hx _ _ hc' X _ k => XT.dup2 X.here hx rfl (hb hc' hd) rfl hc hc2 k) hr
/-! branches -/
theorem Go.goto {o : Int} (pc' : Nat) (hd : decode code pc = .ok (.goto o, 3)) (ho : 0 ≤ (pc : Int) + o) (hp : ((pc : Int) + o).toNat = pc') (hr : Go l Z n0 R own nm code mL ret I F h cells slots pc' Ls st) : Go l Z n0 R own nm code mL ret I F h cells slots pc Ls st := Go.pure (fun hx _ _ hc X _ k => XS.goto X.here hx rfl (pc0 := pc) rfl (hb hc hd) ho hp k) hr
theorem Go.ifT {cd : ClassFile.Cond} {x : Int32} {o : Int} (pc' : Nat) (hd : decode code pc = .ok (.ifCond cd o, 3)) (hc : if_icmp.holds cd x 0 = true) (ho : 0 ≤ (pc : Int) + o) (hp : ((pc : Int) + o).toNat = pc') (hr : Go l Z n0 R own nm code mL ret I F h cells slots pc' Ls st) : Go l Z n0 R own nm code mL ret I F h cells slots pc Ls (.int x :: st) := Go.pure (fun hx _ _ hc' X _ k => XS.ifYes X.here hx rfl (pc0 := pc) rfl (hb hc' hd) rfl ((if0 _ _).trans hc) ho hp k) hr
theorem Go.ifF {cd : ClassFile.Cond} {x : Int32} {o : Int} (hd : decode code pc = .ok (.ifCond cd o, 3)) (hc : if_icmp.holds cd x 0 = false) (hr : Go l Z n0 R own nm code mL ret I F h cells slots (pc + 3) Ls st) : Go l Z n0 R own nm code mL ret I F h cells slots pc Ls (.int x :: st) := Go.pure (fun hx _ _ hc' X _ k => XS.ifNo X.here hx rfl (hb hc' hd) rfl ((if0 _ _).trans hc) k) hr
theorem Go.icT {cd : ClassFile.Cond} {x y : Int32} {o : Int} (pc' : Nat) (hd : decode code pc = .ok (.if_icmp cd o, 3)) (hc : if_icmp.holds cd x y = true) (ho : 0 ≤ (pc : Int) + o) (hp : ((pc : Int) + o).toNat = pc') (hr : Go l Z n0 R own nm code mL ret I F h cells slots pc' Ls st) : Go l Z n0 R own nm code mL ret I F h cells slots pc Ls (.int y :: .int x :: st) := Go.pure (fun hx _ _ hc' X _ k => XS.icmpYes X.here hx rfl (pc0 := pc) rfl (hb hc' hd) rfl hc ho hp k) hr
theorem Go.icF {cd : ClassFile.Cond} {x y : Int32} {o : Int} (hd : decode code pc = .ok (.if_icmp cd o, 3)) (hc : if_icmp.holds cd x y = false) (hr : Go l Z n0 R own nm code mL ret I F h cells slots (pc + 3) Ls st) : Go l Z n0 R own nm code mL ret I F h cells slots pc Ls (.int y :: .int x :: st) := Go.pure (fun hx _ _ hc' X _ k => XS.icmpNo X.here hx rfl (hb hc' hd) rfl hc k) hr
theorem Go.nullT {o : Int} (pc' : Nat) (hd : decode code pc = .ok (.ifnull o, 3)) (ho : 0 ≤ (pc : Int) + o) (hp : ((pc : Int) + o).toNat = pc') (hr : Go l Z n0 R own nm code mL ret I F h cells slots pc' Ls st) : Go l Z n0 R own nm code mL ret I F h cells slots pc Ls (.null :: st) := Go.pure (fun hx _ _ hc' X _ k => XS.ifnullYes X.here hx rfl (pc0 := pc) rfl (hb hc' hd) rfl ho hp k) hr
theorem Go.nullF {o : Int} {b : Addr} (hd : decode code pc = .ok (.ifnull o, 3)) (hr : Go l Z n0 R own nm code mL ret I F h cells slots (pc + 3) Ls st) : Go l Z n0 R own nm code mL ret I F h cells slots pc Ls (.ref b :: st) := Go.pure (fun hx _ _ hc' X _ k => XS.ifnullNo X.here hx rfl (hb hc' hd) rfl k) hr
theorem Go.nnT {o : Int} {b : Addr} (pc' : Nat) (hd : decode code pc = .ok (.ifnonnull o, 3)) (ho : 0 ≤ (pc : Int) + o) (hp : ((pc : Int) + o).toNat = pc') (hr : Go l Z n0 R own nm code mL ret I F h cells slots pc' Ls st) : Go l Z n0 R own nm code mL ret I F h cells slots pc Ls (.ref b :: st) := Go.pure (fun hx _ _ hc' X _ k => XT.ifnonnullYes X.here hx rfl (pc0 := pc) rfl (hb hc' hd) rfl ho hp k) hr
theorem Go.nnF {o : Int} (hd : decode code pc = .ok (.ifnonnull o, 3)) (hr : Go l Z n0 R own nm code mL ret I F h cells slots (pc + 3) Ls st) : Go l Z n0 R own nm code mL ret I F h cells slots pc Ls (.null :: st) := Go.pure (fun hx _ _ hc' X _ k => XT.ifnonnullNo X.here hx rfl (hb hc' hd) rfl k) hr
theorem Go.acmp {cd : ACond} {x y : Value} {o : Int} (pc' : Nat) (same : Bool) (hd : decode code pc = .ok (.if_acmp cd o, 3)) (h1 : x.isRef = true) (h2 : y.isRef = true) (hq : decide (x = y) = same) (ho : 0 ≤ (pc : Int) + o) (hp : pc' = if acV cd same = true then ((pc : Int) + o).toNat else pc + 3) (hr : Go l Z n0 R own nm code mL ret I F h cells slots pc' Ls st) : Go l Z n0 R own nm code mL ret I F h cells slots pc Ls (y :: x :: st) :=
  Go.pure (fun hx _ _ hc' X _ k => Jvm.RoadKit.acmp (g := mkF _ pc Ls _) X hx rfl h1 h2 (pc0 := pc) (same := same) rfl (hb hc' hd) rfl hq ho hp k) hr
/-! constants of the pool -/
theorem Go.ldc {index : Nat} {v : Int32} (w : (Cond.constant own index v).before a0 Z = true) (hd : decode code pc = .ok (.ldc index, 2)) (hr : Go l Z n0 R own nm code mL ret I F h cells slots (pc + 2) Ls (.int v :: st)) : Go l Z n0 R own nm code mL ret I F h cells slots pc Ls st := Go.pure (fun hx hZ ho hc X _ k => X.ldcInt hx ho (mvT hZ w) (g := mkF _ pc Ls st) rfl (hb hc hd) _ k) hr
theorem Go.ldcw {index : Nat} {v : Int32} (w : (Cond.constant own index v).before a0 Z = true) (hd : decode code pc = .ok (.ldc_w index, 3)) (hr : Go l Z n0 R own nm code mL ret I F h cells slots (pc + 3) Ls (.int v :: st)) : Go l Z n0 R own nm code mL ret I F h cells slots pc Ls st := Go.pure (fun hx hZ ho hc X _ k => X.ldcwInt hx ho (mvT hZ w) (g := mkF _ pc Ls st) rfl (hb hc hd) _ k) hr
/-! fields -/
theorem Go.getF {R0 O n d : String} {index : Nat} {a : Addr} {v : Value} (w : (Cond.fieldLink own index R0 n d).before a0 Z = true) (via : Via Z R0 O n d) (FF : Fld Z h a O n d v) (hd : decode code pc = .ok (.getfield index, 3)) (hr : Go l Z n0 R own nm code mL ret I F h cells slots (pc + 3) Ls (v :: st)) : Go l Z n0 R own nm code mL ret I F h cells slots pc Ls (.ref a :: st) :=
  Go.warm (fun hx hZ ho hc _ X eT => Jvm.RoadKit.getF X hx hZ ho (host := "") (Or.inl w) via eT FF (g := mkF _ pc Ls _) rfl rfl (hb hc hd)) hr
theorem Go.getFN {R0 O n d host : String} {index : Nat} {a : Addr} {v : Value} (w : (Cond.fieldLinkNest own index R0 n d host).before a0 Z = true) (via : Via Z R0 O n d) (FF : Fld Z h a O n d v) (hd : decode code pc = .ok (.getfield index, 3)) (hr : Go l Z n0 R own nm code mL ret I F h cells slots (pc + 3) Ls (v :: st)) : Go l Z n0 R own nm code mL ret I F h cells slots pc Ls (.ref a :: st) :=
  Go.warm (fun hx hZ ho hc _ X eT => Jvm.RoadKit.getF X hx hZ ho (Or.inr w) via eT FF (g := mkF _ pc Ls _) rfl rfl (hb hc hd)) hr
theorem Go.getS {R0 O n d : String} {index : Nat} {v : Value} (w : (Cond.fieldLink own index R0 n d).before a0 Z = true) (via : Via Z R0 O n d) (FF : Sta Z h O n d v) (hd : decode code pc = .ok (.getstatic index, 3)) (hr : Go l Z n0 R own nm code mL ret I F h cells slots (pc + 3) Ls (v :: st)) : Go l Z n0 R own nm code mL ret I F h cells slots pc Ls st :=
  Go.warm (fun hx hZ ho hc _ X eT => Jvm.RoadKit.getS2 X hx hZ ho (host := "") (Or.inl w) via eT FF (g := mkF _ pc Ls st) rfl (hb hc hd)) hr
theorem Go.putF {R0 O n d C : String} {index kk : Nat} {ty : FieldType} {a : Addr} {v old : Value} (w : (Cond.fieldLink own index R0 n d).before a0 Z = true) (via : Via Z R0 O n d) (FF : Fld Z h a O n d old) (E : Exa Z h a C) (L : (Cond.lays C O n d).before a0 Z = true ∨ ((Cond.laysFinal C O n d).before a0 Z = true ∧ own = O ∧ nm = "<init>")) (wi : (Cond.instantiable C kk).before a0 Z = true)
    (hty : parseFieldDescriptor d = some ty) (hnw : narrow ty v = v) (hf : fits ty v = true) (q : n0 ≤ a) (hd : decode code pc = .ok (.putfield index, 3)) (hI : ∀ (s : State) (h' : Heap), Keep h h' [a] → I s h → I' s h') (hr : ∀ h', Wr h h' a (Jvm.RoadKit.slotOf Z O n d) v → Go l Z n0 R own nm code mL ret I' F h' cells slots (pc + 3) Ls st) : Go l Z n0 R own nm code mL ret I F h cells slots pc Ls (v :: .ref a :: st) := by
  intro p e s m args below meth c T locs hx hZ ho hn hc hm hr' hk X N eT hJ
  obtain ⟨T', h', X', e', W', stp⟩ := Jvm.RoadKit.putF X hx hZ ho (host := "") (Or.inl w) via eT FF E (L.imp id fun z => ⟨z.1, z.2.1, hn.trans z.2.2⟩) wi hty hnw hf (g := mkF m pc Ls (v :: .ref a :: st)) rfl rfl (hb hc hd)
  obtain ⟨s₂, v, L, h1, r⟩ := hr h' W' p e s m args below meth c T' _ hx hZ ho hn hc hm hr' hk X' (Fr.snoc X' N q) e' (hI s h' (Keep.of_wr W') hJ)
  exact ⟨s₂, v, L, stp _ h1, r⟩
/-- a field of a narrow kind -/
theorem Go.putFN {R0 O n d C : String} {index kk : Nat} {ty : FieldType} {a : Addr} {v v' old : Value} (w : (Cond.fieldLink own index R0 n d).before a0 Z = true) (via : Via Z R0 O n d) (FF : Fld Z h a O n d old) (E : Exa Z h a C) (L : (Cond.lays C O n d).before a0 Z = true ∨ ((Cond.laysFinal C O n d).before a0 Z = true ∧ own = O ∧ nm = "<init>")) (wi : (Cond.instantiable C kk).before a0 Z = true)
    (hty : parseFieldDescriptor d = some ty) (hnw : narrow ty v = v') (hf : fits ty v' = true) (q : n0 ≤ a) (hd : decode code pc = .ok (.putfield index, 3)) (hI : ∀ (s : State) (h' : Heap), Keep h h' [a] → I s h → I' s h') (hr : ∀ h', Wr h h' a (Jvm.RoadKit.slotOf Z O n d) v' → Go l Z n0 R own nm code mL ret I' F h' cells slots (pc + 3) Ls st) : Go l Z n0 R own nm code mL ret I F h cells slots pc Ls (v :: .ref a :: st) := by
  intro p e s m args below meth c T locs hx hZ ho hn hc hm hr' hk X N eT hJ
  obtain ⟨T', h', X', e', W', stp⟩ := Jvm.RoadKit.putFN X hx hZ ho w via eT FF E (L.imp id fun z => ⟨z.1, z.2.1, hn.trans z.2.2⟩) wi hty hnw hf (g := mkF m pc Ls (v :: .ref a :: st)) rfl rfl (hb hc hd)
  obtain ⟨s₂, v, L, h1, r⟩ := hr h' W' p e s m args below meth c T' _ hx hZ ho hn hc hm hr' hk X' (Fr.snoc X' N q) e' (hI s h' (Keep.of_wr W') hJ)
  exact ⟨s₂, v, L, stp _ h1, r⟩
/-! making -/
theorem Go.new {C : String} {index n : Nat} (w : (Cond.classLink own index C).before a0 Z = true) (wi : (Cond.instantiable C n).before a0 Z = true) (wz : (Cond.initialized C).before a0 Z = true) (hd : decode code pc = .ok (.new index, 3)) (hc1 : cells + 1 ≤ R.cells) (hl : slots + n ≤ R.slots)
    (hI : ∀ (s : State) (h' : Heap), Ext h h' → h.size < h'.size → I s h → I' s h') (hr : ∀ (h' : Heap) (b : Addr), b = h.size → Ext h h' → Exa Z h' b C → (∀ {O nm d : String} {ty : FieldType}, Laid Z a0 C O nm d → parseFieldDescriptor d = some ty → Fld Z h' b O nm d (defaultValue ty)) → Go l Z n0 R own nm code mL ret I' F h' (cells + 1) (slots + n) (pc + 3) Ls (.ref b :: st)) : Go l Z n0 R own nm code mL ret I F h cells slots pc Ls st := by
  intro p e s m args below meth c T locs hx hZ ho hn hc hm hr' hk X N eT hJ
  obtain ⟨T', h', X', e', E', A', D', -, stp⟩ := newO X hx hZ ho w wi wz eT (g := mkF m pc Ls st) rfl (hb hc hd) hc1 hl
  obtain ⟨s₂, v, L, h1, r⟩ := hr h' _ rfl E' A' D' p e s m args below meth c T' _ hx hZ ho hn hc hm hr' hk X' N e' (hI s h' E' A'.lt hJ)
  exact ⟨s₂, v, L, stp _ h1, r⟩
theorem Go.newP {aty : ArrayType} (ty : FieldType) {n : Int32} (w : (Cond.arrayClass ty).before a0 Z = true) (hty : newarray.typeOf aty = ty) (hd : decode code pc = .ok (.newarray aty, 2)) (hn0 : ¬ n < 0) (cap : Nat) (hcap : n.toNatClampNeg ≤ cap) (hb0 : cap * 8 ≤ 536870912) (hc1 : cells + 1 ≤ R.cells) (hl : slots + cap ≤ R.slots)
    (hI : ∀ (s : State) (h' : Heap), Ext h h' → h.size < h'.size → I s h → I' s h') (hr : ∀ (h' : Heap) (b : Addr) (k : ClassId), b = h.size → Ext h h' → Arv Z h' b k ty n [] (defaultValue ty) → Go l Z n0 R own nm code mL ret I' F h' (cells + 1) (slots + cap) (pc + 2) Ls (.ref b :: st)) : Go l Z n0 R own nm code mL ret I F h cells slots pc Ls (.int n :: st) := by
  subst hty
  intro p e s m args below meth c T locs hx hZ ho hn hc hm hr' hk X N eT hJ
  obtain ⟨T', h', k, X', e', E', A', stp⟩ := Jvm.RoadKit.newP X hx hZ w eT (g := mkF m pc Ls (.int n :: st)) rfl (hb hc hd) rfl hn0 hcap hb0 hc1 hl
  obtain ⟨s₂, v, L, h1, r⟩ := hr h' _ k rfl E' (Arv.new A' hn0) p e s m args below meth c T' _ hx hZ ho hn hc hm hr' hk X' N e' (hI s h' E' A'.lt hJ)
  exact ⟨s₂, v, L, stp _ h1, r⟩
theorem Go.newR {C : String} {index : Nat} {n : Int32} (w : (Cond.classLink own index C).before a0 Z = true) (w2 : (Cond.arrayOver (.object C)).before a0 Z = true) (hd : decode code pc = .ok (.anewarray index, 3)) (hn0 : ¬ n < 0) (cap : Nat) (hcap : n.toNatClampNeg ≤ cap) (hb0 : cap * 8 ≤ 536870912) (hc1 : cells + 1 ≤ R.cells) (hl : slots + cap ≤ R.slots)
    (hI : ∀ (s : State) (h' : Heap), Ext h h' → h.size < h'.size → I s h → I' s h') (hr : ∀ (h' : Heap) (b : Addr) (k : ClassId), b = h.size → Ext h h' → Arv Z h' b k (.object C) n [] .null → Ovr Z k C → Go l Z n0 R own nm code mL ret I' F h' (cells + 1) (slots + cap) (pc + 3) Ls (.ref b :: st)) : Go l Z n0 R own nm code mL ret I F h cells slots pc Ls (.int n :: st) := by
  intro p e s m args below meth c T locs hx hZ ho hn hc hm hr' hk X N eT hJ
  obtain ⟨T', h', k, X', e', E', A', O', stp⟩ := Jvm.RoadKit.newR X hx hZ ho w w2 eT (g := mkF m pc Ls (.int n :: st)) rfl (hb hc hd) rfl hn0 hcap hb0 hc1 hl
  obtain ⟨s₂, v, L, h1, r⟩ := hr h' _ k rfl E' (Arv.new A' hn0) O' p e s m args below meth c T' _ hx hZ ho hn hc hm hr' hk X' N e' (hI s h' E' A'.lt hJ)
  exact ⟨s₂, v, L, stp _ h1, r⟩
theorem Go.newPE {aty : ArrayType} (ty : FieldType) (ad : String) {n : Int32} (w : (Cond.arrayClass ty).before a0 Z = true) (hty : newarray.typeOf aty = ty) (had : "[" ++ ty.toString = ad) (hd : decode code pc = .ok (.newarray aty, 2)) (hn0 : ¬ n < 0) (cap : Nat) (hcap : n.toNatClampNeg ≤ cap) (hb0 : cap * 8 ≤ 536870912) (hc1 : cells + 1 ≤ R.cells) (hl : slots + cap ≤ R.slots)
    (hI : ∀ (s : State) (h' : Heap), Ext h h' → h.size < h'.size → I s h → I' s h') (hr : ∀ (h' : Heap) (b : Addr) (k : ClassId), b = h.size → Ext h h' → Arv Z h' b k ty n [] (defaultValue ty) → Exa Z h' b ad → Go l Z n0 R own nm code mL ret I' F h' (cells + 1) (slots + cap) (pc + 2) Ls (.ref b :: st)) : Go l Z n0 R own nm code mL ret I F h cells slots pc Ls (.int n :: st) := by
  subst hty
  intro p e s m args below meth c T locs hx hZ ho hn hc hm hr' hk X N eT hJ
  obtain ⟨T', h', k, X', e', E', A', X2, stp⟩ := Jvm.RoadKit.newPE X hx hZ w eT (g := mkF m pc Ls (.int n :: st)) rfl (hb hc hd) rfl hn0 hcap hb0 hc1 hl had
  obtain ⟨s₂, v, L, h1, r⟩ := hr h' _ k rfl E' (Arv.new A' hn0) X2 p e s m args below meth c T' _ hx hZ ho hn hc hm hr' hk X' N e' (hI s h' E' A'.lt hJ)
  exact ⟨s₂, v, L, stp _ h1, r⟩
theorem Go.newRA {C : String} {ty : FieldType} {index : Nat} {n : Int32} (w : (Cond.classLink own index C).before a0 Z = true) (w2 : (Cond.arrayOver (.array ty)).before a0 Z = true) (hC : (FieldType.array ty).toString = C) (hd : decode code pc = .ok (.anewarray index, 3)) (hn0 : ¬ n < 0) (cap : Nat) (hcap : n.toNatClampNeg ≤ cap) (hb0 : cap * 8 ≤ 536870912) (hc1 : cells + 1 ≤ R.cells) (hl : slots + cap ≤ R.slots)
    (hI : ∀ (s : State) (h' : Heap), Ext h h' → h.size < h'.size → I s h → I' s h') (hr : ∀ (h' : Heap) (b : Addr) (k : ClassId), b = h.size → Ext h h' → Arv Z h' b k (.array ty) n [] .null → OvrA Z k ty C → Go l Z n0 R own nm code mL ret I' F h' (cells + 1) (slots + cap) (pc + 3) Ls (.ref b :: st)) : Go l Z n0 R own nm code mL ret I F h cells slots pc Ls (.int n :: st) := by
  intro p e s m args below meth c T locs hx hZ ho hn hc hm hr' hk X N eT hJ
  obtain ⟨T', h', k, X', e', E', A', -, O', stp⟩ := Jvm.RoadKit.newRA X hx hZ ho hC w w2 eT (g := mkF m pc Ls (.int n :: st)) rfl (hb hc hd) rfl hn0 hcap hb0 hc1 hl rfl
  obtain ⟨s₂, v, L, h1, r⟩ := hr h' _ k rfl E' (Arv.new A' hn0) O' p e s m args below meth c T' _ hx hZ ho hn hc hm hr' hk X' N e' (hI s h' E' A'.lt hJ)
  exact ⟨s₂, v, L, stp _ h1, r⟩
theorem Go.initO {idx : Nat} {a : Addr} (w1 : (Cond.methodLink own idx Lib.objectInit).before a0 Z = true) (w2 : (Cond.instanceMethod Lib.objectInit).before a0 Z = true) (w3 : (Cond.code Lib.objectInit ⟨#[0xb1]⟩ 1 none).before a0 Z = true) (hd : decode code pc = .ok (.invokespecial idx, 3)) (hsz : Ls.size = mL) (hf : 1 ≤ R.frames) (hl : (st.map fun v => v.category).sum + 12 ≤ R.locals)
    (hr : Go l Z n0 R own nm code mL ret I F h cells slots (pc + 3) Ls st) : Go l Z n0 R own nm code mL ret I F h cells slots pc Ls (.ref a :: st) :=
  Go.warm (fun {p e s m args below meth c T locs} hx hZ ho hc hm X eT => Jvm.RoadKit.initO X hx hZ ho w1 w2 w3 eT (g := mkF m pc Ls (.ref a :: st)) rfl (hsz.trans hm.symm) rfl (hb hc hd) hf (W := (st.map fun v => v.category).sum) (by show 2 * 0 + _ ≤ _; omega) hl) hr
/-! arrays -/
theorem Arv.read {Z : State} {h : Heap} {a : Addr} {k : ClassId} {ty : FieldType} {z j : Int32} {vs : List Value} {dv v : Value} (V : Arv Z h a k ty z vs dv) (q : ¬ j < 0 ∧ j < z) (u : vs.getD j.toNatClampNeg dv = v) : ∃ c : Cell, Arr Z h a c ty ∧ ¬ (j < 0 ∨ c.slots.size ≤ j.toNatClampNeg) ∧ c.slots[j.toNatClampNeg]? = some v := by
  obtain ⟨c, A, q1, S, q3, H, G⟩ := V
  have hin := inb_of S q
  exact ⟨c, A, hin, H.at hin u⟩
theorem Arv.write {Z : State} {h h' : Heap} {a : Addr} {k : ClassId} {ty : FieldType} {z j : Int32} {vs : List Value} {dv v : Value} (V : Arv Z h a k ty z vs dv) (hv : fits ty v = true) (W : Wr h h' a j.toNatClampNeg v) (i : Nat) (hj : j.toNatClampNeg = i) (hi : i < vs.length) : Arv Z h' a k ty z (vs.set i v) dv := by
  obtain ⟨c, A, q1, S, q3, H, G⟩ := V
  exact Arv.set A q1 S q3 H G hv W i hj hi
theorem Go.arraylength {a : Addr} {k : ClassId} {ty : FieldType} {z : Int32} {vs : List Value} {dv : Value} (V : Arv Z h a k ty z vs dv) (hd : decode code pc = .ok (.arraylength, 1)) (hr : Go l Z n0 R own nm code mL ret I F h cells slots (pc + 1) Ls (.int z :: st)) : Go l Z n0 R own nm code mL ret I F h cells slots pc Ls (.ref a :: st) := by
  obtain ⟨c, A, q1, S, q3, H, G⟩ := V
  exact Go.pure (fun hx hZ ho hc X eT k => X.arraylength hx (by rw [eT]; exact A.1) (State.isArrayOf_alike hZ.alike A.2.1) (g := mkF _ pc Ls _) rfl rfl (hb hc hd) _ (by rw [len_of S q3]; exact k)) hr
theorem Go.caload {a : Addr} {k : ClassId} {z j : Int32} {vs : List Value} {dv : Value} (v : Value) (V : Arv Z h a k .char z vs dv) (q : ¬ j < 0 ∧ j < z) (u : vs.getD j.toNatClampNeg dv = v) (hd : decode code pc = .ok (.caload, 1)) (hr : Go l Z n0 R own nm code mL ret I F h cells slots (pc + 1) Ls (v :: st)) : Go l Z n0 R own nm code mL ret I F h cells slots pc Ls (.int j :: .ref a :: st) := by
  obtain ⟨c, A, hin, hat⟩ := Arv.read V q u
  exact Go.pure (fun hx hZ ho hc X eT k => X.caload hx (by rw [eT]; exact A.1) (State.isArrayOf_alike hZ.alike A.2.1) A.2.2 hin hat (g := mkF _ pc Ls _) rfl rfl (hb hc hd) _ k) hr
theorem Go.iaload {a : Addr} {k : ClassId} {z j : Int32} {vs : List Value} {dv : Value} (v : Value) (V : Arv Z h a k .int z vs dv) (q : ¬ j < 0 ∧ j < z) (u : vs.getD j.toNatClampNeg dv = v) (hd : decode code pc = .ok (.iaload, 1)) (hr : Go l Z n0 R own nm code mL ret I F h cells slots (pc + 1) Ls (v :: st)) : Go l Z n0 R own nm code mL ret I F h cells slots pc Ls (.int j :: .ref a :: st) := by
  obtain ⟨c, A, hin, hat⟩ := Arv.read V q u
  exact Go.pure (fun hx hZ ho hc X eT k => X.iaload hx (by rw [eT]; exact A.1) (State.isArrayOf_alike hZ.alike A.2.1) A.2.2 hin hat (g := mkF _ pc Ls _) rfl rfl (hb hc hd) _ k) hr
theorem Go.baload {a : Addr} {k : ClassId} {z j : Int32} {vs : List Value} {dv : Value} (v : Value) (V : Arv Z h a k .byte z vs dv) (q : ¬ j < 0 ∧ j < z) (u : vs.getD j.toNatClampNeg dv = v) (hd : decode code pc = .ok (.baload, 1)) (hr : Go l Z n0 R own nm code mL ret I F h cells slots (pc + 1) Ls (v :: st)) : Go l Z n0 R own nm code mL ret I F h cells slots pc Ls (.int j :: .ref a :: st) := by
  obtain ⟨c, A, hin, hat⟩ := Arv.read V q u
  exact Go.pure (fun hx hZ ho hc X eT k => X.baloadBytes hx (by rw [eT]; exact A.1) (State.isArrayOf_alike hZ.alike A.2.1) A.2.2 hin hat (g := mkF _ pc Ls _) rfl rfl (hb hc hd) _ k) hr
theorem Go.aaload {a : Addr} {k : ClassId} {ty : FieldType} {z j : Int32} {vs : List Value} {dv : Value} (v : Value) (V : Arv Z h a k ty z vs dv) (hty : ty.isReference = true) (q : ¬ j < 0 ∧ j < z) (u : vs.getD j.toNatClampNeg dv = v) (hd : decode code pc = .ok (.aaload, 1)) (hr : Go l Z n0 R own nm code mL ret I F h cells slots (pc + 1) Ls (v :: st)) : Go l Z n0 R own nm code mL ret I F h cells slots pc Ls (.int j :: .ref a :: st) := by
  obtain ⟨c, A, hin, hat⟩ := Arv.read V q u
  exact Go.pure (fun hx hZ ho hc X eT k => X.aaload hx (by rw [eT]; exact A.1) (State.isArrayOf_alike hZ.alike A.2.1) hty A.2.2 hin hat (g := mkF _ pc Ls _) rfl rfl (hb hc hd) _ k) hr
theorem Go.aaloadC {a : Addr} {c0 : Cell} {ty : FieldType} {j : Int32} (v : Value) (A : Arr Z h a c0 ty) (hty : ty.isReference = true) (hin : ¬ (j < 0 ∨ c0.slots.size ≤ j.toNatClampNeg)) (hat : c0.slots[j.toNatClampNeg]? = some v) (hd : decode code pc = .ok (.aaload, 1)) (hr : Go l Z n0 R own nm code mL ret I F h cells slots (pc + 1) Ls (v :: st)) : Go l Z n0 R own nm code mL ret I F h cells slots pc Ls (.int j :: .ref a :: st) :=
  Go.pure (fun hx hZ ho hc X eT k => X.aaload hx (by rw [eT]; exact A.1) (State.isArrayOf_alike hZ.alike A.2.1) hty A.2.2 hin hat (g := mkF _ pc Ls _) rfl rfl (hb hc hd) _ k) hr
theorem Go.castore {a : Addr} {k : ClassId} {z j x : Int32} {vs : List Value} {dv : Value} (V : Arv Z h a k .char z vs dv) (q : ¬ j < 0 ∧ j < z) (g : n0 ≤ a) (i : Nat) (hj : j.toNatClampNeg = i) (hi : i < vs.length) (hd : decode code pc = .ok (.castore, 1)) (hI : ∀ (s : State) (h' : Heap), Keep h h' [a] → I s h → I' s h') (hr : ∀ h', Keep h h' [a] → Arv Z h' a k .char z (vs.set i (.int (nar .char x))) dv → Go l Z n0 R own nm code mL ret I' F h' cells slots (pc + 1) Ls st) : Go l Z n0 R own nm code mL ret I F h cells slots pc Ls (.int x :: .int j :: .ref a :: st) := by
  have V0 := V
  obtain ⟨c0, A, q1, S, q3, H, G⟩ := V0
  intro p e s m args below meth c T locs hx hZ ho hn hc hm hr' hk X N eT hJ
  obtain ⟨T', h', X', e', W', stp⟩ := stC X hx hZ eT A (inb_of S q) (g := mkF m pc Ls (.int x :: .int j :: .ref a :: st)) rfl rfl (hb hc hd)
  obtain ⟨s₂, v, L, h1, r⟩ := hr h' (Keep.of_wr W') (Arv.write V (fits_nar_char _) W' i hj hi) p e s m args below meth c T' _ hx hZ ho hn hc hm hr' hk X' (Fr.snoc X' N g) e' (hI s h' (Keep.of_wr W') hJ)
  exact ⟨s₂, v, L, stp _ h1, r⟩
theorem Go.bastore {a : Addr} {k : ClassId} {z j x : Int32} {vs : List Value} {dv : Value} (V : Arv Z h a k .byte z vs dv) (q : ¬ j < 0 ∧ j < z) (g : n0 ≤ a) (i : Nat) (hj : j.toNatClampNeg = i) (hi : i < vs.length) (hd : decode code pc = .ok (.bastore, 1)) (hI : ∀ (s : State) (h' : Heap), Keep h h' [a] → I s h → I' s h') (hr : ∀ h', Keep h h' [a] → Arv Z h' a k .byte z (vs.set i (.int (nar .byte x))) dv → Go l Z n0 R own nm code mL ret I' F h' cells slots (pc + 1) Ls st) : Go l Z n0 R own nm code mL ret I F h cells slots pc Ls (.int x :: .int j :: .ref a :: st) := by
  have V0 := V
  obtain ⟨c0, A, q1, S, q3, H, G⟩ := V0
  intro p e s m args below meth c T locs hx hZ ho hn hc hm hr' hk X N eT hJ
  obtain ⟨T', h', X', e', W', stp⟩ := stB X hx hZ eT A (inb_of S q) (g := mkF m pc Ls (.int x :: .int j :: .ref a :: st)) rfl rfl (hb hc hd)
  obtain ⟨s₂, v, L, h1, r⟩ := hr h' (Keep.of_wr W') (Arv.write V (fits_nar_byte _) W' i hj hi) p e s m args below meth c T' _ hx hZ ho hn hc hm hr' hk X' (Fr.snoc X' N g) e' (hI s h' (Keep.of_wr W') hJ)
  exact ⟨s₂, v, L, stp _ h1, r⟩
theorem Go.iastore {a : Addr} {k : ClassId} {z j x : Int32} {vs : List Value} {dv : Value} (V : Arv Z h a k .int z vs dv) (q : ¬ j < 0 ∧ j < z) (g : n0 ≤ a) (i : Nat) (hj : j.toNatClampNeg = i) (hi : i < vs.length) (hd : decode code pc = .ok (.iastore, 1)) (hI : ∀ (s : State) (h' : Heap), Keep h h' [a] → I s h → I' s h') (hr : ∀ h', Keep h h' [a] → Arv Z h' a k .int z (vs.set i (.int x)) dv → Go l Z n0 R own nm code mL ret I' F h' cells slots (pc + 1) Ls st) : Go l Z n0 R own nm code mL ret I F h cells slots pc Ls (.int x :: .int j :: .ref a :: st) := by
  have V0 := V
  obtain ⟨c0, A, q1, S, q3, H, G⟩ := V0
  intro p e s m args below meth c T locs hx hZ ho hn hc hm hr' hk X N eT hJ
  obtain ⟨T', h', X', e', W', stp⟩ := stI X hx hZ eT A (inb_of S q) (g := mkF m pc Ls (.int x :: .int j :: .ref a :: st)) rfl rfl (hb hc hd)
  obtain ⟨s₂, v, L, h1, r⟩ := hr h' (Keep.of_wr W') (Arv.write V rfl W' i hj hi) p e s m args below meth c T' _ hx hZ ho hn hc hm hr' hk X' (Fr.snoc X' N g) e' (hI s h' (Keep.of_wr W') hJ)
  exact ⟨s₂, v, L, stp _ h1, r⟩
theorem Go.aastore {a : Addr} {k : ClassId} {ty : FieldType} {z j : Int32} {x : Value} {vs : List Value} {dv : Value} (V : Arv Z h a k ty z vs dv) (hty : ty.isReference = true) (hx' : fits ty x = true) (FF : ∀ c : Cell, Arr Z h a c ty → c.cls = k → Sto Z h a x) (q : ¬ j < 0 ∧ j < z) (g : n0 ≤ a) (i : Nat) (hj : j.toNatClampNeg = i) (hi : i < vs.length) (hd : decode code pc = .ok (.aastore, 1)) (hI : ∀ (s : State) (h' : Heap), Keep h h' [a] → I s h → I' s h') (hr : ∀ h', Keep h h' [a] → Arv Z h' a k ty z (vs.set i x) dv → Go l Z n0 R own nm code mL ret I' F h' cells slots (pc + 1) Ls st) : Go l Z n0 R own nm code mL ret I F h cells slots pc Ls (x :: .int j :: .ref a :: st) := by
  have V0 := V
  obtain ⟨c0, A, q1, S, q3, H, G⟩ := V0
  intro p e s m args below meth c T locs hx hZ ho hn hc hm hr' hk X N eT hJ
  obtain ⟨T', h', X', e', W', stp⟩ := stR X hx hZ eT A (inb_of S q) hty (FF c0 A q1) (g := mkF m pc Ls (x :: .int j :: .ref a :: st)) rfl rfl (hb hc hd)
  obtain ⟨s₂, v, L, h1, r⟩ := hr h' (Keep.of_wr W') (Arv.write V hx' W' i hj hi) p e s m args below meth c T' _ hx hZ ho hn hc hm hr' hk X' (Fr.snoc X' N g) e' (hI s h' (Keep.of_wr W') hJ)
  exact ⟨s₂, v, L, stp _ h1, r⟩
/-! casts -/
theorem Go.castY {K : String} {index : Nat} {a : Addr} (w : (Cond.classLink own index K).before a0 Z = true) (FF : Ins Z h a K true) (hd : decode code pc = .ok (.checkcast index, 3)) (hr : Go l Z n0 R own nm code mL ret I F h cells slots (pc + 3) Ls (.ref a :: st)) : Go l Z n0 R own nm code mL ret I F h cells slots pc Ls (.ref a :: st) :=
  Go.warm (fun hx hZ ho hc _ X eT => Jvm.RoadKit.castY X hx hZ ho w eT FF (g := mkF _ pc Ls (.ref a :: st)) rfl rfl (hb hc hd)) hr
theorem Go.castNull {index : Nat} (hd : decode code pc = .ok (.checkcast index, 3)) (hr : Go l Z n0 R own nm code mL ret I F h cells slots (pc + 3) Ls (.null :: st)) : Go l Z n0 R own nm code mL ret I F h cells slots pc Ls (.null :: st) :=
  Go.pure (fun hx _ _ hc X _ k => X.checkcastNull hx (g := mkF _ pc Ls (.null :: st)) rfl rfl (hb hc hd) _ k) hr
theorem Go.castV {K : String} {index : Nat} {v : Value} (w : (Cond.classLink own index K).before a0 Z = true) (FF : v = .null ∨ ∃ a, v = .ref a ∧ Ins Z h a K true) (hd : decode code pc = .ok (.checkcast index, 3)) (hr : Go l Z n0 R own nm code mL ret I F h cells slots (pc + 3) Ls (v :: st)) : Go l Z n0 R own nm code mL ret I F h cells slots pc Ls (v :: st) := by
  rcases FF with rfl | ⟨a, rfl, I0⟩
  · exact Go.castNull hd hr
  · exact Go.castY w I0 hd hr
theorem Go.instY {K : String} {index : Nat} {a : Addr} (w : (Cond.classLink own index K).before a0 Z = true) (FF : Ins Z h a K true) (hd : decode code pc = .ok (.instanceof index, 3)) (hr : Go l Z n0 R own nm code mL ret I F h cells slots (pc + 3) Ls (.int 1 :: st)) : Go l Z n0 R own nm code mL ret I F h cells slots pc Ls (.ref a :: st) :=
  Go.warm (fun hx hZ ho hc _ X eT => Jvm.RoadKit.instY X hx hZ ho w eT FF (g := mkF _ pc Ls (.ref a :: st)) rfl rfl (hb hc hd)) hr
/-! returns -/
theorem Go.return_ (hd : decode code pc = .ok (.return_, 1)) (hret : ret = none) (hc1 : cells ≤ R.cells) (hs1 : slots ≤ R.slots) (hQ : Q none h) : Go l Z n0 R own nm code mL ret I (FN n0 R Q) h cells slots pc Ls [] := by
  intro p e s m args below meth c T locs hx hZ ho hn hc hm hr' hk X N eT hJ
  obtain ⟨fs, hr, hrun, hended, hW, hsame⟩ := X.leave (v := none) (fun _ => rfl) hk
  exact ⟨_, none, locs, X.returnOut hx (hr'.trans hret) (hb hc hd) hr, hrun, hended, N, (by show Q _ T.heap; rw [eT]; exact hQ), ⟨_, rfl⟩, hW, hsame.mono hc1 hs1⟩
theorem Go.areturn {v : Value} {t : FieldType} (hd : decode code pc = .ok (.areturn, 1)) (hret : ret = some t) (ht : t.isReference = true) (hv : v.isRef = true) (hc1 : cells ≤ R.cells) (hs1 : slots ≤ R.slots) (hQ : Q (some v) h) : Go l Z n0 R own nm code mL ret I (FN n0 R Q) h cells slots pc Ls (v :: st) := by
  intro p e s m args below meth c T locs hx hZ ho hn hc hm hr' hk X N eT hJ
  obtain ⟨fs, hr, hrun, hended, hW, hsame⟩ := X.leave (v := some v) (fun h => by rw [hr', hret] at h; cases h) hk
  have hnw : narrow t v = v := by cases t <;> first | rfl | (cases ht; done)
  exact ⟨_, some v, locs, retOut X hx (hr'.trans hret) hnw (Or.inr (Or.inr (Or.inr (Or.inr ⟨rfl, ht, hv⟩)))) (hb hc hd) hr, hrun, hended, N, (by show Q _ T.heap; rw [eT]; exact hQ), ⟨_, rfl⟩, hW, hsame.mono hc1 hs1⟩
theorem Go.ireturn {z : Int32} (hd : decode code pc = .ok (.ireturn, 1)) (hret : ret = some .int) (hc1 : cells ≤ R.cells) (hs1 : slots ≤ R.slots) (hQ : Q (some (.int z)) h) : Go l Z n0 R own nm code mL ret I (FN n0 R Q) h cells slots pc Ls (.int z :: st) := by
  intro p e s m args below meth c T locs hx hZ ho hn hc hm hr' hk X N eT hJ
  obtain ⟨fs, hr, hrun, hended, hW, hsame⟩ := X.leave (v := some (.int z)) (fun h => by rw [hr', hret] at h; cases h) hk
  exact ⟨_, some (.int z), locs, retOut X hx (hr'.trans hret) rfl (Or.inl ⟨rfl, Or.inl rfl, z, rfl⟩) (hb hc hd) hr, hrun, hended, N, (by show Q _ T.heap; rw [eT]; exact hQ), ⟨_, rfl⟩, hW, hsame.mono hc1 hs1⟩
/-- a boolean, byte, char or short -/
theorem Go.nreturn {z : Int32} (t : FieldType) (hd : decode code pc = .ok (.ireturn, 1)) (hret : ret = some t) (ht : t = .boolean ∨ t = .byte ∨ t = .char ∨ t = .short) (hc1 : cells ≤ R.cells) (hs1 : slots ≤ R.slots) (hQ : Q (some (.int (nar t z))) h) : Go l Z n0 R own nm code mL ret I (FN n0 R Q) h cells slots pc Ls (.int z :: st) := by
  intro p e s m args below meth c T locs hx hZ ho hn hc hm hr' hk X N eT hJ
  obtain ⟨fs, hr, hrun, hended, hW, hsame⟩ := X.leave (v := some (.int (nar t z))) (fun h => by rw [hr', hret] at h; cases h) hk
  exact ⟨_, some (.int (nar t z)), locs, retN X hx (hr'.trans hret) ht (hb hc hd) hr, hrun, hended, N, (by show Q _ T.heap; rw [eT]; exact hQ), ⟨_, rfl⟩, hW, hsame.mono hc1 hs1⟩
/-! calls, each by the callee's contract -/
theorem Go.callS {o' n' d' : String} {bytes : ByteArray} {mL' index : Nat} {rt : Option FieldType} {rm : Room} (as' rest : List Value) {Q' : Option Value → Heap → Prop} {ps : List FieldType} {r : Option FieldType}
    (hC : Ct l Z n0 o' n' d' [] bytes mL' rt rm as'.toArray h Q') (w1 : (Cond.methodLink own index (⟨o', n', d'⟩ : MethodName)).before a0 Z = true) (w2 : (Cond.static (⟨o', n', d'⟩ : MethodName)).before a0 Z = true) (w3 : (Cond.initialized o').before a0 Z = true) (w4 : (Cond.code (⟨o', n', d'⟩ : MethodName) bytes mL' rt).before a0 Z = true)
    (hy : o' ≠ "java/lang/invoke/MethodHandle" ∧ o' ≠ "java/lang/invoke/VarHandle") (hpd : parseMethodDescriptor d' = some ⟨ps, r⟩) (hlen : as'.length = ps.length) (hst : st = as'.reverse ++ rest) (hsz : Ls.size = mL) (hf : rm.frames + 1 ≤ R.frames) (hlo : (rest.map fun v => v.category).sum + (mL' + 11) + rm.locals ≤ R.locals) (hc1 : cells + rm.cells ≤ R.cells) (hs1 : slots + rm.slots ≤ R.slots)
    (hd : decode code pc = .ok (.invokestatic index, 3)) (hI : ∀ (v : Option Value) (s : State) (h' : Heap), Q' v h' → I s h → I' s h') (hr : ∀ v h', Q' v h' → Go l Z n0 R own nm code mL ret I' F h' (cells + rm.cells) (slots + rm.slots) (pc + 3) Ls (v.toList ++ rest)) : Go l Z n0 R own nm code mL ret I F h cells slots pc Ls st := by
  intro p e s m args below meth c T locs hx hZ ho hn hc hm hr' hk X N eT hJ
  obtain ⟨v, _, ⟨T', L', k', n''⟩, -, X', ⟨Lc, ⟨N', hQ'⟩, l1, l2, l3⟩, stp⟩ := Jvm.LawKit.callS X hx (y := (⟨o', n', d'⟩ : MethodName)) ho (mvT hZ w1) (mvT hZ w2) (mvT hZ w3) (mvT hZ w4) hy (backOf (Q := fun v h L => Fr n0 L ∧ Q' v h) (W := (rest.map fun v => v.category).sum) hC hZ w4 w3 hf hlo) (g := mkF m pc Ls st) rfl (hsz.trans hm.symm) (argsL := as') (rest := rest) (lenOf hpd hlen) hst (by show 2 * 0 + _ ≤ _; omega) (hb hc hd) (fun _ _ => ⟨rfl, eT, hc1, hs1⟩)
  dsimp only [Pt.U, Pt.locs, Pt.cells, Pt.slots] at X' l1 l2 l3 stp hQ'
  subst l1 l2 l3
  obtain ⟨s₂, v2, L, h1, r⟩ := hr v T'.heap hQ' p e s m args below meth c T' _ hx hZ ho hn hc hm hr' hk X' (Fr.app N N') rfl (hI v s T'.heap hQ' hJ)
  exact ⟨s₂, v2, L, stp _ h1, r⟩
/-- a constructor -/
theorem Go.callI {o' d' : String} {bytes : ByteArray} {mL' index : Nat} {rm : Room} (a : Addr) (as' rest : List Value) {Q' : Option Value → Heap → Prop} {ps : List FieldType} {r : Option FieldType}
    (hC : Ct l Z n0 o' "<init>" d' [] bytes mL' none rm (.ref a :: as').toArray h Q') (w1 : (Cond.methodLink own index (⟨o', "<init>", d'⟩ : MethodName)).before a0 Z = true) (w2 : (Cond.instanceMethod (⟨o', "<init>", d'⟩ : MethodName)).before a0 Z = true) (w3 : (Cond.initialized o').before a0 Z = true) (w4 : (Cond.code (⟨o', "<init>", d'⟩ : MethodName) bytes mL' none).before a0 Z = true)
    (hy : o' ≠ "java/lang/invoke/MethodHandle" ∧ o' ≠ "java/lang/invoke/VarHandle") (hpd : parseMethodDescriptor d' = some ⟨ps, r⟩) (hlen : as'.length = ps.length) (hst : st = as'.reverse ++ .ref a :: rest) (hsz : Ls.size = mL) (hf : rm.frames + 1 ≤ R.frames) (hlo : (rest.map fun v => v.category).sum + (mL' + 11) + rm.locals ≤ R.locals) (hc1 : cells + rm.cells ≤ R.cells) (hs1 : slots + rm.slots ≤ R.slots)
    (hd : decode code pc = .ok (.invokespecial index, 3)) (hI : ∀ (v : Option Value) (s : State) (h' : Heap), Q' v h' → I s h → I' s h') (hr : ∀ v h', Q' v h' → Go l Z n0 R own nm code mL ret I' F h' (cells + rm.cells) (slots + rm.slots) (pc + 3) Ls (v.toList ++ rest)) : Go l Z n0 R own nm code mL ret I F h cells slots pc Ls st := by
  intro p e s m args below meth c T locs hx hZ ho hn hc hm hr' hk X N eT hJ
  obtain ⟨v, _, ⟨T', L', k', n''⟩, -, X', ⟨Lc, ⟨N', hQ'⟩, l1, l2, l3⟩, stp⟩ := X.specialBack hx (y := (⟨o', "<init>", d'⟩ : MethodName)) rfl ho (mvT hZ w1) (mvT hZ w2) (mvT hZ w4) hy (backOf (Q := fun v h L => Fr n0 L ∧ Q' v h) (W := (rest.map fun v => v.category).sum) hC hZ w4 w3 hf hlo) (g := mkF m pc Ls st) rfl (hsz.trans hm.symm) (Steps.refl _) (a := a) (argsL := as') (rest := rest) (lenOf hpd hlen) hst (by show 2 * 0 + _ ≤ _; omega) (hb hc hd) (fun _ _ => ⟨rfl, eT, hc1, hs1⟩)
  dsimp only [Pt.U, Pt.locs, Pt.cells, Pt.slots] at X' l1 l2 l3 stp hQ'
  subst l1 l2 l3
  obtain ⟨s₂, v2, L, h1, r⟩ := hr v T'.heap hQ' p e s m args below meth c T' _ hx hZ ho hn hc hm hr' hk X' (Fr.app N N') rfl (hI v s T'.heap hQ' hJ)
  exact ⟨s₂, v2, L, stp.trans h1, r⟩
/-- an instance method that the class which the link names declares -/
theorem Go.callV {o' n' d' C oz : String} {bytes : ByteArray} {mL' index : Nat} {rt : Option FieldType} {rm : Room} (a : Addr) (as' rest : List Value) {Q' : Option Value → Heap → Prop} {ps : List FieldType} {r : Option FieldType}
    (hC : Ct l Z n0 oz n' d' [] bytes mL' rt rm (.ref a :: as').toArray h Q') (E : Exa Z h a C) (w1 : (Cond.methodLink own index (⟨o', n', d'⟩ : MethodName)).before a0 Z = true) (w2 : (Cond.declares (⟨o', n', d'⟩ : MethodName)).before a0 Z = true) (nf : ∀ s : State, Z.Warmed39 s.vm → NotFace s (⟨o', n', d'⟩ : MethodName)) (w3 : (Cond.selects C (⟨o', n', d'⟩ : MethodName) (⟨oz, n', d'⟩ : MethodName)).before a0 Z = true) (w4 : (Cond.instanceMethod (⟨oz, n', d'⟩ : MethodName)).before a0 Z = true) (w5 : (Cond.initialized oz).before a0 Z = true) (w6 : (Cond.code (⟨oz, n', d'⟩ : MethodName) bytes mL' rt).before a0 Z = true)
    (hy : o' ≠ "java/lang/invoke/MethodHandle" ∧ o' ≠ "java/lang/invoke/VarHandle") (hpd : parseMethodDescriptor d' = some ⟨ps, r⟩) (hlen : as'.length = ps.length) (hst : st = as'.reverse ++ .ref a :: rest) (hsz : Ls.size = mL) (hf : rm.frames + 1 ≤ R.frames) (hlo : (rest.map fun v => v.category).sum + (mL' + 11) + rm.locals ≤ R.locals) (hc1 : cells + rm.cells ≤ R.cells) (hs1 : slots + rm.slots ≤ R.slots)
    (hd : decode code pc = .ok (.invokevirtual index, 3)) (hI : ∀ (v : Option Value) (s : State) (h' : Heap), Q' v h' → I s h → I' s h') (hr : ∀ v h', Q' v h' → Go l Z n0 R own nm code mL ret I' F h' (cells + rm.cells) (slots + rm.slots) (pc + 3) Ls (v.toList ++ rest)) : Go l Z n0 R own nm code mL ret I F h cells slots pc Ls st := by
  intro p e s m args below meth c T locs hx hZ ho hn hc hm hr' hk X N eT hJ
  obtain ⟨cq, kq, qa, qb, qc⟩ := isOf hZ eT E
  obtain ⟨v, _, ⟨T', L', k', n''⟩, -, X', ⟨Lc, ⟨N', hQ'⟩, l1, l2, l3⟩, stp⟩ := X.virtualBack hx (y := (⟨o', n', d'⟩ : MethodName)) (z := (⟨oz, n', d'⟩ : MethodName)) ho (mvT hZ w1) (mvT hZ w2) (nf s hZ) (mvT hZ w3) (mvT hZ w4) hy (backOf (Q := fun v h L => Fr n0 L ∧ Q' v h) (W := (rest.map fun v => v.category).sum) hC hZ w6 w5 hf hlo) qa qc (g := mkF m pc Ls st) rfl (hsz.trans hm.symm) (Steps.refl _) (argsL := as') (rest := rest) (lenOf hpd hlen) hst (by show 2 * 0 + _ ≤ _; omega) (hb hc hd) (fun _ _ => ⟨rfl, eT, hc1, hs1⟩)
  dsimp only [Pt.U, Pt.locs, Pt.cells, Pt.slots] at X' l1 l2 l3 stp hQ'
  subst l1 l2 l3
  obtain ⟨s₂, v2, L, h1, r⟩ := hr v T'.heap hQ' p e s m args below meth c T' _ hx hZ ho hn hc hm hr' hk X' (Fr.app N N') rfl (hI v s T'.heap hQ' hJ)
  exact ⟨s₂, v2, L, stp.trans h1, r⟩
theorem nf_sel {C o' n' d' : String} (w3 : (Cond.selects C (⟨o', n', d'⟩ : MethodName) (⟨o', n', d'⟩ : MethodName)).before a0 Z = true) : ∀ s : State, Z.Warmed39 s.vm → NotFace s (⟨o', n', d'⟩ : MethodName) := fun s hZ => notFace_of_selects (args := #[]) (mvT hZ w3)
theorem nf_sup {o' n' d' S : String} (w : (Cond.superclass o' S).before a0 Z = true) : ∀ s : State, Z.Warmed39 s.vm → NotFace s (⟨o', n', d'⟩ : MethodName) := fun s hZ => nf_super (args := #[]) (mvT hZ w)
/-- an instance method that a superclass of the class which the link names declares -/
theorem Go.callU {o' ow n' d' C oz : String} {bytes : ByteArray} {mL' index : Nat} {rt : Option FieldType} {rm : Room} (a : Addr) (as' rest : List Value) {Q' : Option Value → Heap → Prop} {ps : List FieldType} {r : Option FieldType}
    (hC : Ct l Z n0 oz n' d' [] bytes mL' rt rm (.ref a :: as').toArray h Q') (E : Exa Z h a C) (w1 : (Cond.methodLink own index (⟨o', n', d'⟩ : MethodName)).before a0 Z = true) (w2 : (Cond.sameMethod o' ow n' d').before a0 Z = true) (w2' : (Cond.declares (⟨ow, n', d'⟩ : MethodName)).before a0 Z = true) (w3 : (Cond.selects C (⟨o', n', d'⟩ : MethodName) (⟨oz, n', d'⟩ : MethodName)).before a0 Z = true) (w4 : (Cond.instanceMethod (⟨oz, n', d'⟩ : MethodName)).before a0 Z = true) (w5 : (Cond.initialized oz).before a0 Z = true) (w6 : (Cond.code (⟨oz, n', d'⟩ : MethodName) bytes mL' rt).before a0 Z = true)
    (hy : ow ≠ "java/lang/invoke/MethodHandle" ∧ ow ≠ "java/lang/invoke/VarHandle") (hpd : parseMethodDescriptor d' = some ⟨ps, r⟩) (hlen : as'.length = ps.length) (hst : st = as'.reverse ++ .ref a :: rest) (hsz : Ls.size = mL) (hf : rm.frames + 1 ≤ R.frames) (hlo : (rest.map fun v => v.category).sum + (mL' + 11) + rm.locals ≤ R.locals) (hc1 : cells + rm.cells ≤ R.cells) (hs1 : slots + rm.slots ≤ R.slots)
    (hd : decode code pc = .ok (.invokevirtual index, 3)) (hI : ∀ (v : Option Value) (s : State) (h' : Heap), Q' v h' → I s h → I' s h') (hr : ∀ v h', Q' v h' → Go l Z n0 R own nm code mL ret I' F h' (cells + rm.cells) (slots + rm.slots) (pc + 3) Ls (v.toList ++ rest)) : Go l Z n0 R own nm code mL ret I F h cells slots pc Ls st := by
  intro p e s m args below meth c T locs hx hZ ho hn hc hm hr' hk X N eT hJ
  obtain ⟨cq, kq, qa, qb, qc⟩ := isOf hZ eT E
  obtain ⟨v, _, ⟨T', L', k', n''⟩, -, X', ⟨Lc, ⟨N', hQ'⟩, l1, l2, l3⟩, stp⟩ := X.virtualBackUp hx (x := (⟨o', n', d'⟩ : MethodName)) (y := (⟨oz, n', d'⟩ : MethodName)) ho (mvT hZ w1) (mvT hZ w2) (mvT hZ w2') hy (mvT hZ w3) (mvT hZ w4) (backOf (Q := fun v h L => Fr n0 L ∧ Q' v h) (W := (rest.map fun v => v.category).sum) hC hZ w6 w5 hf hlo) qa qc (g := mkF m pc Ls st) rfl (hsz.trans hm.symm) (Steps.refl _) (argsL := as') (rest := rest) (lenOf hpd hlen) hst (by show 2 * 0 + _ ≤ _; omega) (hb hc hd) (fun _ _ => ⟨rfl, eT, hc1, hs1⟩)
  dsimp only [Pt.U, Pt.locs, Pt.cells, Pt.slots] at X' l1 l2 l3 stp hQ'
  subst l1 l2 l3
  obtain ⟨s₂, v2, L, h1, r⟩ := hr v T'.heap hQ' p e s m args below meth c T' _ hx hZ ho hn hc hm hr' hk X' (Fr.app N N') rfl (hI v s T'.heap hQ' hJ)
  exact ⟨s₂, v2, L, stp.trans h1, r⟩
/-- a private instance method, by invokevirtual -/
theorem Go.callP {o' n' d' : String} {bytes : ByteArray} {mL' index : Nat} {rt : Option FieldType} {rm : Room} (a : Addr) (as' rest : List Value) {Q' : Option Value → Heap → Prop} {ps : List FieldType} {r : Option FieldType} {C : String}
    (hC : Ct l Z n0 o' n' d' [] bytes mL' rt rm (.ref a :: as').toArray h Q') (E : Exa Z h a C) (w1 : (Cond.methodLink own index (⟨o', n', d'⟩ : MethodName)).before a0 Z = true) (w2 : (Cond.instanceMethod (⟨o', n', d'⟩ : MethodName)).before a0 Z = true) (w3 : (Cond.selects o' (⟨o', n', d'⟩ : MethodName) (⟨o', n', d'⟩ : MethodName)).before a0 Z = true) (w4 : (Cond.privateMethod (⟨o', n', d'⟩ : MethodName)).before a0 Z = true) (w5 : (Cond.initialized o').before a0 Z = true) (w6 : (Cond.code (⟨o', n', d'⟩ : MethodName) bytes mL' rt).before a0 Z = true)
    (hy : o' ≠ "java/lang/invoke/MethodHandle" ∧ o' ≠ "java/lang/invoke/VarHandle") (hpd : parseMethodDescriptor d' = some ⟨ps, r⟩) (hlen : as'.length = ps.length) (hst : st = as'.reverse ++ .ref a :: rest) (hsz : Ls.size = mL) (hf : rm.frames + 1 ≤ R.frames) (hlo : (rest.map fun v => v.category).sum + (mL' + 11) + rm.locals ≤ R.locals) (hc1 : cells + rm.cells ≤ R.cells) (hs1 : slots + rm.slots ≤ R.slots)
    (hd : decode code pc = .ok (.invokevirtual index, 3)) (hI : ∀ (v : Option Value) (s : State) (h' : Heap), Q' v h' → I s h → I' s h') (hr : ∀ v h', Q' v h' → Go l Z n0 R own nm code mL ret I' F h' (cells + rm.cells) (slots + rm.slots) (pc + 3) Ls (v.toList ++ rest)) : Go l Z n0 R own nm code mL ret I F h cells slots pc Ls st := by
  intro p e s m args below meth c T locs hx hZ ho hn hc hm hr' hk X N eT hJ
  obtain ⟨cq, qa, qb⟩ := E.cell
  obtain ⟨v, _, ⟨T', L', k', n''⟩, -, X', ⟨Lc, ⟨N', hQ'⟩, l1, l2, l3⟩, stp⟩ := X.privateBack hx (y := (⟨o', n', d'⟩ : MethodName)) ho (mvT hZ w1) (mvT hZ w2) (mvT hZ w3) (Cond.privateMethod_at (mvP hZ w4 (args := #[]))) (mvT hZ w6) hy (backOf (Q := fun v h L => Fr n0 L ∧ Q' v h) (W := (rest.map fun v => v.category).sum) hC hZ w6 w5 hf hlo) (g := mkF m pc Ls st) rfl (hsz.trans hm.symm) (Steps.refl _) (a := a) (by rw [eT]; exact qa) qb (argsL := as') (rest := rest) (lenOf hpd hlen) hst (by show 2 * 0 + _ ≤ _; omega) (hb hc hd) (fun _ _ => ⟨rfl, eT, hc1, hs1⟩)
  dsimp only [Pt.U, Pt.locs, Pt.cells, Pt.slots] at X' l1 l2 l3 stp hQ'
  subst l1 l2 l3
  obtain ⟨s₂, v2, L, h1, r⟩ := hr v T'.heap hQ' p e s m args below meth c T' _ hx hZ ho hn hc hm hr' hk X' (Fr.app N N') rfl (hI v s T'.heap hQ' hJ)
  exact ⟨s₂, v2, L, stp.trans h1, r⟩
/-- an interface's method -/
theorem Go.callF {o' n' d' C oz : String} {bytes : ByteArray} {mL' index count : Nat} {rt : Option FieldType} {rm : Room} (a : Addr) (as' rest : List Value) {Q' : Option Value → Heap → Prop} {ps : List FieldType} {r : Option FieldType}
    (hC : Ct l Z n0 oz n' d' [] bytes mL' rt rm (.ref a :: as').toArray h Q') (E : Exa Z h a C) (w1 : (Cond.methodLink own index (⟨o', n', d'⟩ : MethodName)).before a0 Z = true) (w2 : (Cond.declares (⟨o', n', d'⟩ : MethodName)).before a0 Z = true) (w2' : (Cond.interfaceMethod o' o' n' d').before a0 Z = true) (w3 : (Cond.selects C (⟨o', n', d'⟩ : MethodName) (⟨oz, n', d'⟩ : MethodName)).before a0 Z = true) (w4 : (Cond.instanceMethod (⟨oz, n', d'⟩ : MethodName)).before a0 Z = true) (w4' : (Cond.publicMethod (⟨oz, n', d'⟩ : MethodName)).before a0 Z = true) (w4'' : (Cond.unhidden C n' d').before a0 Z = true) (wc : (Cond.castable C o').before a0 Z = true) (w5 : (Cond.initialized oz).before a0 Z = true) (w6 : (Cond.code (⟨oz, n', d'⟩ : MethodName) bytes mL' rt).before a0 Z = true)
    (hy : o' ≠ "java/lang/invoke/MethodHandle" ∧ o' ≠ "java/lang/invoke/VarHandle") (hpd : parseMethodDescriptor d' = some ⟨ps, r⟩) (hlen : as'.length = ps.length) (hst : st = as'.reverse ++ .ref a :: rest) (hsz : Ls.size = mL) (hf : rm.frames + 1 ≤ R.frames) (hlo : (rest.map fun v => v.category).sum + (mL' + 11) + rm.locals ≤ R.locals) (hc1 : cells + rm.cells ≤ R.cells) (hs1 : slots + rm.slots ≤ R.slots)
    (hd : decode code pc = .ok (.invokeinterface index count, 5)) (hI : ∀ (v : Option Value) (s : State) (h' : Heap), Q' v h' → I s h → I' s h') (hr : ∀ v h', Q' v h' → Go l Z n0 R own nm code mL ret I' F h' (cells + rm.cells) (slots + rm.slots) (pc + 5) Ls (v.toList ++ rest)) : Go l Z n0 R own nm code mL ret I F h cells slots pc Ls st := by
  intro p e s m args below meth c T locs hx hZ ho hn hc hm hr' hk X N eT hJ
  obtain ⟨cq, kq, qa, qb, qc⟩ := isOf hZ eT E
  obtain ⟨v, _, ⟨T', L', k', n''⟩, -, X', ⟨Lc, ⟨N', hQ'⟩, l1, l2, l3⟩, stp⟩ := X.interfaceBack hx (xi := (⟨o', n', d'⟩ : MethodName)) (y := (⟨oz, n', d'⟩ : MethodName)) ho (mvT hZ w1) (mvT hZ w2) (mvT hZ w2' (by simp [Cond.onTables, Cond.keepsFace, Cond.keeps, Cond.steady, Cond.faceAtom, hy.1, hy.2])) (mvT hZ w3) (mvT hZ w4) (mvT hZ w4') (mvT hZ w4'') (mvT hZ wc) hy (backOf (Q := fun v h L => Fr n0 L ∧ Q' v h) (W := (rest.map fun v => v.category).sum) hC hZ w6 w5 hf hlo) qa qb qc (g := mkF m pc Ls st) rfl (hsz.trans hm.symm) (Steps.refl _) (argsL := as') (rest := rest) (lenOf hpd hlen) hst (by show 2 * 0 + _ ≤ _; omega) (hb hc hd) (fun _ _ => ⟨rfl, eT, hc1, hs1⟩)
  dsimp only [Pt.U, Pt.locs, Pt.cells, Pt.slots] at X' l1 l2 l3 stp hQ'
  subst l1 l2 l3
  obtain ⟨s₂, v2, L, h1, r⟩ := hr v T'.heap hQ' p e s m args below meth c T' _ hx hZ ho hn hc hm hr' hk X' (Fr.app N N') rfl (hI v s T'.heap hQ' hJ)
  exact ⟨s₂, v2, L, stp.trans h1, r⟩
/-! calls that are paid otherwise -/
theorem Go.callIP {o' d' : String} {bytes : ByteArray} {mL' index : Nat} {kc ks W : Nat} (a : Addr) (as' rest : List Value) {Q' : Option Value → Heap → Prop} {ps : List FieldType} {r : Option FieldType}
    (hC : Pays l Z n0 R (⟨o', "<init>", d'⟩ : MethodName) 3 W (.ref a :: as').toArray h kc ks Q') (w1 : (Cond.methodLink own index (⟨o', "<init>", d'⟩ : MethodName)).before a0 Z = true) (w2 : (Cond.instanceMethod (⟨o', "<init>", d'⟩ : MethodName)).before a0 Z = true) (w3 : (Cond.initialized o').before a0 Z = true) (w4 : (Cond.code (⟨o', "<init>", d'⟩ : MethodName) bytes mL' none).before a0 Z = true)
    (hy : o' ≠ "java/lang/invoke/MethodHandle" ∧ o' ≠ "java/lang/invoke/VarHandle") (hpd : parseMethodDescriptor d' = some ⟨ps, r⟩) (hlen : as'.length = ps.length) (hst : st = as'.reverse ++ .ref a :: rest) (hsz : Ls.size = mL) (hW : (rest.map fun v => v.category).sum ≤ W) (hc1 : cells + kc ≤ R.cells) (hs1 : slots + ks ≤ R.slots)
    (hd : decode code pc = .ok (.invokespecial index, 3)) (hI : ∀ (v : Option Value) (s : State) (h' : Heap), Q' v h' → I s h → I' s h') (hr : ∀ v h', Q' v h' → Go l Z n0 R own nm code mL ret I' F h' (cells + kc) (slots + ks) (pc + 3) Ls (v.toList ++ rest)) : Go l Z n0 R own nm code mL ret I F h cells slots pc Ls st := by
  intro p e s m args below meth c T locs hx hZ ho hn hc hm hr' hk X N eT hJ
  obtain ⟨v, _, ⟨T', L', k', n''⟩, -, X', ⟨Lc, ⟨N', hQ'⟩, l1, l2, l3⟩, stp⟩ := X.specialBack hx (y := (⟨o', "<init>", d'⟩ : MethodName)) rfl ho (mvT hZ w1) (mvT hZ w2) (mvT hZ w4) hy (hC p e below s args hZ) (g := mkF m pc Ls st) rfl (hsz.trans hm.symm) (Steps.refl _) (a := a) (argsL := as') (rest := rest) (lenOf hpd hlen) hst (by show 2 * 0 + _ ≤ _; omega) (hb hc hd) (fun _ _ => ⟨rfl, eT, hc1, hs1⟩)
  dsimp only [Pt.U, Pt.locs, Pt.cells, Pt.slots] at X' l1 l2 l3 stp hQ'
  subst l1 l2 l3
  obtain ⟨s₂, v2, L, h1, r⟩ := hr v T'.heap hQ' p e s m args below meth c T' _ hx hZ ho hn hc hm hr' hk X' (Fr.app N N') rfl (hI v s T'.heap hQ' hJ)
  exact ⟨s₂, v2, L, stp.trans h1, r⟩
theorem Go.callVP {o' n' d' C oz : String} {bytes : ByteArray} {mL' index : Nat} {rt : Option FieldType} {kc ks W : Nat} (a : Addr) (as' rest : List Value) {Q' : Option Value → Heap → Prop} {ps : List FieldType} {r : Option FieldType}
    (hC : Pays l Z n0 R (⟨oz, n', d'⟩ : MethodName) 3 W (.ref a :: as').toArray h kc ks Q') (E : Exa Z h a C) (w1 : (Cond.methodLink own index (⟨o', n', d'⟩ : MethodName)).before a0 Z = true) (w2 : (Cond.declares (⟨o', n', d'⟩ : MethodName)).before a0 Z = true) (nf : ∀ s : State, Z.Warmed39 s.vm → NotFace s (⟨o', n', d'⟩ : MethodName)) (w3 : (Cond.selects C (⟨o', n', d'⟩ : MethodName) (⟨oz, n', d'⟩ : MethodName)).before a0 Z = true) (w4 : (Cond.instanceMethod (⟨oz, n', d'⟩ : MethodName)).before a0 Z = true) (w5 : (Cond.initialized oz).before a0 Z = true) (w6 : (Cond.code (⟨oz, n', d'⟩ : MethodName) bytes mL' rt).before a0 Z = true)
    (hy : o' ≠ "java/lang/invoke/MethodHandle" ∧ o' ≠ "java/lang/invoke/VarHandle") (hpd : parseMethodDescriptor d' = some ⟨ps, r⟩) (hlen : as'.length = ps.length) (hst : st = as'.reverse ++ .ref a :: rest) (hsz : Ls.size = mL) (hW : (rest.map fun v => v.category).sum ≤ W) (hc1 : cells + kc ≤ R.cells) (hs1 : slots + ks ≤ R.slots)
    (hd : decode code pc = .ok (.invokevirtual index, 3)) (hI : ∀ (v : Option Value) (s : State) (h' : Heap), Q' v h' → I s h → I' s h') (hr : ∀ v h', Q' v h' → Go l Z n0 R own nm code mL ret I' F h' (cells + kc) (slots + ks) (pc + 3) Ls (v.toList ++ rest)) : Go l Z n0 R own nm code mL ret I F h cells slots pc Ls st := by
  intro p e s m args below meth c T locs hx hZ ho hn hc hm hr' hk X N eT hJ
  obtain ⟨cq, kq, qa, qb, qc⟩ := isOf hZ eT E
  obtain ⟨v, _, ⟨T', L', k', n''⟩, -, X', ⟨Lc, ⟨N', hQ'⟩, l1, l2, l3⟩, stp⟩ := X.virtualBack hx (y := (⟨o', n', d'⟩ : MethodName)) (z := (⟨oz, n', d'⟩ : MethodName)) ho (mvT hZ w1) (mvT hZ w2) (nf s hZ) (mvT hZ w3) (mvT hZ w4) hy (hC p e below s args hZ) qa qc (g := mkF m pc Ls st) rfl (hsz.trans hm.symm) (Steps.refl _) (argsL := as') (rest := rest) (lenOf hpd hlen) hst (by show 2 * 0 + _ ≤ _; omega) (hb hc hd) (fun _ _ => ⟨rfl, eT, hc1, hs1⟩)
  dsimp only [Pt.U, Pt.locs, Pt.cells, Pt.slots] at X' l1 l2 l3 stp hQ'
  subst l1 l2 l3
  obtain ⟨s₂, v2, L, h1, r⟩ := hr v T'.heap hQ' p e s m args below meth c T' _ hx hZ ho hn hc hm hr' hk X' (Fr.app N N') rfl (hI v s T'.heap hQ' hJ)
  exact ⟨s₂, v2, L, stp.trans h1, r⟩
theorem Go.callSP {o' n' d' : String} {bytes : ByteArray} {mL' index : Nat} {rt : Option FieldType} {kc ks W : Nat} (as' rest : List Value) {Q' : Option Value → Heap → Prop} {ps : List FieldType} {r : Option FieldType}
    (hC : Pays l Z n0 R (⟨o', n', d'⟩ : MethodName) 3 W as'.toArray h kc ks Q') (w1 : (Cond.methodLink own index (⟨o', n', d'⟩ : MethodName)).before a0 Z = true) (w2 : (Cond.static (⟨o', n', d'⟩ : MethodName)).before a0 Z = true) (w3 : (Cond.initialized o').before a0 Z = true) (w4 : (Cond.code (⟨o', n', d'⟩ : MethodName) bytes mL' rt).before a0 Z = true)
    (hy : o' ≠ "java/lang/invoke/MethodHandle" ∧ o' ≠ "java/lang/invoke/VarHandle") (hpd : parseMethodDescriptor d' = some ⟨ps, r⟩) (hlen : as'.length = ps.length) (hst : st = as'.reverse ++ rest) (hsz : Ls.size = mL) (hW : (rest.map fun v => v.category).sum ≤ W) (hc1 : cells + kc ≤ R.cells) (hs1 : slots + ks ≤ R.slots)
    (hd : decode code pc = .ok (.invokestatic index, 3)) (hI : ∀ (v : Option Value) (s : State) (h' : Heap), Q' v h' → I s h → I' s h') (hr : ∀ v h', Q' v h' → Go l Z n0 R own nm code mL ret I' F h' (cells + kc) (slots + ks) (pc + 3) Ls (v.toList ++ rest)) : Go l Z n0 R own nm code mL ret I F h cells slots pc Ls st := by
  intro p e s m args below meth c T locs hx hZ ho hn hc hm hr' hk X N eT hJ
  obtain ⟨v, _, ⟨T', L', k', n''⟩, -, X', ⟨Lc, ⟨N', hQ'⟩, l1, l2, l3⟩, stp⟩ := Jvm.LawKit.callS X hx (y := (⟨o', n', d'⟩ : MethodName)) ho (mvT hZ w1) (mvT hZ w2) (mvT hZ w3) (mvT hZ w4) hy (hC p e below s args hZ) (g := mkF m pc Ls st) rfl (hsz.trans hm.symm) (argsL := as') (rest := rest) (lenOf hpd hlen) hst (by show 2 * 0 + _ ≤ _; omega) (hb hc hd) (fun _ _ => ⟨rfl, eT, hc1, hs1⟩)
  dsimp only [Pt.U, Pt.locs, Pt.cells, Pt.slots] at X' l1 l2 l3 stp hQ'
  subst l1 l2 l3
  obtain ⟨s₂, v2, L, h1, r⟩ := hr v T'.heap hQ' p e s m args below meth c T' _ hx hZ ho hn hc hm hr' hk X' (Fr.app N N') rfl (hI v s T'.heap hQ' hJ)
  exact ⟨s₂, v2, L, stp _ h1, r⟩
end Go
end Jvm.Own
namespace Jvm.Own
open Jvm Jvm.ClassFile Sem Op Lib Jvm.Free Jvm.Stand Jvm.LawKit Jvm.RoadKit Bundle
/-- a class that is there and is no interface -/
def Ord (Z : State) (C : String) : Prop := ∃ c k, Z.vm.findClass C = some c ∧ Z.vm.classes[c]? = some k ∧ k.isInterface = false
theorem Ord.sel {Z : State} {a0 : Array Value} {C : String} {x y : MethodName} (w : (Cond.selects C x y).before a0 Z = true) : Ord Z y.cls := by
  obtain ⟨c, r, mm, h1, h2, h3, h4, k, h5, h6⟩ := Cond.selects_spec w
  exact ⟨mm.cls, k, findClass_of_methodNamed h3, h5, h6⟩
theorem Ord.nf {Z : State} {o' n' d' : String} (F : Ord Z o') : ∀ s : State, Z.Warmed39 s.vm → NotFace s (⟨o', n', d'⟩ : MethodName) := by
  intro s hZ r0 h0
  obtain ⟨c, k, h1, h2, h3⟩ := F
  have q := findClass_of_methodNamed h0
  rw [hZ.alike.findClass] at q
  cases h1.symm.trans q
  obtain ⟨k', q1, q2⟩ := hZ.alike.2.2 _ _ h2
  exact ⟨k', q1, by rw [q2]; exact h3⟩
theorem sel_priv2 {Z : State} {a0 : Array Value} {y : MethodName} (F : Ord Z y.cls) (wm : (Cond.instanceMethod y).before a0 Z = true) (wp : (Cond.privateMethod y).before a0 Z = true) (hy : y.cls ≠ "java/lang/invoke/MethodHandle" ∧ y.cls ≠ "java/lang/invoke/VarHandle") : (Cond.selects y.cls y y).before a0 Z = true := by
  obtain ⟨mk, meth, hnamed, hmeth, -, -⟩ := Cond.instanceMethod_spec wm
  obtain ⟨c, k, hc, hk, hni⟩ := F
  have hfound := State.methodFound?_of_named hnamed hy
  have hc' := findClass_of_methodNamed hnamed
  cases hc.symm.trans hc'
  have hsel : selectMethod {} Z.vm mk.cls mk = .method mk := selectMethod_private hmeth (Cond.privateMethod_at wp mk meth hnamed hmeth)
  simp [Cond.before, Cond.holds, Cond.value, hc', hfound, hnamed, hsel, hk, hni]
theorem same_self {Z : State} {a0 : Array Value} {y : MethodName} (F : Ord Z y.cls) (wm : (Cond.instanceMethod y).before a0 Z = true) (hy : y.cls ≠ "java/lang/invoke/MethodHandle" ∧ y.cls ≠ "java/lang/invoke/VarHandle") : (Cond.sameMethod y.cls y.cls y.name y.desc).before a0 Z = true := by
  obtain ⟨mk, meth, hnamed, hmeth, -, -⟩ := Cond.instanceMethod_spec wm
  obtain ⟨c, k, hc, hk, hni⟩ := F
  have hfound := State.methodFound?_of_named hnamed hy
  have hc' := findClass_of_methodNamed hnamed
  cases hc.symm.trans hc'
  simp [Cond.before, Cond.holds, Cond.value, hc', hfound, hnamed, hk, hni]
section Go
variable {l : Launch} {Z : State} {n0 : Nat} {R : Room} {own nm : String} {code : ByteArray} {mL : Nat} {ret : Option FieldType} {Q : Option Value → Heap → Prop} {I I' : State → Heap → Prop} {F : State → Option Value → State → List Loc → Prop} {h : Heap} {cells slots pc : Nat} {Ls : Array Slot} {st rest : List Value} {a0 : Array Value}
/-- invokespecial: a method of the direct superclass -/
theorem Go.callSup {o' n' d' C : String} {bytes : ByteArray} {mL' index : Nat} {rt : Option FieldType} {rm : Room} (a : Addr) (as' rest : List Value) {Q' : Option Value → Heap → Prop} {ps : List FieldType} {r : Option FieldType}
    (hC : Ct l Z n0 o' n' d' [] bytes mL' rt rm (.ref a :: as').toArray h Q') (E : Exa Z h a C) (FO : Ord Z o') (w1 : (Cond.methodLink own index (⟨o', n', d'⟩ : MethodName)).before a0 Z = true) (w2 : (Cond.instanceMethod (⟨o', n', d'⟩ : MethodName)).before a0 Z = true) (w4 : (Cond.superclass own o').before a0 Z = true) (w5 : (Cond.initialized o').before a0 Z = true) (w6 : (Cond.code (⟨o', n', d'⟩ : MethodName) bytes mL' rt).before a0 Z = true) (hni : n' ≠ "<init>")
    (hy : o' ≠ "java/lang/invoke/MethodHandle" ∧ o' ≠ "java/lang/invoke/VarHandle") (hpd : parseMethodDescriptor d' = some ⟨ps, r⟩) (hlen : as'.length = ps.length) (hst : st = as'.reverse ++ .ref a :: rest) (hsz : Ls.size = mL) (hf : rm.frames + 1 ≤ R.frames) (hlo : (rest.map fun v => v.category).sum + (mL' + 11) + rm.locals ≤ R.locals) (hc1 : cells + rm.cells ≤ R.cells) (hs1 : slots + rm.slots ≤ R.slots)
    (hd : decode code pc = .ok (.invokespecial index, 3)) (hI : ∀ (v : Option Value) (s : State) (h' : Heap), Q' v h' → I s h → I' s h') (hr : ∀ v h', Q' v h' → Go l Z n0 R own nm code mL ret I' F h' (cells + rm.cells) (slots + rm.slots) (pc + 3) Ls (v.toList ++ rest)) : Go l Z n0 R own nm code mL ret I F h cells slots pc Ls st := by
  intro p e s m args below meth c T locs hx hZ ho hn hc hm hr' hk X N eT hJ
  obtain ⟨v, _, ⟨T', L', k', n''⟩, -, X', ⟨Lc, ⟨N', hQ'⟩, l1, l2, l3⟩, stp⟩ := Jvm.RoadKit.superBack X hx hZ (K := C) (y := (⟨o', n', d'⟩ : MethodName)) ho w1 (same_self (y := (⟨o', n', d'⟩ : MethodName)) FO w2 hy) w2 w4 hni (backOf (Q := fun v h L => Fr n0 L ∧ Q' v h) (W := (rest.map fun v => v.category).sum) hC hZ w6 w5 hf hlo) eT (Ins.self E) (g := mkF m pc Ls st) rfl (hsz.trans hm.symm) w6 (argsL := as') (rest := rest) (lenOf hpd hlen) hst (by show 2 * 0 + _ ≤ _; omega) (hb hc hd) (fun _ _ => ⟨rfl, eT, hc1, hs1⟩)
  dsimp only [Pt.U, Pt.locs, Pt.cells, Pt.slots] at X' l1 l2 l3 stp hQ'
  subst l1 l2 l3
  obtain ⟨s₂, v2, L, h1, r⟩ := hr v T'.heap hQ' p e s m args below meth c T' _ hx hZ ho hn hc hm hr' hk X' (Fr.app N N') rfl (hI v s T'.heap hQ' hJ)
  exact ⟨s₂, v2, L, stp.trans h1, r⟩
/-- System.arraycopy between arrays of one primitive type -/
theorem Go.copyB {index : Nat} {a b : Addr} {k k' : ClassId} {ty : FieldType} {z z' sp dp nn : Int32} {vs vd : List Value} {dv dd : Value} (us : List Value) (A : Arv Z h a k ty z vs dv) (B : Arv Z h b k' ty z' vd dd) (hty : refKind ty = false)
    (w1 : (Cond.methodLink own index (⟨"java/lang/System", "arraycopy", "(Ljava/lang/Object;ILjava/lang/Object;II)V"⟩ : MethodName)).before a0 Z = true) (w2 : (Cond.native (⟨"java/lang/System", "arraycopy", "(Ljava/lang/Object;ILjava/lang/Object;II)V"⟩ : MethodName)).before a0 Z = true) (w3 : (Cond.static (⟨"java/lang/System", "arraycopy", "(Ljava/lang/Object;ILjava/lang/Object;II)V"⟩ : MethodName)).before a0 Z = true) (w4 : (Cond.initialized "java/lang/System").before a0 Z = true)
    (h1 : ¬ sp < 0) (h2 : ¬ dp < 0) (h3 : ¬ nn < 0) (h4 : sp.toNatClampNeg + nn.toNatClampNeg ≤ z.toNatClampNeg) (h5 : dp.toNatClampNeg + nn.toNatClampNeg ≤ z'.toNatClampNeg) (hus : us = (List.range nn.toNatClampNeg).map fun i => vs.getD (sp.toNatClampNeg + i) dv) (hl : dp.toNatClampNeg + nn.toNatClampNeg ≤ vd.length) (ge : n0 ≤ b)
    (hd : decode code pc = .ok (.invokestatic index, 3)) (hsz : Ls.size = mL) (hf : 1 ≤ R.frames) (hlo : (rest.map fun v => v.category).sum + (nativeFrameWords "java/lang/System" "arraycopy" 5 + 11) ≤ R.locals)
    (hI : ∀ (s : State) (h' : Heap), Keep h h' [b] → I s h → I' s h') (hr : ∀ h', Keep h h' [b] → Arv Z h' b k' ty z' (vd.take dp.toNatClampNeg ++ us ++ vd.drop (dp.toNatClampNeg + nn.toNatClampNeg)) dd → Go l Z n0 R own nm code mL ret I' F h' cells slots (pc + 3) Ls rest) : Go l Z n0 R own nm code mL ret I F h cells slots pc Ls (.int nn :: .int dp :: .ref b :: .int sp :: .ref a :: rest) := by
  intro p e s m args below meth c T locs hx hZ ho hn hc hm hr' hk X N eT hJ
  obtain ⟨T', h', L', X', e', N', K', V', stp⟩ := Jvm.RoadKit.cpA X hx hZ ho w1 w2 w3 w4 eT A B (us := us) (Or.inl ⟨rfl, hty⟩) h1 h2 h3 h4 h5 hus hl N ge (g := mkF m pc Ls (.int nn :: .int dp :: .ref b :: .int sp :: .ref a :: rest)) rfl (hsz.trans hm.symm) (rest := rest) rfl (hb hc hd) hf (W := (rest.map fun v => v.category).sum) (by show 2 * 0 + _ ≤ _; omega) hlo
  obtain ⟨s₂, v2, L, g1, r⟩ := hr h' K' V' p e s m args below meth c T' _ hx hZ ho hn hc hm hr' hk X' N' e' (hI s h' K' hJ)
  exact ⟨s₂, v2, L, stp _ g1, r⟩
end Go
end Jvm.Own
namespace Jvm.Own
open Jvm Jvm.ClassFile Sem Op Lib Jvm.Free Jvm.Stand Jvm.LawKit Jvm.RoadKit Bundle
/-- what a walk bears that may load String constants: the tables since the start s₀, the constants of EL held, and every place from lo on, and those of Sf, no constant's -/
def IW (Z : State) (EL : List (String × Nat)) (s₀ : State) (lo : Nat) (Sf : List Addr) : State → Heap → Prop := fun s h =>
  ∃ (vm0 : Vm) (k0 : Nat), s = s₀.setVm vm0 ∧ Z.Warmed39 vm0 ∧ s₀.Since vm0 k0 ∧ k0 ≤ h.size ∧ CHr Z EL s₀.vm s₀.heap vm0 h ∧ ∀ x, (lo ≤ x ∨ x ∈ Sf) → Safe Z EL vm0 h x
/-- the end of such a walk -/
def FW (Z : State) (EL : List (String × Nat)) (s₀ : State) (n0 : Nat) (R : Room) (Q : Option Value → Heap → Prop) : State → Option Value → State → List Loc → Prop := fun _ v s₂ L =>
  Fr n0 L ∧ Q v s₂.heap ∧ CHr Z EL s₀.vm s₀.heap s₂.vm s₂.heap ∧ ReturnedEndW s₀ (.returned v) s₂ L R.cells R.slots
/-- a body's contract, where it may load constants; it may write the places of Sf -/
def CtW (l : Launch) (Z : State) (EL : List (String × Nat)) (n0 : Nat) (own nm ds : String) (ws : List Cond) (code : ByteArray) (mL : Nat) (ret : Option FieldType) (rm : Room) (as' : Array Value) (h0 : Heap) (Sf : List Addr) (Q : Option Value → Heap → Prop) : Prop :=
  MetFree l (⟨own, nm, ds⟩ : MethodName) (head1 (Cond.code (⟨own, nm, ds⟩ : MethodName) code mL ret :: ws) rm) (fun a U => a = as' ∧ Z.Warmed39 U.vm ∧ U.heap = h0 ∧ CHv Z EL U.vm h0 ∧ ∀ x ∈ Sf, Safe Z EL U.vm h0 x) (fun _ _ _ _ _ => True)
    (fun _ U o U' => ∃ v L, o = .returned v ∧ (Fr n0 L ∧ Q v U'.heap) ∧ CHr Z EL U.vm U.heap U'.vm U'.heap ∧ ReturnedEndW U o U' L rm.cells rm.slots)
/-- this place may be written: it is no constant's -/
def Sb (Z : State) (h : Heap) (lo : Nat) (Sf : List Addr) (x : Addr) : Prop := (lo ≤ x ∨ x ∈ Sf) ∨ (∃ C, Exa Z h x C ∧ C ≠ "java/lang/String" ∧ C ≠ "[B") ∨ ∃ k ty z vs dv, Arv Z h x k ty z vs dv ∧ ty ≠ .byte
section Wide
variable {l : Launch} {Z s₀ : State} {EL : List (String × Nat)} {n0 lo : Nat} {Sf : List Addr} {R : Room} {own nm : String} {code : ByteArray} {mL : Nat} {ret : Option FieldType} {Q : Option Value → Heap → Prop} {F : State → Option Value → State → List Loc → Prop} {h : Heap} {cells slots pc : Nat} {Ls : Array Slot} {st rest : List Value} {a0 : Array Value}
theorem Sb.safe {vm0 : Vm} {x : Addr} (hal : Z.vm.Alike vm0) (hS : ∀ x, (lo ≤ x ∨ x ∈ Sf) → Safe Z EL vm0 h x) (S : Sb Z h lo Sf x) : Safe Z EL vm0 h x := by
  rcases S with q | ⟨C, E, h1, h2⟩ | ⟨k, ty, z, vs, dv, V, ht⟩
  · exact hS x q
  · exact Safe.exa hal E h1 h2
  · exact Safe.arv hal V ht
theorem Sb.up {x : Addr} (q : lo ≤ x) : Sb Z h lo Sf x := Or.inl (Or.inl q)
theorem Sb.mem {x : Addr} (q : x ∈ Sf) : Sb Z h lo Sf x := Or.inl (Or.inr q)
theorem Sb.exa {x : Addr} {C : String} (E : Exa Z h x C) (h1 : C ≠ "java/lang/String") (h2 : C ≠ "[B") : Sb Z h lo Sf x := Or.inr (Or.inl ⟨C, E, h1, h2⟩)
theorem Sb.arv {x : Addr} {k : ClassId} {ty : FieldType} {z : Int32} {vs : List Value} {dv : Value} (V : Arv Z h x k ty z vs dv) (ht : ty ≠ .byte) : Sb Z h lo Sf x := Or.inr (Or.inr ⟨k, ty, z, vs, dv, V, ht⟩)
theorem IW.keep {ws : List Addr} {s : State} {h' : Heap} (K : Keep h h' ws) (hs : ∀ x ∈ ws, Sb Z h lo Sf x) (J : IW Z EL s₀ lo Sf s h) : IW Z EL s₀ lo Sf s h' := by
  obtain ⟨vm0, k0, e, hZ, hS, hk, hC, hSf⟩ := J
  have hs' : ∀ x ∈ ws, Safe Z EL vm0 h x := fun x q => (hs x q).safe hZ.alike hSf
  exact ⟨vm0, k0, e, hZ, hS, Nat.le_trans hk K.1, hC.trans (CHr.keep K hs' hC.1), fun x q => Safe.keep K hs' hC.1 (hSf x q)⟩
theorem wI {a : Addr} (hs : Sb Z h lo Sf a) : ∀ (s : State) (h' : Heap), Keep h h' [a] → IW Z EL s₀ lo Sf s h → IW Z EL s₀ lo Sf s h' := fun _ _ K J => J.keep K (allS hs all0)
theorem wE : ∀ (s : State) (h' : Heap), Ext h h' → h.size < h'.size → IW Z EL s₀ lo Sf s h → IW Z EL s₀ lo Sf s h' := fun _ _ E _ J => J.keep ((Keep.refl h []).ext E) all0
theorem wQ {Q' : Option Value → Heap → Prop} {ws : List Addr} (hK : ∀ v h', Q' v h' → Keep h h' ws) (hs : ∀ x ∈ ws, Sb Z h lo Sf x) : ∀ (v : Option Value) (s : State) (h' : Heap), Q' v h' → IW Z EL s₀ lo Sf s h → IW Z EL s₀ lo Sf s h' := fun v _ h' q J => J.keep (hK v h' q) hs
theorem CtW.of_go {ds : String} {ws : List Cond} {rm : Room} {as' : Array Value} {h0 : Heap} (hp : plainFor (⟨own, nm, ds⟩ : MethodName) = true) (hef : ∀ m, entryFrame m as' mL = mkF m 0 Ls []) (hg : ∀ s₀ : State, Go l Z n0 rm own nm code mL ret (IW Z EL s₀ h0.size Sf) (FW Z EL s₀ n0 rm Q) h0 0 0 0 Ls []) : CtW l Z EL n0 own nm ds ws code mL ret rm as' h0 Sf Q := by
  refine MetFree.of_bodySF hp hisR ?_
  intro p e s m args below meth c s₁ Bd hml hP hK
  obtain ⟨rfl, hZ, hh, hC, hSf⟩ := hP
  have hown : s.vm.findClass own = some m.cls := findClass_of_methodNamed Bd.named
  have hnm := (name_of_methodNamed Bd.named Bd.method).1
  have X0 : Stand p l e rm s m args below meth c s₁ [] 0 0 := Stand.of_body Bd
  have e0 : s₁.heap = h0 := by rw [← hh, Bd.state]; rfl
  have hJ : IW Z EL s h0.size Sf s h0 := ⟨s.vm, h0.size, rfl, hZ, State.WarmedH.since (State.WarmedH.refl s) _, Nat.le_refl _, by rw [hh]; exact CHr.refl hC, fun x q => q.elim Safe.new (hSf x)⟩
  obtain ⟨s₂, v, L, h1, h2, h3, h4, h5, h6, h7⟩ := hg s p e s m args below meth c s₁ [] Bd.exec hZ hown hnm Bd.bytes hml Bd.returns Bd.notSynchronized X0 (Fr.nil n0) e0 hJ
  exact ⟨s₂, _, castTop (hef m) h1, h2, h3, v, L, rfl, ⟨h4, h5⟩, h6, h7⟩
theorem CtW.mono {ds : String} {ws : List Cond} {rm : Room} {as' : Array Value} {h0 : Heap} {Q' : Option Value → Heap → Prop} (C : CtW l Z EL n0 own nm ds ws code mL ret rm as' h0 Sf Q) (hq : ∀ v h, Q v h → Q' v h) : CtW l Z EL n0 own nm ds ws code mL ret rm as' h0 Sf Q' := by
  intro p e ha hc hk s m args below hf happ hP hK
  obtain ⟨n, o, h1, h2, h3, v, L, h4, ⟨h5, h6⟩, h7⟩ := C p e ha hc hk s m args below hf happ hP hK
  exact ⟨n, o, h1, h2, h3, v, L, h4, ⟨h5, hq _ _ h6⟩, h7⟩
/-! ends -/
theorem wEnd {p : Program} {e : Env} {m : MethodId} {args : Array Value} {below : List Frame} {meth : Method} {c : Code} {s T : State} {locs : List Loc} {v : Option Value} {fs : List Frame} (hEL : EW Z a0 EL) (hx : Fr n0 locs) (X : Stand p l e R s m args below meth c T locs cells slots) (eT : T.heap = h) (J : IW Z EL s₀ lo Sf s h) (hW : s.WarmedH (T.setFrames fs).vm) (hsame : s.sameButNew ({ T.setFrames fs with vm := s.vm } : State) locs cells slots) (hc1 : cells ≤ R.cells) (hs1 : slots ≤ R.slots) (hQ : Q v h) :
    FW Z EL s₀ n0 R Q s v (T.setFrames fs) locs := by
  obtain ⟨vm0, k0, rfl, hZ, hS, hk, hC, hSf⟩ := J
  have A := CHv.at X hZ hEL hC.1
  refine ⟨hx, by show Q v T.heap; rw [eT]; exact hQ, ?_, ?_⟩
  · show CHr Z EL s₀.vm s₀.heap T.vm T.heap
    rw [eT]; exact hC.trans A
  · have h2 : (s₀.setVm vm0).Since (T.setFrames fs).vm h.size := hW.since _
    have h3 := hS.trans h2 hk
    refine ⟨⟨_, rfl⟩, h3.1, ?_, State.sameButNew.mono (s := s₀) (hsame.setVm s₀.vm) hc1 hs1⟩
    intro j q hj hq
    have := h3.2 j q hj hq
    rw [← eT] at this
    exact this
theorem GW.return_ (hEL : EW Z a0 EL) (hd : decode code pc = .ok (.return_, 1)) (hret : ret = none) (hc1 : cells ≤ R.cells) (hs1 : slots ≤ R.slots) (hQ : Q none h) : Go l Z n0 R own nm code mL ret (IW Z EL s₀ lo Sf) (FW Z EL s₀ n0 R Q) h cells slots pc Ls [] := by
  intro p e s m args below meth c T locs hx hZ ho hn hc hm hr' hk X N eT hJ
  obtain ⟨fs, hr, hrun, hended, hW, hsame⟩ := X.leave (v := none) (fun _ => rfl) hk
  exact ⟨_, none, locs, X.returnOut hx (hr'.trans hret) (hb hc hd) hr, hrun, hended, wEnd hEL N X eT hJ hW hsame hc1 hs1 hQ⟩
theorem GW.areturn {v : Value} {t : FieldType} (hEL : EW Z a0 EL) (hd : decode code pc = .ok (.areturn, 1)) (hret : ret = some t) (ht : t.isReference = true) (hv : v.isRef = true) (hc1 : cells ≤ R.cells) (hs1 : slots ≤ R.slots) (hQ : Q (some v) h) : Go l Z n0 R own nm code mL ret (IW Z EL s₀ lo Sf) (FW Z EL s₀ n0 R Q) h cells slots pc Ls (v :: st) := by
  intro p e s m args below meth c T locs hx hZ ho hn hc hm hr' hk X N eT hJ
  obtain ⟨fs, hr, hrun, hended, hW, hsame⟩ := X.leave (v := some v) (fun h => by rw [hr', hret] at h; cases h) hk
  have hnw : narrow t v = v := by cases t <;> first | rfl | (cases ht; done)
  exact ⟨_, some v, locs, retOut X hx (hr'.trans hret) hnw (Or.inr (Or.inr (Or.inr (Or.inr ⟨rfl, ht, hv⟩)))) (hb hc hd) hr, hrun, hended, wEnd hEL N X eT hJ hW hsame hc1 hs1 hQ⟩
theorem GW.ireturn {z : Int32} (hEL : EW Z a0 EL) (hd : decode code pc = .ok (.ireturn, 1)) (hret : ret = some .int) (hc1 : cells ≤ R.cells) (hs1 : slots ≤ R.slots) (hQ : Q (some (.int z)) h) : Go l Z n0 R own nm code mL ret (IW Z EL s₀ lo Sf) (FW Z EL s₀ n0 R Q) h cells slots pc Ls (.int z :: st) := by
  intro p e s m args below meth c T locs hx hZ ho hn hc hm hr' hk X N eT hJ
  obtain ⟨fs, hr, hrun, hended, hW, hsame⟩ := X.leave (v := some (.int z)) (fun h => by rw [hr', hret] at h; cases h) hk
  exact ⟨_, some (.int z), locs, retOut X hx (hr'.trans hret) rfl (Or.inl ⟨rfl, Or.inl rfl, z, rfl⟩) (hb hc hd) hr, hrun, hended, wEnd hEL N X eT hJ hW hsame hc1 hs1 hQ⟩
theorem GW.nreturn {z : Int32} (t : FieldType) (hEL : EW Z a0 EL) (hd : decode code pc = .ok (.ireturn, 1)) (hret : ret = some t) (ht : t = .boolean ∨ t = .byte ∨ t = .char ∨ t = .short) (hc1 : cells ≤ R.cells) (hs1 : slots ≤ R.slots) (hQ : Q (some (.int (nar t z))) h) : Go l Z n0 R own nm code mL ret (IW Z EL s₀ lo Sf) (FW Z EL s₀ n0 R Q) h cells slots pc Ls (.int z :: st) := by
  intro p e s m args below meth c T locs hx hZ ho hn hc hm hr' hk X N eT hJ
  obtain ⟨fs, hr, hrun, hended, hW, hsame⟩ := X.leave (v := some (.int (nar t z))) (fun h => by rw [hr', hret] at h; cases h) hk
  exact ⟨_, some (.int (nar t z)), locs, retN X hx (hr'.trans hret) ht (hb hc hd) hr, hrun, hended, wEnd hEL N X eT hJ hW hsame hc1 hs1 hQ⟩
/-! a constant, read -/
theorem GW.ldc {text : String} {index : Nat} (Sf' : List Addr) {vs : List Value} {z : Int32} (hEL : EW Z a0 EL) (wS : ∀ a ∈ Bundle.stringAtoms, a.before a0 Z = true) (w : (Cond.stringLink own index text).before a0 Z = true) (hmem : (own, index) ∈ EL) (ht : (∀ c ∈ text.toList, c.toNat < 256) ∧ text.toList.map (fun c => Value.int (Jvm.Lit.byteI c.toNat.toUInt16)) = vs) (hz : ¬ z < 0) (hl : z.toNatClampNeg = vs.length)
    (hd : decode code pc = .ok (.ldc index, 2)) {n : Nat} (hn0 : 4 * text.toList.length ≤ n) (hbig : n ≤ 536870912) (hc1 : cells + 2 ≤ R.cells) (hs1 : slots + (n + 4) ≤ R.slots) (hSf : ∀ x ∈ Sf', (lo ≤ x ∨ x ∈ Sf) ∧ x < h.size)
    (hr : ∀ (h' : Heap) (a b : Addr) (k : ClassId), Ext h h' → Exa Z h' a "java/lang/String" → Fld Z h' a "java/lang/String" "coder" "B" (.int 0) → Fld Z h' a "java/lang/String" "value" "[B" (.ref b) → Arv Z h' b k .byte z vs (.int 0) → (∀ x ∈ Sf', x ≠ a ∧ x ≠ b) → (∀ (x : Addr) (C : String), Exa Z h' x C → C ≠ "java/lang/String" → C ≠ "[B" → x ≠ a ∧ x ≠ b) → Go l Z n0 R own nm code mL ret (IW Z EL s₀ h'.size Sf') (FW Z EL s₀ n0 R Q) h' (cells + 2) (slots + (n + 4)) (pc + 2) Ls (.ref a :: st)) :
    Go l Z n0 R own nm code mL ret (IW Z EL s₀ lo Sf) (FW Z EL s₀ n0 R Q) h cells slots pc Ls st := by
  intro p e s m args below meth c T locs hx hZ ho hn hc hm hr' hk X N eT hJ
  obtain ⟨vm0, k0, rfl, hZ0, hS, hkk, hC, hSfe⟩ := hJ
  obtain ⟨a, T', h', k1, b, k, X', e', E', hS', hk1, hZ', ho', x1, x2, x3, x4, -, -, hC', -, hne, stp⟩ := ldcCH (s := s₀) X hx hZ0 ho w wS eT hS hkk hEL hmem hC.1 ht hz hl (g := mkF m pc Ls st) rfl (hb hc hd) hn0 hbig hc1 hs1
  have sf : ∀ x ∈ Sf', Safe Z EL T'.vm h' x := fun x q => hC'.safe (hSf x q).2 (hSfe x (hSf x q).1)
  have J' : IW Z EL s₀ h'.size Sf' (s₀.setVm T'.vm) h' := ⟨T'.vm, k1, rfl, hZ', hS', hk1, hC.trans hC', fun x q => q.elim Safe.new (sf x)⟩
  obtain ⟨s₂, v, L, h1, r⟩ := hr h' a b k E' x1 x2 x3 x4 (fun x q => hne x (sf x q)) (fun x C EX c1 c2 => hne x (Safe.exa hZ'.alike EX c1 c2)) p e (s₀.setVm T'.vm) m args below meth c T' _ hx hZ' ho' hn hc hm hr' hk X' N e' J'
  exact ⟨s₂, v, L, stp _ h1, r⟩
/-! calls of bodies that may load constants -/
theorem backW {p : Program} {e : Env} {below : List Frame} {args : Array Value} {vm0 : Vm} {o' n' d' : String} {bytes : ByteArray} {maxL : Nat} {rt : Option FieldType} {rm : Room} {len W : Nat} {as' : Array Value} {Q' : Option Value → Heap → Prop}
    (hM : CtW l Z EL n0 o' n' d' [] bytes maxL rt rm as' h Sf Q')
    (hZ : Z.Warmed39 vm0) (wc : (Cond.code (⟨o', n', d'⟩ : MethodName) bytes maxL rt).before a0 Z = true) (wz : (Cond.initialized o').before a0 Z = true) (hf : rm.frames + 1 ≤ R.frames) (hl : W + (maxL + 11) + rm.locals ≤ R.locals) (hEL : EW Z a0 EL) (H : CHv Z EL vm0 h) (hSf : ∀ x ∈ Sf, x < h.size ∧ Safe Z EL vm0 h x) :
    BackS l R p e below (s₀.setVm vm0) args (⟨o', n', d'⟩ : MethodName) len W (fun A a => a = as' ∧ A.U.heap = h ∧ A.cells + rm.cells ≤ R.cells ∧ A.slots + rm.slots ≤ R.slots)
      (fun A _ v B => ∃ L, (Fr n0 L ∧ Q' v B.U.heap) ∧ B.locs = A.locs ++ L ∧ B.cells = A.cells + rm.cells ∧ B.slots = A.slots + rm.slots ∧ CHr Z EL vm0 h B.U.vm B.U.heap) :=
  BackS.of_freeW (bytes := bytes) (maxL := maxL) (ret := rt) (E := fun _ first o t L k n => k = rm.cells ∧ n = rm.slots ∧ (∃ v, o = .returned v ∧ (Fr n0 L ∧ Q' v t.heap)) ∧ CHr Z EL first.vm first.heap t.vm t.heap) hM hf hl
    (fun m meth c A a Y hp => have hU : Z.Warmed39 A.U.vm := wtrans (s := s₀.setVm vm0) hZ Y.warmed
      ⟨by show (Cond.and _ .tt).before a A.U = true; rw [Cond.before_and, mv hU wc]; rfl, mv hU wc, mv hU wz, hp.2.2.1, hp.2.2.2⟩)
    (fun m meth c A a g mk Y hp => ⟨hp.1, wtrans (s := s₀.setVm vm0) hZ Y.warmed, hp.2.1, (CHv.at Y hZ hEL H).1, fun x q => (CHv.at Y hZ hEL H).safe (hSf x q).1 (hSf x q).2⟩) (fun _ _ _ _ _ _ _ _ _ => trivial)
    (fun _ _ _ _ ⟨v, L, h1, h2, h3, h4⟩ => ⟨L, _, _, h4, rfl, rfl, ⟨v, h1, h2⟩, h3⟩)
    (fun m meth c A a g mk v t L k n Y hp _ _ ⟨e1, e2, ⟨v', e3, e4⟩, e5⟩ => by
      cases e3; subst e1 e2
      refine ⟨L, e4, rfl, rfl, rfl, (CHv.at Y hZ hEL H).trans ?_⟩
      rw [← hp.2.1]; exact e5)
/-- behind such a call -/
theorem afterW {p : Program} {e : Env} {m : MethodId} {args : Array Value} {below : List Frame} {meth : Method} {c : Code} {vm0 : Vm} {k0 : Nat} {T' : State} {locs : List Loc} (Sf' : List Addr) (hZ0 : Z.Warmed39 vm0) (hS : s₀.Since vm0 k0) (hkk : k0 ≤ h.size) (hC : CHr Z EL s₀.vm s₀.heap vm0 h) (hSfe : ∀ x, (lo ≤ x ∨ x ∈ Sf) → Safe Z EL vm0 h x) (hSf : ∀ x ∈ Sf', (lo ≤ x ∨ x ∈ Sf) ∧ x < h.size) (ho : (s₀.setVm vm0).vm.findClass own = some m.cls)
    (X' : Stand p l e R ((s₀.setVm vm0).setVm T'.vm) m args below meth c T' locs cells slots) (h2 : (s₀.setVm vm0).Since T'.vm T'.heap.size) (hg : h.size ≤ T'.heap.size) (hC' : CHr Z EL vm0 h T'.vm T'.heap) :
    Stand p l e R (s₀.setVm T'.vm) m args below meth c T' locs cells slots ∧ Z.Warmed39 (s₀.setVm T'.vm).vm ∧ (s₀.setVm T'.vm).vm.findClass own = some m.cls ∧ IW Z EL s₀ T'.heap.size Sf' (s₀.setVm T'.vm) T'.heap := by
  obtain ⟨r1, r2, r3, r4⟩ := rebS (Z := Z) hS hkk X' h2 hg hZ0 ho
  exact ⟨r1, r3, r4, T'.vm, T'.heap.size, rfl, r3, r2, Nat.le_refl _, hC.trans hC', fun x q => q.elim Safe.new fun q => hC'.safe (hSf x q).2 (hSfe x (hSf x q).1)⟩
theorem GW.callS {o' n' d' : String} {bytes : ByteArray} {mL' index : Nat} {rt : Option FieldType} {rm : Room} (Sf' Sc : List Addr) (as' rest : List Value) {Q' : Option Value → Heap → Prop} {ps : List FieldType} {r : Option FieldType}
    (hC : CtW l Z EL n0 o' n' d' [] bytes mL' rt rm as'.toArray h Sc Q') (hEL : EW Z a0 EL) (hSc : ∀ x ∈ Sc, (lo ≤ x ∨ x ∈ Sf) ∧ x < h.size) (hSf : ∀ x ∈ Sf', (lo ≤ x ∨ x ∈ Sf) ∧ x < h.size) (w1 : (Cond.methodLink own index (⟨o', n', d'⟩ : MethodName)).before a0 Z = true) (w2 : (Cond.static (⟨o', n', d'⟩ : MethodName)).before a0 Z = true) (w3 : (Cond.initialized o').before a0 Z = true) (w4 : (Cond.code (⟨o', n', d'⟩ : MethodName) bytes mL' rt).before a0 Z = true)
    (hy : o' ≠ "java/lang/invoke/MethodHandle" ∧ o' ≠ "java/lang/invoke/VarHandle") (hpd : parseMethodDescriptor d' = some ⟨ps, r⟩) (hlen : as'.length = ps.length) (hst : st = as'.reverse ++ rest) (hsz : Ls.size = mL) (hf : rm.frames + 1 ≤ R.frames) (hlo : (rest.map fun v => v.category).sum + (mL' + 11) + rm.locals ≤ R.locals) (hc1 : cells + rm.cells ≤ R.cells) (hs1 : slots + rm.slots ≤ R.slots)
    (hd : decode code pc = .ok (.invokestatic index, 3)) (hr : ∀ v h', Q' v h' → h.size ≤ h'.size → Go l Z n0 R own nm code mL ret (IW Z EL s₀ h'.size Sf') (FW Z EL s₀ n0 R Q) h' (cells + rm.cells) (slots + rm.slots) (pc + 3) Ls (v.toList ++ rest)) : Go l Z n0 R own nm code mL ret (IW Z EL s₀ lo Sf) (FW Z EL s₀ n0 R Q) h cells slots pc Ls st := by
  intro p e s m args below meth c T locs hx hZ ho hn hc hm hr' hk X N eT hJ
  obtain ⟨vm0, k0, rfl, hZ0, hS, hkk, hCC, hSfe⟩ := hJ
  obtain ⟨v, _, ⟨T', L', k', n''⟩, -, X', hS2, hg2, ⟨Lc, ⟨N', hQ'⟩, l1, l2, l3, hC'⟩, stp⟩ := Jvm.RoadKit.callSS X hx (y := (⟨o', n', d'⟩ : MethodName)) ho (mvT hZ w1) (mvT hZ w2) (mvT hZ w3) (mvT hZ w4) hy (backW (W := (rest.map fun v => v.category).sum) hC hZ0 w4 w3 hf hlo hEL hCC.1 (fun x q => ⟨(hSc x q).2, hSfe x (hSc x q).1⟩)) (g := mkF m pc Ls st) rfl (hsz.trans hm.symm) (argsL := as') (rest := rest) (lenOf hpd hlen) hst (by show 2 * 0 + _ ≤ _; omega) (hb hc hd) (fun _ _ => ⟨rfl, eT, hc1, hs1⟩)
  dsimp only [Pt.U, Pt.locs, Pt.cells, Pt.slots] at X' l1 l2 l3 stp hQ' hS2 hg2 hC'
  subst l1 l2 l3
  rw [eT] at hg2
  obtain ⟨r1, r2, r3, J'⟩ := afterW Sf' hZ0 hS hkk hCC hSfe hSf ho X' hS2 hg2 hC'
  obtain ⟨s₂, v2, L, h1, r⟩ := hr v T'.heap hQ' hg2 p e _ m args below meth c T' _ hx r2 r3 hn hc hm hr' hk r1 (Fr.app N N') rfl J'
  exact ⟨s₂, v2, L, stp.trans h1, r⟩
theorem GW.callI {o' d' : String} {bytes : ByteArray} {mL' index : Nat} {rm : Room} (Sf' Sc : List Addr) (a : Addr) (as' rest : List Value) {Q' : Option Value → Heap → Prop} {ps : List FieldType} {r : Option FieldType}
    (hC : CtW l Z EL n0 o' "<init>" d' [] bytes mL' none rm (.ref a :: as').toArray h Sc Q') (hEL : EW Z a0 EL) (hSc : ∀ x ∈ Sc, (lo ≤ x ∨ x ∈ Sf) ∧ x < h.size) (hSf : ∀ x ∈ Sf', (lo ≤ x ∨ x ∈ Sf) ∧ x < h.size) (w1 : (Cond.methodLink own index (⟨o', "<init>", d'⟩ : MethodName)).before a0 Z = true) (w2 : (Cond.instanceMethod (⟨o', "<init>", d'⟩ : MethodName)).before a0 Z = true) (w3 : (Cond.initialized o').before a0 Z = true) (w4 : (Cond.code (⟨o', "<init>", d'⟩ : MethodName) bytes mL' none).before a0 Z = true)
    (hy : o' ≠ "java/lang/invoke/MethodHandle" ∧ o' ≠ "java/lang/invoke/VarHandle") (hpd : parseMethodDescriptor d' = some ⟨ps, r⟩) (hlen : as'.length = ps.length) (hst : st = as'.reverse ++ .ref a :: rest) (hsz : Ls.size = mL) (hf : rm.frames + 1 ≤ R.frames) (hlo : (rest.map fun v => v.category).sum + (mL' + 11) + rm.locals ≤ R.locals) (hc1 : cells + rm.cells ≤ R.cells) (hs1 : slots + rm.slots ≤ R.slots)
    (hd : decode code pc = .ok (.invokespecial index, 3)) (hr : ∀ v h', Q' v h' → h.size ≤ h'.size → Go l Z n0 R own nm code mL ret (IW Z EL s₀ h'.size Sf') (FW Z EL s₀ n0 R Q) h' (cells + rm.cells) (slots + rm.slots) (pc + 3) Ls (v.toList ++ rest)) : Go l Z n0 R own nm code mL ret (IW Z EL s₀ lo Sf) (FW Z EL s₀ n0 R Q) h cells slots pc Ls st := by
  intro p e s m args below meth c T locs hx hZ ho hn hc hm hr' hk X N eT hJ
  obtain ⟨vm0, k0, rfl, hZ0, hS, hkk, hCC, hSfe⟩ := hJ
  obtain ⟨v, _, ⟨T', L', k', n''⟩, -, X', hS2, hg2, ⟨Lc, ⟨N', hQ'⟩, l1, l2, l3, hC'⟩, stp⟩ := X.specialBackS hx (y := (⟨o', "<init>", d'⟩ : MethodName)) rfl ho (mvT hZ w1) (mvT hZ w2) (mvT hZ w4) hy (backW (W := (rest.map fun v => v.category).sum) hC hZ0 w4 w3 hf hlo hEL hCC.1 (fun x q => ⟨(hSc x q).2, hSfe x (hSc x q).1⟩)) (g := mkF m pc Ls st) rfl (hsz.trans hm.symm) (Steps.refl _) (a := a) (argsL := as') (rest := rest) (lenOf hpd hlen) hst (by show 2 * 0 + _ ≤ _; omega) (hb hc hd) (fun _ _ => ⟨rfl, eT, hc1, hs1⟩)
  dsimp only [Pt.U, Pt.locs, Pt.cells, Pt.slots] at X' l1 l2 l3 stp hQ' hS2 hg2 hC'
  subst l1 l2 l3
  rw [eT] at hg2
  obtain ⟨r1, r2, r3, J'⟩ := afterW Sf' hZ0 hS hkk hCC hSfe hSf ho X' hS2 hg2 hC'
  obtain ⟨s₂, v2, L, h1, r⟩ := hr v T'.heap hQ' hg2 p e _ m args below meth c T' _ hx r2 r3 hn hc hm hr' hk r1 (Fr.app N N') rfl J'
  exact ⟨s₂, v2, L, stp.trans h1, r⟩
theorem GW.callV {o' n' d' C oz : String} {bytes : ByteArray} {mL' index : Nat} {rt : Option FieldType} {rm : Room} (Sf' Sc : List Addr) (a : Addr) (as' rest : List Value) {Q' : Option Value → Heap → Prop} {ps : List FieldType} {r : Option FieldType}
    (hC : CtW l Z EL n0 oz n' d' [] bytes mL' rt rm (.ref a :: as').toArray h Sc Q') (E : Exa Z h a C) (hEL : EW Z a0 EL) (hSc : ∀ x ∈ Sc, (lo ≤ x ∨ x ∈ Sf) ∧ x < h.size) (hSf : ∀ x ∈ Sf', (lo ≤ x ∨ x ∈ Sf) ∧ x < h.size) (w1 : (Cond.methodLink own index (⟨o', n', d'⟩ : MethodName)).before a0 Z = true) (w2 : (Cond.declares (⟨o', n', d'⟩ : MethodName)).before a0 Z = true) (nf : ∀ s : State, Z.Warmed39 s.vm → NotFace s (⟨o', n', d'⟩ : MethodName)) (w3 : (Cond.selects C (⟨o', n', d'⟩ : MethodName) (⟨oz, n', d'⟩ : MethodName)).before a0 Z = true) (w4 : (Cond.instanceMethod (⟨oz, n', d'⟩ : MethodName)).before a0 Z = true) (w5 : (Cond.initialized oz).before a0 Z = true) (w6 : (Cond.code (⟨oz, n', d'⟩ : MethodName) bytes mL' rt).before a0 Z = true)
    (hy : o' ≠ "java/lang/invoke/MethodHandle" ∧ o' ≠ "java/lang/invoke/VarHandle") (hpd : parseMethodDescriptor d' = some ⟨ps, r⟩) (hlen : as'.length = ps.length) (hst : st = as'.reverse ++ .ref a :: rest) (hsz : Ls.size = mL) (hf : rm.frames + 1 ≤ R.frames) (hlo : (rest.map fun v => v.category).sum + (mL' + 11) + rm.locals ≤ R.locals) (hc1 : cells + rm.cells ≤ R.cells) (hs1 : slots + rm.slots ≤ R.slots)
    (hd : decode code pc = .ok (.invokevirtual index, 3)) (hr : ∀ v h', Q' v h' → h.size ≤ h'.size → Go l Z n0 R own nm code mL ret (IW Z EL s₀ h'.size Sf') (FW Z EL s₀ n0 R Q) h' (cells + rm.cells) (slots + rm.slots) (pc + 3) Ls (v.toList ++ rest)) : Go l Z n0 R own nm code mL ret (IW Z EL s₀ lo Sf) (FW Z EL s₀ n0 R Q) h cells slots pc Ls st := by
  intro p e s m args below meth c T locs hx hZ ho hn hc hm hr' hk X N eT hJ
  obtain ⟨vm0, k0, rfl, hZ0, hS, hkk, hCC, hSfe⟩ := hJ
  obtain ⟨cq, kq, qa, qb, qc⟩ := isOf hZ eT E
  obtain ⟨v, _, ⟨T', L', k', n''⟩, -, X', hS2, hg2, ⟨Lc, ⟨N', hQ'⟩, l1, l2, l3, hC'⟩, stp⟩ := X.virtualBackS hx (y := (⟨o', n', d'⟩ : MethodName)) (z := (⟨oz, n', d'⟩ : MethodName)) ho (mvT hZ w1) (mvT hZ w2) (nf _ hZ) (mvT hZ w3) (mvT hZ w4) hy (backW (W := (rest.map fun v => v.category).sum) hC hZ0 w6 w5 hf hlo hEL hCC.1 (fun x q => ⟨(hSc x q).2, hSfe x (hSc x q).1⟩)) qa qc (g := mkF m pc Ls st) rfl (hsz.trans hm.symm) (Steps.refl _) (argsL := as') (rest := rest) (lenOf hpd hlen) hst (by show 2 * 0 + _ ≤ _; omega) (hb hc hd) (fun _ _ => ⟨rfl, eT, hc1, hs1⟩)
  dsimp only [Pt.U, Pt.locs, Pt.cells, Pt.slots] at X' l1 l2 l3 stp hQ' hS2 hg2 hC'
  subst l1 l2 l3
  rw [eT] at hg2
  obtain ⟨r1, r2, r3, J'⟩ := afterW Sf' hZ0 hS hkk hCC hSfe hSf ho X' hS2 hg2 hC'
  obtain ⟨s₂, v2, L, h1, r⟩ := hr v T'.heap hQ' hg2 p e _ m args below meth c T' _ hx r2 r3 hn hc hm hr' hk r1 (Fr.app N N') rfl J'
  exact ⟨s₂, v2, L, stp.trans h1, r⟩
end Wide
end Jvm.Own
/- laws to paste: Road.backV (cut by pick.py; bodies as the Statement names them) -/
namespace Jvm.Pilot.@@N@@
namespace StrChars
open Jvm Sem ClassFile Op Lib Jvm.Stand Jvm.Free.XT Jvm.Free.ALB Jvm.Free.JM Jvm.Free
open Jvm.Lib.Cold (StaticIs)
/-- a char array whose places are chars -/
def Ch (a : Addr) (A : Cell) (U : State) : Prop := Arr .char a A U ∧ Typed .char A
theorem Ch.mv {a : Addr} {A : Cell} {U U' : State} (h : Ch a A U) (hal : U.vm.Alike U'.vm) (hh : U'.heap = U.heap) : Ch a A U' := ⟨h.1.mv hal hh, h.2⟩
theorem Ch.keep {a : Addr} {A : Cell} {U U' : State} (h : Ch a A U) (hal : U.vm.Alike U'.vm) (hk : U'.heap[a]? = some A) : Ch a A U' := ⟨h.1.keep hal hk, h.2⟩
/-- what place i of a char[]'s cell holds -/
def cv (A : Cell) (i : Nat) : Int32 := match A.slots[i]? with | some (.int x) => x | _ => 0
theorem Ch.get {a : Addr} {A : Cell} {U : State} (h : Ch a A U) {i : Nat} (hi : i < A.slots.size) : A.slots[i]? = some (.int (cv A i)) := by
  have e := Array.getElem?_eq_getElem hi
  have f := h.2 i _ e
  unfold cv; rw [e]
  generalize A.slots[i] = v at f
  cases v <;> simp [fits] at f ⊢
/-- the byte that i2b leaves of a char -/
def lo8 (x : Int32) : Int32 := x.toInt8.toInt32
theorem fits_lo8 (y : Int32) : fits .byte (.int (lo8 y)) = true := by
  have h1 := y.toInt8.le_toInt
  have h2 := y.toInt8.toInt_lt
  simp only [lo8, fits, Bool.and_eq_true, decide_eq_true_eq, Int32.le_iff_toInt_le, Int8.toInt_toInt32, show (-128 : Int32).toInt = -128 from by decide, show (127 : Int32).toInt = 127 from by decide]
  omega
/-- A' is A but that each place j of lo .. hi - 1 holds f j -/
def Laid (A A' : Cell) (lo hi : Nat) (f : Nat → Value) : Prop := A'.cls = A.cls ∧ A'.vm = A.vm ∧ A'.slots.size = A.slots.size ∧ ∀ i, A'.slots[i]? = if lo ≤ i ∧ i < hi then some (f i) else A.slots[i]?
theorem Laid.zero (A : Cell) (lo : Nat) (f : Nat → Value) : Laid A A lo (lo + 0) f := ⟨rfl, rfl, rfl, fun i => by rw [if_neg (by omega)]⟩
theorem Laid.step {A Ak : Cell} {lo k : Nat} {f : Nat → Value} {v : Value} (h : Laid A Ak lo k f) (hlo : lo ≤ k) (hk : k < Ak.slots.size) (hv : v = f k) : Laid A (Ak.setSlot k v) lo (k + 1) f := by
  refine ⟨h.1, h.2.1, by simpa [Cell.setSlot] using h.2.2.1, fun i => ?_⟩
  by_cases e : k = i
  · subst e; rw [Cell.slots_setSlot_self v hk, if_pos (by omega), hv]
  · rw [Cell.slots_setSlot_ne v e, h.2.2.2 i]
    by_cases q : lo ≤ i ∧ i < k
    · rw [if_pos q, if_pos (by omega)]
    · rw [if_neg q, if_neg (by omega)]
def U16 : String := "java/lang/StringUTF16"
namespace Cmp5
def yN : MethodName := ⟨"java/lang/StringUTF16", "compress", "([CI[BII)I"⟩
abbrev yB : ByteArray := jdk_52_method_21_code
theorem d0 : decode yB 0 = .ok (.iconst 0, 1) := by decide +kernel
theorem d1 : decode yB 1 = .ok (.istore 5, 2) := by decide +kernel
theorem d3 : decode yB 3 = .ok (.iload 5, 2) := by decide +kernel
theorem d5 : decode yB 5 = .ok (.iload 4, 2) := by decide +kernel
theorem d7 : decode yB 7 = .ok (.if_icmp (.ge) 37, 3) := by decide +kernel
theorem d10 : decode yB 10 = .ok (.aload_n 0, 1) := by decide +kernel
theorem d11 : decode yB 11 = .ok (.iload_n 1, 1) := by decide +kernel
theorem d12 : decode yB 12 = .ok (.caload, 1) := by decide +kernel
theorem d13 : decode yB 13 = .ok (.istore 6, 2) := by decide +kernel
theorem d15 : decode yB 15 = .ok (.iload 6, 2) := by decide +kernel
theorem d17 : decode yB 17 = .ok (.sipush 255, 3) := by decide +kernel
theorem d20 : decode yB 20 = .ok (.if_icmp (.le) 6, 3) := by decide +kernel
theorem d26 : decode yB 26 = .ok (.aload_n 2, 1) := by decide +kernel
theorem d27 : decode yB 27 = .ok (.iload_n 3, 1) := by decide +kernel
theorem d28 : decode yB 28 = .ok (.iload 6, 2) := by decide +kernel
theorem d30 : decode yB 30 = .ok (.i2b, 1) := by decide +kernel
theorem d31 : decode yB 31 = .ok (.bastore, 1) := by decide +kernel
theorem d32 : decode yB 32 = .ok (.iinc 1 1, 3) := by decide +kernel
theorem d35 : decode yB 35 = .ok (.iinc 3 1, 3) := by decide +kernel
theorem d38 : decode yB 38 = .ok (.iinc 5 1, 3) := by decide +kernel
theorem d41 : decode yB 41 = .ok (.goto (-38), 3) := by decide +kernel
theorem d44 : decode yB 44 = .ok (.iload 4, 2) := by decide +kernel
theorem d46 : decode yB 46 = .ok (.ireturn, 1) := by decide +kernel
def site : List Cond := []
def tab : Cond := tabOf yN yB 7 (some .int) site
def P (b : Addr) (A : Cell) (d : Addr) (B : Cell) (o q len : Nat) (args : Array Value) (s : State) : Prop := args = #[.ref b, .int (Int32.ofNat o), .ref d, .int (Int32.ofNat q), .int (Int32.ofNat len)] ∧ Ch b A s ∧ Arr .byte d B s ∧ b ≠ d ∧ o + len ≤ A.slots.size ∧ q + len ≤ B.slots.size ∧ ∀ i, i < len → ¬ 255 < cv A (o + i)
def E (b : Addr) (A : Cell) (d : Addr) (B : Cell) (o q len : Nat) (r : Option Value) (s u : State) : Prop := r = some (.int (Int32.ofNat len)) ∧ ∃ B', Put d B' s u ∧ Laid B B' q (q + len) (fun j => Value.int (lo8 (cv A (o + (j - q)))))
/-- no char of the range above 255: len; the places written hold each char's low byte -/
theorem law (l : Launch) (b : Addr) (A : Cell) (d : Addr) (B : Cell) (o q len : Nat) : Law l yN 5 5 0 0 yB 7 (some .int) site (P b A d B o q len) (E b A d B o q len) (copyLocs d q len) 0 0 := by
  refine Law.of_walk (plainFor_of_name (by decide +kernel)) (by decide +kernel) (by decide +kernel) (by decide) (fun _ _ h => by rw [h.1]; rfl) (fun _ U U' hal hh h => ⟨h.1, h.2.1.mv hal hh, h.2.2.1.mv hal hh, h.2.2.2⟩) (fun r U U' V V' h1 hal h2 h => ⟨h.1, h.2.elim fun B' q => ⟨B', q.1.mv h1 h2, q.2⟩⟩) ?_
  intro p e s m args below meth c s₁ X0 hexec hbytes hml hret hlk hnm hown hh0 W hP
  obtain ⟨rfl, hA, hB, hne, l1, l2, hp⟩ := hP
  have c1 : Steps p.tables e below (s₁.setTop (entryFrame m #[.ref b, .int (Int32.ofNat o), .ref d, .int (Int32.ofNat q), .int (Int32.ofNat len)] 7)) (s₁.setTop (mkF m 0 #[.val (.ref b), .val (.int (Int32.ofNat o)), .val (.ref d), .val (.int (Int32.ofNat q)), .val (.int (Int32.ofNat len)), .unset, .unset] [])) := entry rfl
  have hA0 := hA.1.mv X0.warmed.alike hh0
  have hB0 := hB.mv X0.warmed.alike hh0
  have a31 := hA.1.2.2.2
  have c2 : Steps p.tables e below (s₁.setTop (entryFrame m #[.ref b, .int (Int32.ofNat o), .ref d, .int (Int32.ofNat q), .int (Int32.ofNat len)] 7)) (s₁.setTop (mkF m 3 #[.val (.ref b), .val (.int (Int32.ofNat o)), .val (.ref d), .val (.int (Int32.ofNat q)), .val (.int (Int32.ofNat len)), .val (.int 0), .unset] [])) := c1.trans (by
    refine iconstV X0.here hexec rfl 0 (hb hbytes d0) (by decide) ?_
    refine XS.istore X0.here hexec rfl (hb hbytes d1) rfl rfl ?_
    exact Steps.refl _)
  have loop : ∀ (r i : Nat), i + r = len → ∀ (z : Slot), (z = .unset ∨ ∃ w, z = .val w ∧ w.category = 1) → ∀ (Tl : State) (Bk : Cell), Stand p l e { frames := 0, locals := 0, cells := 0, slots := 0 } s m #[.ref b, .int (Int32.ofNat o), .ref d, .int (Int32.ofNat q), .int (Int32.ofNat len)] below meth c Tl ([] ++ copyLocs d q i) 0 0 → Put d Bk s₁ Tl → Laid B Bk q (q + i) (fun j => Value.int (lo8 (cv A (o + (j - q))))) →
      Steps p.tables e below (s₁.setTop (entryFrame m #[.ref b, .int (Int32.ofNat o), .ref d, .int (Int32.ofNat q), .int (Int32.ofNat len)] 7)) (Tl.setTop (mkF m 3 #[.val (.ref b), .val (.int (Int32.ofNat (o + i))), .val (.ref d), .val (.int (Int32.ofNat (q + i))), .val (.int (Int32.ofNat len)), .val (.int (Int32.ofNat i)), z] [])) → ∃ (T' : State) (B' : Cell) (z' : Slot), Stand p l e { frames := 0, locals := 0, cells := 0, slots := 0 } s m #[.ref b, .int (Int32.ofNat o), .ref d, .int (Int32.ofNat q), .int (Int32.ofNat len)] below meth c T' ([] ++ copyLocs d q len) 0 0 ∧ Put d B' s₁ T' ∧ Laid B B' q (q + len) (fun j => Value.int (lo8 (cv A (o + (j - q))))) ∧
      Steps p.tables e below (s₁.setTop (entryFrame m #[.ref b, .int (Int32.ofNat o), .ref d, .int (Int32.ofNat q), .int (Int32.ofNat len)] 7)) (T'.setTop (mkF m 3 #[.val (.ref b), .val (.int (Int32.ofNat (o + len))), .val (.ref d), .val (.int (Int32.ofNat (q + len))), .val (.int (Int32.ofNat len)), .val (.int (Int32.ofNat len)), z'] [])) := by
    intro r
    induction r with
    | zero =>
      intro i hi z hz Tl Bk Xl pl fl cl
      have hil : i = len := by omega
      rw [hil] at Xl fl cl
      exact ⟨Tl, Bk, z, Xl, pl, fl, cl⟩
    | succ r ih =>
      intro i hi z hz Tl Bk Xl pl fl cl
      have all := X0.warmed.alike.symm.trans Xl.warmed.alike
      have hAl := hA0.keep all (pl.other hne hA0.1)
      have hBk := hB0.like all pl.1 fl.1 fl.2.1 fl.2.2.1
      have hlt : q + i < Bk.slots.size := by rw [fl.2.2.1]; omega
      have c3 : Steps p.tables e below (s₁.setTop (entryFrame m #[.ref b, .int (Int32.ofNat o), .ref d, .int (Int32.ofNat q), .int (Int32.ofNat len)] 7)) (Tl.setTop (mkF m 12 #[.val (.ref b), .val (.int (Int32.ofNat (o + i))), .val (.ref d), .val (.int (Int32.ofNat (q + i))), .val (.int (Int32.ofNat len)), .val (.int (Int32.ofNat i)), z] [.int (Int32.ofNat (o + i)), .ref b])) := cl.trans (by
        refine XS.iload Xl.here hexec rfl (hb hbytes d3) rfl ?_
        refine XS.iload Xl.here hexec rfl (hb hbytes d5) rfl ?_
        refine XS.icmpNo Xl.here hexec rfl (hb hbytes d7) rfl (ii_ge_f (lt32 (by omega) (by omega))) ?_
        refine XS.aloadN Xl.here hexec rfl (hb hbytes d10) rfl rfl ?_
        refine XS.iloadN Xl.here hexec rfl (hb hbytes d11) rfl ?_
        exact Steps.refl _)
      have c4 : Steps p.tables e below (s₁.setTop (entryFrame m #[.ref b, .int (Int32.ofNat o), .ref d, .int (Int32.ofNat q), .int (Int32.ofNat len)] 7)) (Tl.setTop (mkF m 13 #[.val (.ref b), .val (.int (Int32.ofNat (o + i))), .val (.ref d), .val (.int (Int32.ofNat (q + i))), .val (.int (Int32.ofNat len)), .val (.int (Int32.ofNat i)), z] [.int (cv A (o + i))])) := c3.trans (by
        refine Xl.aget hexec hAl rfl (hA.get (i := o + i) (by omega)) rfl rfl (hb hbytes d12) ?_
        exact Steps.refl _)
      have c5 : Steps p.tables e below (s₁.setTop (entryFrame m #[.ref b, .int (Int32.ofNat o), .ref d, .int (Int32.ofNat q), .int (Int32.ofNat len)] 7)) (Tl.setTop (mkF m 15 #[.val (.ref b), .val (.int (Int32.ofNat (o + i))), .val (.ref d), .val (.int (Int32.ofNat (q + i))), .val (.int (Int32.ofNat len)), .val (.int (Int32.ofNat i)), .val (.int (cv A (o + i)))] [])) := c4.trans (by
        refine XS.istoreS Xl.here hexec rfl (hb hbytes d13) rfl rfl hz ?_
        exact Steps.refl _)
      have c6 : Steps p.tables e below (s₁.setTop (entryFrame m #[.ref b, .int (Int32.ofNat o), .ref d, .int (Int32.ofNat q), .int (Int32.ofNat len)] 7)) (Tl.setTop (mkF m 31 #[.val (.ref b), .val (.int (Int32.ofNat (o + i))), .val (.ref d), .val (.int (Int32.ofNat (q + i))), .val (.int (Int32.ofNat len)), .val (.int (Int32.ofNat i)), .val (.int (cv A (o + i)))] [.int (lo8 (cv A (o + i))), .int (Int32.ofNat (q + i)), .ref d])) := c5.trans (by
        refine XS.iload Xl.here hexec rfl (hb hbytes d15) rfl ?_
        refine sipushV Xl.here hexec rfl 255 (hb hbytes d17) (by decide) ?_
        refine XS.icmpYes Xl.here hexec rfl (pc0 := 20) rfl (hb hbytes d20) rfl (ii_le_t (hp i (by omega))) (by decide) rfl ?_
        refine XS.aloadN Xl.here hexec rfl (hb hbytes d26) rfl rfl ?_
        refine XS.iloadN Xl.here hexec rfl (hb hbytes d27) rfl ?_
        refine XS.iload Xl.here hexec rfl (hb hbytes d28) rfl ?_
        refine i2b Xl.here hexec rfl (hb hbytes d30) rfl ?_
        exact Steps.refl _)
      obtain ⟨T7, X7, p7, st7⟩ := Xl.aput hexec hBk rfl hlt rfl (fits_lo8 (cv A (o + i))) (g := (mkF m 31 #[.val (.ref b), .val (.int (Int32.ofNat (o + i))), .val (.ref d), .val (.int (Int32.ofNat (q + i))), .val (.int (Int32.ofNat len)), .val (.int (Int32.ofNat i)), .val (.int (cv A (o + i)))] [.int (lo8 (cv A (o + i))), .int (Int32.ofNat (q + i)), .ref d])) rfl (rest := []) rfl (hb hbytes d31)
      have c8 : Steps p.tables e below (s₁.setTop (entryFrame m #[.ref b, .int (Int32.ofNat o), .ref d, .int (Int32.ofNat q), .int (Int32.ofNat len)] 7)) (T7.setTop (mkF m 32 #[.val (.ref b), .val (.int (Int32.ofNat (o + i))), .val (.ref d), .val (.int (Int32.ofNat (q + i))), .val (.int (Int32.ofNat len)), .val (.int (Int32.ofNat i)), .val (.int (cv A (o + i)))] [])) := c6.trans (st7 _ (Steps.refl _))
      have c9 : Steps p.tables e below (s₁.setTop (entryFrame m #[.ref b, .int (Int32.ofNat o), .ref d, .int (Int32.ofNat q), .int (Int32.ofNat len)] 7)) (T7.setTop (mkF m 3 #[.val (.ref b), .val (.int (Int32.ofNat (o + i) + 1)), .val (.ref d), .val (.int (Int32.ofNat (q + i) + 1)), .val (.int (Int32.ofNat len)), .val (.int (Int32.ofNat i + 1)), .val (.int (cv A (o + i)))] [])) := c8.trans (by
        refine iincV X7.here hexec rfl 1 (hb hbytes d32) (by decide) rfl rfl ?_
        refine iincV X7.here hexec rfl 1 (hb hbytes d35) (by decide) rfl rfl ?_
        refine iincV X7.here hexec rfl 1 (hb hbytes d38) (by decide) rfl rfl ?_
        refine XS.goto X7.here hexec rfl (pc0 := 41) rfl (hb hbytes d41) (by decide) rfl ?_
        exact Steps.refl _)
      have c10 : Steps p.tables e below (s₁.setTop (entryFrame m #[.ref b, .int (Int32.ofNat o), .ref d, .int (Int32.ofNat q), .int (Int32.ofNat len)] 7)) (T7.setTop (mkF m 3 #[.val (.ref b), .val (.int (Int32.ofNat (o + (i + 1)))), .val (.ref d), .val (.int (Int32.ofNat (q + (i + 1)))), .val (.int (Int32.ofNat len)), .val (.int (Int32.ofNat (i + 1))), .val (.int (cv A (o + i)))] [])) := by
        have := c9
        rw [succ32, succ32, succ32] at this
        exact this
      exact ih (i + 1) (by omega) _ (Or.inr ⟨_, rfl, rfl⟩) T7 _ (by rw [copyLocs_step, ← List.append_assoc]; exact X7) (pl.trans p7) (fl.step (by omega) hlt (by simp)) c10
  obtain ⟨T9, B9, z9, X9, p9, f9, g9⟩ := loop len 0 (by omega) .unset (Or.inl rfl) s₁ B (by simpa [copyLocs] using X0) ⟨hB0.1, fun _ _ => rfl, rfl⟩ (Laid.zero _ _ _) c2
  have c11 : Steps p.tables e below (s₁.setTop (entryFrame m #[.ref b, .int (Int32.ofNat o), .ref d, .int (Int32.ofNat q), .int (Int32.ofNat len)] 7)) (T9.setTop (mkF m 46 #[.val (.ref b), .val (.int (Int32.ofNat (o + len))), .val (.ref d), .val (.int (Int32.ofNat (q + len))), .val (.int (Int32.ofNat len)), .val (.int (Int32.ofNat len)), z9] [.int (Int32.ofNat len)])) := g9.trans (by
    refine XS.iload X9.here hexec rfl (hb hbytes d3) rfl ?_
    refine XS.iload X9.here hexec rfl (hb hbytes d5) rfl ?_
    refine XS.icmpYes X9.here hexec rfl (pc0 := 7) rfl (hb hbytes d7) rfl (ii_ge_t (nlt32 (by omega) (Nat.le_refl _))) (by decide) rfl ?_
    refine XS.iload X9.here hexec rfl (hb hbytes d44) rfl ?_
    exact Steps.refl _)
  exact ⟨T9, some (.int (Int32.ofNat len)), _, _, _, X9, by simp, rfl, rfl, (fun h => by cases h), ⟨rfl, B9, p9.from hh0, f9⟩, fun fs hl => c11.trans (X9.ireturnOut hexec hret rfl (Or.inl rfl) (hb hbytes d46) hl)⟩
end Cmp5
namespace Cmp3
def yN : MethodName := ⟨"java/lang/StringUTF16", "compress", "([CII)[B"⟩
abbrev yB : ByteArray := jdk_52_method_16_code
theorem d0 : decode yB 0 = .ok (.iload_n 2, 1) := by decide +kernel
theorem d1 : decode yB 1 = .ok (.newarray .byte, 2) := by decide +kernel
theorem d3 : decode yB 3 = .ok (.astore_n 3, 1) := by decide +kernel
theorem d4 : decode yB 4 = .ok (.aload_n 0, 1) := by decide +kernel
theorem d5 : decode yB 5 = .ok (.iload_n 1, 1) := by decide +kernel
theorem d6 : decode yB 6 = .ok (.aload_n 3, 1) := by decide +kernel
theorem d7 : decode yB 7 = .ok (.iconst 0, 1) := by decide +kernel
theorem d8 : decode yB 8 = .ok (.iload_n 2, 1) := by decide +kernel
theorem d9 : decode yB 9 = .ok (.invokestatic 115, 3) := by decide +kernel
theorem d12 : decode yB 12 = .ok (.istore 4, 2) := by decide +kernel
theorem d14 : decode yB 14 = .ok (.iload 4, 2) := by decide +kernel
theorem d16 : decode yB 16 = .ok (.iload_n 2, 1) := by decide +kernel
theorem d17 : decode yB 17 = .ok (.if_icmp (.eq) 40, 3) := by decide +kernel
theorem d57 : decode yB 57 = .ok (.aload_n 3, 1) := by decide +kernel
theorem d58 : decode yB 58 = .ok (.areturn, 1) := by decide +kernel
def site : List Cond := [.arrayClass .byte, Cmp5.tab] ++ staticW U16 115 Cmp5.yN
def tab : Cond := tabOf yN yB 6 (some (.array .byte)) site
def P (b : Addr) (A : Cell) (o len : Nat) (args : Array Value) (s : State) : Prop := args = #[.ref b, .int (Int32.ofNat o), .int (Int32.ofNat len)] ∧ Ch b A s ∧ o + len ≤ A.slots.size ∧ len ≤ 536870912 ∧ ∀ i, i < len → ¬ 255 < cv A (o + i)
def E (b : Addr) (A : Cell) (o len : Nat) (r : Option Value) (s u : State) : Prop := NewArr .byte "[B" len (fun j => .int (lo8 (cv A (o + j)))) r s u ∧ u.heap.size = s.heap.size + 1
/-- no char of the range above 255: a new byte[] of their low bytes -/
theorem law (l : Launch) (b : Addr) (A : Cell) (o len : Nat) : Law l yN 3 3 1 18 yB 6 (some (.array .byte)) site (P b A o len) (E b A o len) [] 1 len := by
  refine Law.of_walk (plainFor_of_name (by decide +kernel)) (by decide +kernel) (by decide +kernel) (by decide) (fun _ _ h => by rw [h.1]; rfl) (fun _ U U' hal hh h => ⟨h.1, h.2.1.mv hal hh, h.2.2⟩) (fun r U U' V V' h1 hal h2 h => ⟨NewArr.mv r U U' V V' h1 hal h2 h.1, by rw [h1, h2]; exact h.2⟩) ?_
  intro p e s m args below meth c s₁ X0 hexec hbytes hml hret hlk hnm hown hh0 W hP
  obtain ⟨rfl, hA, l1, l2, hp⟩ := hP
  have a31 := hA.1.2.2.2
  have c1 : Steps p.tables e below (s₁.setTop (entryFrame m #[.ref b, .int (Int32.ofNat o), .int (Int32.ofNat len)] 6)) (s₁.setTop (mkF m 0 #[.val (.ref b), .val (.int (Int32.ofNat o)), .val (.int (Int32.ofNat len)), .unset, .unset, .unset] [])) := entry rfl
  have c2 : Steps p.tables e below (s₁.setTop (entryFrame m #[.ref b, .int (Int32.ofNat o), .int (Int32.ofNat len)] 6)) (s₁.setTop (mkF m 1 #[.val (.ref b), .val (.int (Int32.ofNat o)), .val (.int (Int32.ofNat len)), .unset, .unset, .unset] [.int (Int32.ofNat len)])) := c1.trans (by
    refine XS.iloadN X0.here hexec rfl (hb hbytes d0) rfl ?_
    exact Steps.refl _)
  obtain ⟨T3, B3, X3, ba3, bs3, bv3, bh3, bf3, st3⟩ := X0.anew hexec (atype := .byte) (wk W (.arrayClass .byte)) rfl (by show len * 1 ≤ _; omega) (by omega) (g := (mkF m 1 #[.val (.ref b), .val (.int (Int32.ofNat o)), .val (.int (Int32.ofNat len)), .unset, .unset, .unset] [.int (Int32.ofNat len)])) rfl (hb hbytes d1) (rest := []) rfl (Nat.le_refl _) (by show 0 + len ≤ len; omega)
  rw [hh0] at ba3 st3
  have kp3 : XT.Kept s T3 := (XT.Kept.of_eq hh0).push bh3
  have hA3 := hA.keep X3.warmed.alike (kp3 _ _ hA.1.1)
  have hne : b ≠ s.heap.size := hA.1.ne
  have c4 : Steps p.tables e below (s₁.setTop (entryFrame m #[.ref b, .int (Int32.ofNat o), .int (Int32.ofNat len)] 6)) (T3.setTop (mkF m 3 #[.val (.ref b), .val (.int (Int32.ofNat o)), .val (.int (Int32.ofNat len)), .unset, .unset, .unset] [.ref s.heap.size])) := c2.trans (st3 _ (Steps.refl _))
  have c5 : Steps p.tables e below (s₁.setTop (entryFrame m #[.ref b, .int (Int32.ofNat o), .int (Int32.ofNat len)] 6)) (T3.setTop (mkF m 9 #[.val (.ref b), .val (.int (Int32.ofNat o)), .val (.int (Int32.ofNat len)), .val (.ref s.heap.size), .unset, .unset] [.int (Int32.ofNat len), .int 0, .ref s.heap.size, .int (Int32.ofNat o), .ref b])) := c4.trans (by
    refine XS.astoreN X3.here hexec rfl (hb hbytes d3) rfl rfl rfl ?_
    refine XS.aloadN X3.here hexec rfl (hb hbytes d4) rfl rfl ?_
    refine XS.iloadN X3.here hexec rfl (hb hbytes d5) rfl ?_
    refine XS.aloadN X3.here hexec rfl (hb hbytes d6) rfl rfl ?_
    refine iconstV X3.here hexec rfl 0 (hb hbytes d7) (by decide) ?_
    refine XS.iloadN X3.here hexec rfl (hb hbytes d8) rfl ?_
    exact Steps.refl _)
  obtain ⟨v6, T6, X6, E6, g6⟩ := X3.callS hexec (Cmp5.law l b A s.heap.size B3 o 0 len) hown (wks W (staticW U16 115 Cmp5.yN)) (wk W Cmp5.tab) (W := 0) (Nat.le_of_ble_eq_true rfl) (Nat.le_of_ble_eq_true rfl) (Nat.le_refl _) (by show 0 + len + 0 ≤ len; omega) (g := (mkF m 9 #[.val (.ref b), .val (.int (Int32.ofNat o)), .val (.int (Int32.ofNat len)), .val (.ref s.heap.size), .unset, .unset] [.int (Int32.ofNat len), .int (Int32.ofNat 0), .ref s.heap.size, .int (Int32.ofNat o), .ref b])) rfl (by rw [hml]; rfl) c5 (argsL := [.ref b, .int (Int32.ofNat o), .ref s.heap.size, .int (Int32.ofNat 0), .int (Int32.ofNat len)]) (rest := []) rfl rfl (by show 2 * 0 + 0 ≤ _; decide) (hb hbytes d9) (⟨rfl, hA3, ba3, hne, l1, by rw [bs3]; simp, hp⟩)
  obtain ⟨rfl, B6, p6, f6⟩ := E6
  have c7 : Steps p.tables e below (s₁.setTop (entryFrame m #[.ref b, .int (Int32.ofNat o), .int (Int32.ofNat len)] 6)) (T6.setTop (mkF m 12 #[.val (.ref b), .val (.int (Int32.ofNat o)), .val (.int (Int32.ofNat len)), .val (.ref s.heap.size), .unset, .unset] [.int (Int32.ofNat len)])) := g6
  have c8 : Steps p.tables e below (s₁.setTop (entryFrame m #[.ref b, .int (Int32.ofNat o), .int (Int32.ofNat len)] 6)) (T6.setTop (mkF m 58 #[.val (.ref b), .val (.int (Int32.ofNat o)), .val (.int (Int32.ofNat len)), .val (.ref s.heap.size), .val (.int (Int32.ofNat len)), .unset] [.ref s.heap.size])) := c7.trans (by
    refine XS.istore X6.here hexec rfl (hb hbytes d12) rfl rfl ?_
    refine XS.iload X6.here hexec rfl (hb hbytes d14) rfl ?_
    refine XS.iloadN X6.here hexec rfl (hb hbytes d16) rfl ?_
    refine XS.icmpYes X6.here hexec rfl (pc0 := 17) rfl (hb hbytes d17) rfl (ii_eq_t rfl) (by decide) rfl ?_
    refine XS.aloadN X6.here hexec rfl (hb hbytes d57) rfl rfl ?_
    exact Steps.refl _)
  have X8 := X6.wide (L' := []) (cells' := 1) (slots' := len) (fun x hx hlt => by
    simp only [List.nil_append, copyLocs, List.mem_map, List.mem_range] at hx
    obtain ⟨i, -, rfl⟩ := hx
    exact absurd hlt (Nat.lt_irrefl _)) (Nat.le_refl _) (by omega)
  exact ⟨T6, some (.ref s.heap.size), _, _, _, X8, rfl, rfl, rfl, (fun h => by cases h), ⟨⟨rfl, B6, ba3.like (X3.warmed.alike.symm.trans X6.warmed.alike) p6.1 f6.1 f6.2.1 f6.2.2.1, f6.2.1.trans bv3, by rw [X6.warmed.alike.findClass, f6.1]; exact bf3, by rw [f6.2.2.1, bs3]; simp, fun j hj => by rw [f6.2.2.2 j, if_pos (by omega)]; rfl, kp3.put p6 (Nat.le_refl _)⟩, by rw [p6.2.2, bh3, hh0]; simp⟩, fun fs hl => c8.trans (X8.areturnOut hexec rfl hret rfl (hb hbytes d58) hl)⟩
end Cmp3
namespace CodL
def yN : MethodName := ⟨"java/lang/StringUTF16", "coderFromArrayLen", "([BI)B"⟩
abbrev yB : ByteArray := jdk_52_method_15_code
theorem d0 : decode yB 0 = .ok (.iload_n 1, 1) := by decide +kernel
theorem d1 : decode yB 1 = .ok (.aload_n 0, 1) := by decide +kernel
theorem d2 : decode yB 2 = .ok (.arraylength, 1) := by decide +kernel
theorem d3 : decode yB 3 = .ok (.isub, 1) := by decide +kernel
theorem d4 : decode yB 4 = .ok (.bipush 31, 2) := by decide +kernel
theorem d6 : decode yB 6 = .ok (.iushr, 1) := by decide +kernel
theorem d7 : decode yB 7 = .ok (.i2b, 1) := by decide +kernel
theorem d8 : decode yB 8 = .ok (.ireturn, 1) := by decide +kernel
def site : List Cond := []
def tab : Cond := tabOf yN yB 2 (some .byte) site
def P (d : Addr) (B : Cell) (args : Array Value) (s : State) : Prop := args = #[.ref d, .int (Int32.ofNat B.slots.size)] ∧ Arr .byte d B s
def E (r : Option Value) (s u : State) : Prop := XT.PureE (some (.int 0)) r s u
/-- an array as long as the number of chars: LATIN1 -/
theorem law (l : Launch) (d : Addr) (B : Cell) : Law l yN 2 2 0 0 yB 2 (some .byte) site (P d B) E [] 0 0 := by
  refine Law.of_walk (plainFor_of_name (by decide +kernel)) (by decide +kernel) (by decide +kernel) (by decide) (fun _ _ h => by rw [h.1]; rfl) (fun _ U U' hal hh h => ⟨h.1, h.2.mv hal hh⟩) (fun r U U' V V' h1 hal h2 h => XT.PureE.mv r U U' V V' h1 hal h2 h) ?_
  intro p e s m args below meth c s₁ X0 hexec hbytes hml hret hlk hnm hown hh0 W hP
  obtain ⟨rfl, hB⟩ := hP
  have hB0 := hB.mv X0.warmed.alike hh0
  have c1 : Steps p.tables e below (s₁.setTop (entryFrame m #[.ref d, .int (Int32.ofNat B.slots.size)] 2)) (s₁.setTop (mkF m 0 #[.val (.ref d), .val (.int (Int32.ofNat B.slots.size))] [])) := entry rfl
  have c2 : Steps p.tables e below (s₁.setTop (entryFrame m #[.ref d, .int (Int32.ofNat B.slots.size)] 2)) (s₁.setTop (mkF m 2 #[.val (.ref d), .val (.int (Int32.ofNat B.slots.size))] [.ref d, .int (Int32.ofNat B.slots.size)])) := c1.trans (by
    refine XS.iloadN X0.here hexec rfl (hb hbytes d0) rfl ?_
    refine XS.aloadN X0.here hexec rfl (hb hbytes d1) rfl rfl ?_
    exact Steps.refl _)
  have c3 : Steps p.tables e below (s₁.setTop (entryFrame m #[.ref d, .int (Int32.ofNat B.slots.size)] 2)) (s₁.setTop (mkF m 8 #[.val (.ref d), .val (.int (Int32.ofNat B.slots.size))] [.int (lo8 (ushr (Int32.ofNat B.slots.size - Int32.ofNat B.slots.size) 31))])) := c2.trans (by
    refine X0.alen hexec hB0 rfl rfl (hb hbytes d2) ?_
    refine XS.isub X0.here hexec rfl (hb hbytes d3) rfl ?_
    refine bipushV X0.here hexec rfl 31 (hb hbytes d4) (by decide) ?_
    refine iushr X0.here hexec rfl (hb hbytes d6) rfl ?_
    refine i2b X0.here hexec rfl (hb hbytes d7) rfl ?_
    exact Steps.refl _)
  have e0 : lo8 (ushr (Int32.ofNat B.slots.size - Int32.ofNat B.slots.size) 31) = 0 := by rw [Int32.sub_self]; decide
  rw [e0] at c3
  exact ⟨s₁, some (.int 0), _, _, _, X0, rfl, rfl, rfl, (fun h => by cases h), ⟨rfl, hh0⟩, fun fs hl => c3.trans (X0.ireturnOut hexec hret rfl (Or.inr (Or.inr (Or.inl rfl))) (hb hbytes d8) hl)⟩
end CodL
/-- the String at a is Latin-1 over a new byte[] (the heap's one new cell): the low bytes of the len chars of A from o on; every cell but a is kept -/
def Got (a : Addr) (D : Cell) (fV fC : Field) (A : Cell) (o len : Nat) (r : Option Value) (s u : State) : Prop := r = none ∧ ∃ D' V : Cell, Blank "java/lang/String" a D' u ∧ Same D D' [fV.slot, fC.slot] ∧ D'.slots[fV.slot]? = some (.ref s.heap.size) ∧ D'.slots[fC.slot]? = some (.int 0) ∧ Arr .byte s.heap.size V u ∧ V.vm = .none ∧ u.vm.findClass "[B" = some V.cls ∧ V.slots.size = len ∧ (∀ j, j < len → V.slots[j]? = some (.int (lo8 (cv A (o + j))))) ∧ (∀ (y : Addr) (c : Cell), y ≠ a → s.heap[y]? = some c → u.heap[y]? = some c) ∧ u.heap.size = s.heap.size + 1
theorem Got.mv {a : Addr} {D A : Cell} {fV fC : Field} {o len : Nat} : ∀ r (U U' V V' : State), U'.heap = U.heap → V.vm.Alike V'.vm → V'.heap = V.heap → Got a D fV fC A o len r U V → Got a D fV fC A o len r U' V' :=
  fun r U U' V V' h1 hal h2 ⟨e0, D', X, a1, a2, a3, a4, a5, a6, a7, a8, a9, a10, a11⟩ => ⟨e0, D', X, a1.mv hal h2, a2, by rw [h1]; exact a3, a4, by rw [h1]; exact a5.mv hal h2, a6, by rw [hal.findClass]; exact a7, a8, a9, by rw [h1, h2]; exact a10, by rw [h1, h2]; exact a11⟩
namespace New4
def yN : MethodName := ⟨"java/lang/String", "<init>", "([CIILjava/lang/Void;)V"⟩
abbrev yB : ByteArray := jdk_42_method_149_code
theorem d0 : decode yB 0 = .ok (.aload_n 0, 1) := by decide +kernel
theorem d1 : decode yB 1 = .ok (.invokespecial 1, 3) := by decide +kernel
theorem d4 : decode yB 4 = .ok (.iload_n 3, 1) := by decide +kernel
theorem d5 : decode yB 5 = .ok (.ifCond (.ne) 22, 3) := by decide +kernel
theorem d27 : decode yB 27 = .ok (.getstatic 38, 3) := by decide +kernel
theorem d30 : decode yB 30 = .ok (.ifCond (.eq) 28, 3) := by decide +kernel
theorem d33 : decode yB 33 = .ok (.aload_n 1, 1) := by decide +kernel
theorem d34 : decode yB 34 = .ok (.iload_n 2, 1) := by decide +kernel
theorem d35 : decode yB 35 = .ok (.iload_n 3, 1) := by decide +kernel
theorem d36 : decode yB 36 = .ok (.invokestatic 177, 3) := by decide +kernel
theorem d39 : decode yB 39 = .ok (.astore 5, 2) := by decide +kernel
theorem d41 : decode yB 41 = .ok (.aload_n 0, 1) := by decide +kernel
theorem d42 : decode yB 42 = .ok (.aload 5, 2) := by decide +kernel
theorem d44 : decode yB 44 = .ok (.iload_n 3, 1) := by decide +kernel
theorem d45 : decode yB 45 = .ok (.invokestatic 47, 3) := by decide +kernel
theorem d48 : decode yB 48 = .ok (.putfield 15, 3) := by decide +kernel
theorem d51 : decode yB 51 = .ok (.aload_n 0, 1) := by decide +kernel
theorem d52 : decode yB 52 = .ok (.aload 5, 2) := by decide +kernel
theorem d54 : decode yB 54 = .ok (.putfield 9, 3) := by decide +kernel
theorem d57 : decode yB 57 = .ok (.return_, 1) := by decide +kernel
def site : List Cond := [.fieldLink "java/lang/String" 38 "java/lang/String" "COMPACT_STRINGS" "Z", Cmp3.tab, CodL.tab, .laysFinal "java/lang/String" "java/lang/String" "value" "[B", .fieldLink "java/lang/String" 9 "java/lang/String" "value" "[B", .laysFinal "java/lang/String" "java/lang/String" "coder" "B", .fieldLink "java/lang/String" 15 "java/lang/String" "coder" "B"] ++ objW "java/lang/String" 1 ++ staticW "java/lang/String" 177 Cmp3.yN ++ staticW "java/lang/String" 47 CodL.yN
def tab : Cond := tabOf yN yB 6 none site
def P (a : Addr) (D : Cell) (fV fC : Field) (b : Addr) (A : Cell) (z : Int32) (o len : Nat) (args : Array Value) (s : State) : Prop := args = #[.ref a, .ref b, .int (Int32.ofNat o), .int (Int32.ofNat len), .null] ∧ Blank "java/lang/String" a D s ∧ Found "java/lang/String" "value" "[B" fV s ∧ Found "java/lang/String" "coder" "B" fC s ∧ Ch b A s ∧ StaticIs s "java/lang/String" "COMPACT_STRINGS" "Z" (.int z) ∧ ¬ z = 0 ∧ 0 < len ∧ o + len ≤ A.slots.size ∧ len ≤ 536870912 ∧ ∀ i, i < len → ¬ 255 < cv A (o + i)
def E (a : Addr) (D : Cell) (fV fC : Field) (A : Cell) (o len : Nat) (r : Option Value) (s u : State) : Prop := Got a D fV fC A o len r s u
/-- len > 0, no char of the range above 255: a Latin-1 String of their low bytes -/
theorem law (l : Launch) (a : Addr) (D : Cell) (fV fC : Field) (b : Addr) (A : Cell) (z : Int32) (o len : Nat) : Law l yN 5 4 2 35 yB 6 none site (P a D fV fC b A z o len) (E a D fV fC A o len) [⟨a, fC.slot⟩, ⟨a, fV.slot⟩] 1 len := by
  refine Law.of_walk (plainFor_of_name (by decide +kernel)) (by decide +kernel) (by decide +kernel) (by decide) (fun _ _ h => by rw [h.1]; rfl) (fun _ U U' hal hh h => ⟨h.1, h.2.1.mv hal hh, h.2.2.1.al hal, h.2.2.2.1.al hal, h.2.2.2.2.1.mv hal hh, h.2.2.2.2.2.1.there hal hh, h.2.2.2.2.2.2⟩) (fun r U U' V V' h1 hal h2 h => Got.mv r U U' V V' h1 hal h2 h) ?_
  intro p e s m args below meth c s₁ X0 hexec hbytes hml hret hlk hnm hown hh0 W hP
  obtain ⟨rfl, hB, f1, f2, hA, s1, hz, l0, l1, l2, hp⟩ := hP
  have a31 := hA.1.2.2.2
  have c1 : Steps p.tables e below (s₁.setTop (entryFrame m #[.ref a, .ref b, .int (Int32.ofNat o), .int (Int32.ofNat len), .null] 6)) (s₁.setTop (mkF m 0 #[.val (.ref a), .val (.ref b), .val (.int (Int32.ofNat o)), .val (.int (Int32.ofNat len)), .val .null, .unset] [])) := entry rfl
  have c2 : Steps p.tables e below (s₁.setTop (entryFrame m #[.ref a, .ref b, .int (Int32.ofNat o), .int (Int32.ofNat len), .null] 6)) (s₁.setTop (mkF m 1 #[.val (.ref a), .val (.ref b), .val (.int (Int32.ofNat o)), .val (.int (Int32.ofNat len)), .val .null, .unset] [.ref a])) := c1.trans (by
    refine XS.aloadN X0.here hexec rfl (hb hbytes d0) rfl rfl ?_
    exact Steps.refl _)
  obtain ⟨T3, X3, q3, st3⟩ := X0.oinit hexec hown (wks W (objW "java/lang/String" 1)) (g := (mkF m 1 #[.val (.ref a), .val (.ref b), .val (.int (Int32.ofNat o)), .val (.int (Int32.ofNat len)), .val .null, .unset] [.ref a])) rfl (by rw [hml]; rfl) (rest := []) rfl (hb hbytes d1) (W := 0) (by show 2 * 0 + 0 ≤ _; decide) (Nat.le_of_ble_eq_true rfl) (Nat.le_of_ble_eq_true rfl)
  have hh3 := q3.trans hh0
  have c4 : Steps p.tables e below (s₁.setTop (entryFrame m #[.ref a, .ref b, .int (Int32.ofNat o), .int (Int32.ofNat len), .null] 6)) (T3.setTop (mkF m 27 #[.val (.ref a), .val (.ref b), .val (.int (Int32.ofNat o)), .val (.int (Int32.ofNat len)), .val .null, .unset] [])) := (c2.trans (st3 _ (Steps.refl _))).trans (by
    refine XS.iloadN X3.here hexec rfl (hb hbytes d4) rfl ?_
    refine XS.ifYes X3.here hexec rfl (pc0 := 5) rfl (hb hbytes d5) rfl (i0_ne_t (nz32 (by omega) l0)) (by decide) rfl ?_
    exact Steps.refl _)
  obtain ⟨T5, X5, q5, st5⟩ := X3.sget hexec hown (wk W (.fieldLink "java/lang/String" 38 "java/lang/String" "COMPACT_STRINGS" "Z")) s1 (fun _ _ h => by rw [hh3]; exact h) (g := (mkF m 27 #[.val (.ref a), .val (.ref b), .val (.int (Int32.ofNat o)), .val (.int (Int32.ofNat len)), .val .null, .unset] [])) rfl (hb hbytes d27)
  have hh5 := q5.trans hh3
  have c6 : Steps p.tables e below (s₁.setTop (entryFrame m #[.ref a, .ref b, .int (Int32.ofNat o), .int (Int32.ofNat len), .null] 6)) (T5.setTop (mkF m 30 #[.val (.ref a), .val (.ref b), .val (.int (Int32.ofNat o)), .val (.int (Int32.ofNat len)), .val .null, .unset] [.int z])) := c4.trans (st5 _ (Steps.refl _))
  have c7 : Steps p.tables e below (s₁.setTop (entryFrame m #[.ref a, .ref b, .int (Int32.ofNat o), .int (Int32.ofNat len), .null] 6)) (T5.setTop (mkF m 36 #[.val (.ref a), .val (.ref b), .val (.int (Int32.ofNat o)), .val (.int (Int32.ofNat len)), .val .null, .unset] [.int (Int32.ofNat len), .int (Int32.ofNat o), .ref b])) := c6.trans (by
    refine XS.ifNo X5.here hexec rfl (hb hbytes d30) rfl (i0_eq_f hz) ?_
    refine XS.aloadN X5.here hexec rfl (hb hbytes d33) rfl rfl ?_
    refine XS.iloadN X5.here hexec rfl (hb hbytes d34) rfl ?_
    refine XS.iloadN X5.here hexec rfl (hb hbytes d35) rfl ?_
    exact Steps.refl _)
  obtain ⟨v8, T8, X8, E8, g8⟩ := X5.callS hexec (Cmp3.law l b A o len) hown (wks W (staticW "java/lang/String" 177 Cmp3.yN)) (wk W Cmp3.tab) (W := 0) (Nat.le_of_ble_eq_true rfl) (Nat.le_of_ble_eq_true rfl) (Nat.le_refl _) (by show 0 + len ≤ len; omega) (g := (mkF m 36 #[.val (.ref a), .val (.ref b), .val (.int (Int32.ofNat o)), .val (.int (Int32.ofNat len)), .val .null, .unset] [.int (Int32.ofNat len), .int (Int32.ofNat o), .ref b])) rfl (by rw [hml]; rfl) c7 (argsL := [.ref b, .int (Int32.ofNat o), .int (Int32.ofNat len)]) (rest := []) rfl rfl (by show 2 * 0 + 0 ≤ _; decide) (hb hbytes d36) (⟨rfl, hA.mv X5.warmed.alike hh5, l1, l2, hp⟩)
  obtain ⟨e8, z8⟩ := E8
  obtain ⟨rfl, N, n1, n2, n3, n4, n5, n6⟩ := NewArr.mv _ T5 s _ _ hh5.symm (Vm.Alike.refl _) rfl e8
  rw [hh5] at z8
  have hB1 := hB.keep X8.warmed.alike (n6 _ _ hB.1)
  have hne : s.heap.size ≠ a := (Nat.ne_of_lt (Array.getElem?_eq_some_iff.mp hB.1).1).symm
  have c9 : Steps p.tables e below (s₁.setTop (entryFrame m #[.ref a, .ref b, .int (Int32.ofNat o), .int (Int32.ofNat len), .null] 6)) (T8.setTop (mkF m 39 #[.val (.ref a), .val (.ref b), .val (.int (Int32.ofNat o)), .val (.int (Int32.ofNat len)), .val .null, .unset] [.ref s.heap.size])) := g8
  have c10 : Steps p.tables e below (s₁.setTop (entryFrame m #[.ref a, .ref b, .int (Int32.ofNat o), .int (Int32.ofNat len), .null] 6)) (T8.setTop (mkF m 45 #[.val (.ref a), .val (.ref b), .val (.int (Int32.ofNat o)), .val (.int (Int32.ofNat len)), .val .null, .val (.ref s.heap.size)] [.int (Int32.ofNat N.slots.size), .ref s.heap.size, .ref a])) := by
    have hc : Steps p.tables e below (s₁.setTop (entryFrame m #[.ref a, .ref b, .int (Int32.ofNat o), .int (Int32.ofNat len), .null] 6)) (T8.setTop (mkF m 45 #[.val (.ref a), .val (.ref b), .val (.int (Int32.ofNat o)), .val (.int (Int32.ofNat len)), .val .null, .val (.ref s.heap.size)] [.int (Int32.ofNat len), .ref s.heap.size, .ref a])) := c9.trans (by
      refine XS.astore X8.here hexec rfl (hb hbytes d39) rfl rfl rfl ?_
      refine XS.aloadN X8.here hexec rfl (hb hbytes d41) rfl rfl ?_
      refine XS.aload X8.here hexec rfl (hb hbytes d42) rfl rfl ?_
      refine XS.iloadN X8.here hexec rfl (hb hbytes d44) rfl ?_
      exact Steps.refl _)
    rw [n4]; exact hc
  obtain ⟨v11, T11, X11, E11, g11⟩ := X8.callS hexec (CodL.law l s.heap.size N) hown (wks W (staticW "java/lang/String" 47 CodL.yN)) (wk W CodL.tab) (W := 1) (Nat.le_of_ble_eq_true rfl) (Nat.le_of_ble_eq_true rfl) (Nat.le_refl _) (by show 0 + len + 0 ≤ len; omega) (g := (mkF m 45 #[.val (.ref a), .val (.ref b), .val (.int (Int32.ofNat o)), .val (.int (Int32.ofNat len)), .val .null, .val (.ref s.heap.size)] [.int (Int32.ofNat N.slots.size), .ref s.heap.size, .ref a])) rfl (by rw [hml]; rfl) c10 (argsL := [.ref s.heap.size, .int (Int32.ofNat N.slots.size)]) (rest := [.ref a]) rfl rfl (by show 2 * 0 + (1 + 0) ≤ _; decide) (hb hbytes d45) (⟨rfl, n1⟩)
  obtain ⟨rfl, q11⟩ := E11
  have hB11 := hB1.mv (X8.warmed.alike.symm.trans X11.warmed.alike) q11
  have c12 : Steps p.tables e below (s₁.setTop (entryFrame m #[.ref a, .ref b, .int (Int32.ofNat o), .int (Int32.ofNat len), .null] 6)) (T11.setTop (mkF m 48 #[.val (.ref a), .val (.ref b), .val (.int (Int32.ofNat o)), .val (.int (Int32.ofNat len)), .val .null, .val (.ref s.heap.size)] [.int 0, .ref a])) := g11
  obtain ⟨T13, X13, p13, bl13, sl13, st13⟩ := X11.finit hexec hown (wk W (.fieldLink "java/lang/String" 15 "java/lang/String" "coder" "B")) (Or.inr ⟨_, (wk W (.laysFinal "java/lang/String" "java/lang/String" "coder" "B"))⟩) (Or.inl ⟨rfl, hnm⟩) f2 (Or.inl rfl) hB11 (t := .byte) (by decide +kernel) rfl (g := (mkF m 48 #[.val (.ref a), .val (.ref b), .val (.int (Int32.ofNat o)), .val (.int (Int32.ofNat len)), .val .null, .val (.ref s.heap.size)] [.int 0, .ref a])) rfl (rest := []) rfl (hb hbytes d48)
  have c14 : Steps p.tables e below (s₁.setTop (entryFrame m #[.ref a, .ref b, .int (Int32.ofNat o), .int (Int32.ofNat len), .null] 6)) (T13.setTop (mkF m 54 #[.val (.ref a), .val (.ref b), .val (.int (Int32.ofNat o)), .val (.int (Int32.ofNat len)), .val .null, .val (.ref s.heap.size)] [.ref s.heap.size, .ref a])) := (c12.trans (st13 _ (Steps.refl _))).trans (by
    refine XS.aloadN X13.here hexec rfl (hb hbytes d51) rfl rfl ?_
    refine XS.aload X13.here hexec rfl (hb hbytes d52) rfl rfl ?_
    exact Steps.refl _)
  obtain ⟨T15, X15, p15, bl15, sl15, st15⟩ := X13.finit hexec hown (wk W (.fieldLink "java/lang/String" 9 "java/lang/String" "value" "[B")) (Or.inr ⟨_, (wk W (.laysFinal "java/lang/String" "java/lang/String" "value" "[B"))⟩) (Or.inl ⟨rfl, hnm⟩) f1 (Or.inl rfl) bl13 (t := (.array .byte)) (by decide +kernel) rfl (g := (mkF m 54 #[.val (.ref a), .val (.ref b), .val (.int (Int32.ofNat o)), .val (.int (Int32.ofNat len)), .val .null, .val (.ref s.heap.size)] [.ref s.heap.size, .ref a])) rfl (rest := []) rfl (hb hbytes d54)
  have c16 : Steps p.tables e below (s₁.setTop (entryFrame m #[.ref a, .ref b, .int (Int32.ofNat o), .int (Int32.ofNat len), .null] 6)) (T15.setTop (mkF m 57 #[.val (.ref a), .val (.ref b), .val (.int (Int32.ofNat o)), .val (.int (Int32.ofNat len)), .val .null, .val (.ref s.heap.size)] [])) := c14.trans (st15 _ (Steps.refl _))
  have ap := apart (Or.inr ⟨_, (wk W (.laysFinal "java/lang/String" "java/lang/String" "value" "[B"))⟩) (Or.inr ⟨_, (wk W (.laysFinal "java/lang/String" "java/lang/String" "coder" "B"))⟩) f1 f2 (t₁ := .array .byte) (t₂ := .byte) (by decide +kernel) (by decide +kernel) (by decide)
  have al := X8.warmed.alike.symm.trans X15.warmed.alike
  have n7 : T11.heap[s.heap.size]? = some N := by rw [q11]; exact n1.1
  exact ⟨T15, none, _, _, _, X15, by simp, rfl, by omega, (fun _ => rfl), ⟨rfl, _, N, bl15, ((Same.refl D _).set _ (by simp)).set _ (by simp), sl15, (Cell.slots_setSlot_ne _ ap).trans sl13, n1.keep al (p15.other hne (p13.other hne n7)), n2, by rw [al.findClass]; exact n3, n4, n5, fun y c h1 h2 => p15.other h1 (p13.other h1 (by rw [q11]; exact n6 y c h2)), by rw [p15.2.2, p13.2.2, q11]; exact z8⟩, fun fs hl => c16.trans (X15.returnOut hexec hret (hb hbytes d57) hl)⟩
end New4
namespace New1
def yN : MethodName := ⟨"java/lang/String", "<init>", "([C)V"⟩
abbrev yB : ByteArray := jdk_42_method_3_code
theorem d0 : decode yB 0 = .ok (.aload_n 0, 1) := by decide +kernel
theorem d1 : decode yB 1 = .ok (.aload_n 1, 1) := by decide +kernel
theorem d2 : decode yB 2 = .ok (.iconst 0, 1) := by decide +kernel
theorem d3 : decode yB 3 = .ok (.aload_n 1, 1) := by decide +kernel
theorem d4 : decode yB 4 = .ok (.arraylength, 1) := by decide +kernel
theorem d5 : decode yB 5 = .ok (.aconst_null, 1) := by decide +kernel
theorem d6 : decode yB 6 = .ok (.invokespecial 27, 3) := by decide +kernel
theorem d9 : decode yB 9 = .ok (.return_, 1) := by decide +kernel
def site : List Cond := [New4.tab] ++ initW "java/lang/String" 27 New4.yN
def tab : Cond := tabOf yN yB 2 none site
def P (a : Addr) (D : Cell) (fV fC : Field) (b : Addr) (A : Cell) (z : Int32) (args : Array Value) (s : State) : Prop := args = #[.ref a, .ref b] ∧ Blank "java/lang/String" a D s ∧ Found "java/lang/String" "value" "[B" fV s ∧ Found "java/lang/String" "coder" "B" fC s ∧ Ch b A s ∧ StaticIs s "java/lang/String" "COMPACT_STRINGS" "Z" (.int z) ∧ ¬ z = 0 ∧ 0 < A.slots.size ∧ A.slots.size ≤ 536870912 ∧ ∀ i, i < A.slots.size → ¬ 255 < cv A i
def E (a : Addr) (D : Cell) (fV fC : Field) (A : Cell) (r : Option Value) (s u : State) : Prop := Got a D fV fC A 0 A.slots.size r s u
/-- new String(chars), not empty, no char above 255: a Latin-1 String of their low bytes -/
theorem law (l : Launch) (a : Addr) (D : Cell) (fV fC : Field) (b : Addr) (A : Cell) (z : Int32) : Law l yN 2 1 3 52 yB 2 none site (P a D fV fC b A z) (E a D fV fC A) [⟨a, fC.slot⟩, ⟨a, fV.slot⟩] 1 A.slots.size := by
  refine Law.of_walk (plainFor_of_name (by decide +kernel)) (by decide +kernel) (by decide +kernel) (by decide) (fun _ _ h => by rw [h.1]; rfl) (fun _ U U' hal hh h => ⟨h.1, h.2.1.mv hal hh, h.2.2.1.al hal, h.2.2.2.1.al hal, h.2.2.2.2.1.mv hal hh, h.2.2.2.2.2.1.there hal hh, h.2.2.2.2.2.2⟩) (fun r U U' V V' h1 hal h2 h => Got.mv r U U' V V' h1 hal h2 h) ?_
  intro p e s m args below meth c s₁ X0 hexec hbytes hml hret hlk hnm hown hh0 W hP
  obtain ⟨rfl, hB, f1, f2, hA, s1, hz, l0, l2, hp⟩ := hP
  have c1 : Steps p.tables e below (s₁.setTop (entryFrame m #[.ref a, .ref b] 2)) (s₁.setTop (mkF m 0 #[.val (.ref a), .val (.ref b)] [])) := entry rfl
  have c2 : Steps p.tables e below (s₁.setTop (entryFrame m #[.ref a, .ref b] 2)) (s₁.setTop (mkF m 6 #[.val (.ref a), .val (.ref b)] [.null, .int (Int32.ofNat A.slots.size), .int 0, .ref b, .ref a])) := c1.trans (by
    refine XS.aloadN X0.here hexec rfl (hb hbytes d0) rfl rfl ?_
    refine XS.aloadN X0.here hexec rfl (hb hbytes d1) rfl rfl ?_
    refine iconstV X0.here hexec rfl 0 (hb hbytes d2) (by decide) ?_
    refine XS.aloadN X0.here hexec rfl (hb hbytes d3) rfl rfl ?_
    refine X0.alen hexec (hA.1.mv X0.warmed.alike hh0) rfl rfl (hb hbytes d4) ?_
    refine XS.aconstNull X0.here hexec rfl (hb hbytes d5) ?_
    exact Steps.refl _)
  obtain ⟨v3, T3, X3, E3, g3⟩ := X0.callN hexec (New4.law l a D fV fC b A z 0 A.slots.size) rfl hown (wks W (initW "java/lang/String" 27 New4.yN)) (W New4.tab (by simp only [site, List.mem_cons, List.mem_append, true_or, or_true])) (W := 0) (Nat.le_of_ble_eq_true rfl) (Nat.le_of_ble_eq_true rfl) (Nat.le_refl _) (by show 0 + A.slots.size ≤ A.slots.size; omega) (g := (mkF m 6 #[.val (.ref a), .val (.ref b)] [.null, .int (Int32.ofNat A.slots.size), .int (Int32.ofNat 0), .ref b, .ref a])) rfl (by rw [hml]; rfl) c2 (argsL := [.ref b, .int (Int32.ofNat 0), .int (Int32.ofNat A.slots.size), .null]) (rest := []) rfl rfl (by show 2 * 0 + 0 ≤ _; decide) (hb hbytes d6) (⟨rfl, hB.mv X0.warmed.alike hh0, f1.al X0.warmed.alike, f2.al X0.warmed.alike, hA.mv X0.warmed.alike hh0, s1.there X0.warmed.alike hh0, hz, l0, by omega, l2, fun i hi => by rw [Nat.zero_add]; exact hp i hi⟩)
  have e0 := Got.mv _ s₁ s _ _ hh0.symm (Vm.Alike.refl _) rfl E3
  obtain rfl := e0.1
  have c4 : Steps p.tables e below (s₁.setTop (entryFrame m #[.ref a, .ref b] 2)) (T3.setTop (mkF m 9 #[.val (.ref a), .val (.ref b)] [])) := g3
  exact ⟨T3, none, _, _, _, X3, by simp, rfl, by omega, (fun _ => rfl), e0, fun fs hl => c4.trans (X3.returnOut hexec hret (hb hbytes d9) hl)⟩
theorem pays {l : Launch} {R : Room} {p : Program} {e : Env} {below : List Frame} {s : State} {sargs : Array Value} {len W : Nat} (a : Addr) (D : Cell) (fV fC : Field) (b : Addr) (A : Cell) (z : Int32) (htab : tab.before sargs s = true) (hfr : 4 ≤ R.frames) (hlo : W + 65 ≤ R.locals) :
    Back l R p e below s sargs yN len W (fun A₁ a₁ => A₁.cells + 1 ≤ R.cells ∧ A₁.slots + A.slots.size ≤ R.slots ∧ P a D fV fC b A z a₁ A₁.U) (fun A₁ _ v₁ B₁ => E a D fV fC A v₁ A₁.U B₁.U ∧ B₁.locs = A₁.locs ++ [⟨a, fC.slot⟩, ⟨a, fV.slot⟩] ∧ B₁.cells = A₁.cells + 1 ∧ B₁.slots = A₁.slots + A.slots.size) :=
  (law l a D fV fC b A z).pays htab hfr (by omega)
end New1
end StrChars
namespace StrChars.Road
open Jvm Sem ClassFile Op Lib Jvm.Stand Jvm.Free Jvm.Free.XT
open Jvm.Lib.Cold (StaticIs)
abbrev ST : String := "java/lang/String"
/-- every table word that New1's law asks, flat -/
abbrev words : List Jvm.Cond := [.code New1.yN New1.yB 2 none, .initialized ST, .methodLink ST 27 New4.yN, .instanceMethod New4.yN,
  .code New4.yN New4.yB 6 none, .fieldLink ST 38 ST "COMPACT_STRINGS" "Z", .laysFinal ST ST "value" "[B", .fieldLink ST 9 ST "value" "[B", .laysFinal ST ST "coder" "B", .fieldLink ST 15 ST "coder" "B",
  .methodLink ST 1 Lib.objectInit, .instanceMethod Lib.objectInit, .code Lib.objectInit ⟨#[0xb1]⟩ 1 none, .methodLink ST 177 Cmp3.yN, .static Cmp3.yN, .methodLink ST 47 CodL.yN, .static CodL.yN,
  .code Cmp3.yN Cmp3.yB 6 (some (.array .byte)), .initialized U16, .arrayClass .byte, .methodLink U16 115 Cmp5.yN, .static Cmp5.yN, .code Cmp5.yN Cmp5.yB 7 (some .int), .code CodL.yN CodL.yB 2 (some .byte)]
theorem tab_of {a : Array Value} {s : State} (h : ∀ w ∈ words, w.before a s = true) : New1.tab.before a s = true := by
  have h5 : Cmp5.tab.before a s = true := unparts (wk h (.code Cmp5.yN Cmp5.yB 7 (some .int))) (wks h (.initialized Cmp5.yN.cls :: Cmp5.site))
  have hc : CodL.tab.before a s = true := unparts (wk h (.code CodL.yN CodL.yB 2 (some .byte))) (wks h (.initialized CodL.yN.cls :: CodL.site))
  have q5 : ∀ w ∈ Cmp5.tab :: words, w.before a s = true := fun w hw => (List.mem_cons.mp hw).elim (fun e => e ▸ h5) (h w)
  have h3 : Cmp3.tab.before a s = true := unparts (wk q5 (.code Cmp3.yN Cmp3.yB 6 (some (.array .byte)))) (wks q5 (.initialized Cmp3.yN.cls :: Cmp3.site))
  have q3 : ∀ w ∈ Cmp3.tab :: CodL.tab :: words, w.before a s = true := fun w hw => (List.mem_cons.mp hw).elim (fun e => e ▸ h3) fun hw => (List.mem_cons.mp hw).elim (fun e => e ▸ hc) (h w)
  have h4 : New4.tab.before a s = true := unparts (wk q3 (.code New4.yN New4.yB 6 none)) (wks q3 (.initialized New4.yN.cls :: New4.site))
  have q4 : ∀ w ∈ New4.tab :: words, w.before a s = true := fun w hw => (List.mem_cons.mp hw).elim (fun e => e ▸ h4) (h w)
  exact unparts (wk q4 (.code New1.yN New1.yB 2 none)) (wks q4 (.initialized New1.yN.cls :: New1.site))
/-- the words ride from the start Z to the walk's own state -/
theorem moved {Z s : State} {a0 args : Array Value} (hZ : Z.Warmed39 s.vm) (hw : ∀ d ∈ words, d.before a0 Z = true) : ∀ d ∈ words, d.before args s = true := fun d hd => by
  have q := hw d hd
  have t : ∀ d ∈ words, d = .arrayClass .byte ∨ (d.onTables && d.keepsFace) = true := by decide +kernel
  rcases t d hd with rfl | t
  · exact RoadKit.mvA hZ q
  · exact RoadKit.mv hZ q t
/-- WHAT COMES BACK, over the tables of the start Z: h the heap at the call, h' behind it -/
def Q (Z : State) (x : Addr) (A : Cell) (h : Heap) (v : Option Value) (h' : Heap) (L : List Loc) : Prop := v = none ∧ (∀ y ∈ L, y.base = x) ∧ RoadKit.Keep h h' [x] ∧ h'.size = h.size + 1 ∧ RoadKit.Exa Z h' x ST ∧ RoadKit.Fld Z h' x ST "value" "[B" (.ref h.size) ∧ RoadKit.Fld Z h' x ST "coder" "B" (.int 0) ∧
  (∃ V : Cell, RoadKit.Arr Z h' h.size V .byte ∧ V.vm = .none ∧ Z.vm.findClass "[B" = some V.cls ∧ V.slots.size = A.slots.size ∧ ∀ j, j < A.slots.size → V.slots[j]? = some (.int (lo8 (cv A j)))) ∧
  ∀ (O n d : String) (w : Value), RoadKit.Fld Z h x O n d w → RoadKit.slotOf Z O n d ≠ RoadKit.slotOf Z ST "value" "[B" → RoadKit.slotOf Z O n d ≠ RoadKit.slotOf Z ST "coder" "B" → RoadKit.Fld Z h' x O n d w
/-- **new String(chars) AT A CALL, IN THE ROAD'S FORM**: for specialBack behind newO: x the fresh String, b the char[] with the cell A -/
theorem back {p : Program} {l : Launch} {e : Env} {R : Room} {s : State} {args : Array Value} {below : List Frame} {len W : Nat} {Z : State} {a0 : Array Value} {h : Heap} (hZ : Z.Warmed39 s.vm) (hw : ∀ d ∈ words, d.before a0 Z = true) {kI : Nat} (wi : (Jvm.Cond.instantiable ST kI).before a0 Z = true)
    {x b : Addr} {A : Cell} {z : Int32} {v0 c0 : Value} (E : RoadKit.Exa Z h x ST) (V : RoadKit.Fld Z h x ST "value" "[B" v0) (C : RoadKit.Fld Z h x ST "coder" "B" c0) (K : RoadKit.Arr Z h b A .char) (hty : Typed .char A) (S : RoadKit.Sta Z h ST "COMPACT_STRINGS" "Z" (.int z)) (hz : ¬ z = 0)
    (l0 : 0 < A.slots.size) (l2 : A.slots.size ≤ 536870912) (hp : ∀ i, i < A.slots.size → ¬ 255 < cv A i) (hfr : 4 ≤ R.frames) (hlo : W + 65 ≤ R.locals) :
    Back l R p e below s args New1.yN len W (fun P a => a = #[.ref x, .ref b] ∧ P.U.heap = h ∧ P.cells + 1 ≤ R.cells ∧ P.slots + A.slots.size ≤ R.slots)
      (fun P _ v B => ∃ L, Q Z x A h v B.U.heap L ∧ B.locs = P.locs ++ L ∧ B.cells = P.cells + 1 ∧ B.slots = P.slots + A.slots.size) := by
  intro m meth c P g ig mk a X hg hsize hdg hW hn hp'
  obtain ⟨rfl, rfl, r1, r2⟩ := hp'
  have al : Z.vm.Alike P.U.vm := hZ.alike.trans X.warmed.alike
  obtain ⟨D, cfV, kV, iV, fV, hD, gV, stV, knV, obV, asV, slV⟩ := id V
  obtain ⟨D', cfC, kC, iC, fC, hD', gC, stC, -, -, asC, slC⟩ := id C
  cases hD.symm.trans hD'
  obtain ⟨D2, kD, e1, e2, e3, e4, e5⟩ := id E
  cases hD.symm.trans e1
  obtain ⟨c2, k2, i1, i2, i3, -⟩ := Cond.instantiable_spec wi
  cases e2.symm.trans i1
  cases e3.symm.trans i2
  obtain ⟨kU, u1, u2⟩ := al.2.2 _ _ e3
  have hB : Blank ST x D P.U := ⟨hD, ⟨knV, fun q hq => by rw [hq] at obV; cases obV⟩, by rw [al.findClass]; exact e2, kU, u1, by rw [u2]; exact i3, by rw [u2]; exact e5 i3⟩
  have F1 : Found ST "value" "[B" fV P.U := ⟨SBG.found_only al ⟨cfV, kV, iV, gV⟩, stV⟩
  have F2 : Found ST "coder" "B" fC P.U := ⟨SBG.found_only al ⟨cfC, kC, iC, gC⟩, stC⟩
  have hA : Ch b A P.U := ⟨⟨K.1, State.isArrayOf_alike al K.2.1, K.2.2, by omega⟩, hty⟩
  have hS : StaticIs P.U ST "COMPACT_STRINGS" "Z" (.int z) := by
    obtain ⟨cfS, iS, kS, fS, st, cS, t1, t2, t3, t4, t5, t6, t7⟩ := S
    exact StaticIs.there (s := { Z with heap := P.U.heap }) ⟨cfS, iS, kS, fS, st, cS, t1, t2, t3, t4, t5, (fun q => by rw [q] at t6; cases t6), t7⟩ al rfl
  obtain ⟨v, B, X', ⟨⟨hv, E', V', q1, q2, q3, q4, q5, q6, q7, q8, q9, q10, q11⟩, hl, hc, hs⟩, st⟩ := New1.pays x D fV fC b A z (tab_of (moved hZ hw)) hfr hlo m meth c P g ig mk _ X hg hsize hdg hW hn ⟨r1, r2, rfl, hB, F1, F2, hA, hS, hz, l0, l2, hp⟩
  have al' : Z.vm.Alike B.U.vm := hZ.alike.trans X'.warmed.alike
  have hsz : E'.slots.size = D.slots.size := by
    obtain ⟨-, -, -, kB, w1, w2, w3⟩ := q1
    obtain ⟨kB', y1, y2⟩ := al'.2.2 _ _ e3
    rw [q2.2.1] at w1
    cases w1.symm.trans y1
    rw [w3, e5 i3, y2]
  refine ⟨v, B, X', ⟨_, ⟨hv, ?_, ⟨by omega, fun y cy hy hn' => q10 y cy (by simpa using hn') hy, fun y cy hy => ?_⟩, q11, ⟨E', _, q1.1, by rw [q2.2.1]; exact e2, by rw [q2.2.1]; exact e3, by rw [q2.1]; exact obV, fun _ => by rw [hsz]; exact e5 i3⟩,
    ⟨E', cfV, kV, iV, fV, q1.1, gV, stV, by rw [q2.1]; exact knV, by rw [q2.1]; exact obV, by rw [q2.2.1]; exact asV, q3⟩, ⟨E', cfC, kC, iC, fC, q1.1, gC, stC, by rw [q2.1]; exact knV, by rw [q2.1]; exact obV, by rw [q2.2.1]; exact asC, q4⟩,
    ⟨V', ⟨q5.1, State.isArrayOf_alike al'.symm q5.2.1, q5.2.2.1⟩, q6, by rw [← al'.findClass]; exact q7, q8, fun j hj => by have := q9 j hj; rwa [Nat.zero_add] at this⟩, fun O n d w F n1 n2 => ?_⟩, hl, hc, hs⟩, st⟩
  · intro y hy
    simp only [List.mem_cons, List.not_mem_nil, or_false] at hy
    rcases hy with rfl | rfl <;> rfl
  · by_cases q : y = x
    · subst q
      cases hD.symm.trans hy
      exact ⟨E', q1.1, q2.2.1, q2.1, hsz⟩
    · exact ⟨cy, q10 y cy q hy, rfl, rfl, rfl⟩
  · obtain ⟨D3, cf, k, i, f, g1, g2, g3, g4, g5, g6, g7⟩ := F
    cases hD.symm.trans g1
    simp only [RoadKit.slotOf, g2, gV, gC, Option.map_some, Option.getD_some] at n1 n2
    exact ⟨E', cf, k, i, f, q1.1, g2, g3, by rw [q2.1]; exact g4, by rw [q2.1]; exact g5, by rw [q2.2.1]; exact g6, by rw [q2.2.2 f.slot (by simp [n1, n2])]; exact g7⟩
end StrChars.Road
namespace StrChars.Road
open Jvm Sem ClassFile Op Lib Jvm.Stand Jvm.Free Jvm.Free.XT
/-- WHAT COMES BACK, the byte[] as a list of values -/
def QA (Z : State) (x : Addr) (zn : Int32) (cs : List Int32) (h : Heap) (v : Option Value) (h' : Heap) (L : List Loc) : Prop := v = none ∧ (∀ y ∈ L, y.base = x) ∧ RoadKit.Keep h h' [x] ∧ h'.size = h.size + 1 ∧ RoadKit.Exa Z h' x ST ∧ RoadKit.Fld Z h' x ST "value" "[B" (.ref h.size) ∧ RoadKit.Fld Z h' x ST "coder" "B" (.int 0) ∧
  (∃ kb, Z.vm.findClass "[B" = some kb ∧ RoadKit.Arv Z h' h.size kb .byte zn (cs.map fun c => .int (lo8 c)) (.int 0)) ∧
  ∀ (O n d : String) (w : Value), RoadKit.Fld Z h x O n d w → RoadKit.slotOf Z O n d ≠ RoadKit.slotOf Z ST "value" "[B" → RoadKit.slotOf Z O n d ≠ RoadKit.slotOf Z ST "coder" "B" → RoadKit.Fld Z h' x O n d w
/-- **new String(chars) AT A CALL, THE ARRAYS AS LISTS**: the char[] at b holds cs, not empty, no char above 255 -/
theorem backArv {p : Program} {l : Launch} {e : Env} {R : Room} {s : State} {args : Array Value} {below : List Frame} {len W : Nat} {Z : State} {a0 : Array Value} {h : Heap} (hZ : Z.Warmed39 s.vm) (hw : ∀ d ∈ words, d.before a0 Z = true) {kI : Nat} (wi : (Jvm.Cond.instantiable ST kI).before a0 Z = true)
    {x b : Addr} {k : ClassId} {zn z : Int32} {cs : List Int32} {dv v0 c0 : Value} (E : RoadKit.Exa Z h x ST) (V : RoadKit.Fld Z h x ST "value" "[B" v0) (C : RoadKit.Fld Z h x ST "coder" "B" c0) (K : RoadKit.Arv Z h b k .char zn (cs.map Value.int) dv) (S : RoadKit.Sta Z h ST "COMPACT_STRINGS" "Z" (.int z)) (hz : ¬ z = 0)
    (hlen : zn.toNatClampNeg = cs.length) (h0 : 0 < cs.length) (hbig : cs.length ≤ 536870912) (hall : ∀ c ∈ cs, ¬ 255 < c) (hfr : 4 ≤ R.frames) (hlo : W + 65 ≤ R.locals) :
    Back l R p e below s args New1.yN len W (fun P a => a = #[.ref x, .ref b] ∧ P.U.heap = h ∧ P.cells + 1 ≤ R.cells ∧ P.slots + cs.length ≤ R.slots)
      (fun P _ v B => ∃ L, QA Z x zn cs h v B.U.heap L ∧ B.locs = P.locs ++ L ∧ B.cells = P.cells + 1 ∧ B.slots = P.slots + cs.length) := by
  obtain ⟨A, K1, K2, K3, K4, K5, K6⟩ := K
  have e : A.slots.size = cs.length := K3.trans hlen
  have hat : ∀ (i : Nat) (hi : i < cs.length), A.slots[i]? = some (.int cs[i]) := fun i hi => by rw [K5 i (by omega)]; simp [List.getD_eq_getElem?_getD, hi]
  have hcv : ∀ (i : Nat) (hi : i < cs.length), cv A i = cs[i] := fun i hi => by unfold cv; rw [hat i hi]
  have hty : Typed .char A := fun i v hv => by
    have hi : i < A.slots.size := (Array.getElem?_eq_some_iff.mp hv).1
    have q := K5 i hi
    rw [hv] at q
    rw [Option.some.inj q]
    exact K6 i hi
  refine Back.mono (back hZ hw wi E V C K1 hty S hz (by omega) (by omega) (fun i hi => by rw [hcv i (by omega)]; exact hall _ (List.getElem_mem _)) hfr hlo) (fun P a hp => ⟨hp.1, hp.2.1, hp.2.2.1, by rw [e]; exact hp.2.2.2⟩) (fun P a v B hp hq => ?_)
  obtain ⟨L, ⟨q1, q2, q3, q4, q5, q6, q7, ⟨V', v1, v2, v3, v4, v5⟩, q9⟩, hl, hc, hs⟩ := hq
  refine ⟨L, ⟨q1, q2, q3, q4, q5, q6, q7, ⟨V'.cls, v3, V', v1, rfl, by rw [v4, e, hlen], K4, fun i hi => ?_, fun i hi => ?_⟩, q9⟩, hl, hc, by rw [hs, e]⟩
  · have hi' : i < cs.length := by omega
    rw [v5 i (by omega), hcv i hi']; simp [List.getD_eq_getElem?_getD, hi']
  · have hi' : i < cs.length := by omega
    simp only [List.getD_eq_getElem?_getD, List.getElem?_map, List.getElem?_eq_getElem hi', Option.map_some, Option.getD_some]
    exact fits_lo8 _
end StrChars.Road
namespace StrChars.Road
open Jvm Sem ClassFile Op Lib Jvm.Stand Jvm.Free Jvm.Free.XT
/-- WHAT COMES BACK, in the writer's own shape -/
def QV (Z : State) (x : Addr) (N : Int32) (bs : List Int32) (h : Heap) (n0 : Nat) (v : Option Value) (h' : Heap) (L : List Loc) : Prop := v = none ∧ RoadKit.Fr n0 L ∧ RoadKit.Keep h h' [x] ∧ RoadKit.Exa Z h' x ST ∧ RoadKit.Fld Z h' x ST "coder" "B" (.int 0) ∧
  ∃ (t : Addr) (kb : ClassId), n0 ≤ t ∧ h.size ≤ t ∧ ¬ t = x ∧ RoadKit.Fld Z h' x ST "value" "[B" (.ref t) ∧ RoadKit.Arv Z h' t kb .byte N (bs.map Value.int) (.int 0)
/-- **new String(chars) AT A CALL, FOR THE WRITER**: a char[] of n known ints, each 0 to 255 -/
theorem backV {p : Program} {l : Launch} {e : Env} {R : Room} {s : State} {args : Array Value} {below : List Frame} {len W : Nat} {Z : State} {a0 : Array Value} {h : Heap} (hZ : Z.Warmed39 s.vm) (hw : ∀ d ∈ words, d.before a0 Z = true) {kI : Nat} (wi : (Jvm.Cond.instantiable ST kI).before a0 Z = true)
    {x b : Addr} {kC : ClassId} {cs bs : List Int32} {d v0 c0 : Value} {z N : Int32} {n n0 : Nat} (hx0 : n0 ≤ x) (hh0 : n0 ≤ h.size) (E : RoadKit.Exa Z h x ST) (V : RoadKit.Fld Z h x ST "value" "[B" v0) (C : RoadKit.Fld Z h x ST "coder" "B" c0) (K : RoadKit.Arv Z h b kC .char N (cs.map Value.int) d) (S : RoadKit.Sta Z h ST "COMPACT_STRINGS" "Z" (.int z)) (hz : ¬ z = 0)
    (hn : cs.length = n) (hN : N = Int32.ofNat n) (l0 : 0 < n) (l2 : n ≤ 4000) (hp : ∀ c ∈ cs, ¬ c < 0 ∧ ¬ (255 : Int32) < c) (hb : bs = cs.map (fun c => c.toInt8.toInt32)) (hfr : 4 ≤ R.frames) (hlo : W + 65 ≤ R.locals) :
    Back l R p e below s args (⟨"java/lang/String", "<init>", "([C)V"⟩ : MethodName) len W (fun P a => a = #[.ref x, .ref b] ∧ P.U.heap = h ∧ P.cells + 1 ≤ R.cells ∧ P.slots + n ≤ R.slots)
      (fun P _ v B => ∃ L, QV Z x N bs h n0 v B.U.heap L ∧ B.locs = P.locs ++ L ∧ B.cells = P.cells + 1 ∧ B.slots = P.slots + n) := by
  subst hn hN hb
  refine Back.mono (backArv hZ hw wi E V C K S hz (n32 (by omega)) l0 (by omega) (fun c hc => (hp c hc).2) hfr hlo) (fun P a hp => hp) (fun P a v B hp hq => ?_)
  obtain ⟨L, ⟨q1, q2, q3, q4, q5, q6, q7, ⟨kb, v1, v2⟩, q9⟩, hl, hc, hs⟩ := hq
  exact ⟨L, ⟨q1, fun y hy => by rw [q2 y hy]; exact hx0, q3, q5, q7, h.size, kb, hh0, Nat.le_refl _, Nat.ne_of_gt E.lt, q6, by rw [List.map_map]; exact v2⟩, hl, hc, hs⟩
end StrChars.Road
end Jvm.Pilot.@@N@@
namespace Jvm.Pilot.@@N@@
open Jvm Jvm.ClassFile Sem Op Lib Jvm.Free Jvm.Stand Jvm.LawKit Jvm.RoadKit Bundle Jvm.Own Jvm.Pilot.@@N@@.Jvm.D
theorem wd_0 {Z : State} {a0 : Array Value} (hw : ∀ d ∈ tables_1, d.before a0 Z = true) : (Jvm.Cond.methodLink "com/example/triplecast/triplecast/rdf/SparqlTsvRowPinLaw" (7 : Nat) ({ cls := "java/lang/Math", name := "min", desc := "(II)I" } : Jvm.MethodName)).before a0 Z = true := hw _ (List.mem_of_getElem? (i := 0) rfl)
theorem wd_1 {Z : State} {a0 : Array Value} (hw : ∀ d ∈ tables_1, d.before a0 Z = true) : (Jvm.Cond.static ({ cls := "java/lang/Math", name := "min", desc := "(II)I" } : Jvm.MethodName)).before a0 Z = true := hw _ (List.mem_of_getElem? (i := 1) rfl)
theorem wd_2 {Z : State} {a0 : Array Value} (hw : ∀ d ∈ tables_1, d.before a0 Z = true) : (Jvm.Cond.initialized "java/lang/Math").before a0 Z = true := hw _ (List.mem_of_getElem? (i := 2) rfl)
theorem wd_3 {Z : State} {a0 : Array Value} (hw : ∀ d ∈ tables_1, d.before a0 Z = true) : (Jvm.Cond.code ({ cls := "java/lang/Math", name := "min", desc := "(II)I" } : Jvm.MethodName) jdk_29_method_69_code (2 : Nat) (Option.some Jvm.ClassFile.FieldType.int)).before a0 Z = true := hw _ (List.mem_of_getElem? (i := 3) rfl)
theorem wd_4 {Z : State} {a0 : Array Value} (hw : ∀ d ∈ tables_1, d.before a0 Z = true) : (Jvm.Cond.methodLink "com/example/triplecast/triplecast/rdf/SparqlTsvRowPinLaw" (13 : Nat) ({ cls := "com/example/triplecast/triplecast/rdf/SparqlTsvRowPinLaw", name := "cell", desc := "(II)Ljava/lang/String;" } : Jvm.MethodName)).before a0 Z = true := hw _ (List.mem_of_getElem? (i := 4) rfl)
theorem wd_5 {Z : State} {a0 : Array Value} (hw : ∀ d ∈ tables_1, d.before a0 Z = true) : (Jvm.Cond.static ({ cls := "com/example/triplecast/triplecast/rdf/SparqlTsvRowPinLaw", name := "cell", desc := "(II)Ljava/lang/String;" } : Jvm.MethodName)).before a0 Z = true := hw _ (List.mem_of_getElem? (i := 5) rfl)
theorem wd_6 {Z : State} {a0 : Array Value} (hw : ∀ d ∈ tables_1, d.before a0 Z = true) : (Jvm.Cond.initialized "com/example/triplecast/triplecast/rdf/SparqlTsvRowPinLaw").before a0 Z = true := hw _ (List.mem_of_getElem? (i := 6) rfl)
theorem wd_7 {Z : State} {a0 : Array Value} (hw : ∀ d ∈ tables_1, d.before a0 Z = true) : (Jvm.Cond.code ({ cls := "com/example/triplecast/triplecast/rdf/SparqlTsvRowPinLaw", name := "cell", desc := "(II)Ljava/lang/String;" } : Jvm.MethodName) method_3_code (4 : Nat) (Option.some (Jvm.ClassFile.FieldType.object "java/lang/String"))).before a0 Z = true := hw _ (List.mem_of_getElem? (i := 7) rfl)
theorem wd_8 {Z : State} {a0 : Array Value} (hw : ∀ d ∈ tables_1, d.before a0 Z = true) : (Jvm.Cond.classLink "com/example/triplecast/triplecast/rdf/SparqlTsvRowPinLaw" (19 : Nat) "java/lang/String").before a0 Z = true := hw _ (List.mem_of_getElem? (i := 8) rfl)
theorem wd_9 {Z : State} {a0 : Array Value} (hw : ∀ d ∈ tables_1, d.before a0 Z = true) : (Jvm.Cond.instantiable "java/lang/String" (4 : Nat)).before a0 Z = true := hw _ (List.mem_of_getElem? (i := 9) rfl)
theorem wd_10 {Z : State} {a0 : Array Value} (hw : ∀ d ∈ tables_1, d.before a0 Z = true) : (Jvm.Cond.initialized "java/lang/String").before a0 Z = true := hw _ (List.mem_of_getElem? (i := 10) rfl)
theorem wd_11 {Z : State} {a0 : Array Value} (hw : ∀ d ∈ tables_1, d.before a0 Z = true) : (Jvm.Cond.arrayClass Jvm.ClassFile.FieldType.char).before a0 Z = true := hw _ (List.mem_of_getElem? (i := 11) rfl)
theorem wd_12 {Z : State} {a0 : Array Value} (hw : ∀ d ∈ tables_1, d.before a0 Z = true) : (Jvm.Cond.methodLink "com/example/triplecast/triplecast/rdf/SparqlTsvRowPinLaw" (39 : Nat) ({ cls := "java/lang/String", name := "<init>", desc := "([C)V" } : Jvm.MethodName)).before a0 Z = true := hw _ (List.mem_of_getElem? (i := 12) rfl)
theorem wd_13 {Z : State} {a0 : Array Value} (hw : ∀ d ∈ tables_1, d.before a0 Z = true) : (Jvm.Cond.instanceMethod ({ cls := "java/lang/String", name := "<init>", desc := "([C)V" } : Jvm.MethodName)).before a0 Z = true := hw _ (List.mem_of_getElem? (i := 13) rfl)
theorem wd_14 {Z : State} {a0 : Array Value} (hw : ∀ d ∈ tables_1, d.before a0 Z = true) : (Jvm.Cond.code ({ cls := "java/lang/String", name := "<init>", desc := "([C)V" } : Jvm.MethodName) jdk_42_method_3_code (2 : Nat) (Option.none : Option Jvm.ClassFile.FieldType)).before a0 Z = true := hw _ (List.mem_of_getElem? (i := 14) rfl)
theorem wd_15 {Z : State} {a0 : Array Value} (hw : ∀ d ∈ tables_1, d.before a0 Z = true) : (Jvm.Cond.methodLink "java/lang/String" (27 : Nat) ({ cls := "java/lang/String", name := "<init>", desc := "([CIILjava/lang/Void;)V" } : Jvm.MethodName)).before a0 Z = true := hw _ (List.mem_of_getElem? (i := 15) rfl)
theorem wd_16 {Z : State} {a0 : Array Value} (hw : ∀ d ∈ tables_1, d.before a0 Z = true) : (Jvm.Cond.instanceMethod ({ cls := "java/lang/String", name := "<init>", desc := "([CIILjava/lang/Void;)V" } : Jvm.MethodName)).before a0 Z = true := hw _ (List.mem_of_getElem? (i := 16) rfl)
theorem wd_18 {Z : State} {a0 : Array Value} (hw : ∀ d ∈ tables_1, d.before a0 Z = true) : (Jvm.Cond.code ({ cls := "java/lang/String", name := "<init>", desc := "([CIILjava/lang/Void;)V" } : Jvm.MethodName) jdk_42_method_149_code (6 : Nat) (Option.none : Option Jvm.ClassFile.FieldType)).before a0 Z = true := hw _ (List.mem_of_getElem? (i := 18) rfl)
theorem wd_19 {Z : State} {a0 : Array Value} (hw : ∀ d ∈ tables_1, d.before a0 Z = true) : (Jvm.Cond.methodLink "java/lang/String" (1 : Nat) ({ cls := "java/lang/Object", name := "<init>", desc := "()V" } : Jvm.MethodName)).before a0 Z = true := hw _ (List.mem_of_getElem? (i := 19) rfl)
theorem wd_20 {Z : State} {a0 : Array Value} (hw : ∀ d ∈ tables_1, d.before a0 Z = true) : (Jvm.Cond.instanceMethod ({ cls := "java/lang/Object", name := "<init>", desc := "()V" } : Jvm.MethodName)).before a0 Z = true := hw _ (List.mem_of_getElem? (i := 20) rfl)
theorem wd_21 {Z : State} {a0 : Array Value} (hw : ∀ d ∈ tables_1, d.before a0 Z = true) : (Jvm.Cond.code ({ cls := "java/lang/Object", name := "<init>", desc := "()V" } : Jvm.MethodName) object_method_1_code (1 : Nat) (Option.none : Option Jvm.ClassFile.FieldType)).before a0 Z = true := hw _ (List.mem_of_getElem? (i := 21) rfl)
theorem wd_22 {Z : State} {a0 : Array Value} (hw : ∀ d ∈ tables_1, d.before a0 Z = true) : (Jvm.Cond.stringLink "java/lang/String" (7 : Nat) "").before a0 Z = true := hw _ (List.mem_of_getElem? (i := 22) rfl)
theorem wd_23 {Z : State} {a0 : Array Value} (hw : ∀ d ∈ tables_1, d.before a0 Z = true) : (Jvm.Cond.arrayClass Jvm.ClassFile.FieldType.byte).before a0 Z = true := hw _ (List.mem_of_getElem? (i := 23) rfl)
theorem wd_24 {Z : State} {a0 : Array Value} (hw : ∀ d ∈ tables_1, d.before a0 Z = true) : (Jvm.Cond.laysFinal "java/lang/String" "java/lang/String" "value" "[B").before a0 Z = true := hw _ (List.mem_of_getElem? (i := 24) rfl)
theorem wd_25 {Z : State} {a0 : Array Value} (hw : ∀ d ∈ tables_1, d.before a0 Z = true) : (Jvm.Cond.laysFinal "java/lang/String" "java/lang/String" "coder" "B").before a0 Z = true := hw _ (List.mem_of_getElem? (i := 25) rfl)
theorem wd_28 {Z : State} {a0 : Array Value} (hw : ∀ d ∈ tables_1, d.before a0 Z = true) : (Jvm.Cond.fieldLink "java/lang/String" (9 : Nat) "java/lang/String" "value" "[B").before a0 Z = true := hw _ (List.mem_of_getElem? (i := 28) rfl)
theorem wd_29 {Z : State} {a0 : Array Value} (hw : ∀ d ∈ tables_1, d.before a0 Z = true) : (Jvm.Cond.fieldLink "java/lang/String" (15 : Nat) "java/lang/String" "coder" "B").before a0 Z = true := hw _ (List.mem_of_getElem? (i := 29) rfl)
theorem wd_30 {Z : State} {a0 : Array Value} (hw : ∀ d ∈ tables_1, d.before a0 Z = true) : (Jvm.Cond.arrayOver (Jvm.ClassFile.FieldType.object "java/lang/String")).before a0 Z = true := hw _ (List.mem_of_getElem? (i := 30) rfl)
theorem wd_31 {Z : State} {a0 : Array Value} (hw : ∀ d ∈ tables_1, d.before a0 Z = true) : (Jvm.Cond.methodLink "com/example/triplecast/triplecast/rdf/SparqlTsvRowPinLaw" (21 : Nat) ({ cls := "com/example/triplecast/triplecast/rdf/SparqlTsv", name := "row", desc := "([Ljava/lang/String;)Ljava/lang/String;" } : Jvm.MethodName)).before a0 Z = true := hw _ (List.mem_of_getElem? (i := 31) rfl)
theorem wd_32 {Z : State} {a0 : Array Value} (hw : ∀ d ∈ tables_1, d.before a0 Z = true) : (Jvm.Cond.static ({ cls := "com/example/triplecast/triplecast/rdf/SparqlTsv", name := "row", desc := "([Ljava/lang/String;)Ljava/lang/String;" } : Jvm.MethodName)).before a0 Z = true := hw _ (List.mem_of_getElem? (i := 32) rfl)
theorem wd_33 {Z : State} {a0 : Array Value} (hw : ∀ d ∈ tables_1, d.before a0 Z = true) : (Jvm.Cond.initialized "com/example/triplecast/triplecast/rdf/SparqlTsv").before a0 Z = true := hw _ (List.mem_of_getElem? (i := 33) rfl)
theorem wd_34 {Z : State} {a0 : Array Value} (hw : ∀ d ∈ tables_1, d.before a0 Z = true) : (Jvm.Cond.code ({ cls := "com/example/triplecast/triplecast/rdf/SparqlTsv", name := "row", desc := "([Ljava/lang/String;)Ljava/lang/String;" } : Jvm.MethodName) prog_28_method_3_code (3 : Nat) (Option.some (Jvm.ClassFile.FieldType.object "java/lang/String"))).before a0 Z = true := hw _ (List.mem_of_getElem? (i := 34) rfl)
theorem wd_35 {Z : State} {a0 : Array Value} (hw : ∀ d ∈ tables_1, d.before a0 Z = true) : (Jvm.Cond.classLink "com/example/triplecast/triplecast/rdf/SparqlTsv" (43 : Nat) "java/lang/StringBuilder").before a0 Z = true := hw _ (List.mem_of_getElem? (i := 35) rfl)
theorem wd_36 {Z : State} {a0 : Array Value} (hw : ∀ d ∈ tables_1, d.before a0 Z = true) : (Jvm.Cond.instantiable "java/lang/StringBuilder" (4 : Nat)).before a0 Z = true := hw _ (List.mem_of_getElem? (i := 36) rfl)
theorem wd_37 {Z : State} {a0 : Array Value} (hw : ∀ d ∈ tables_1, d.before a0 Z = true) : (Jvm.Cond.initialized "java/lang/StringBuilder").before a0 Z = true := hw _ (List.mem_of_getElem? (i := 37) rfl)
theorem wd_38 {Z : State} {a0 : Array Value} (hw : ∀ d ∈ tables_1, d.before a0 Z = true) : (Jvm.Cond.methodLink "com/example/triplecast/triplecast/rdf/SparqlTsv" (45 : Nat) ({ cls := "java/lang/StringBuilder", name := "<init>", desc := "()V" } : Jvm.MethodName)).before a0 Z = true := hw _ (List.mem_of_getElem? (i := 38) rfl)
theorem wd_39 {Z : State} {a0 : Array Value} (hw : ∀ d ∈ tables_1, d.before a0 Z = true) : (Jvm.Cond.instanceMethod ({ cls := "java/lang/StringBuilder", name := "<init>", desc := "()V" } : Jvm.MethodName)).before a0 Z = true := hw _ (List.mem_of_getElem? (i := 39) rfl)
theorem wd_40 {Z : State} {a0 : Array Value} (hw : ∀ d ∈ tables_1, d.before a0 Z = true) : (Jvm.Cond.code ({ cls := "java/lang/StringBuilder", name := "<init>", desc := "()V" } : Jvm.MethodName) jdk_67_method_1_code (1 : Nat) (Option.none : Option Jvm.ClassFile.FieldType)).before a0 Z = true := hw _ (List.mem_of_getElem? (i := 40) rfl)
theorem wd_41 {Z : State} {a0 : Array Value} (hw : ∀ d ∈ tables_1, d.before a0 Z = true) : (Jvm.Cond.methodLink "java/lang/StringBuilder" (1 : Nat) ({ cls := "java/lang/AbstractStringBuilder", name := "<init>", desc := "(I)V" } : Jvm.MethodName)).before a0 Z = true := hw _ (List.mem_of_getElem? (i := 41) rfl)
theorem wd_42 {Z : State} {a0 : Array Value} (hw : ∀ d ∈ tables_1, d.before a0 Z = true) : (Jvm.Cond.instanceMethod ({ cls := "java/lang/AbstractStringBuilder", name := "<init>", desc := "(I)V" } : Jvm.MethodName)).before a0 Z = true := hw _ (List.mem_of_getElem? (i := 42) rfl)
theorem wd_45 {Z : State} {a0 : Array Value} (hw : ∀ d ∈ tables_1, d.before a0 Z = true) : (Jvm.Cond.initialized "java/lang/AbstractStringBuilder").before a0 Z = true := hw _ (List.mem_of_getElem? (i := 45) rfl)
theorem wd_46 {Z : State} {a0 : Array Value} (hw : ∀ d ∈ tables_1, d.before a0 Z = true) : (Jvm.Cond.code ({ cls := "java/lang/AbstractStringBuilder", name := "<init>", desc := "(I)V" } : Jvm.MethodName) jdk_68_method_2_code (2 : Nat) (Option.none : Option Jvm.ClassFile.FieldType)).before a0 Z = true := hw _ (List.mem_of_getElem? (i := 46) rfl)
theorem wd_47 {Z : State} {a0 : Array Value} (hw : ∀ d ∈ tables_1, d.before a0 Z = true) : (Jvm.Cond.methodLink "java/lang/AbstractStringBuilder" (3 : Nat) ({ cls := "java/lang/Object", name := "<init>", desc := "()V" } : Jvm.MethodName)).before a0 Z = true := hw _ (List.mem_of_getElem? (i := 47) rfl)
theorem wd_48 {Z : State} {a0 : Array Value} (hw : ∀ d ∈ tables_1, d.before a0 Z = true) : (Jvm.Cond.fieldLink "java/lang/AbstractStringBuilder" (18 : Nat) "java/lang/String" "COMPACT_STRINGS" "Z").before a0 Z = true := hw _ (List.mem_of_getElem? (i := 48) rfl)
theorem wd_49 {Z : State} {a0 : Array Value} (hw : ∀ d ∈ tables_1, d.before a0 Z = true) : (Jvm.Cond.fieldLink "java/lang/AbstractStringBuilder" (15 : Nat) "java/lang/AbstractStringBuilder" "value" "[B").before a0 Z = true := hw _ (List.mem_of_getElem? (i := 49) rfl)
theorem wd_50 {Z : State} {a0 : Array Value} (hw : ∀ d ∈ tables_1, d.before a0 Z = true) : (Jvm.Cond.lays "java/lang/StringBuilder" "java/lang/AbstractStringBuilder" "value" "[B").before a0 Z = true := hw _ (List.mem_of_getElem? (i := 50) rfl)
theorem wd_51 {Z : State} {a0 : Array Value} (hw : ∀ d ∈ tables_1, d.before a0 Z = true) : (Jvm.Cond.fieldLink "java/lang/AbstractStringBuilder" (22 : Nat) "java/lang/AbstractStringBuilder" "coder" "B").before a0 Z = true := hw _ (List.mem_of_getElem? (i := 51) rfl)
theorem wd_52 {Z : State} {a0 : Array Value} (hw : ∀ d ∈ tables_1, d.before a0 Z = true) : (Jvm.Cond.lays "java/lang/StringBuilder" "java/lang/AbstractStringBuilder" "coder" "B").before a0 Z = true := hw _ (List.mem_of_getElem? (i := 52) rfl)
theorem wd_53 {Z : State} {a0 : Array Value} (hw : ∀ d ∈ tables_1, d.before a0 Z = true) : (Jvm.Cond.methodLink "com/example/triplecast/triplecast/rdf/SparqlTsv" (53 : Nat) ({ cls := "java/lang/StringBuilder", name := "toString", desc := "()Ljava/lang/String;" } : Jvm.MethodName)).before a0 Z = true := hw _ (List.mem_of_getElem? (i := 53) rfl)
theorem wd_54 {Z : State} {a0 : Array Value} (hw : ∀ d ∈ tables_1, d.before a0 Z = true) : (Jvm.Cond.declares ({ cls := "java/lang/StringBuilder", name := "toString", desc := "()Ljava/lang/String;" } : Jvm.MethodName)).before a0 Z = true := hw _ (List.mem_of_getElem? (i := 54) rfl)
theorem wd_55 {Z : State} {a0 : Array Value} (hw : ∀ d ∈ tables_1, d.before a0 Z = true) : (Jvm.Cond.instanceMethod ({ cls := "java/lang/StringBuilder", name := "toString", desc := "()Ljava/lang/String;" } : Jvm.MethodName)).before a0 Z = true := hw _ (List.mem_of_getElem? (i := 55) rfl)
theorem wd_56 {Z : State} {a0 : Array Value} (hw : ∀ d ∈ tables_1, d.before a0 Z = true) : (Jvm.Cond.selects "java/lang/StringBuilder" ({ cls := "java/lang/StringBuilder", name := "toString", desc := "()Ljava/lang/String;" } : Jvm.MethodName) ({ cls := "java/lang/StringBuilder", name := "toString", desc := "()Ljava/lang/String;" } : Jvm.MethodName)).before a0 Z = true := hw _ (List.mem_of_getElem? (i := 56) rfl)
theorem wd_57 {Z : State} {a0 : Array Value} (hw : ∀ d ∈ tables_1, d.before a0 Z = true) : (Jvm.Cond.code ({ cls := "java/lang/StringBuilder", name := "toString", desc := "()Ljava/lang/String;" } : Jvm.MethodName) jdk_67_method_42_code (1 : Nat) (Option.some (Jvm.ClassFile.FieldType.object "java/lang/String"))).before a0 Z = true := hw _ (List.mem_of_getElem? (i := 57) rfl)
theorem wd_58 {Z : State} {a0 : Array Value} (hw : ∀ d ∈ tables_1, d.before a0 Z = true) : (Jvm.Cond.classLink "java/lang/StringBuilder" (18 : Nat) "java/lang/String").before a0 Z = true := hw _ (List.mem_of_getElem? (i := 58) rfl)
theorem wd_59 {Z : State} {a0 : Array Value} (hw : ∀ d ∈ tables_1, d.before a0 Z = true) : (Jvm.Cond.methodLink "java/lang/StringBuilder" (137 : Nat) ({ cls := "java/lang/String", name := "<init>", desc := "(Ljava/lang/StringBuilder;)V" } : Jvm.MethodName)).before a0 Z = true := hw _ (List.mem_of_getElem? (i := 59) rfl)
theorem wd_60 {Z : State} {a0 : Array Value} (hw : ∀ d ∈ tables_1, d.before a0 Z = true) : (Jvm.Cond.instanceMethod ({ cls := "java/lang/String", name := "<init>", desc := "(Ljava/lang/StringBuilder;)V" } : Jvm.MethodName)).before a0 Z = true := hw _ (List.mem_of_getElem? (i := 60) rfl)
theorem wd_61 {Z : State} {a0 : Array Value} (hw : ∀ d ∈ tables_1, d.before a0 Z = true) : (Jvm.Cond.code ({ cls := "java/lang/String", name := "<init>", desc := "(Ljava/lang/StringBuilder;)V" } : Jvm.MethodName) jdk_42_method_53_code (2 : Nat) (Option.none : Option Jvm.ClassFile.FieldType)).before a0 Z = true := hw _ (List.mem_of_getElem? (i := 61) rfl)
theorem wd_62 {Z : State} {a0 : Array Value} (hw : ∀ d ∈ tables_1, d.before a0 Z = true) : (Jvm.Cond.methodLink "java/lang/String" (489 : Nat) ({ cls := "java/lang/String", name := "<init>", desc := "(Ljava/lang/AbstractStringBuilder;Ljava/lang/Void;)V" } : Jvm.MethodName)).before a0 Z = true := hw _ (List.mem_of_getElem? (i := 62) rfl)
theorem wd_63 {Z : State} {a0 : Array Value} (hw : ∀ d ∈ tables_1, d.before a0 Z = true) : (Jvm.Cond.instanceMethod ({ cls := "java/lang/String", name := "<init>", desc := "(Ljava/lang/AbstractStringBuilder;Ljava/lang/Void;)V" } : Jvm.MethodName)).before a0 Z = true := hw _ (List.mem_of_getElem? (i := 63) rfl)
theorem wd_64 {Z : State} {a0 : Array Value} (hw : ∀ d ∈ tables_1, d.before a0 Z = true) : (Jvm.Cond.code ({ cls := "java/lang/String", name := "<init>", desc := "(Ljava/lang/AbstractStringBuilder;Ljava/lang/Void;)V" } : Jvm.MethodName) jdk_42_method_150_code (5 : Nat) (Option.none : Option Jvm.ClassFile.FieldType)).before a0 Z = true := hw _ (List.mem_of_getElem? (i := 64) rfl)
theorem wd_65 {Z : State} {a0 : Array Value} (hw : ∀ d ∈ tables_1, d.before a0 Z = true) : (Jvm.Cond.methodLink "java/lang/String" (552 : Nat) ({ cls := "java/lang/AbstractStringBuilder", name := "getValue", desc := "()[B" } : Jvm.MethodName)).before a0 Z = true := hw _ (List.mem_of_getElem? (i := 65) rfl)
theorem wd_66 {Z : State} {a0 : Array Value} (hw : ∀ d ∈ tables_1, d.before a0 Z = true) : (Jvm.Cond.declares ({ cls := "java/lang/AbstractStringBuilder", name := "getValue", desc := "()[B" } : Jvm.MethodName)).before a0 Z = true := hw _ (List.mem_of_getElem? (i := 66) rfl)
theorem wd_67 {Z : State} {a0 : Array Value} (hw : ∀ d ∈ tables_1, d.before a0 Z = true) : (Jvm.Cond.instanceMethod ({ cls := "java/lang/AbstractStringBuilder", name := "getValue", desc := "()[B" } : Jvm.MethodName)).before a0 Z = true := hw _ (List.mem_of_getElem? (i := 67) rfl)
theorem wd_68 {Z : State} {a0 : Array Value} (hw : ∀ d ∈ tables_1, d.before a0 Z = true) : (Jvm.Cond.selects "java/lang/StringBuilder" ({ cls := "java/lang/AbstractStringBuilder", name := "getValue", desc := "()[B" } : Jvm.MethodName) ({ cls := "java/lang/AbstractStringBuilder", name := "getValue", desc := "()[B" } : Jvm.MethodName)).before a0 Z = true := hw _ (List.mem_of_getElem? (i := 68) rfl)
theorem wd_69 {Z : State} {a0 : Array Value} (hw : ∀ d ∈ tables_1, d.before a0 Z = true) : (Jvm.Cond.code ({ cls := "java/lang/AbstractStringBuilder", name := "getValue", desc := "()[B" } : Jvm.MethodName) jdk_68_method_64_code (1 : Nat) (Option.some (Jvm.ClassFile.FieldType.array Jvm.ClassFile.FieldType.byte))).before a0 Z = true := hw _ (List.mem_of_getElem? (i := 69) rfl)
theorem wd_70 {Z : State} {a0 : Array Value} (hw : ∀ d ∈ tables_1, d.before a0 Z = true) : (Jvm.Cond.methodLink "java/lang/String" (549 : Nat) ({ cls := "java/lang/AbstractStringBuilder", name := "length", desc := "()I" } : Jvm.MethodName)).before a0 Z = true := hw _ (List.mem_of_getElem? (i := 70) rfl)
theorem wd_71 {Z : State} {a0 : Array Value} (hw : ∀ d ∈ tables_1, d.before a0 Z = true) : (Jvm.Cond.declares ({ cls := "java/lang/AbstractStringBuilder", name := "length", desc := "()I" } : Jvm.MethodName)).before a0 Z = true := hw _ (List.mem_of_getElem? (i := 71) rfl)
theorem wd_72 {Z : State} {a0 : Array Value} (hw : ∀ d ∈ tables_1, d.before a0 Z = true) : (Jvm.Cond.instanceMethod ({ cls := "java/lang/AbstractStringBuilder", name := "length", desc := "()I" } : Jvm.MethodName)).before a0 Z = true := hw _ (List.mem_of_getElem? (i := 72) rfl)
theorem wd_73 {Z : State} {a0 : Array Value} (hw : ∀ d ∈ tables_1, d.before a0 Z = true) : (Jvm.Cond.selects "java/lang/StringBuilder" ({ cls := "java/lang/AbstractStringBuilder", name := "length", desc := "()I" } : Jvm.MethodName) ({ cls := "java/lang/StringBuilder", name := "length", desc := "()I" } : Jvm.MethodName)).before a0 Z = true := hw _ (List.mem_of_getElem? (i := 73) rfl)
theorem wd_74 {Z : State} {a0 : Array Value} (hw : ∀ d ∈ tables_1, d.before a0 Z = true) : (Jvm.Cond.instanceMethod ({ cls := "java/lang/StringBuilder", name := "length", desc := "()I" } : Jvm.MethodName)).before a0 Z = true := hw _ (List.mem_of_getElem? (i := 74) rfl)
theorem wd_75 {Z : State} {a0 : Array Value} (hw : ∀ d ∈ tables_1, d.before a0 Z = true) : (Jvm.Cond.code ({ cls := "java/lang/StringBuilder", name := "length", desc := "()I" } : Jvm.MethodName) jdk_67_method_93_code (1 : Nat) (Option.some Jvm.ClassFile.FieldType.int)).before a0 Z = true := hw _ (List.mem_of_getElem? (i := 75) rfl)
theorem wd_76 {Z : State} {a0 : Array Value} (hw : ∀ d ∈ tables_1, d.before a0 Z = true) : (Jvm.Cond.methodLink "java/lang/StringBuilder" (343 : Nat) ({ cls := "java/lang/AbstractStringBuilder", name := "length", desc := "()I" } : Jvm.MethodName)).before a0 Z = true := hw _ (List.mem_of_getElem? (i := 76) rfl)
theorem wd_77 {Z : State} {a0 : Array Value} (hw : ∀ d ∈ tables_1, d.before a0 Z = true) : (Jvm.Cond.superclass "java/lang/StringBuilder" "java/lang/AbstractStringBuilder").before a0 Z = true := hw _ (List.mem_of_getElem? (i := 77) rfl)
theorem wd_78 {Z : State} {a0 : Array Value} (hw : ∀ d ∈ tables_1, d.before a0 Z = true) : (Jvm.Cond.code ({ cls := "java/lang/AbstractStringBuilder", name := "length", desc := "()I" } : Jvm.MethodName) jdk_68_method_6_code (1 : Nat) (Option.some Jvm.ClassFile.FieldType.int)).before a0 Z = true := hw _ (List.mem_of_getElem? (i := 78) rfl)
theorem wd_79 {Z : State} {a0 : Array Value} (hw : ∀ d ∈ tables_1, d.before a0 Z = true) : (Jvm.Cond.fieldLink "java/lang/AbstractStringBuilder" (79 : Nat) "java/lang/AbstractStringBuilder" "count" "I").before a0 Z = true := hw _ (List.mem_of_getElem? (i := 79) rfl)
theorem wd_80 {Z : State} {a0 : Array Value} (hw : ∀ d ∈ tables_1, d.before a0 Z = true) : (Jvm.Cond.lays "java/lang/StringBuilder" "java/lang/AbstractStringBuilder" "count" "I").before a0 Z = true := hw _ (List.mem_of_getElem? (i := 80) rfl)
theorem wd_81 {Z : State} {a0 : Array Value} (hw : ∀ d ∈ tables_1, d.before a0 Z = true) : (Jvm.Cond.methodLink "java/lang/String" (1047 : Nat) ({ cls := "java/lang/AbstractStringBuilder", name := "isLatin1", desc := "()Z" } : Jvm.MethodName)).before a0 Z = true := hw _ (List.mem_of_getElem? (i := 81) rfl)
theorem wd_82 {Z : State} {a0 : Array Value} (hw : ∀ d ∈ tables_1, d.before a0 Z = true) : (Jvm.Cond.declares ({ cls := "java/lang/AbstractStringBuilder", name := "isLatin1", desc := "()Z" } : Jvm.MethodName)).before a0 Z = true := hw _ (List.mem_of_getElem? (i := 82) rfl)
theorem wd_83 {Z : State} {a0 : Array Value} (hw : ∀ d ∈ tables_1, d.before a0 Z = true) : (Jvm.Cond.instanceMethod ({ cls := "java/lang/AbstractStringBuilder", name := "isLatin1", desc := "()Z" } : Jvm.MethodName)).before a0 Z = true := hw _ (List.mem_of_getElem? (i := 83) rfl)
theorem wd_84 {Z : State} {a0 : Array Value} (hw : ∀ d ∈ tables_1, d.before a0 Z = true) : (Jvm.Cond.selects "java/lang/StringBuilder" ({ cls := "java/lang/AbstractStringBuilder", name := "isLatin1", desc := "()Z" } : Jvm.MethodName) ({ cls := "java/lang/AbstractStringBuilder", name := "isLatin1", desc := "()Z" } : Jvm.MethodName)).before a0 Z = true := hw _ (List.mem_of_getElem? (i := 84) rfl)
theorem wd_85 {Z : State} {a0 : Array Value} (hw : ∀ d ∈ tables_1, d.before a0 Z = true) : (Jvm.Cond.code ({ cls := "java/lang/AbstractStringBuilder", name := "isLatin1", desc := "()Z" } : Jvm.MethodName) jdk_68_method_68_code (1 : Nat) (Option.some Jvm.ClassFile.FieldType.boolean)).before a0 Z = true := hw _ (List.mem_of_getElem? (i := 85) rfl)
theorem wd_86 {Z : State} {a0 : Array Value} (hw : ∀ d ∈ tables_1, d.before a0 Z = true) : (Jvm.Cond.methodLink "java/lang/String" (54 : Nat) ({ cls := "java/util/Arrays", name := "copyOfRange", desc := "([BII)[B" } : Jvm.MethodName)).before a0 Z = true := hw _ (List.mem_of_getElem? (i := 86) rfl)
theorem wd_87 {Z : State} {a0 : Array Value} (hw : ∀ d ∈ tables_1, d.before a0 Z = true) : (Jvm.Cond.static ({ cls := "java/util/Arrays", name := "copyOfRange", desc := "([BII)[B" } : Jvm.MethodName)).before a0 Z = true := hw _ (List.mem_of_getElem? (i := 87) rfl)
theorem wd_88 {Z : State} {a0 : Array Value} (hw : ∀ d ∈ tables_1, d.before a0 Z = true) : (Jvm.Cond.initialized "java/util/Arrays").before a0 Z = true := hw _ (List.mem_of_getElem? (i := 88) rfl)
theorem wd_89 {Z : State} {a0 : Array Value} (hw : ∀ d ∈ tables_1, d.before a0 Z = true) : (Jvm.Cond.code ({ cls := "java/util/Arrays", name := "copyOfRange", desc := "([BII)[B" } : Jvm.MethodName) jdk_65_method_132_code (3 : Nat) (Option.some (Jvm.ClassFile.FieldType.array Jvm.ClassFile.FieldType.byte))).before a0 Z = true := hw _ (List.mem_of_getElem? (i := 89) rfl)
theorem wd_90 {Z : State} {a0 : Array Value} (hw : ∀ d ∈ tables_1, d.before a0 Z = true) : (Jvm.Cond.methodLink "java/util/Arrays" (339 : Nat) ({ cls := "java/util/Arrays", name := "copyOfRangeByte", desc := "([BII)[B" } : Jvm.MethodName)).before a0 Z = true := hw _ (List.mem_of_getElem? (i := 90) rfl)
theorem wd_91 {Z : State} {a0 : Array Value} (hw : ∀ d ∈ tables_1, d.before a0 Z = true) : (Jvm.Cond.static ({ cls := "java/util/Arrays", name := "copyOfRangeByte", desc := "([BII)[B" } : Jvm.MethodName)).before a0 Z = true := hw _ (List.mem_of_getElem? (i := 91) rfl)
theorem wd_92 {Z : State} {a0 : Array Value} (hw : ∀ d ∈ tables_1, d.before a0 Z = true) : (Jvm.Cond.code ({ cls := "java/util/Arrays", name := "copyOfRangeByte", desc := "([BII)[B" } : Jvm.MethodName) jdk_65_method_133_code (5 : Nat) (Option.some (Jvm.ClassFile.FieldType.array Jvm.ClassFile.FieldType.byte))).before a0 Z = true := hw _ (List.mem_of_getElem? (i := 92) rfl)
theorem wd_93 {Z : State} {a0 : Array Value} (hw : ∀ d ∈ tables_1, d.before a0 Z = true) : (Jvm.Cond.methodLink "java/util/Arrays" (343 : Nat) ({ cls := "java/util/Arrays", name := "checkLength", desc := "(II)V" } : Jvm.MethodName)).before a0 Z = true := hw _ (List.mem_of_getElem? (i := 93) rfl)
theorem wd_94 {Z : State} {a0 : Array Value} (hw : ∀ d ∈ tables_1, d.before a0 Z = true) : (Jvm.Cond.static ({ cls := "java/util/Arrays", name := "checkLength", desc := "(II)V" } : Jvm.MethodName)).before a0 Z = true := hw _ (List.mem_of_getElem? (i := 94) rfl)
theorem wd_95 {Z : State} {a0 : Array Value} (hw : ∀ d ∈ tables_1, d.before a0 Z = true) : (Jvm.Cond.code ({ cls := "java/util/Arrays", name := "checkLength", desc := "(II)V" } : Jvm.MethodName) jdk_65_method_131_code (2 : Nat) (Option.none : Option Jvm.ClassFile.FieldType)).before a0 Z = true := hw _ (List.mem_of_getElem? (i := 95) rfl)
theorem wd_96 {Z : State} {a0 : Array Value} (hw : ∀ d ∈ tables_1, d.before a0 Z = true) : (Jvm.Cond.methodLink "java/util/Arrays" (304 : Nat) ({ cls := "java/lang/Math", name := "min", desc := "(II)I" } : Jvm.MethodName)).before a0 Z = true := hw _ (List.mem_of_getElem? (i := 96) rfl)
theorem wd_97 {Z : State} {a0 : Array Value} (hw : ∀ d ∈ tables_1, d.before a0 Z = true) : (Jvm.Cond.methodLink "java/util/Arrays" (150 : Nat) ({ cls := "java/lang/System", name := "arraycopy", desc := "(Ljava/lang/Object;ILjava/lang/Object;II)V" } : Jvm.MethodName)).before a0 Z = true := hw _ (List.mem_of_getElem? (i := 97) rfl)
theorem wd_98 {Z : State} {a0 : Array Value} (hw : ∀ d ∈ tables_1, d.before a0 Z = true) : (Jvm.Cond.static ({ cls := "java/lang/System", name := "arraycopy", desc := "(Ljava/lang/Object;ILjava/lang/Object;II)V" } : Jvm.MethodName)).before a0 Z = true := hw _ (List.mem_of_getElem? (i := 98) rfl)
theorem wd_99 {Z : State} {a0 : Array Value} (hw : ∀ d ∈ tables_1, d.before a0 Z = true) : (Jvm.Cond.initialized "java/lang/System").before a0 Z = true := hw _ (List.mem_of_getElem? (i := 99) rfl)
theorem wd_100 {Z : State} {a0 : Array Value} (hw : ∀ d ∈ tables_1, d.before a0 Z = true) : (Jvm.Cond.native ({ cls := "java/lang/System", name := "arraycopy", desc := "(Ljava/lang/Object;ILjava/lang/Object;II)V" } : Jvm.MethodName)).before a0 Z = true := hw _ (List.mem_of_getElem? (i := 100) rfl)
theorem wd_101 {Z : State} {a0 : Array Value} (hw : ∀ d ∈ tables_1, d.before a0 Z = true) : (Jvm.Cond.methodLink "com/example/triplecast/triplecast/rdf/SparqlTsvRowPinLaw" (31 : Nat) ({ cls := "java/lang/String", name := "length", desc := "()I" } : Jvm.MethodName)).before a0 Z = true := hw _ (List.mem_of_getElem? (i := 101) rfl)
theorem wd_102 {Z : State} {a0 : Array Value} (hw : ∀ d ∈ tables_1, d.before a0 Z = true) : (Jvm.Cond.declares ({ cls := "java/lang/String", name := "length", desc := "()I" } : Jvm.MethodName)).before a0 Z = true := hw _ (List.mem_of_getElem? (i := 102) rfl)
theorem wd_103 {Z : State} {a0 : Array Value} (hw : ∀ d ∈ tables_1, d.before a0 Z = true) : (Jvm.Cond.instanceMethod ({ cls := "java/lang/String", name := "length", desc := "()I" } : Jvm.MethodName)).before a0 Z = true := hw _ (List.mem_of_getElem? (i := 103) rfl)
theorem wd_104 {Z : State} {a0 : Array Value} (hw : ∀ d ∈ tables_1, d.before a0 Z = true) : (Jvm.Cond.selects "java/lang/String" ({ cls := "java/lang/String", name := "length", desc := "()I" } : Jvm.MethodName) ({ cls := "java/lang/String", name := "length", desc := "()I" } : Jvm.MethodName)).before a0 Z = true := hw _ (List.mem_of_getElem? (i := 104) rfl)
theorem wd_105 {Z : State} {a0 : Array Value} (hw : ∀ d ∈ tables_1, d.before a0 Z = true) : (Jvm.Cond.code ({ cls := "java/lang/String", name := "length", desc := "()I" } : Jvm.MethodName) jdk_42_method_54_code (1 : Nat) (Option.some Jvm.ClassFile.FieldType.int)).before a0 Z = true := hw _ (List.mem_of_getElem? (i := 105) rfl)
theorem wd_106 {Z : State} {a0 : Array Value} (hw : ∀ d ∈ tables_1, d.before a0 Z = true) : (Jvm.Cond.methodLink "java/lang/String" (335 : Nat) ({ cls := "java/lang/String", name := "coder", desc := "()B" } : Jvm.MethodName)).before a0 Z = true := hw _ (List.mem_of_getElem? (i := 106) rfl)
theorem wd_107 {Z : State} {a0 : Array Value} (hw : ∀ d ∈ tables_1, d.before a0 Z = true) : (Jvm.Cond.declares ({ cls := "java/lang/String", name := "coder", desc := "()B" } : Jvm.MethodName)).before a0 Z = true := hw _ (List.mem_of_getElem? (i := 107) rfl)
theorem wd_108 {Z : State} {a0 : Array Value} (hw : ∀ d ∈ tables_1, d.before a0 Z = true) : (Jvm.Cond.instanceMethod ({ cls := "java/lang/String", name := "coder", desc := "()B" } : Jvm.MethodName)).before a0 Z = true := hw _ (List.mem_of_getElem? (i := 108) rfl)
theorem wd_109 {Z : State} {a0 : Array Value} (hw : ∀ d ∈ tables_1, d.before a0 Z = true) : (Jvm.Cond.selects "java/lang/String" ({ cls := "java/lang/String", name := "coder", desc := "()B" } : Jvm.MethodName) ({ cls := "java/lang/String", name := "coder", desc := "()B" } : Jvm.MethodName)).before a0 Z = true := hw _ (List.mem_of_getElem? (i := 109) rfl)
theorem wd_110 {Z : State} {a0 : Array Value} (hw : ∀ d ∈ tables_1, d.before a0 Z = true) : (Jvm.Cond.code ({ cls := "java/lang/String", name := "coder", desc := "()B" } : Jvm.MethodName) jdk_42_method_152_code (1 : Nat) (Option.some Jvm.ClassFile.FieldType.byte)).before a0 Z = true := hw _ (List.mem_of_getElem? (i := 110) rfl)
theorem wd_111 {Z : State} {a0 : Array Value} (hw : ∀ d ∈ tables_1, d.before a0 Z = true) : (Jvm.Cond.fieldLink "java/lang/String" (38 : Nat) "java/lang/String" "COMPACT_STRINGS" "Z").before a0 Z = true := hw _ (List.mem_of_getElem? (i := 111) rfl)
theorem wd_112 {Z : State} {a0 : Array Value} (hw : ∀ d ∈ tables_1, d.before a0 Z = true) : (Jvm.Cond.methodLink "com/example/triplecast/triplecast/rdf/SparqlTsvRowPinLaw" (35 : Nat) ({ cls := "com/example/triplecast/triplecast/rdf/SparqlTsvRowPinLaw", name := "at", desc := "(Ljava/lang/String;[CII)Z" } : Jvm.MethodName)).before a0 Z = true := hw _ (List.mem_of_getElem? (i := 112) rfl)
theorem wd_113 {Z : State} {a0 : Array Value} (hw : ∀ d ∈ tables_1, d.before a0 Z = true) : (Jvm.Cond.static ({ cls := "com/example/triplecast/triplecast/rdf/SparqlTsvRowPinLaw", name := "at", desc := "(Ljava/lang/String;[CII)Z" } : Jvm.MethodName)).before a0 Z = true := hw _ (List.mem_of_getElem? (i := 113) rfl)
theorem wd_114 {Z : State} {a0 : Array Value} (hw : ∀ d ∈ tables_1, d.before a0 Z = true) : (Jvm.Cond.code ({ cls := "com/example/triplecast/triplecast/rdf/SparqlTsvRowPinLaw", name := "at", desc := "(Ljava/lang/String;[CII)Z" } : Jvm.MethodName) method_5_code (4 : Nat) (Option.some Jvm.ClassFile.FieldType.boolean)).before a0 Z = true := hw _ (List.mem_of_getElem? (i := 114) rfl)
theorem wd_115 {Z : State} {a0 : Array Value} (hw : ∀ d ∈ tables_1, d.before a0 Z = true) : (Jvm.Cond.methodLink "com/example/triplecast/triplecast/rdf/SparqlTsv" (46 : Nat) ({ cls := "java/lang/StringBuilder", name := "append", desc := "(C)Ljava/lang/StringBuilder;" } : Jvm.MethodName)).before a0 Z = true := hw _ (List.mem_of_getElem? (i := 115) rfl)
theorem wd_116 {Z : State} {a0 : Array Value} (hw : ∀ d ∈ tables_1, d.before a0 Z = true) : (Jvm.Cond.declares ({ cls := "java/lang/StringBuilder", name := "append", desc := "(C)Ljava/lang/StringBuilder;" } : Jvm.MethodName)).before a0 Z = true := hw _ (List.mem_of_getElem? (i := 116) rfl)
theorem wd_117 {Z : State} {a0 : Array Value} (hw : ∀ d ∈ tables_1, d.before a0 Z = true) : (Jvm.Cond.instanceMethod ({ cls := "java/lang/StringBuilder", name := "append", desc := "(C)Ljava/lang/StringBuilder;" } : Jvm.MethodName)).before a0 Z = true := hw _ (List.mem_of_getElem? (i := 117) rfl)
theorem wd_118 {Z : State} {a0 : Array Value} (hw : ∀ d ∈ tables_1, d.before a0 Z = true) : (Jvm.Cond.selects "java/lang/StringBuilder" ({ cls := "java/lang/StringBuilder", name := "append", desc := "(C)Ljava/lang/StringBuilder;" } : Jvm.MethodName) ({ cls := "java/lang/StringBuilder", name := "append", desc := "(C)Ljava/lang/StringBuilder;" } : Jvm.MethodName)).before a0 Z = true := hw _ (List.mem_of_getElem? (i := 118) rfl)
theorem wd_119 {Z : State} {a0 : Array Value} (hw : ∀ d ∈ tables_1, d.before a0 Z = true) : (Jvm.Cond.code ({ cls := "java/lang/StringBuilder", name := "append", desc := "(C)Ljava/lang/StringBuilder;" } : Jvm.MethodName) jdk_67_method_14_code (2 : Nat) (Option.some (Jvm.ClassFile.FieldType.object "java/lang/StringBuilder"))).before a0 Z = true := hw _ (List.mem_of_getElem? (i := 119) rfl)
theorem wd_120 {Z : State} {a0 : Array Value} (hw : ∀ d ∈ tables_1, d.before a0 Z = true) : (Jvm.Cond.methodLink "java/lang/StringBuilder" (50 : Nat) ({ cls := "java/lang/AbstractStringBuilder", name := "append", desc := "(C)Ljava/lang/AbstractStringBuilder;" } : Jvm.MethodName)).before a0 Z = true := hw _ (List.mem_of_getElem? (i := 120) rfl)
theorem wd_121 {Z : State} {a0 : Array Value} (hw : ∀ d ∈ tables_1, d.before a0 Z = true) : (Jvm.Cond.instanceMethod ({ cls := "java/lang/AbstractStringBuilder", name := "append", desc := "(C)Ljava/lang/AbstractStringBuilder;" } : Jvm.MethodName)).before a0 Z = true := hw _ (List.mem_of_getElem? (i := 121) rfl)
theorem wd_123 {Z : State} {a0 : Array Value} (hw : ∀ d ∈ tables_1, d.before a0 Z = true) : (Jvm.Cond.code ({ cls := "java/lang/AbstractStringBuilder", name := "append", desc := "(C)Ljava/lang/AbstractStringBuilder;" } : Jvm.MethodName) jdk_68_method_31_code (2 : Nat) (Option.some (Jvm.ClassFile.FieldType.object "java/lang/AbstractStringBuilder"))).before a0 Z = true := hw _ (List.mem_of_getElem? (i := 123) rfl)
theorem wd_124 {Z : State} {a0 : Array Value} (hw : ∀ d ∈ tables_1, d.before a0 Z = true) : (Jvm.Cond.methodLink "java/lang/AbstractStringBuilder" (100 : Nat) ({ cls := "java/lang/AbstractStringBuilder", name := "ensureCapacityInternal", desc := "(I)V" } : Jvm.MethodName)).before a0 Z = true := hw _ (List.mem_of_getElem? (i := 124) rfl)
theorem wd_125 {Z : State} {a0 : Array Value} (hw : ∀ d ∈ tables_1, d.before a0 Z = true) : (Jvm.Cond.instanceMethod ({ cls := "java/lang/AbstractStringBuilder", name := "ensureCapacityInternal", desc := "(I)V" } : Jvm.MethodName)).before a0 Z = true := hw _ (List.mem_of_getElem? (i := 125) rfl)
theorem wd_126 {Z : State} {a0 : Array Value} (hw : ∀ d ∈ tables_1, d.before a0 Z = true) : (Jvm.Cond.privateMethod ({ cls := "java/lang/AbstractStringBuilder", name := "ensureCapacityInternal", desc := "(I)V" } : Jvm.MethodName)).before a0 Z = true := hw _ (List.mem_of_getElem? (i := 126) rfl)
theorem wd_128 {Z : State} {a0 : Array Value} (hw : ∀ d ∈ tables_1, d.before a0 Z = true) : (Jvm.Cond.code ({ cls := "java/lang/AbstractStringBuilder", name := "ensureCapacityInternal", desc := "(I)V" } : Jvm.MethodName) jdk_68_method_9_code (3 : Nat) (Option.none : Option Jvm.ClassFile.FieldType)).before a0 Z = true := hw _ (List.mem_of_getElem? (i := 128) rfl)
theorem wd_129 {Z : State} {a0 : Array Value} (hw : ∀ d ∈ tables_1, d.before a0 Z = true) : (Jvm.Cond.methodLink "java/lang/AbstractStringBuilder" (83 : Nat) ({ cls := "java/lang/AbstractStringBuilder", name := "isLatin1", desc := "()Z" } : Jvm.MethodName)).before a0 Z = true := hw _ (List.mem_of_getElem? (i := 129) rfl)
theorem wd_130 {Z : State} {a0 : Array Value} (hw : ∀ d ∈ tables_1, d.before a0 Z = true) : (Jvm.Cond.methodLink "java/lang/AbstractStringBuilder" (191 : Nat) ({ cls := "java/lang/StringLatin1", name := "canEncode", desc := "(C)Z" } : Jvm.MethodName)).before a0 Z = true := hw _ (List.mem_of_getElem? (i := 130) rfl)
theorem wd_131 {Z : State} {a0 : Array Value} (hw : ∀ d ∈ tables_1, d.before a0 Z = true) : (Jvm.Cond.static ({ cls := "java/lang/StringLatin1", name := "canEncode", desc := "(C)Z" } : Jvm.MethodName)).before a0 Z = true := hw _ (List.mem_of_getElem? (i := 131) rfl)
theorem wd_132 {Z : State} {a0 : Array Value} (hw : ∀ d ∈ tables_1, d.before a0 Z = true) : (Jvm.Cond.initialized "java/lang/StringLatin1").before a0 Z = true := hw _ (List.mem_of_getElem? (i := 132) rfl)
theorem wd_133 {Z : State} {a0 : Array Value} (hw : ∀ d ∈ tables_1, d.before a0 Z = true) : (Jvm.Cond.code ({ cls := "java/lang/StringLatin1", name := "canEncode", desc := "(C)Z" } : Jvm.MethodName) jdk_43_method_3_code (1 : Nat) (Option.some Jvm.ClassFile.FieldType.boolean)).before a0 Z = true := hw _ (List.mem_of_getElem? (i := 133) rfl)
theorem wd_134 {Z : State} {a0 : Array Value} (hw : ∀ d ∈ tables_1, d.before a0 Z = true) : (Jvm.Cond.methodLink "com/example/triplecast/triplecast/rdf/SparqlTsv" (50 : Nat) ({ cls := "java/lang/StringBuilder", name := "append", desc := "(Ljava/lang/String;)Ljava/lang/StringBuilder;" } : Jvm.MethodName)).before a0 Z = true := hw _ (List.mem_of_getElem? (i := 134) rfl)
theorem wd_135 {Z : State} {a0 : Array Value} (hw : ∀ d ∈ tables_1, d.before a0 Z = true) : (Jvm.Cond.declares ({ cls := "java/lang/StringBuilder", name := "append", desc := "(Ljava/lang/String;)Ljava/lang/StringBuilder;" } : Jvm.MethodName)).before a0 Z = true := hw _ (List.mem_of_getElem? (i := 135) rfl)
theorem wd_136 {Z : State} {a0 : Array Value} (hw : ∀ d ∈ tables_1, d.before a0 Z = true) : (Jvm.Cond.instanceMethod ({ cls := "java/lang/StringBuilder", name := "append", desc := "(Ljava/lang/String;)Ljava/lang/StringBuilder;" } : Jvm.MethodName)).before a0 Z = true := hw _ (List.mem_of_getElem? (i := 136) rfl)
theorem wd_137 {Z : State} {a0 : Array Value} (hw : ∀ d ∈ tables_1, d.before a0 Z = true) : (Jvm.Cond.selects "java/lang/StringBuilder" ({ cls := "java/lang/StringBuilder", name := "append", desc := "(Ljava/lang/String;)Ljava/lang/StringBuilder;" } : Jvm.MethodName) ({ cls := "java/lang/StringBuilder", name := "append", desc := "(Ljava/lang/String;)Ljava/lang/StringBuilder;" } : Jvm.MethodName)).before a0 Z = true := hw _ (List.mem_of_getElem? (i := 137) rfl)
theorem wd_138 {Z : State} {a0 : Array Value} (hw : ∀ d ∈ tables_1, d.before a0 Z = true) : (Jvm.Cond.code ({ cls := "java/lang/StringBuilder", name := "append", desc := "(Ljava/lang/String;)Ljava/lang/StringBuilder;" } : Jvm.MethodName) jdk_67_method_7_code (2 : Nat) (Option.some (Jvm.ClassFile.FieldType.object "java/lang/StringBuilder"))).before a0 Z = true := hw _ (List.mem_of_getElem? (i := 138) rfl)
theorem wd_139 {Z : State} {a0 : Array Value} (hw : ∀ d ∈ tables_1, d.before a0 Z = true) : (Jvm.Cond.methodLink "java/lang/StringBuilder" (29 : Nat) ({ cls := "java/lang/AbstractStringBuilder", name := "append", desc := "(Ljava/lang/String;)Ljava/lang/AbstractStringBuilder;" } : Jvm.MethodName)).before a0 Z = true := hw _ (List.mem_of_getElem? (i := 139) rfl)
theorem wd_140 {Z : State} {a0 : Array Value} (hw : ∀ d ∈ tables_1, d.before a0 Z = true) : (Jvm.Cond.instanceMethod ({ cls := "java/lang/AbstractStringBuilder", name := "append", desc := "(Ljava/lang/String;)Ljava/lang/AbstractStringBuilder;" } : Jvm.MethodName)).before a0 Z = true := hw _ (List.mem_of_getElem? (i := 140) rfl)
theorem wd_142 {Z : State} {a0 : Array Value} (hw : ∀ d ∈ tables_1, d.before a0 Z = true) : (Jvm.Cond.code ({ cls := "java/lang/AbstractStringBuilder", name := "append", desc := "(Ljava/lang/String;)Ljava/lang/AbstractStringBuilder;" } : Jvm.MethodName) jdk_68_method_22_code (3 : Nat) (Option.some (Jvm.ClassFile.FieldType.object "java/lang/AbstractStringBuilder"))).before a0 Z = true := hw _ (List.mem_of_getElem? (i := 142) rfl)
theorem wd_143 {Z : State} {a0 : Array Value} (hw : ∀ d ∈ tables_1, d.before a0 Z = true) : (Jvm.Cond.methodLink "java/lang/AbstractStringBuilder" (32 : Nat) ({ cls := "java/lang/String", name := "length", desc := "()I" } : Jvm.MethodName)).before a0 Z = true := hw _ (List.mem_of_getElem? (i := 143) rfl)
theorem wd_144 {Z : State} {a0 : Array Value} (hw : ∀ d ∈ tables_1, d.before a0 Z = true) : (Jvm.Cond.methodLink "java/lang/AbstractStringBuilder" (208 : Nat) ({ cls := "java/lang/AbstractStringBuilder", name := "putStringAt", desc := "(ILjava/lang/String;)V" } : Jvm.MethodName)).before a0 Z = true := hw _ (List.mem_of_getElem? (i := 144) rfl)
theorem wd_145 {Z : State} {a0 : Array Value} (hw : ∀ d ∈ tables_1, d.before a0 Z = true) : (Jvm.Cond.instanceMethod ({ cls := "java/lang/AbstractStringBuilder", name := "putStringAt", desc := "(ILjava/lang/String;)V" } : Jvm.MethodName)).before a0 Z = true := hw _ (List.mem_of_getElem? (i := 145) rfl)
theorem wd_146 {Z : State} {a0 : Array Value} (hw : ∀ d ∈ tables_1, d.before a0 Z = true) : (Jvm.Cond.privateMethod ({ cls := "java/lang/AbstractStringBuilder", name := "putStringAt", desc := "(ILjava/lang/String;)V" } : Jvm.MethodName)).before a0 Z = true := hw _ (List.mem_of_getElem? (i := 146) rfl)
theorem wd_148 {Z : State} {a0 : Array Value} (hw : ∀ d ∈ tables_1, d.before a0 Z = true) : (Jvm.Cond.code ({ cls := "java/lang/AbstractStringBuilder", name := "putStringAt", desc := "(ILjava/lang/String;)V" } : Jvm.MethodName) jdk_68_method_73_code (3 : Nat) (Option.none : Option Jvm.ClassFile.FieldType)).before a0 Z = true := hw _ (List.mem_of_getElem? (i := 148) rfl)
theorem wd_149 {Z : State} {a0 : Array Value} (hw : ∀ d ∈ tables_1, d.before a0 Z = true) : (Jvm.Cond.methodLink "java/lang/AbstractStringBuilder" (397 : Nat) ({ cls := "java/lang/AbstractStringBuilder", name := "inflateIfNeededFor", desc := "(Ljava/lang/String;)V" } : Jvm.MethodName)).before a0 Z = true := hw _ (List.mem_of_getElem? (i := 149) rfl)
theorem wd_150 {Z : State} {a0 : Array Value} (hw : ∀ d ∈ tables_1, d.before a0 Z = true) : (Jvm.Cond.instanceMethod ({ cls := "java/lang/AbstractStringBuilder", name := "inflateIfNeededFor", desc := "(Ljava/lang/String;)V" } : Jvm.MethodName)).before a0 Z = true := hw _ (List.mem_of_getElem? (i := 150) rfl)
theorem wd_151 {Z : State} {a0 : Array Value} (hw : ∀ d ∈ tables_1, d.before a0 Z = true) : (Jvm.Cond.privateMethod ({ cls := "java/lang/AbstractStringBuilder", name := "inflateIfNeededFor", desc := "(Ljava/lang/String;)V" } : Jvm.MethodName)).before a0 Z = true := hw _ (List.mem_of_getElem? (i := 151) rfl)
theorem wd_153 {Z : State} {a0 : Array Value} (hw : ∀ d ∈ tables_1, d.before a0 Z = true) : (Jvm.Cond.code ({ cls := "java/lang/AbstractStringBuilder", name := "inflateIfNeededFor", desc := "(Ljava/lang/String;)V" } : Jvm.MethodName) jdk_68_method_71_code (2 : Nat) (Option.none : Option Jvm.ClassFile.FieldType)).before a0 Z = true := hw _ (List.mem_of_getElem? (i := 153) rfl)
theorem wd_154 {Z : State} {a0 : Array Value} (hw : ∀ d ∈ tables_1, d.before a0 Z = true) : (Jvm.Cond.methodLink "java/lang/AbstractStringBuilder" (40 : Nat) ({ cls := "java/lang/String", name := "coder", desc := "()B" } : Jvm.MethodName)).before a0 Z = true := hw _ (List.mem_of_getElem? (i := 154) rfl)
theorem wd_155 {Z : State} {a0 : Array Value} (hw : ∀ d ∈ tables_1, d.before a0 Z = true) : (Jvm.Cond.methodLink "java/lang/AbstractStringBuilder" (399 : Nat) ({ cls := "java/lang/String", name := "getBytes", desc := "([BIB)V" } : Jvm.MethodName)).before a0 Z = true := hw _ (List.mem_of_getElem? (i := 155) rfl)
theorem wd_156 {Z : State} {a0 : Array Value} (hw : ∀ d ∈ tables_1, d.before a0 Z = true) : (Jvm.Cond.declares ({ cls := "java/lang/String", name := "getBytes", desc := "([BIB)V" } : Jvm.MethodName)).before a0 Z = true := hw _ (List.mem_of_getElem? (i := 156) rfl)
theorem wd_157 {Z : State} {a0 : Array Value} (hw : ∀ d ∈ tables_1, d.before a0 Z = true) : (Jvm.Cond.instanceMethod ({ cls := "java/lang/String", name := "getBytes", desc := "([BIB)V" } : Jvm.MethodName)).before a0 Z = true := hw _ (List.mem_of_getElem? (i := 157) rfl)
theorem wd_158 {Z : State} {a0 : Array Value} (hw : ∀ d ∈ tables_1, d.before a0 Z = true) : (Jvm.Cond.selects "java/lang/String" ({ cls := "java/lang/String", name := "getBytes", desc := "([BIB)V" } : Jvm.MethodName) ({ cls := "java/lang/String", name := "getBytes", desc := "([BIB)V" } : Jvm.MethodName)).before a0 Z = true := hw _ (List.mem_of_getElem? (i := 158) rfl)
theorem wd_159 {Z : State} {a0 : Array Value} (hw : ∀ d ∈ tables_1, d.before a0 Z = true) : (Jvm.Cond.code ({ cls := "java/lang/String", name := "getBytes", desc := "([BIB)V" } : Jvm.MethodName) jdk_42_method_147_code (4 : Nat) (Option.none : Option Jvm.ClassFile.FieldType)).before a0 Z = true := hw _ (List.mem_of_getElem? (i := 159) rfl)
theorem wd_160 {Z : State} {a0 : Array Value} (hw : ∀ d ∈ tables_1, d.before a0 Z = true) : (Jvm.Cond.methodLink "java/lang/String" (212 : Nat) ({ cls := "java/lang/System", name := "arraycopy", desc := "(Ljava/lang/Object;ILjava/lang/Object;II)V" } : Jvm.MethodName)).before a0 Z = true := hw _ (List.mem_of_getElem? (i := 160) rfl)
theorem wd_161 {Z : State} {a0 : Array Value} (hw : ∀ d ∈ tables_1, d.before a0 Z = true) : (Jvm.Cond.methodLink "com/example/triplecast/triplecast/rdf/SparqlTsvRowPinLaw" (27 : Nat) ({ cls := "com/example/triplecast/triplecast/rdf/SparqlTsvRowPinLaw", name := "put", desc := "([CIZII)I" } : Jvm.MethodName)).before a0 Z = true := hw _ (List.mem_of_getElem? (i := 161) rfl)
theorem wd_162 {Z : State} {a0 : Array Value} (hw : ∀ d ∈ tables_1, d.before a0 Z = true) : (Jvm.Cond.static ({ cls := "com/example/triplecast/triplecast/rdf/SparqlTsvRowPinLaw", name := "put", desc := "([CIZII)I" } : Jvm.MethodName)).before a0 Z = true := hw _ (List.mem_of_getElem? (i := 162) rfl)
theorem wd_163 {Z : State} {a0 : Array Value} (hw : ∀ d ∈ tables_1, d.before a0 Z = true) : (Jvm.Cond.code ({ cls := "com/example/triplecast/triplecast/rdf/SparqlTsvRowPinLaw", name := "put", desc := "([CIZII)I" } : Jvm.MethodName) method_4_code (5 : Nat) (Option.some Jvm.ClassFile.FieldType.int)).before a0 Z = true := hw _ (List.mem_of_getElem? (i := 163) rfl)
theorem wd_164 {Z : State} {a0 : Array Value} (hw : ∀ d ∈ tables_1, d.before a0 Z = true) : (Jvm.Cond.methodLink "com/example/triplecast/triplecast/rdf/SparqlTsvRowPinLaw" (46 : Nat) ({ cls := "java/lang/String", name := "charAt", desc := "(I)C" } : Jvm.MethodName)).before a0 Z = true := hw _ (List.mem_of_getElem? (i := 164) rfl)
theorem wd_165 {Z : State} {a0 : Array Value} (hw : ∀ d ∈ tables_1, d.before a0 Z = true) : (Jvm.Cond.declares ({ cls := "java/lang/String", name := "charAt", desc := "(I)C" } : Jvm.MethodName)).before a0 Z = true := hw _ (List.mem_of_getElem? (i := 165) rfl)
theorem wd_166 {Z : State} {a0 : Array Value} (hw : ∀ d ∈ tables_1, d.before a0 Z = true) : (Jvm.Cond.instanceMethod ({ cls := "java/lang/String", name := "charAt", desc := "(I)C" } : Jvm.MethodName)).before a0 Z = true := hw _ (List.mem_of_getElem? (i := 166) rfl)
theorem wd_167 {Z : State} {a0 : Array Value} (hw : ∀ d ∈ tables_1, d.before a0 Z = true) : (Jvm.Cond.selects "java/lang/String" ({ cls := "java/lang/String", name := "charAt", desc := "(I)C" } : Jvm.MethodName) ({ cls := "java/lang/String", name := "charAt", desc := "(I)C" } : Jvm.MethodName)).before a0 Z = true := hw _ (List.mem_of_getElem? (i := 167) rfl)
theorem wd_168 {Z : State} {a0 : Array Value} (hw : ∀ d ∈ tables_1, d.before a0 Z = true) : (Jvm.Cond.code ({ cls := "java/lang/String", name := "charAt", desc := "(I)C" } : Jvm.MethodName) jdk_42_method_56_code (2 : Nat) (Option.some Jvm.ClassFile.FieldType.char)).before a0 Z = true := hw _ (List.mem_of_getElem? (i := 168) rfl)
theorem wd_169 {Z : State} {a0 : Array Value} (hw : ∀ d ∈ tables_1, d.before a0 Z = true) : (Jvm.Cond.methodLink "java/lang/String" (492 : Nat) ({ cls := "java/lang/String", name := "isLatin1", desc := "()Z" } : Jvm.MethodName)).before a0 Z = true := hw _ (List.mem_of_getElem? (i := 169) rfl)
theorem wd_170 {Z : State} {a0 : Array Value} (hw : ∀ d ∈ tables_1, d.before a0 Z = true) : (Jvm.Cond.declares ({ cls := "java/lang/String", name := "isLatin1", desc := "()Z" } : Jvm.MethodName)).before a0 Z = true := hw _ (List.mem_of_getElem? (i := 170) rfl)
theorem wd_171 {Z : State} {a0 : Array Value} (hw : ∀ d ∈ tables_1, d.before a0 Z = true) : (Jvm.Cond.instanceMethod ({ cls := "java/lang/String", name := "isLatin1", desc := "()Z" } : Jvm.MethodName)).before a0 Z = true := hw _ (List.mem_of_getElem? (i := 171) rfl)
theorem wd_172 {Z : State} {a0 : Array Value} (hw : ∀ d ∈ tables_1, d.before a0 Z = true) : (Jvm.Cond.selects "java/lang/String" ({ cls := "java/lang/String", name := "isLatin1", desc := "()Z" } : Jvm.MethodName) ({ cls := "java/lang/String", name := "isLatin1", desc := "()Z" } : Jvm.MethodName)).before a0 Z = true := hw _ (List.mem_of_getElem? (i := 172) rfl)
theorem wd_173 {Z : State} {a0 : Array Value} (hw : ∀ d ∈ tables_1, d.before a0 Z = true) : (Jvm.Cond.code ({ cls := "java/lang/String", name := "isLatin1", desc := "()Z" } : Jvm.MethodName) jdk_42_method_154_code (1 : Nat) (Option.some Jvm.ClassFile.FieldType.boolean)).before a0 Z = true := hw _ (List.mem_of_getElem? (i := 173) rfl)
theorem wd_174 {Z : State} {a0 : Array Value} (hw : ∀ d ∈ tables_1, d.before a0 Z = true) : (Jvm.Cond.methodLink "java/lang/String" (495 : Nat) ({ cls := "java/lang/StringLatin1", name := "charAt", desc := "([BI)C" } : Jvm.MethodName)).before a0 Z = true := hw _ (List.mem_of_getElem? (i := 174) rfl)
theorem wd_175 {Z : State} {a0 : Array Value} (hw : ∀ d ∈ tables_1, d.before a0 Z = true) : (Jvm.Cond.static ({ cls := "java/lang/StringLatin1", name := "charAt", desc := "([BI)C" } : Jvm.MethodName)).before a0 Z = true := hw _ (List.mem_of_getElem? (i := 175) rfl)
theorem wd_176 {Z : State} {a0 : Array Value} (hw : ∀ d ∈ tables_1, d.before a0 Z = true) : (Jvm.Cond.code ({ cls := "java/lang/StringLatin1", name := "charAt", desc := "([BI)C" } : Jvm.MethodName) jdk_43_method_2_code (2 : Nat) (Option.some Jvm.ClassFile.FieldType.char)).before a0 Z = true := hw _ (List.mem_of_getElem? (i := 176) rfl)
theorem wd_177 {Z : State} {a0 : Array Value} (hw : ∀ d ∈ tables_1, d.before a0 Z = true) : (Jvm.Cond.methodLink "java/lang/StringLatin1" (9 : Nat) ({ cls := "java/lang/String", name := "checkIndex", desc := "(II)V" } : Jvm.MethodName)).before a0 Z = true := hw _ (List.mem_of_getElem? (i := 177) rfl)
theorem wd_178 {Z : State} {a0 : Array Value} (hw : ∀ d ∈ tables_1, d.before a0 Z = true) : (Jvm.Cond.static ({ cls := "java/lang/String", name := "checkIndex", desc := "(II)V" } : Jvm.MethodName)).before a0 Z = true := hw _ (List.mem_of_getElem? (i := 178) rfl)
theorem wd_179 {Z : State} {a0 : Array Value} (hw : ∀ d ∈ tables_1, d.before a0 Z = true) : (Jvm.Cond.code ({ cls := "java/lang/String", name := "checkIndex", desc := "(II)V" } : Jvm.MethodName) jdk_42_method_155_code (2 : Nat) (Option.none : Option Jvm.ClassFile.FieldType)).before a0 Z = true := hw _ (List.mem_of_getElem? (i := 179) rfl)
theorem wd_180 {Z : State} {a0 : Array Value} (hw : ∀ d ∈ tables_1, d.before a0 Z = true) : (Jvm.Cond.fieldLink "java/lang/String" (1053 : Nat) "jdk/internal/util/Preconditions" "SIOOBE_FORMATTER" "Ljava/util/function/BiFunction;").before a0 Z = true := hw _ (List.mem_of_getElem? (i := 180) rfl)
theorem wd_181 {Z : State} {a0 : Array Value} (hw : ∀ d ∈ tables_1, d.before a0 Z = true) : (Jvm.Cond.initialized "jdk/internal/util/Preconditions").before a0 Z = true := hw _ (List.mem_of_getElem? (i := 181) rfl)
theorem wd_182 {Z : State} {a0 : Array Value} (hw : ∀ d ∈ tables_1, d.before a0 Z = true) : (Jvm.Cond.methodLink "java/lang/String" (1059 : Nat) ({ cls := "jdk/internal/util/Preconditions", name := "checkIndex", desc := "(IILjava/util/function/BiFunction;)I" } : Jvm.MethodName)).before a0 Z = true := hw _ (List.mem_of_getElem? (i := 182) rfl)
theorem wd_183 {Z : State} {a0 : Array Value} (hw : ∀ d ∈ tables_1, d.before a0 Z = true) : (Jvm.Cond.static ({ cls := "jdk/internal/util/Preconditions", name := "checkIndex", desc := "(IILjava/util/function/BiFunction;)I" } : Jvm.MethodName)).before a0 Z = true := hw _ (List.mem_of_getElem? (i := 183) rfl)
theorem wd_184 {Z : State} {a0 : Array Value} (hw : ∀ d ∈ tables_1, d.before a0 Z = true) : (Jvm.Cond.code ({ cls := "jdk/internal/util/Preconditions", name := "checkIndex", desc := "(IILjava/util/function/BiFunction;)I" } : Jvm.MethodName) jdk_41_method_11_code (3 : Nat) (Option.some Jvm.ClassFile.FieldType.int)).before a0 Z = true := hw _ (List.mem_of_getElem? (i := 184) rfl)
theorem wd_185 {Z : State} {a0 : Array Value} (hw : ∀ d ∈ tables_1, d.before a0 Z = true) : (Jvm.Cond.methodLink "com/example/triplecast/triplecast/rdf/SparqlTsvRowPinLaw" (42 : Nat) ({ cls := "java/lang/String", name := "valueOf", desc := "(C)Ljava/lang/String;" } : Jvm.MethodName)).before a0 Z = true := hw _ (List.mem_of_getElem? (i := 185) rfl)
theorem wd_186 {Z : State} {a0 : Array Value} (hw : ∀ d ∈ tables_1, d.before a0 Z = true) : (Jvm.Cond.static ({ cls := "java/lang/String", name := "valueOf", desc := "(C)Ljava/lang/String;" } : Jvm.MethodName)).before a0 Z = true := hw _ (List.mem_of_getElem? (i := 186) rfl)
theorem wd_187 {Z : State} {a0 : Array Value} (hw : ∀ d ∈ tables_1, d.before a0 Z = true) : (Jvm.Cond.code ({ cls := "java/lang/String", name := "valueOf", desc := "(C)Ljava/lang/String;" } : Jvm.MethodName) jdk_42_method_139_code (1 : Nat) (Option.some (Jvm.ClassFile.FieldType.object "java/lang/String"))).before a0 Z = true := hw _ (List.mem_of_getElem? (i := 187) rfl)
theorem wd_188 {Z : State} {a0 : Array Value} (hw : ∀ d ∈ tables_1, d.before a0 Z = true) : (Jvm.Cond.methodLink "java/lang/String" (1015 : Nat) ({ cls := "java/lang/StringLatin1", name := "canEncode", desc := "(C)Z" } : Jvm.MethodName)).before a0 Z = true := hw _ (List.mem_of_getElem? (i := 188) rfl)
theorem wd_189 {Z : State} {a0 : Array Value} (hw : ∀ d ∈ tables_1, d.before a0 Z = true) : (Jvm.Cond.classLink "java/lang/String" (10 : Nat) "java/lang/String").before a0 Z = true := hw _ (List.mem_of_getElem? (i := 189) rfl)
theorem wd_190 {Z : State} {a0 : Array Value} (hw : ∀ d ∈ tables_1, d.before a0 Z = true) : (Jvm.Cond.methodLink "java/lang/String" (1018 : Nat) ({ cls := "java/lang/StringLatin1", name := "toBytes", desc := "(C)[B" } : Jvm.MethodName)).before a0 Z = true := hw _ (List.mem_of_getElem? (i := 190) rfl)
theorem wd_191 {Z : State} {a0 : Array Value} (hw : ∀ d ∈ tables_1, d.before a0 Z = true) : (Jvm.Cond.static ({ cls := "java/lang/StringLatin1", name := "toBytes", desc := "(C)[B" } : Jvm.MethodName)).before a0 Z = true := hw _ (List.mem_of_getElem? (i := 191) rfl)
theorem wd_192 {Z : State} {a0 : Array Value} (hw : ∀ d ∈ tables_1, d.before a0 Z = true) : (Jvm.Cond.code ({ cls := "java/lang/StringLatin1", name := "toBytes", desc := "(C)[B" } : Jvm.MethodName) jdk_43_method_46_code (1 : Nat) (Option.some (Jvm.ClassFile.FieldType.array Jvm.ClassFile.FieldType.byte))).before a0 Z = true := hw _ (List.mem_of_getElem? (i := 192) rfl)
theorem wd_193 {Z : State} {a0 : Array Value} (hw : ∀ d ∈ tables_1, d.before a0 Z = true) : (Jvm.Cond.methodLink "java/lang/String" (209 : Nat) ({ cls := "java/lang/String", name := "<init>", desc := "([BB)V" } : Jvm.MethodName)).before a0 Z = true := hw _ (List.mem_of_getElem? (i := 193) rfl)
theorem wd_194 {Z : State} {a0 : Array Value} (hw : ∀ d ∈ tables_1, d.before a0 Z = true) : (Jvm.Cond.instanceMethod ({ cls := "java/lang/String", name := "<init>", desc := "([BB)V" } : Jvm.MethodName)).before a0 Z = true := hw _ (List.mem_of_getElem? (i := 194) rfl)
theorem wd_195 {Z : State} {a0 : Array Value} (hw : ∀ d ∈ tables_1, d.before a0 Z = true) : (Jvm.Cond.code ({ cls := "java/lang/String", name := "<init>", desc := "([BB)V" } : Jvm.MethodName) jdk_42_method_151_code (3 : Nat) (Option.none : Option Jvm.ClassFile.FieldType)).before a0 Z = true := hw _ (List.mem_of_getElem? (i := 195) rfl)
abbrev EL : List (String × Nat) := consts_1
theorem ewEL {Z : State} {a0 : Array Value} (hw : ∀ d ∈ tables_1, d.before a0 Z = true) : EW Z a0 EL := EW.cons (wd_22 hw) (by decide) (EW.nil)
theorem wSA {Z : State} {a0 : Array Value} (hw : ∀ d ∈ tables_1, d.before a0 Z = true) : ∀ d ∈ Bundle.stringAtoms, d.before a0 Z = true := fun d hd => hw d ((by decide +kernel : ∀ d ∈ Bundle.stringAtoms, d ∈ tables_1) d hd)
theorem pd_0 : parseMethodDescriptor "(C)Z" = some ⟨[.char], some .boolean⟩ := by decide +kernel
theorem pd_1 : parseMethodDescriptor "(C)[B" = some ⟨[.char], some (.array .byte)⟩ := by decide +kernel
theorem pd_2 : parseMethodDescriptor "([BB)V" = some ⟨[(.array .byte), .byte], none⟩ := by decide +kernel
theorem pd_3 : parseMethodDescriptor "([CIILjava/lang/Void;)V" = some ⟨[(.array .char), .int, .int, (.object "java/lang/Void")], none⟩ := by decide +kernel
theorem pd_4 : parseMethodDescriptor "()B" = some ⟨[], some .byte⟩ := by decide +kernel
theorem pd_5 : parseMethodDescriptor "(I)V" = some ⟨[.int], none⟩ := by decide +kernel
theorem pd_6 : parseMethodDescriptor "(Ljava/lang/String;)V" = some ⟨[(.object "java/lang/String")], none⟩ := by decide +kernel
theorem pd_7 : parseMethodDescriptor "([BIB)V" = some ⟨[(.array .byte), .int, .byte], none⟩ := by decide +kernel
theorem pd_8 : parseMethodDescriptor "()I" = some ⟨[], some .int⟩ := by decide +kernel
theorem pd_9 : parseMethodDescriptor "(ILjava/lang/String;)V" = some ⟨[.int, (.object "java/lang/String")], none⟩ := by decide +kernel
theorem pd_10 : parseMethodDescriptor "(Ljava/lang/String;)Ljava/lang/AbstractStringBuilder;" = some ⟨[(.object "java/lang/String")], some (.object "java/lang/AbstractStringBuilder")⟩ := by decide +kernel
theorem pd_11 : parseMethodDescriptor "(II)V" = some ⟨[.int, .int], none⟩ := by decide +kernel
theorem pd_12 : parseMethodDescriptor "(II)I" = some ⟨[.int, .int], some .int⟩ := by decide +kernel
theorem pd_13 : parseMethodDescriptor "([BII)[B" = some ⟨[(.array .byte), .int, .int], some (.array .byte)⟩ := by decide +kernel
theorem pd_14 : parseMethodDescriptor "()[B" = some ⟨[], some (.array .byte)⟩ := by decide +kernel
theorem pd_15 : parseMethodDescriptor "()Z" = some ⟨[], some .boolean⟩ := by decide +kernel
theorem pd_16 : parseMethodDescriptor "(Ljava/lang/AbstractStringBuilder;Ljava/lang/Void;)V" = some ⟨[(.object "java/lang/AbstractStringBuilder"), (.object "java/lang/Void")], none⟩ := by decide +kernel
theorem pd_17 : parseMethodDescriptor "(Ljava/lang/StringBuilder;)V" = some ⟨[(.object "java/lang/StringBuilder")], none⟩ := by decide +kernel
theorem pd_18 : parseMethodDescriptor "(IILjava/util/function/BiFunction;)I" = some ⟨[.int, .int, (.object "java/util/function/BiFunction")], some .int⟩ := by decide +kernel
theorem pd_19 : parseMethodDescriptor "([BI)C" = some ⟨[(.array .byte), .int], some .char⟩ := by decide +kernel
theorem pd_20 : parseMethodDescriptor "([C)V" = some ⟨[(.array .char)], none⟩ := by decide +kernel
theorem pd_21 : parseMethodDescriptor "(C)Ljava/lang/String;" = some ⟨[.char], some (.object "java/lang/String")⟩ := by decide +kernel
theorem pd_22 : parseMethodDescriptor "(C)Ljava/lang/AbstractStringBuilder;" = some ⟨[.char], some (.object "java/lang/AbstractStringBuilder")⟩ := by decide +kernel
theorem pd_23 : parseMethodDescriptor "()V" = some ⟨[], none⟩ := by decide +kernel
theorem pd_24 : parseMethodDescriptor "()Ljava/lang/String;" = some ⟨[], some (.object "java/lang/String")⟩ := by decide +kernel
theorem pd_25 : parseMethodDescriptor "(Ljava/lang/String;)Ljava/lang/StringBuilder;" = some ⟨[(.object "java/lang/String")], some (.object "java/lang/StringBuilder")⟩ := by decide +kernel
theorem pd_26 : parseMethodDescriptor "(C)Ljava/lang/StringBuilder;" = some ⟨[.char], some (.object "java/lang/StringBuilder")⟩ := by decide +kernel
theorem pd_27 : parseMethodDescriptor "(I)C" = some ⟨[.int], some .char⟩ := by decide +kernel
theorem pd_28 : parseMethodDescriptor "([Ljava/lang/String;)Ljava/lang/String;" = some ⟨[(.array (.object "java/lang/String"))], some (.object "java/lang/String")⟩ := by decide +kernel
theorem pd_29 : parseMethodDescriptor "(Ljava/lang/String;[CII)Z" = some ⟨[(.object "java/lang/String"), (.array .char), .int, .int], some .boolean⟩ := by decide +kernel
theorem pd_30 : parseMethodDescriptor "([CIZII)I" = some ⟨[(.array .char), .int, .boolean, .int, .int], some .int⟩ := by decide +kernel
theorem pd_31 : parseMethodDescriptor "(II)Ljava/lang/String;" = some ⟨[.int, .int], some (.object "java/lang/String")⟩ := by decide +kernel
theorem own_and255 (x : Int32) : nar .char ((x &&& (255 : Int32)).toUInt32.toUInt16.toUInt32.toInt32) = x &&& 255 := by
  show ((x &&& (255 : Int32)).toUInt32.toUInt16.toUInt32.toInt32).toUInt32.toUInt16.toUInt32.toInt32 = _
  rw [i2c_mask, i2c_mask]
theorem own_255 (x : Int32) : ¬ (x &&& 255) < 0 ∧ ¬ (255 : Int32) < (x &&& 255) := by
  have h := c_and x 255 (by decide)
  have e : (255 : Int32).toInt = 255 := rfl
  have e0 : (0 : Int32).toInt = 0 := rfl
  rw [Int32.lt_iff_toInt_lt, Int32.lt_iff_toInt_lt]
  omega
/-- new String(char[]) of chars below 256, paid by the pasted law; what it makes -/
def QS (Z : State) (x : Addr) (cs : List Int32) (h : Heap) (n0 : Nat) (v : Option Value) (h' : Heap) : Prop := v = none ∧ Keep h h' [x] ∧ Fld Z h' x "java/lang/String" "coder" "B" (.int 0) ∧ ∃ (t : Addr) (kb : ClassId), n0 ≤ t ∧ h.size ≤ t ∧ ¬ t = x ∧ Fld Z h' x "java/lang/String" "value" "[B" (.ref t) ∧ Arv Z h' t kb .byte (Int32.ofNat cs.length) ((cs.map fun c => c.toInt8.toInt32).map Value.int) (.int 0)
theorem pay_new {l : Launch} {Z : State} {a0 : Array Value} (hw : ∀ d ∈ tables_1, d.before a0 Z = true) {n0 : Nat} {R : Room} {W : Nat} {kI : Nat} (wi : (Jvm.Cond.instantiable "java/lang/String" kI).before a0 Z = true) {x b : Addr} {kC : ClassId} (cs : List Int32) {d v0 c0 : Value} {z N : Int32} {h : Heap} (hx0 : n0 ≤ x) (hh0 : n0 ≤ h.size) (E : Exa Z h x "java/lang/String") (V : Fld Z h x "java/lang/String" "value" "[B" v0) (C : Fld Z h x "java/lang/String" "coder" "B" c0) (K : Arv Z h b kC .char N (cs.map Value.int) d) (S : Sta Z h "java/lang/String" "COMPACT_STRINGS" "Z" (.int z)) (hz : ¬ z = 0)
    (hN : N = Int32.ofNat cs.length) (l0 : 0 < cs.length) (l2 : cs.length ≤ 4000) (hp : ∀ c ∈ cs, ¬ c < 0 ∧ ¬ (255 : Int32) < c) (hfr : 4 ≤ R.frames) (hlo : W + 65 ≤ R.locals) :
    Pays l Z n0 R (⟨"java/lang/String", "<init>", "([C)V"⟩ : MethodName) 3 W #[.ref x, .ref b] h 1 cs.length (QS Z x cs h n0) := fun p e below s args hZ => by
  have hws : ∀ d ∈ StrChars.Road.words, d.before a0 Z = true := fun d hd => hw d ((by decide +kernel : ∀ d ∈ StrChars.Road.words, d ∈ tables_1) d hd)
  refine Back.mono (StrChars.Road.backV hZ hws wi hx0 hh0 E V C K S hz rfl hN l0 l2 hp rfl hfr hlo) (fun P a q => q) (fun P a v B q r => ?_)
  obtain ⟨L, ⟨q1, q2, q3, q4, q5, t, kb, q6, q7, q8, q9, q10⟩, r⟩ := r
  exact ⟨L, ⟨q2, q1, q3, q5, t, kb, q6, q7, q8, q9, hN ▸ q10⟩, r⟩
theorem d_sinit2_0 : decode jdk_42_method_151_code 0 = .ok (.aload_n 0, 1) := by decide +kernel
theorem d_sinit2_1 : decode jdk_42_method_151_code 1 = .ok (.invokespecial 1, 3) := by decide +kernel
theorem d_sinit2_4 : decode jdk_42_method_151_code 4 = .ok (.aload_n 0, 1) := by decide +kernel
theorem d_sinit2_5 : decode jdk_42_method_151_code 5 = .ok (.aload_n 1, 1) := by decide +kernel
theorem d_sinit2_6 : decode jdk_42_method_151_code 6 = .ok (.putfield 9, 3) := by decide +kernel
theorem d_sinit2_9 : decode jdk_42_method_151_code 9 = .ok (.aload_n 0, 1) := by decide +kernel
theorem d_sinit2_10 : decode jdk_42_method_151_code 10 = .ok (.iload_n 2, 1) := by decide +kernel
theorem d_sinit2_11 : decode jdk_42_method_151_code 11 = .ok (.putfield 15, 3) := by decide +kernel
theorem d_sinit2_14 : decode jdk_42_method_151_code 14 = .ok (.return_, 1) := by decide +kernel
abbrev R_sinit2 : Room := ({ frames := 1, cells := 0, slots := 0, locals := 12 } : Room)
abbrev GM_sinit2 (l : Launch) (Z : State) (n0 : Nat) (Q : Option Value → Heap → Prop) (h : Heap) (cells slots pc : Nat) (Ls : Array Slot) (st : List Value) : Prop := Go l Z n0 R_sinit2 "java/lang/String" "<init>" jdk_42_method_151_code 3 none IN (FN n0 R_sinit2 Q) h cells slots pc Ls st
abbrev GW_sinit2 (l : Launch) (Z : State) (EL : List (String × Nat)) (s₀ : State) (n0 : Nat) (Q : Option Value → Heap → Prop) (lo : Nat) (Sf : List Addr) (h : Heap) (cells slots pc : Nat) (Ls : Array Slot) (st : List Value) : Prop := Go l Z n0 R_sinit2 "java/lang/String" "<init>" jdk_42_method_151_code 3 none (IW Z EL s₀ lo Sf) (FW Z EL s₀ n0 R_sinit2 Q) h cells slots pc Ls st
theorem pf_sinit2 : plainFor (⟨"java/lang/String", "<init>", "([BB)V"⟩ : MethodName) = true := plainFor_of_name (by first | (simp [plainName, overriddenIn]; done) | decide +kernel)
theorem ct_sinit2 (l : Launch) (Z : State) (a0 : Array Value) (hw : ∀ d ∈ tables_1, d.before a0 Z = true) (n0 : Nat) (x b : Addr) (v0 : Value) (hv0 : v0.isRef = true) (c0 : Int32) (h0 : Heap) (g_x : n0 ≤ x) (E_x : Exa Z h0 x "java/lang/String") (F_x_value : Fld Z h0 x "java/lang/String" "value" "[B" v0) (F_x_coder : Fld Z h0 x "java/lang/String" "coder" "B" (.int c0)) :
    Ct l Z n0 "java/lang/String" "<init>" "([BB)V" [] jdk_42_method_151_code 3 none R_sinit2 #[.ref x, .ref b, .int (0 : Int32)] h0 (fun v h => v = none ∧ Keep h0 h [x] ∧ Fld Z h x "java/lang/String" "value" "[B" (.ref b) ∧ Fld Z h x "java/lang/String" "coder" "B" (.int (0 : Int32))) := by
  refine Ct.of_go pf_sinit2 (Ls := #[.val (.ref x), .val (.ref b), .val (.int (0 : Int32))]) (fun m => by first | rfl | (simp [entryFrame, mkF, argsToLocals, Value.category]; done)) ?_
  show GM_sinit2 l Z n0 (fun v h => v = none ∧ Keep h0 h [x] ∧ Fld Z h x "java/lang/String" "value" "[B" (.ref b) ∧ Fld Z h x "java/lang/String" "coder" "B" (.int (0 : Int32))) h0 0 0 0 #[.val (.ref x), .val (.ref b), .val (.int (0 : Int32))] []
  have KK : Keep h0 h0 [x] := Keep.refl _ _
  refine Go.aloadN d_sinit2_0 rfl rfl ?_
  refine Go.initO (wd_19 hw) (wd_20 hw) (wd_21 hw) d_sinit2_1 rfl (by decide) (Nat.le_of_ble_eq_true rfl) ?_
  refine Go.aloadN d_sinit2_4 rfl rfl ?_
  refine Go.aloadN d_sinit2_5 rfl rfl ?_
  refine Go.putF (I' := IN) (hI := nI) (wd_28 hw) Via.refl F_x_value E_x (Or.inr ⟨(wd_24 hw), rfl, rfl⟩) (wd_9 hw) (ty := (.array .byte)) (by decide) rfl rfl g_x d_sinit2_6 fun hp1 W1 => ?_
  have K1 := Keep.of_wr W1
  replace F_x_value := F_x_value.same W1
  replace F_x_coder := F_x_coder.other W1 (Or.inr (slot_ne (Or.inr (wd_25 hw)) (Or.inr (wd_24 hw)) (by decide) (t := .byte) (t' := (.array .byte)) (by decide) (by decide)))
  replace E_x := E_x.keep K1
  replace KK : Keep h0 hp1 [x] := KK.trans K1 (allS (Or.inl (by simp)) (all0))
  refine Go.aloadN d_sinit2_9 rfl rfl ?_
  refine Go.iloadN d_sinit2_10 rfl ?_
  refine Go.putFN (I' := IN) (hI := nI) (v' := (.int (0 : Int32))) (wd_29 hw) Via.refl F_x_coder E_x (Or.inr ⟨(wd_25 hw), rfl, rfl⟩) (wd_9 hw) (ty := .byte) (by decide) rfl rfl g_x d_sinit2_11 fun hp2 W2 => ?_
  have K2 := Keep.of_wr W2
  replace F_x_value := F_x_value.other W2 (Or.inr (slot_ne (Or.inr (wd_24 hw)) (Or.inr (wd_25 hw)) (by decide) (t := (.array .byte)) (t' := .byte) (by decide) (by decide)))
  replace F_x_coder := F_x_coder.same W2
  replace E_x := E_x.keep K2
  replace KK : Keep h0 hp2 [x] := KK.trans K2 (allS (Or.inl (by simp)) (all0))
  -- at pc 14: pc 14: return .return_ stack []
  exact Go.return_ d_sinit2_14 rfl (by decide) (by decide) ⟨rfl, KK, F_x_value, F_x_coder⟩
theorem d_can_0 : decode jdk_43_method_3_code 0 = .ok (.iload_n 0, 1) := by decide +kernel
theorem d_can_1 : decode jdk_43_method_3_code 1 = .ok (.sipush 255, 3) := by decide +kernel
theorem d_can_4 : decode jdk_43_method_3_code 4 = .ok (.if_icmp .gt 7, 3) := by decide +kernel
theorem d_can_7 : decode jdk_43_method_3_code 7 = .ok (.iconst 1, 1) := by decide +kernel
theorem d_can_8 : decode jdk_43_method_3_code 8 = .ok (.goto 4, 3) := by decide +kernel
theorem d_can_12 : decode jdk_43_method_3_code 12 = .ok (.ireturn, 1) := by decide +kernel
abbrev R_can : Room := ({ frames := 0, cells := 0, slots := 0, locals := 0 } : Room)
abbrev GM_can (l : Launch) (Z : State) (n0 : Nat) (Q : Option Value → Heap → Prop) (h : Heap) (cells slots pc : Nat) (Ls : Array Slot) (st : List Value) : Prop := Go l Z n0 R_can "java/lang/StringLatin1" "canEncode" jdk_43_method_3_code 1 (some .boolean) IN (FN n0 R_can Q) h cells slots pc Ls st
abbrev GW_can (l : Launch) (Z : State) (EL : List (String × Nat)) (s₀ : State) (n0 : Nat) (Q : Option Value → Heap → Prop) (lo : Nat) (Sf : List Addr) (h : Heap) (cells slots pc : Nat) (Ls : Array Slot) (st : List Value) : Prop := Go l Z n0 R_can "java/lang/StringLatin1" "canEncode" jdk_43_method_3_code 1 (some .boolean) (IW Z EL s₀ lo Sf) (FW Z EL s₀ n0 R_can Q) h cells slots pc Ls st
theorem pf_can : plainFor (⟨"java/lang/StringLatin1", "canEncode", "(C)Z"⟩ : MethodName) = true := plainFor_of_name (by first | (simp [plainName, overriddenIn]; done) | decide +kernel)
theorem ct_can (l : Launch) (Z : State) (a0 : Array Value) (hw : ∀ d ∈ tables_1, d.before a0 Z = true) (n0 : Nat) (p : Int32) (h0 : Heap) (hp : ¬ (255 : Int32) < p) : Ct l Z n0 "java/lang/StringLatin1" "canEncode" "(C)Z" [] jdk_43_method_3_code 1 (some .boolean) R_can #[.int p] h0 (fun v h => v = some (.int (1 : Int32)) ∧ h0 = h) := by
  refine Ct.of_go pf_can (Ls := #[.val (.int p)]) (fun m => by first | rfl | (simp [entryFrame, mkF, argsToLocals, Value.category]; done)) ?_
  show GM_can l Z n0 (fun v h => v = some (.int (1 : Int32)) ∧ h0 = h) h0 0 0 0 #[.val (.int p)] []
  refine Go.iloadN d_can_0 rfl ?_
  refine Go.sipush 255 d_can_1 rfl ?_
  -- at pc 4: pc 4: if_icmp .if_icmp .gt 7 stack [(.int (255 : Int32)), (.int p)]
  -- not: (255 : Int32) < p
  refine Go.icF d_can_4 (flt (hp)).2.2.1 ?_
  refine Go.iconst 1 d_can_7 rfl ?_
  refine Go.goto 12 d_can_8 (by decide) (by decide) ?_
  -- at pc 12: pc 12: ireturn .ireturn stack [(.int (1 : Int32))]
  exact Go.nreturn .boolean d_can_12 rfl (by simp) (by decide) (by decide) ⟨rfl, rfl⟩
theorem own_b8 (x : Int32) : nar .byte x.toInt8.toInt32 = x.toInt8.toInt32 := by
  show (x.toInt8.toInt32).toInt8.toInt32 = x.toInt8.toInt32
  have h := c_i2b x
  have h2 := c_i2b x.toInt8.toInt32
  apply Int32.toInt_inj.mp
  omega
theorem d_tob_0 : decode jdk_43_method_46_code 0 = .ok (.iconst 1, 1) := by decide +kernel
theorem d_tob_1 : decode jdk_43_method_46_code 1 = .ok (.newarray .byte, 2) := by decide +kernel
theorem d_tob_3 : decode jdk_43_method_46_code 3 = .ok (.dup, 1) := by decide +kernel
theorem d_tob_4 : decode jdk_43_method_46_code 4 = .ok (.iconst 0, 1) := by decide +kernel
theorem d_tob_5 : decode jdk_43_method_46_code 5 = .ok (.iload_n 0, 1) := by decide +kernel
theorem d_tob_6 : decode jdk_43_method_46_code 6 = .ok (.i2b, 1) := by decide +kernel
theorem d_tob_7 : decode jdk_43_method_46_code 7 = .ok (.bastore, 1) := by decide +kernel
theorem d_tob_8 : decode jdk_43_method_46_code 8 = .ok (.areturn, 1) := by decide +kernel
abbrev R_tob : Room := ({ frames := 0, cells := 1, slots := 1, locals := 0 } : Room)
abbrev GM_tob (l : Launch) (Z : State) (n0 : Nat) (Q : Option Value → Heap → Prop) (h : Heap) (cells slots pc : Nat) (Ls : Array Slot) (st : List Value) : Prop := Go l Z n0 R_tob "java/lang/StringLatin1" "toBytes" jdk_43_method_46_code 1 (some (.array .byte)) IN (FN n0 R_tob Q) h cells slots pc Ls st
abbrev GW_tob (l : Launch) (Z : State) (EL : List (String × Nat)) (s₀ : State) (n0 : Nat) (Q : Option Value → Heap → Prop) (lo : Nat) (Sf : List Addr) (h : Heap) (cells slots pc : Nat) (Ls : Array Slot) (st : List Value) : Prop := Go l Z n0 R_tob "java/lang/StringLatin1" "toBytes" jdk_43_method_46_code 1 (some (.array .byte)) (IW Z EL s₀ lo Sf) (FW Z EL s₀ n0 R_tob Q) h cells slots pc Ls st
theorem pf_tob : plainFor (⟨"java/lang/StringLatin1", "toBytes", "(C)[B"⟩ : MethodName) = true := plainFor_of_name (by first | (simp [plainName, overriddenIn]; done) | decide +kernel)
theorem ct_tob (l : Launch) (Z : State) (a0 : Array Value) (hw : ∀ d ∈ tables_1, d.before a0 Z = true) (n0 : Nat) (p : Int32) (h0 : Heap) (hz : n0 ≤ h0.size) : Ct l Z n0 "java/lang/StringLatin1" "toBytes" "(C)[B" [] jdk_43_method_46_code 1 (some (.array .byte)) R_tob #[.int p] h0 (fun v h => ∃ (b : Addr) (k : ClassId), v = some (.ref b) ∧ n0 ≤ b ∧ h0.size ≤ b ∧ Keep h0 h [] ∧ Arv Z h b k .byte 1 [.int p.toInt8.toInt32] (.int (0 : Int32))) := by
  refine Ct.of_go pf_tob (Ls := #[.val (.int p)]) (fun m => by first | rfl | (simp [entryFrame, mkF, argsToLocals, Value.category]; done)) ?_
  show GM_tob l Z n0 (fun v h => ∃ (b : Addr) (k : ClassId), v = some (.ref b) ∧ n0 ≤ b ∧ h0.size ≤ b ∧ Keep h0 h [] ∧ Arv Z h b k .byte 1 [.int p.toInt8.toInt32] (.int (0 : Int32))) h0 0 0 0 #[.val (.int p)] []
  have KK : Keep h0 h0 [] := Keep.refl _ _
  refine Go.iconst 1 d_tob_0 rfl ?_
  -- at pc 1: pc 1: newarray .newarray .byte stack [(.int (1 : Int32))]
  refine Go.newP (I' := IN) (hI := nE) .byte (wd_23 hw) rfl d_tob_1 (by decide) 1 (by decide) (by decide) (by decide) (by decide) fun hp3 b k_b e_b X3 V_b => ?_
  have K3 : Keep h0 hp3 [] := (Keep.refl _ _).ext X3
  have g_b : n0 ≤ b := e_b ▸ hz
  have s_b : h0.size ≤ b := e_b ▸ KK.1
  replace V_b : Arv Z hp3 b k_b .byte (1 : Int32) [(.int (0 : Int32))] (.int (0 : Int32)) := V_b.pad (pad_rep [] (.int (0 : Int32)) 1)
  replace hz : n0 ≤ hp3.size := Nat.le_trans hz K3.1
  replace KK : Keep h0 hp3 [] := KK.trans K3 (all0)
  refine Go.dup d_tob_3 rfl ?_
  refine Go.iconst 0 d_tob_4 rfl ?_
  refine Go.iloadN d_tob_5 rfl ?_
  refine Go.i2b d_tob_6 ?_
  refine Go.bastore (I' := IN) (hI := nI) V_b ⟨by decide, by decide⟩ g_b 0 rfl (Nat.le_of_ble_eq_true rfl) d_tob_7 fun hp4 K4 V_b_n => ?_
  replace V_b : Arv Z hp4 b k_b .byte (1 : Int32) [(.int (nar .byte (p.toInt8.toInt32)))] (.int (0 : Int32)) := V_b_n
  replace hz : n0 ≤ hp4.size := Nat.le_trans hz K4.1
  replace KK : Keep h0 hp4 [] := KK.trans K4 (allS (Or.inr s_b) (all0))
  -- at pc 8: pc 8: areturn .areturn stack [(.ref b)]
  rw [own_b8] at V_b
  exact Go.areturn d_tob_8 rfl rfl rfl (by decide) (by decide) ⟨b, k_b, rfl, g_b, s_b, KK, V_b⟩
theorem d_vofc_0 : decode jdk_42_method_139_code 0 = .ok (.getstatic 38, 3) := by decide +kernel
theorem d_vofc_3 : decode jdk_42_method_139_code 3 = .ok (.ifCond .eq 23, 3) := by decide +kernel
theorem d_vofc_6 : decode jdk_42_method_139_code 6 = .ok (.iload_n 0, 1) := by decide +kernel
theorem d_vofc_7 : decode jdk_42_method_139_code 7 = .ok (.invokestatic 1015, 3) := by decide +kernel
theorem d_vofc_10 : decode jdk_42_method_139_code 10 = .ok (.ifCond .eq 16, 3) := by decide +kernel
theorem d_vofc_13 : decode jdk_42_method_139_code 13 = .ok (.new 10, 3) := by decide +kernel
theorem d_vofc_16 : decode jdk_42_method_139_code 16 = .ok (.dup, 1) := by decide +kernel
theorem d_vofc_17 : decode jdk_42_method_139_code 17 = .ok (.iload_n 0, 1) := by decide +kernel
theorem d_vofc_18 : decode jdk_42_method_139_code 18 = .ok (.invokestatic 1018, 3) := by decide +kernel
theorem d_vofc_21 : decode jdk_42_method_139_code 21 = .ok (.iconst 0, 1) := by decide +kernel
theorem d_vofc_22 : decode jdk_42_method_139_code 22 = .ok (.invokespecial 209, 3) := by decide +kernel
theorem d_vofc_25 : decode jdk_42_method_139_code 25 = .ok (.areturn, 1) := by decide +kernel
abbrev R_vofc : Room := ({ frames := 2, cells := 2, slots := 5, locals := 29 } : Room)
abbrev GM_vofc (l : Launch) (Z : State) (n0 : Nat) (Q : Option Value → Heap → Prop) (h : Heap) (cells slots pc : Nat) (Ls : Array Slot) (st : List Value) : Prop := Go l Z n0 R_vofc "java/lang/String" "valueOf" jdk_42_method_139_code 1 (some (.object "java/lang/String")) IN (FN n0 R_vofc Q) h cells slots pc Ls st
abbrev GW_vofc (l : Launch) (Z : State) (EL : List (String × Nat)) (s₀ : State) (n0 : Nat) (Q : Option Value → Heap → Prop) (lo : Nat) (Sf : List Addr) (h : Heap) (cells slots pc : Nat) (Ls : Array Slot) (st : List Value) : Prop := Go l Z n0 R_vofc "java/lang/String" "valueOf" jdk_42_method_139_code 1 (some (.object "java/lang/String")) (IW Z EL s₀ lo Sf) (FW Z EL s₀ n0 R_vofc Q) h cells slots pc Ls st
theorem pf_vofc : plainFor (⟨"java/lang/String", "valueOf", "(C)Ljava/lang/String;"⟩ : MethodName) = true := plainFor_of_name (by first | (simp [plainName, overriddenIn]; done) | decide +kernel)
/-- a String that is there, its chars below 256 -/
def Str (Z : State) (h : Heap) (x t : Addr) (kb : ClassId) (cs : List Int32) : Prop := Exa Z h x "java/lang/String" ∧ Fld Z h x "java/lang/String" "coder" "B" (.int (0 : Int32)) ∧ Fld Z h x "java/lang/String" "value" "[B" (.ref t) ∧ Arv Z h t kb .byte (Int32.ofNat cs.length) ((cs.map fun c => c.toInt8.toInt32).map Value.int) (.int (0 : Int32))
theorem Str.keep {Z : State} {h h' : Heap} {x t : Addr} {kb : ClassId} {cs : List Int32} {ws : List Addr} (F : Str Z h x t kb cs) (K : Keep h h' ws) (q : x ∉ ws) (r : t ∉ ws) : Str Z h' x t kb cs := ⟨F.1.keep K, F.2.1.keep K q, F.2.2.1.keep K q, F.2.2.2.keep K r⟩
theorem ct_vofc (l : Launch) (Z : State) (a0 : Array Value) (hw : ∀ d ∈ tables_1, d.before a0 Z = true) (n0 : Nat) (p : Int32) (h0 : Heap) (hz : n0 ≤ h0.size) (hp : ¬ (255 : Int32) < p) (O : Old Z n0 h0) (z : Int32) (S_cs : Sta Z Z.heap "java/lang/String" "COMPACT_STRINGS" "Z" (.int z)) (hcs : ¬ z = 0) :
    Ct l Z n0 "java/lang/String" "valueOf" "(C)Ljava/lang/String;" [] jdk_42_method_139_code 1 (some (.object "java/lang/String")) R_vofc #[.int p] h0 (fun v h => ∃ (x t : Addr) (kb : ClassId), v = some (.ref x) ∧ Keep h0 h [] ∧ n0 ≤ x ∧ h0.size ≤ x ∧ n0 ≤ t ∧ h0.size ≤ t ∧ Str Z h x t kb [p]) := by
  refine Ct.of_go pf_vofc (Ls := #[.val (.int p)]) (fun m => by first | rfl | (simp [entryFrame, mkF, argsToLocals, Value.category]; done)) ?_
  show GM_vofc l Z n0 (fun v h => ∃ (x t : Addr) (kb : ClassId), v = some (.ref x) ∧ Keep h0 h [] ∧ n0 ≤ x ∧ h0.size ≤ x ∧ n0 ≤ t ∧ h0.size ≤ t ∧ Str Z h x t kb [p]) h0 0 0 0 #[.val (.int p)] []
  have KK : Keep h0 h0 [] := Keep.refl _ _
  refine Go.getS (wd_111 hw) Via.refl (S_cs.ext O.2) d_vofc_0 ?_
  -- at pc 3: pc 3: ifCond .ifCond .eq 23 stack [(.int z)]
  -- not: z = (0 : Int32)
  refine Go.ifF d_vofc_3 (feq (hcs)).1 ?_
  refine Go.iloadN d_vofc_6 rfl ?_
  -- at pc 7: pc 7: invokestatic .invokestatic 1015 stack [(.int p)]
  refine Go.callS (I' := IN) (hI := nQ) [(.int p)] [] (ct_can l Z a0 hw n0 p _ hp) (wd_188 hw) (wd_131 hw) (wd_132 hw) (wd_133 hw) (by decide) pd_0 rfl rfl rfl (Nat.le_of_ble_eq_true rfl) (Nat.le_of_ble_eq_true rfl) (Nat.le_of_ble_eq_true rfl) (Nat.le_of_ble_eq_true rfl) d_vofc_7 ?_
  rintro _ _ ⟨rfl, rfl⟩
  show GM_vofc l Z n0 (fun v h => ∃ (x t : Addr) (kb : ClassId), v = some (.ref x) ∧ Keep h0 h [] ∧ n0 ≤ x ∧ h0.size ≤ x ∧ n0 ≤ t ∧ h0.size ≤ t ∧ Str Z h x t kb [p]) h0 0 0 10 #[.val (.int p)] [(.int (1 : Int32))]
  -- at pc 10: pc 10: ifCond .ifCond .eq 16 stack [(.int (1 : Int32))]
  -- not: (1 : Int32) = (0 : Int32)
  refine Go.ifF d_vofc_10 (feq (by decide)).1 ?_
  -- at pc 13: pc 13: new .new 10 stack []
  refine Go.new (I' := IN) (hI := nE) (wd_189 hw) (wd_9 hw) (wd_10 hw) d_vofc_13 (by decide) (by decide) fun hp6 x e_x X6 E_x D6 => ?_
  have K6 : Keep h0 hp6 [] := (Keep.refl _ _).ext X6
  have g_x : n0 ≤ x := e_x ▸ hz
  have s_x : h0.size ≤ x := e_x ▸ KK.1
  replace O := O.keep K6 (all0)
  have F_x_value : Fld Z hp6 x "java/lang/String" "value" "[B" .null := D6 (Or.inr (wd_24 hw)) (ty := (.array .byte)) (by decide)
  have F_x_coder : Fld Z hp6 x "java/lang/String" "coder" "B" (.int (0 : Int32)) := D6 (Or.inr (wd_25 hw)) (ty := .byte) (by decide)
  replace hz : n0 ≤ hp6.size := Nat.le_trans hz K6.1
  replace KK : Keep h0 hp6 [] := KK.trans K6 (all0)
  refine Go.dup d_vofc_16 rfl ?_
  refine Go.iloadN d_vofc_17 rfl ?_
  -- at pc 18: pc 18: invokestatic .invokestatic 1018 stack [(.int p), (.ref x), (.ref x)]
  have KK1 := KK
  have lt_x := E_x.lt
  refine Go.callS (I' := IN) (hI := nQ) [(.int p)] [(.ref x), (.ref x)] (ct_tob l Z a0 hw n0 p _ hz) (wd_190 hw) (wd_191 hw) (wd_132 hw) (wd_192 hw) (by decide) pd_1 rfl rfl rfl (Nat.le_of_ble_eq_true rfl) (Nat.le_of_ble_eq_true rfl) (Nat.le_of_ble_eq_true rfl) (Nat.le_of_ble_eq_true rfl) d_vofc_18 ?_
  rintro _ hp7 ⟨t, kb, rfl, g_t, sz_t, K7, V_t⟩
  replace O := O.keep K7 (all0)
  replace E_x := E_x.keep K7
  replace F_x_value := F_x_value.keep K7 nin0
  replace F_x_coder := F_x_coder.keep K7 nin0
  replace hz : n0 ≤ hp7.size := Nat.le_trans hz K7.1
  replace KK : Keep h0 hp7 [] := KK.trans K7 (all0)
  show GM_vofc l Z n0 (fun v h => ∃ (x t : Addr) (kb : ClassId), v = some (.ref x) ∧ Keep h0 h [] ∧ n0 ≤ x ∧ h0.size ≤ x ∧ n0 ≤ t ∧ h0.size ≤ t ∧ Str Z h x t kb [p]) hp7 2 5 21 #[.val (.int p)] [(.ref t), (.ref x), (.ref x)]
  have s_t : h0.size ≤ t := Nat.le_trans KK1.1 sz_t
  have ne_x_t : x ≠ t := (Nat.ne_of_lt (Nat.lt_of_lt_of_le lt_x sz_t))
  refine Go.iconst 0 d_vofc_21 rfl ?_
  -- at pc 22: pc 22: invokespecial .invokespecial 209 stack [(.int (0 : Int32)), (.ref t), (.ref x), (.ref x)]
  refine Go.callI (I' := IN) (hI := nQ) x [(.ref t), (.int (0 : Int32))] [(.ref x)] (ct_sinit2 l Z a0 hw n0 x t .null rfl 0 _ g_x E_x F_x_value F_x_coder) (wd_193 hw) (wd_194 hw) (wd_10 hw) (wd_195 hw) (by decide) pd_2 rfl rfl rfl (Nat.le_of_ble_eq_true rfl) (Nat.le_of_ble_eq_true rfl) (Nat.le_of_ble_eq_true rfl) (Nat.le_of_ble_eq_true rfl) d_vofc_22 ?_
  rintro _ hp8 ⟨rfl, K8, Fv, Fc⟩
  replace O := O.keep K8 (allS g_x (all0))
  replace E_x := E_x.keep K8
  replace V_t := V_t.keep K8 (ninS (Ne.symm ne_x_t) nin0)
  replace hz : n0 ≤ hp8.size := Nat.le_trans hz K8.1
  replace KK : Keep h0 hp8 [] := KK.trans K8 (allS (Or.inr s_x) (all0))
  show GM_vofc l Z n0 (fun v h => ∃ (x t : Addr) (kb : ClassId), v = some (.ref x) ∧ Keep h0 h [] ∧ n0 ≤ x ∧ h0.size ≤ x ∧ n0 ≤ t ∧ h0.size ≤ t ∧ Str Z h x t kb [p]) hp8 2 5 25 #[.val (.int p)] [(.ref x)]
  -- at pc 25: pc 25: areturn .areturn stack [(.ref x)]
  exact Go.areturn d_vofc_25 rfl rfl rfl (by decide) (by decide) ⟨x, t, kb, rfl, KK, g_x, s_x, g_t, s_t, E_x, Fc, Fv, V_t⟩
theorem d_si4_0 : decode jdk_42_method_149_code 0 = .ok (.aload_n 0, 1) := by decide +kernel
theorem d_si4_1 : decode jdk_42_method_149_code 1 = .ok (.invokespecial 1, 3) := by decide +kernel
theorem d_si4_4 : decode jdk_42_method_149_code 4 = .ok (.iload_n 3, 1) := by decide +kernel
theorem d_si4_5 : decode jdk_42_method_149_code 5 = .ok (.ifCond .ne 22, 3) := by decide +kernel
theorem d_si4_8 : decode jdk_42_method_149_code 8 = .ok (.aload_n 0, 1) := by decide +kernel
theorem d_si4_9 : decode jdk_42_method_149_code 9 = .ok (.ldc 7, 2) := by decide +kernel
theorem d_si4_11 : decode jdk_42_method_149_code 11 = .ok (.getfield 9, 3) := by decide +kernel
theorem d_si4_14 : decode jdk_42_method_149_code 14 = .ok (.putfield 9, 3) := by decide +kernel
theorem d_si4_17 : decode jdk_42_method_149_code 17 = .ok (.aload_n 0, 1) := by decide +kernel
theorem d_si4_18 : decode jdk_42_method_149_code 18 = .ok (.ldc 7, 2) := by decide +kernel
theorem d_si4_20 : decode jdk_42_method_149_code 20 = .ok (.getfield 15, 3) := by decide +kernel
theorem d_si4_23 : decode jdk_42_method_149_code 23 = .ok (.putfield 15, 3) := by decide +kernel
theorem d_si4_26 : decode jdk_42_method_149_code 26 = .ok (.return_, 1) := by decide +kernel
abbrev R_si4 : Room := ({ frames := 1, cells := 4, slots := 8, locals := 12 } : Room)
abbrev GM_si4 (l : Launch) (Z : State) (n0 : Nat) (Q : Option Value → Heap → Prop) (h : Heap) (cells slots pc : Nat) (Ls : Array Slot) (st : List Value) : Prop := Go l Z n0 R_si4 "java/lang/String" "<init>" jdk_42_method_149_code 6 none IN (FN n0 R_si4 Q) h cells slots pc Ls st
abbrev GW_si4 (l : Launch) (Z : State) (EL : List (String × Nat)) (s₀ : State) (n0 : Nat) (Q : Option Value → Heap → Prop) (lo : Nat) (Sf : List Addr) (h : Heap) (cells slots pc : Nat) (Ls : Array Slot) (st : List Value) : Prop := Go l Z n0 R_si4 "java/lang/String" "<init>" jdk_42_method_149_code 6 none (IW Z EL s₀ lo Sf) (FW Z EL s₀ n0 R_si4 Q) h cells slots pc Ls st
theorem pf_si4 : plainFor (⟨"java/lang/String", "<init>", "([CIILjava/lang/Void;)V"⟩ : MethodName) = true := plainFor_of_name (by first | (simp [plainName, overriddenIn]; done) | decide +kernel)
theorem ctw_si4E (l : Launch) (Z : State) (a0 : Array Value) (hw : ∀ d ∈ tables_1, d.before a0 Z = true) (n0 : Nat) (x b : Addr) (h0 : Heap) (g_x : n0 ≤ x) (E_x : Exa Z h0 x "java/lang/String") (F_x_value : Fld Z h0 x "java/lang/String" "value" "[B" .null) (F_x_coder : Fld Z h0 x "java/lang/String" "coder" "B" (.int (0 : Int32))) :
    CtW l Z EL n0 "java/lang/String" "<init>" "([CIILjava/lang/Void;)V" [] jdk_42_method_149_code 6 none R_si4 #[.ref x, .ref b, .int (0 : Int32), .int (0 : Int32), .null] h0 [x] (fun v h => v = none ∧ Keep h0 h [x] ∧ ∃ (t : Addr) (kb : ClassId), Str Z h x t kb []) := by
  refine CtW.of_go pf_si4 (Ls := #[.val (.ref x), .val (.ref b), .val (.int (0 : Int32)), .val (.int (0 : Int32)), .val .null, .unset]) (fun m => by first | rfl | (simp [entryFrame, mkF, argsToLocals, Value.category]; done)) fun s₀ => ?_
  have hlo : h0.size ≤ h0.size := Nat.le_refl _
  have hEL : EW Z a0 EL := ewEL hw
  show GW_si4 l Z EL s₀ n0 (fun v h => v = none ∧ Keep h0 h [x] ∧ ∃ (t : Addr) (kb : ClassId), Str Z h x t kb []) h0.size [x] h0 0 0 0 #[.val (.ref x), .val (.ref b), .val (.int (0 : Int32)), .val (.int (0 : Int32)), .val .null, .unset] []
  have KK : Keep h0 h0 [x] := Keep.refl _ _
  refine Go.aloadN d_si4_0 rfl rfl ?_
  refine Go.initO (wd_19 hw) (wd_20 hw) (wd_21 hw) d_si4_1 rfl (by decide) (Nat.le_of_ble_eq_true rfl) ?_
  refine Go.iloadN d_si4_4 rfl ?_
  -- at pc 5: pc 5: ifCond .ifCond .ne 22 stack [(.int (0 : Int32))]
  -- (0 : Int32) = (0 : Int32)
  refine Go.ifF d_si4_5 (teq (rfl)).2 ?_
  refine Go.aloadN d_si4_8 rfl rfl ?_
  -- at pc 9: pc 9: ldc #7: no int constant
  refine GW.ldc [x] (vs := []) (z := 0) hEL (wSA hw) (wd_22 hw) (by decide) ⟨by decide, by decide⟩ (by decide) rfl d_si4_9 (n := 0) (by decide) (by decide) (by decide) (by decide) (allS ⟨Or.inr (by simp), E_x.lt⟩ all0) fun hp9 la lb k_lb X9 E_la F_la_coder F_la_value V_lb ns9 nx9 => ?_
  have K9 : Keep h0 hp9 [] := (Keep.refl _ _).ext X9
  replace E_x := E_x.keep K9
  replace F_x_value := F_x_value.keep K9 nin0
  replace F_x_coder := F_x_coder.keep K9 nin0
  replace hlo : h0.size ≤ hp9.size := Nat.le_trans hlo K9.1
  replace KK : Keep h0 hp9 [x] := KK.trans K9 (all0)
  replace hlo : hp9.size ≤ hp9.size := Nat.le_refl _
  have ne_x_la : x ≠ la := (ns9 x (by simp)).1
  have ne_x_lb : x ≠ lb := (ns9 x (by simp)).2
  show GW_si4 l Z EL s₀ n0 (fun v h => v = none ∧ Keep h0 h [x] ∧ ∃ (t : Addr) (kb : ClassId), Str Z h x t kb []) hp9.size [x] hp9 2 4 11 #[.val (.ref x), .val (.ref b), .val (.int (0 : Int32)), .val (.int (0 : Int32)), .val .null, .unset] [(.ref la), (.ref x)]
  refine Go.getF (wd_28 hw) Via.refl F_la_value d_si4_11 ?_
  refine Go.putF (I' := IW Z EL s₀ hp9.size [x]) (hI := wI (Sb.mem (by simp))) (wd_28 hw) Via.refl F_x_value E_x (Or.inr ⟨(wd_24 hw), rfl, rfl⟩) (wd_9 hw) (ty := (.array .byte)) (by decide) rfl rfl g_x d_si4_14 fun hp10 W10 => ?_
  have K10 := Keep.of_wr W10
  replace F_x_value := F_x_value.same W10
  replace F_x_coder := F_x_coder.other W10 (Or.inr (slot_ne (Or.inr (wd_25 hw)) (Or.inr (wd_24 hw)) (by decide) (t := .byte) (t' := (.array .byte)) (by decide) (by decide)))
  replace E_x := E_x.keep K10
  replace E_la := E_la.keep K10
  replace F_la_coder := F_la_coder.keep K10 (ninS (Ne.symm ne_x_la) nin0)
  replace F_la_value := F_la_value.keep K10 (ninS (Ne.symm ne_x_la) nin0)
  replace V_lb := V_lb.keep K10 (ninS (Ne.symm ne_x_lb) nin0)
  replace hlo : hp9.size ≤ hp10.size := Nat.le_trans hlo K10.1
  replace KK : Keep h0 hp10 [x] := KK.trans K10 (allS (Or.inl (by simp)) (all0))
  refine Go.aloadN d_si4_17 rfl rfl ?_
  -- at pc 18: pc 18: ldc #7: no int constant
  refine GW.ldc [x] (vs := []) (z := 0) hEL (wSA hw) (wd_22 hw) (by decide) ⟨by decide, by decide⟩ (by decide) rfl d_si4_18 (n := 0) (by decide) (by decide) (by decide) (by decide) (allS ⟨Or.inr (by simp), E_x.lt⟩ all0) fun hp11 lc ld k_ld X11 E_lc F_lc_coder F_lc_value V_ld ns11 nx11 => ?_
  have K11 : Keep hp10 hp11 [] := (Keep.refl _ _).ext X11
  replace E_x := E_x.keep K11
  replace F_x_value := F_x_value.keep K11 nin0
  replace F_x_coder := F_x_coder.keep K11 nin0
  replace E_la := E_la.keep K11
  replace F_la_coder := F_la_coder.keep K11 nin0
  replace F_la_value := F_la_value.keep K11 nin0
  replace V_lb := V_lb.keep K11 nin0
  replace hlo : hp9.size ≤ hp11.size := Nat.le_trans hlo K11.1
  replace KK : Keep h0 hp11 [x] := KK.trans K11 (all0)
  replace hlo : hp11.size ≤ hp11.size := Nat.le_refl _
  have ne_x_lc : x ≠ lc := (ns11 x (by simp)).1
  have ne_x_ld : x ≠ ld := (ns11 x (by simp)).2
  show GW_si4 l Z EL s₀ n0 (fun v h => v = none ∧ Keep h0 h [x] ∧ ∃ (t : Addr) (kb : ClassId), Str Z h x t kb []) hp11.size [x] hp11 4 8 20 #[.val (.ref x), .val (.ref b), .val (.int (0 : Int32)), .val (.int (0 : Int32)), .val .null, .unset] [(.ref lc), (.ref x)]
  refine Go.getF (wd_29 hw) Via.refl F_lc_coder d_si4_20 ?_
  refine Go.putFN (I' := IW Z EL s₀ hp11.size [x]) (hI := wI (Sb.mem (by simp))) (v' := (.int (0 : Int32))) (wd_29 hw) Via.refl F_x_coder E_x (Or.inr ⟨(wd_25 hw), rfl, rfl⟩) (wd_9 hw) (ty := .byte) (by decide) rfl rfl g_x d_si4_23 fun hp12 W12 => ?_
  have K12 := Keep.of_wr W12
  replace F_x_value := F_x_value.other W12 (Or.inr (slot_ne (Or.inr (wd_24 hw)) (Or.inr (wd_25 hw)) (by decide) (t := (.array .byte)) (t' := .byte) (by decide) (by decide)))
  replace F_x_coder := F_x_coder.same W12
  replace E_x := E_x.keep K12
  replace E_la := E_la.keep K12
  replace F_la_coder := F_la_coder.keep K12 (ninS (Ne.symm ne_x_la) nin0)
  replace F_la_value := F_la_value.keep K12 (ninS (Ne.symm ne_x_la) nin0)
  replace V_lb := V_lb.keep K12 (ninS (Ne.symm ne_x_lb) nin0)
  replace E_lc := E_lc.keep K12
  replace F_lc_coder := F_lc_coder.keep K12 (ninS (Ne.symm ne_x_lc) nin0)
  replace F_lc_value := F_lc_value.keep K12 (ninS (Ne.symm ne_x_lc) nin0)
  replace V_ld := V_ld.keep K12 (ninS (Ne.symm ne_x_ld) nin0)
  replace hlo : hp11.size ≤ hp12.size := Nat.le_trans hlo K12.1
  replace KK : Keep h0 hp12 [x] := KK.trans K12 (allS (Or.inl (by simp)) (all0))
  -- at pc 26: pc 26: return .return_ stack []
  exact GW.return_ hEL d_si4_26 rfl (by decide) (by decide) ⟨rfl, KK, lb, k_lb, E_x, F_x_coder, F_x_value, V_lb⟩
theorem d_si1_0 : decode jdk_42_method_3_code 0 = .ok (.aload_n 0, 1) := by decide +kernel
theorem d_si1_1 : decode jdk_42_method_3_code 1 = .ok (.aload_n 1, 1) := by decide +kernel
theorem d_si1_2 : decode jdk_42_method_3_code 2 = .ok (.iconst 0, 1) := by decide +kernel
theorem d_si1_3 : decode jdk_42_method_3_code 3 = .ok (.aload_n 1, 1) := by decide +kernel
theorem d_si1_4 : decode jdk_42_method_3_code 4 = .ok (.arraylength, 1) := by decide +kernel
theorem d_si1_5 : decode jdk_42_method_3_code 5 = .ok (.aconst_null, 1) := by decide +kernel
theorem d_si1_6 : decode jdk_42_method_3_code 6 = .ok (.invokespecial 27, 3) := by decide +kernel
theorem d_si1_9 : decode jdk_42_method_3_code 9 = .ok (.return_, 1) := by decide +kernel
abbrev R_si1 : Room := ({ frames := 2, cells := 4, slots := 8, locals := 29 } : Room)
abbrev GM_si1 (l : Launch) (Z : State) (n0 : Nat) (Q : Option Value → Heap → Prop) (h : Heap) (cells slots pc : Nat) (Ls : Array Slot) (st : List Value) : Prop := Go l Z n0 R_si1 "java/lang/String" "<init>" jdk_42_method_3_code 2 none IN (FN n0 R_si1 Q) h cells slots pc Ls st
abbrev GW_si1 (l : Launch) (Z : State) (EL : List (String × Nat)) (s₀ : State) (n0 : Nat) (Q : Option Value → Heap → Prop) (lo : Nat) (Sf : List Addr) (h : Heap) (cells slots pc : Nat) (Ls : Array Slot) (st : List Value) : Prop := Go l Z n0 R_si1 "java/lang/String" "<init>" jdk_42_method_3_code 2 none (IW Z EL s₀ lo Sf) (FW Z EL s₀ n0 R_si1 Q) h cells slots pc Ls st
theorem pf_si1 : plainFor (⟨"java/lang/String", "<init>", "([C)V"⟩ : MethodName) = true := plainFor_of_name (by first | (simp [plainName, overriddenIn]; done) | decide +kernel)
theorem ctw_si1E (l : Launch) (Z : State) (a0 : Array Value) (hw : ∀ d ∈ tables_1, d.before a0 Z = true) (n0 : Nat) (x b : Addr) (kC : ClassId) (dv : Value) (h0 : Heap) (g_x : n0 ≤ x) (E_x : Exa Z h0 x "java/lang/String") (F_x_value : Fld Z h0 x "java/lang/String" "value" "[B" .null) (F_x_coder : Fld Z h0 x "java/lang/String" "coder" "B" (.int (0 : Int32))) (V_b : Arv Z h0 b kC .char (0 : Int32) [] dv) :
    CtW l Z EL n0 "java/lang/String" "<init>" "([C)V" [] jdk_42_method_3_code 2 none R_si1 #[.ref x, .ref b] h0 [x] (fun v h => v = none ∧ Keep h0 h [x] ∧ ∃ (t : Addr) (kb : ClassId), Str Z h x t kb []) := by
  refine CtW.of_go pf_si1 (Ls := #[.val (.ref x), .val (.ref b)]) (fun m => by first | rfl | (simp [entryFrame, mkF, argsToLocals, Value.category]; done)) fun s₀ => ?_
  have hlo : h0.size ≤ h0.size := Nat.le_refl _
  have hEL : EW Z a0 EL := ewEL hw
  show GW_si1 l Z EL s₀ n0 (fun v h => v = none ∧ Keep h0 h [x] ∧ ∃ (t : Addr) (kb : ClassId), Str Z h x t kb []) h0.size [x] h0 0 0 0 #[.val (.ref x), .val (.ref b)] []
  have KK : Keep h0 h0 [x] := Keep.refl _ _
  refine Go.aloadN d_si1_0 rfl rfl ?_
  refine Go.aloadN d_si1_1 rfl rfl ?_
  refine Go.iconst 0 d_si1_2 rfl ?_
  refine Go.aloadN d_si1_3 rfl rfl ?_
  refine Go.arraylength V_b d_si1_4 ?_
  refine Go.null d_si1_5 ?_
  -- at pc 6: pc 6: invokespecial .invokespecial 27 stack [.null, (.int (0 : Int32)), (.int (0 : Int32)), (.ref b), (.ref x)]
  refine GW.callI [] [x] x [(.ref b), (.int (0 : Int32)), (.int (0 : Int32)), .null] [] (ctw_si4E l Z a0 hw n0 x b _ g_x E_x F_x_value F_x_coder) hEL (allS ⟨Or.inr (by simp), E_x.lt⟩ all0) all0 (wd_15 hw) (wd_16 hw) (wd_10 hw) (wd_18 hw) (by decide) pd_3 rfl rfl rfl (Nat.le_of_ble_eq_true rfl) (Nat.le_of_ble_eq_true rfl) (Nat.le_of_ble_eq_true rfl) (Nat.le_of_ble_eq_true rfl) d_si1_6 ?_
  rintro _ hp13 ⟨rfl, K13, t, kb, hS⟩ hgr13
  replace E_x := E_x.keep K13
  replace hlo : h0.size ≤ hp13.size := Nat.le_trans hlo K13.1
  replace KK : Keep h0 hp13 [x] := KK.trans K13 (allS (Or.inl (by simp)) (all0))
  replace hlo : hp13.size ≤ hp13.size := Nat.le_refl _
  show GW_si1 l Z EL s₀ n0 (fun v h => v = none ∧ Keep h0 h [x] ∧ ∃ (t : Addr) (kb : ClassId), Str Z h x t kb []) hp13.size [] hp13 4 8 9 #[.val (.ref x), .val (.ref b)] []
  -- at pc 9: pc 9: return .return_ stack []
  exact GW.return_ hEL d_si1_9 rfl (by decide) (by decide) ⟨rfl, KK, t, kb, hS⟩
/-- a Latin-1 String: its bytes -/
def Byt (Z : State) (h : Heap) (x t : Addr) (kb : ClassId) (bs : List Int32) : Prop := Exa Z h x "java/lang/String" ∧ Fld Z h x "java/lang/String" "coder" "B" (.int (0 : Int32)) ∧ Fld Z h x "java/lang/String" "value" "[B" (.ref t) ∧ Arv Z h t kb .byte (Int32.ofNat bs.length) (bs.map Value.int) (.int (0 : Int32))
theorem Byt.keep {Z : State} {h h' : Heap} {x t : Addr} {kb : ClassId} {cs : List Int32} {ws : List Addr} (F : Byt Z h x t kb cs) (K : Keep h h' ws) (q : x ∉ ws) (r : t ∉ ws) : Byt Z h' x t kb cs := ⟨F.1.keep K, F.2.1.keep K q, F.2.2.1.keep K q, F.2.2.2.keep K r⟩
theorem Byt.lt {Z : State} {h : Heap} {x t : Addr} {kb : ClassId} {cs : List Int32} (F : Byt Z h x t kb cs) : x < h.size := F.1.lt
theorem Byt.lt2 {Z : State} {h : Heap} {x t : Addr} {kb : ClassId} {cs : List Int32} (F : Byt Z h x t kb cs) : t < h.size := F.2.2.2.lt
theorem Byt.of {Z : State} {h : Heap} {x t : Addr} {kb : ClassId} {cs : List Int32} (F : Str Z h x t kb cs) : Byt Z h x t kb (cs.map fun c => c.toInt8.toInt32) := by
  obtain ⟨h1, h2, h3, h4⟩ := F
  exact ⟨h1, h2, h3, by simpa using h4⟩
/-- a Latin-1 StringBuilder of 16 places: its bytes -/
def Sbd (Z : State) (h : Heap) (sb va : Addr) (kv : ClassId) (cs : List Int32) : Prop := Exa Z h sb "java/lang/StringBuilder" ∧ Fld Z h sb "java/lang/AbstractStringBuilder" "value" "[B" (.ref va) ∧ Fld Z h sb "java/lang/AbstractStringBuilder" "coder" "B" (.int (0 : Int32)) ∧ Fld Z h sb "java/lang/AbstractStringBuilder" "count" "I" (.int (Int32.ofNat cs.length)) ∧ Arv Z h va kv .byte (16 : Int32) (cs.map Value.int) (.int (0 : Int32))
theorem Sbd.keep {Z : State} {h h' : Heap} {x t : Addr} {kb : ClassId} {cs : List Int32} {ws : List Addr} (F : Sbd Z h x t kb cs) (K : Keep h h' ws) (q : x ∉ ws) (r : t ∉ ws) : Sbd Z h' x t kb cs := ⟨F.1.keep K, F.2.1.keep K q, F.2.2.1.keep K q, F.2.2.2.1.keep K q, F.2.2.2.2.keep K r⟩
theorem Sbd.lt {Z : State} {h : Heap} {x t : Addr} {kb : ClassId} {cs : List Int32} (F : Sbd Z h x t kb cs) : x < h.size := F.1.lt
theorem Sbd.lt2 {Z : State} {h : Heap} {x t : Addr} {kb : ClassId} {cs : List Int32} (F : Sbd Z h x t kb cs) : t < h.size := F.2.2.2.2.lt
theorem own_shr0 (x : Int32) : x >>> ((0 : Int32) &&& 31) = x := by
  apply Int32.toBitVec_inj.mp
  simp [Int32.toBitVec_shiftRight]
theorem own_shl0 (x : Int32) : x <<< ((0 : Int32) &&& 31) = x := by
  apply Int32.toBitVec_inj.mp
  simp [Int32.toBitVec_shiftLeft]
theorem own_ofInt {n : Nat} (h : n < 2 ^ 31) : (Int32.ofNat n).toInt = n := len_toInt h
theorem own_clamp {n : Nat} (h : n < 2 ^ 31) : (Int32.ofNat n).toNatClampNeg = n := by simp only [Int32.toNatClampNeg, own_ofInt h]; rfl
theorem own_nneg {n : Nat} (h : n < 2 ^ 31) : ¬ Int32.ofNat n < 0 := by rw [Int32.lt_iff_toInt_lt, own_ofInt h]; show ¬ (n : Int) < 0; omega
theorem own_range {L : List Value} {d : Value} {n : Nat} (h : n = L.length) : L = (List.range n).map fun i => L.getD (0 + i) d := by
  subst h
  apply List.ext_getElem
  · simp
  · intro i h1 h2; simp [List.getD_eq_getElem?_getD, h1]
theorem own_cap (k : Nat) (h : k ≤ 16) : ¬ (0 : Int32) < Int32.ofNat k - ((16 : Int32) >>> ((0 : Int32) &&& 31)) := by
  rw [own_shr0]
  have : k = 0 ∨ k = 1 ∨ k = 2 ∨ k = 3 ∨ k = 4 ∨ k = 5 ∨ k = 6 ∨ k = 7 ∨ k = 8 ∨ k = 9 ∨ k = 10 ∨ k = 11 ∨ k = 12 ∨ k = 13 ∨ k = 14 ∨ k = 15 ∨ k = 16 := by omega
  rcases this with rfl | rfl | rfl | rfl | rfl | rfl | rfl | rfl | rfl | rfl | rfl | rfl | rfl | rfl | rfl | rfl | rfl <;> decide
theorem own_le16 {k : Nat} (h : k ≤ 15) : ¬ (16 : Int32) - 0 < Int32.ofNat k := by
  rw [Int32.lt_iff_toInt_lt, own_ofInt (by omega)]; show ¬ (16 : Int) < k; omega
theorem own_ne16 {k : Nat} (h : k ≤ 15) : ¬ Int32.ofNat k = 16 := fun q => by
  have := congrArg Int32.toInt q; rw [own_ofInt (by omega)] at this; have e : (16 : Int32).toInt = 16 := rfl; omega
theorem own_cnt (cs bs : List Int32) : Int32.ofNat cs.length + Int32.ofNat bs.length = Int32.ofNat (cs ++ bs).length := by rw [List.length_append]; exact (Int32.ofNat_add _ _).symm
theorem own_put {Z : State} {h : Heap} {va : Addr} {kv : ClassId} {cs bs : List Int32} (hl : cs.length + bs.length ≤ 16) (V : Arv Z h va kv .byte (16 : Int32) ((cs.map Value.int ++ List.replicate (16 - cs.length) (Value.int 0)).take (Int32.ofNat cs.length).toNatClampNeg ++ bs.map Value.int ++ (cs.map Value.int ++ List.replicate (16 - cs.length) (Value.int 0)).drop ((Int32.ofNat cs.length).toNatClampNeg + (Int32.ofNat bs.length).toNatClampNeg)) (.int (0 : Int32))) : Arv Z h va kv .byte (16 : Int32) ((cs ++ bs).map Value.int) (.int (0 : Int32)) := by
  rw [own_clamp (by omega), own_clamp (by omega)] at V
  have e1 : (cs.map Value.int ++ List.replicate (16 - cs.length) (Value.int 0)).take cs.length = cs.map Value.int := by simp
  have e2 : (cs.map Value.int ++ List.replicate (16 - cs.length) (Value.int 0)).drop (cs.length + bs.length) = List.replicate (16 - cs.length - bs.length) (Value.int 0) := by
    rw [List.drop_append]; simp
  rw [e1, e2, ← List.map_append] at V
  exact V.pad fun i => (pad_rep _ _ _ i).symm
theorem d_scoder_0 : decode jdk_42_method_152_code 0 = .ok (.getstatic 38, 3) := by decide +kernel
theorem d_scoder_3 : decode jdk_42_method_152_code 3 = .ok (.ifCond .eq 10, 3) := by decide +kernel
theorem d_scoder_6 : decode jdk_42_method_152_code 6 = .ok (.aload_n 0, 1) := by decide +kernel
theorem d_scoder_7 : decode jdk_42_method_152_code 7 = .ok (.getfield 15, 3) := by decide +kernel
theorem d_scoder_10 : decode jdk_42_method_152_code 10 = .ok (.goto 4, 3) := by decide +kernel
theorem d_scoder_14 : decode jdk_42_method_152_code 14 = .ok (.ireturn, 1) := by decide +kernel
abbrev R_scoder : Room := ({ frames := 0, cells := 0, slots := 0, locals := 0 } : Room)
abbrev GM_scoder (l : Launch) (Z : State) (n0 : Nat) (Q : Option Value → Heap → Prop) (h : Heap) (cells slots pc : Nat) (Ls : Array Slot) (st : List Value) : Prop := Go l Z n0 R_scoder "java/lang/String" "coder" jdk_42_method_152_code 1 (some .byte) IN (FN n0 R_scoder Q) h cells slots pc Ls st
abbrev GW_scoder (l : Launch) (Z : State) (EL : List (String × Nat)) (s₀ : State) (n0 : Nat) (Q : Option Value → Heap → Prop) (lo : Nat) (Sf : List Addr) (h : Heap) (cells slots pc : Nat) (Ls : Array Slot) (st : List Value) : Prop := Go l Z n0 R_scoder "java/lang/String" "coder" jdk_42_method_152_code 1 (some .byte) (IW Z EL s₀ lo Sf) (FW Z EL s₀ n0 R_scoder Q) h cells slots pc Ls st
theorem pf_scoder : plainFor (⟨"java/lang/String", "coder", "()B"⟩ : MethodName) = true := plainFor_of_name (by first | (simp [plainName, overriddenIn]; done) | decide +kernel)
theorem ct_scoder (l : Launch) (Z : State) (a0 : Array Value) (hw : ∀ d ∈ tables_1, d.before a0 Z = true) (n0 : Nat) (x : Addr) (h0 : Heap) (O : Old Z n0 h0) (z : Int32) (S_cs : Sta Z Z.heap "java/lang/String" "COMPACT_STRINGS" "Z" (.int z)) (hcs : ¬ z = 0) (F : Fld Z h0 x "java/lang/String" "coder" "B" (.int (0 : Int32))) : Ct l Z n0 "java/lang/String" "coder" "()B" [] jdk_42_method_152_code 1 (some .byte) R_scoder #[.ref x] h0 (fun v h => v = some (.int (0 : Int32)) ∧ h0 = h) := by
  refine Ct.of_go pf_scoder (Ls := #[.val (.ref x)]) (fun m => by first | rfl | (simp [entryFrame, mkF, argsToLocals, Value.category]; done)) ?_
  show GM_scoder l Z n0 (fun v h => v = some (.int (0 : Int32)) ∧ h0 = h) h0 0 0 0 #[.val (.ref x)] []
  refine Go.getS (wd_111 hw) Via.refl (S_cs.ext O.2) d_scoder_0 ?_
  -- at pc 3: pc 3: ifCond .ifCond .eq 10 stack [(.int z)]
  -- not: z = (0 : Int32)
  refine Go.ifF d_scoder_3 (feq (hcs)).1 ?_
  refine Go.aloadN d_scoder_6 rfl rfl ?_
  refine Go.getF (wd_29 hw) Via.refl F d_scoder_7 ?_
  refine Go.goto 14 d_scoder_10 (by decide) (by decide) ?_
  -- at pc 14: pc 14: ireturn .ireturn stack [(.int (0 : Int32))]
  exact Go.nreturn .byte d_scoder_14 rfl (by simp) (by decide) (by decide) ⟨rfl, rfl⟩
theorem d_slen_0 : decode jdk_42_method_54_code 0 = .ok (.aload_n 0, 1) := by decide +kernel
theorem d_slen_1 : decode jdk_42_method_54_code 1 = .ok (.getfield 9, 3) := by decide +kernel
theorem d_slen_4 : decode jdk_42_method_54_code 4 = .ok (.arraylength, 1) := by decide +kernel
theorem d_slen_5 : decode jdk_42_method_54_code 5 = .ok (.aload_n 0, 1) := by decide +kernel
theorem d_slen_6 : decode jdk_42_method_54_code 6 = .ok (.invokevirtual 335, 3) := by decide +kernel
theorem d_slen_9 : decode jdk_42_method_54_code 9 = .ok (.ishr, 1) := by decide +kernel
theorem d_slen_10 : decode jdk_42_method_54_code 10 = .ok (.ireturn, 1) := by decide +kernel
abbrev R_slen : Room := ({ frames := 1, cells := 0, slots := 0, locals := 13 } : Room)
abbrev GM_slen (l : Launch) (Z : State) (n0 : Nat) (Q : Option Value → Heap → Prop) (h : Heap) (cells slots pc : Nat) (Ls : Array Slot) (st : List Value) : Prop := Go l Z n0 R_slen "java/lang/String" "length" jdk_42_method_54_code 1 (some .int) IN (FN n0 R_slen Q) h cells slots pc Ls st
abbrev GW_slen (l : Launch) (Z : State) (EL : List (String × Nat)) (s₀ : State) (n0 : Nat) (Q : Option Value → Heap → Prop) (lo : Nat) (Sf : List Addr) (h : Heap) (cells slots pc : Nat) (Ls : Array Slot) (st : List Value) : Prop := Go l Z n0 R_slen "java/lang/String" "length" jdk_42_method_54_code 1 (some .int) (IW Z EL s₀ lo Sf) (FW Z EL s₀ n0 R_slen Q) h cells slots pc Ls st
theorem pf_slen : plainFor (⟨"java/lang/String", "length", "()I"⟩ : MethodName) = true := plainFor_of_name (by first | (simp [plainName, overriddenIn]; done) | decide +kernel)
theorem ct_slen (l : Launch) (Z : State) (a0 : Array Value) (hw : ∀ d ∈ tables_1, d.before a0 Z = true) (n0 : Nat) (x t : Addr) (kt : ClassId) (bs : List Int32) (h0 : Heap) (O : Old Z n0 h0) (z : Int32) (S_cs : Sta Z Z.heap "java/lang/String" "COMPACT_STRINGS" "Z" (.int z)) (hcs : ¬ z = 0) (B : Byt Z h0 x t kt bs) : Ct l Z n0 "java/lang/String" "length" "()I" [] jdk_42_method_54_code 1 (some .int) R_slen #[.ref x] h0 (fun v h => v = some (.int (Int32.ofNat bs.length)) ∧ h0 = h) := by
  obtain ⟨E_x, F_x_coder, F_x_value, V_t⟩ := B
  refine Ct.of_go pf_slen (Ls := #[.val (.ref x)]) (fun m => by first | rfl | (simp [entryFrame, mkF, argsToLocals, Value.category]; done)) ?_
  show GM_slen l Z n0 (fun v h => v = some (.int (Int32.ofNat bs.length)) ∧ h0 = h) h0 0 0 0 #[.val (.ref x)] []
  refine Go.aloadN d_slen_0 rfl rfl ?_
  refine Go.getF (wd_28 hw) Via.refl F_x_value d_slen_1 ?_
  refine Go.arraylength V_t d_slen_4 ?_
  refine Go.aloadN d_slen_5 rfl rfl ?_
  -- at pc 6: pc 6: invokevirtual .invokevirtual 335 stack [(.ref x), (.int (Int32.ofNat bs.length))]
  refine Go.callV (I' := IN) (hI := nQ) x [] [(.int (Int32.ofNat bs.length))] (ct_scoder l Z a0 hw n0 x _ O z S_cs hcs F_x_coder) E_x (wd_106 hw) (wd_107 hw) (nf_sel (wd_109 hw)) (wd_109 hw) (wd_108 hw) (wd_10 hw) (wd_110 hw) (by decide) pd_4 rfl rfl rfl (Nat.le_of_ble_eq_true rfl) (Nat.le_of_ble_eq_true rfl) (Nat.le_of_ble_eq_true rfl) (Nat.le_of_ble_eq_true rfl) d_slen_6 ?_
  rintro _ _ ⟨rfl, rfl⟩
  show GM_slen l Z n0 (fun v h => v = some (.int (Int32.ofNat bs.length)) ∧ h0 = h) h0 0 0 9 #[.val (.ref x)] [(.int (0 : Int32)), (.int (Int32.ofNat bs.length))]
  refine Go.ishr d_slen_9 ?_
  rw [show ((Int32.ofNat bs.length) >>> ((0 : Int32) &&& 31)) = (Int32.ofNat bs.length) from (own_shr0 _)]
  exact Go.ireturn d_slen_10 rfl (by decide) (by decide) ⟨rfl, rfl⟩
theorem d_sbiA_0 : decode jdk_68_method_2_code 0 = .ok (.aload_n 0, 1) := by decide +kernel
theorem d_sbiA_1 : decode jdk_68_method_2_code 1 = .ok (.invokespecial 3, 3) := by decide +kernel
theorem d_sbiA_4 : decode jdk_68_method_2_code 4 = .ok (.getstatic 18, 3) := by decide +kernel
theorem d_sbiA_7 : decode jdk_68_method_2_code 7 = .ok (.ifCond .eq 18, 3) := by decide +kernel
theorem d_sbiA_10 : decode jdk_68_method_2_code 10 = .ok (.aload_n 0, 1) := by decide +kernel
theorem d_sbiA_11 : decode jdk_68_method_2_code 11 = .ok (.iload_n 1, 1) := by decide +kernel
theorem d_sbiA_12 : decode jdk_68_method_2_code 12 = .ok (.newarray .byte, 2) := by decide +kernel
theorem d_sbiA_14 : decode jdk_68_method_2_code 14 = .ok (.putfield 15, 3) := by decide +kernel
theorem d_sbiA_17 : decode jdk_68_method_2_code 17 = .ok (.aload_n 0, 1) := by decide +kernel
theorem d_sbiA_18 : decode jdk_68_method_2_code 18 = .ok (.iconst 0, 1) := by decide +kernel
theorem d_sbiA_19 : decode jdk_68_method_2_code 19 = .ok (.putfield 22, 3) := by decide +kernel
theorem d_sbiA_22 : decode jdk_68_method_2_code 22 = .ok (.goto 16, 3) := by decide +kernel
theorem d_sbiA_38 : decode jdk_68_method_2_code 38 = .ok (.return_, 1) := by decide +kernel
abbrev R_sbiA : Room := ({ frames := 1, cells := 1, slots := 16, locals := 12 } : Room)
abbrev GM_sbiA (l : Launch) (Z : State) (n0 : Nat) (Q : Option Value → Heap → Prop) (h : Heap) (cells slots pc : Nat) (Ls : Array Slot) (st : List Value) : Prop := Go l Z n0 R_sbiA "java/lang/AbstractStringBuilder" "<init>" jdk_68_method_2_code 2 none IN (FN n0 R_sbiA Q) h cells slots pc Ls st
abbrev GW_sbiA (l : Launch) (Z : State) (EL : List (String × Nat)) (s₀ : State) (n0 : Nat) (Q : Option Value → Heap → Prop) (lo : Nat) (Sf : List Addr) (h : Heap) (cells slots pc : Nat) (Ls : Array Slot) (st : List Value) : Prop := Go l Z n0 R_sbiA "java/lang/AbstractStringBuilder" "<init>" jdk_68_method_2_code 2 none (IW Z EL s₀ lo Sf) (FW Z EL s₀ n0 R_sbiA Q) h cells slots pc Ls st
theorem pf_sbiA : plainFor (⟨"java/lang/AbstractStringBuilder", "<init>", "(I)V"⟩ : MethodName) = true := plainFor_of_name (by first | (simp [plainName, overriddenIn]; done) | decide +kernel)
theorem ct_sbiA (l : Launch) (Z : State) (a0 : Array Value) (hw : ∀ d ∈ tables_1, d.before a0 Z = true) (n0 : Nat) (sb : Addr) (h0 : Heap) (hz : n0 ≤ h0.size) (O : Old Z n0 h0) (z : Int32) (S_cs : Sta Z Z.heap "java/lang/String" "COMPACT_STRINGS" "Z" (.int z)) (hcs : ¬ z = 0) (g_sb : n0 ≤ sb) (E_sb : Exa Z h0 sb "java/lang/StringBuilder") (F_sb_value : Fld Z h0 sb "java/lang/AbstractStringBuilder" "value" "[B" .null) (F_sb_coder : Fld Z h0 sb "java/lang/AbstractStringBuilder" "coder" "B" (.int (0 : Int32))) (F_sb_count : Fld Z h0 sb "java/lang/AbstractStringBuilder" "count" "I" (.int (0 : Int32))) :
    Ct l Z n0 "java/lang/AbstractStringBuilder" "<init>" "(I)V" [] jdk_68_method_2_code 2 none R_sbiA #[.ref sb, .int (16 : Int32)] h0 (fun v h => v = none ∧ Keep h0 h [sb] ∧ ∃ (va : Addr) (kv : ClassId), n0 ≤ va ∧ h0.size ≤ va ∧ Sbd Z h sb va kv []) := by
  refine Ct.of_go pf_sbiA (Ls := #[.val (.ref sb), .val (.int (16 : Int32))]) (fun m => by first | rfl | (simp [entryFrame, mkF, argsToLocals, Value.category]; done)) ?_
  show GM_sbiA l Z n0 (fun v h => v = none ∧ Keep h0 h [sb] ∧ ∃ (va : Addr) (kv : ClassId), n0 ≤ va ∧ h0.size ≤ va ∧ Sbd Z h sb va kv []) h0 0 0 0 #[.val (.ref sb), .val (.int (16 : Int32))] []
  have KK : Keep h0 h0 [sb] := Keep.refl _ _
  refine Go.aloadN d_sbiA_0 rfl rfl ?_
  refine Go.initO (wd_47 hw) (wd_20 hw) (wd_21 hw) d_sbiA_1 rfl (by decide) (Nat.le_of_ble_eq_true rfl) ?_
  refine Go.getS (wd_48 hw) Via.refl (S_cs.ext O.2) d_sbiA_4 ?_
  -- at pc 7: pc 7: ifCond .ifCond .eq 18 stack [(.int z)]
  -- not: z = (0 : Int32)
  refine Go.ifF d_sbiA_7 (feq (hcs)).1 ?_
  refine Go.aloadN d_sbiA_10 rfl rfl ?_
  refine Go.iloadN d_sbiA_11 rfl ?_
  -- at pc 12: pc 12: newarray .newarray .byte stack [(.int (16 : Int32)), (.ref sb)]
  refine Go.newP (I' := IN) (hI := nE) .byte (wd_23 hw) rfl d_sbiA_12 (by decide) 16 (by decide) (by decide) (by decide) (by decide) fun hp15 va k_va e_va X15 V_va => ?_
  have K15 : Keep h0 hp15 [] := (Keep.refl _ _).ext X15
  have g_va : n0 ≤ va := e_va ▸ hz
  have s_va : h0.size ≤ va := e_va ▸ KK.1
  have ne_sb_va : sb ≠ va := Nat.ne_of_lt (e_va ▸ E_sb.lt)
  replace O := O.keep K15 (all0)
  replace E_sb := E_sb.keep K15
  replace F_sb_value := F_sb_value.keep K15 nin0
  replace F_sb_coder := F_sb_coder.keep K15 nin0
  replace F_sb_count := F_sb_count.keep K15 nin0
  replace V_va : Arv Z hp15 va k_va .byte (16 : Int32) [(.int (0 : Int32)), (.int (0 : Int32)), (.int (0 : Int32)), (.int (0 : Int32)), (.int (0 : Int32)), (.int (0 : Int32)), (.int (0 : Int32)), (.int (0 : Int32)), (.int (0 : Int32)), (.int (0 : Int32)), (.int (0 : Int32)), (.int (0 : Int32)), (.int (0 : Int32)), (.int (0 : Int32)), (.int (0 : Int32)), (.int (0 : Int32))] (.int (0 : Int32)) := V_va.pad (pad_rep [] (.int (0 : Int32)) 16)
  replace hz : n0 ≤ hp15.size := Nat.le_trans hz K15.1
  replace KK : Keep h0 hp15 [sb] := KK.trans K15 (all0)
  refine Go.putF (I' := IN) (hI := nI) (wd_49 hw) Via.refl F_sb_value E_sb (Or.inl (wd_50 hw)) (wd_36 hw) (ty := (.array .byte)) (by decide) rfl rfl g_sb d_sbiA_14 fun hp16 W16 => ?_
  have K16 := Keep.of_wr W16
  replace F_sb_value := F_sb_value.same W16
  replace F_sb_coder := F_sb_coder.other W16 (Or.inr (slot_ne (Or.inl (wd_52 hw)) (Or.inl (wd_50 hw)) (by decide) (t := .byte) (t' := (.array .byte)) (by decide) (by decide)))
  replace F_sb_count := F_sb_count.other W16 (Or.inr (slot_ne (Or.inl (wd_80 hw)) (Or.inl (wd_50 hw)) (by decide) (t := .int) (t' := (.array .byte)) (by decide) (by decide)))
  replace O := O.keep K16 (allS g_sb (all0))
  replace E_sb := E_sb.keep K16
  replace V_va := V_va.keep K16 (ninS (Ne.symm ne_sb_va) nin0)
  replace hz : n0 ≤ hp16.size := Nat.le_trans hz K16.1
  replace KK : Keep h0 hp16 [sb] := KK.trans K16 (allS (Or.inl (by simp)) (all0))
  refine Go.aloadN d_sbiA_17 rfl rfl ?_
  refine Go.iconst 0 d_sbiA_18 rfl ?_
  refine Go.putFN (I' := IN) (hI := nI) (v' := (.int (0 : Int32))) (wd_51 hw) Via.refl F_sb_coder E_sb (Or.inl (wd_52 hw)) (wd_36 hw) (ty := .byte) (by decide) rfl rfl g_sb d_sbiA_19 fun hp17 W17 => ?_
  have K17 := Keep.of_wr W17
  replace F_sb_value := F_sb_value.other W17 (Or.inr (slot_ne (Or.inl (wd_50 hw)) (Or.inl (wd_52 hw)) (by decide) (t := (.array .byte)) (t' := .byte) (by decide) (by decide)))
  replace F_sb_coder := F_sb_coder.same W17
  replace F_sb_count := F_sb_count.other W17 (Or.inr (slot_ne (Or.inl (wd_80 hw)) (Or.inl (wd_52 hw)) (by decide) (t := .int) (t' := .byte) (by decide) (by decide)))
  replace O := O.keep K17 (allS g_sb (all0))
  replace E_sb := E_sb.keep K17
  replace V_va := V_va.keep K17 (ninS (Ne.symm ne_sb_va) nin0)
  replace hz : n0 ≤ hp17.size := Nat.le_trans hz K17.1
  replace KK : Keep h0 hp17 [sb] := KK.trans K17 (allS (Or.inl (by simp)) (all0))
  refine Go.goto 38 d_sbiA_22 (by decide) (by decide) ?_
  -- at pc 38: pc 38: return .return_ stack []
  exact Go.return_ d_sbiA_38 rfl (by decide) (by decide) ⟨rfl, KK, va, k_va, g_va, s_va, E_sb, F_sb_value, F_sb_coder, F_sb_count, V_va.pad (fun i => (pad_rep [] (.int (0 : Int32)) 16 i).symm)⟩
theorem d_sbi_0 : decode jdk_67_method_1_code 0 = .ok (.aload_n 0, 1) := by decide +kernel
theorem d_sbi_1 : decode jdk_67_method_1_code 1 = .ok (.bipush 16, 2) := by decide +kernel
theorem d_sbi_3 : decode jdk_67_method_1_code 3 = .ok (.invokespecial 1, 3) := by decide +kernel
theorem d_sbi_6 : decode jdk_67_method_1_code 6 = .ok (.return_, 1) := by decide +kernel
abbrev R_sbi : Room := ({ frames := 2, cells := 1, slots := 16, locals := 25 } : Room)
abbrev GM_sbi (l : Launch) (Z : State) (n0 : Nat) (Q : Option Value → Heap → Prop) (h : Heap) (cells slots pc : Nat) (Ls : Array Slot) (st : List Value) : Prop := Go l Z n0 R_sbi "java/lang/StringBuilder" "<init>" jdk_67_method_1_code 1 none IN (FN n0 R_sbi Q) h cells slots pc Ls st
abbrev GW_sbi (l : Launch) (Z : State) (EL : List (String × Nat)) (s₀ : State) (n0 : Nat) (Q : Option Value → Heap → Prop) (lo : Nat) (Sf : List Addr) (h : Heap) (cells slots pc : Nat) (Ls : Array Slot) (st : List Value) : Prop := Go l Z n0 R_sbi "java/lang/StringBuilder" "<init>" jdk_67_method_1_code 1 none (IW Z EL s₀ lo Sf) (FW Z EL s₀ n0 R_sbi Q) h cells slots pc Ls st
theorem pf_sbi : plainFor (⟨"java/lang/StringBuilder", "<init>", "()V"⟩ : MethodName) = true := plainFor_of_name (by first | (simp [plainName, overriddenIn]; done) | decide +kernel)
theorem ct_sbi (l : Launch) (Z : State) (a0 : Array Value) (hw : ∀ d ∈ tables_1, d.before a0 Z = true) (n0 : Nat) (sb : Addr) (h0 : Heap) (hz : n0 ≤ h0.size) (O : Old Z n0 h0) (z : Int32) (S_cs : Sta Z Z.heap "java/lang/String" "COMPACT_STRINGS" "Z" (.int z)) (hcs : ¬ z = 0) (g_sb : n0 ≤ sb) (E_sb : Exa Z h0 sb "java/lang/StringBuilder") (F_sb_value : Fld Z h0 sb "java/lang/AbstractStringBuilder" "value" "[B" .null) (F_sb_coder : Fld Z h0 sb "java/lang/AbstractStringBuilder" "coder" "B" (.int (0 : Int32))) (F_sb_count : Fld Z h0 sb "java/lang/AbstractStringBuilder" "count" "I" (.int (0 : Int32))) :
    Ct l Z n0 "java/lang/StringBuilder" "<init>" "()V" [] jdk_67_method_1_code 1 none R_sbi #[.ref sb] h0 (fun v h => v = none ∧ Keep h0 h [sb] ∧ ∃ (va : Addr) (kv : ClassId), n0 ≤ va ∧ h0.size ≤ va ∧ Sbd Z h sb va kv []) := by
  refine Ct.of_go pf_sbi (Ls := #[.val (.ref sb)]) (fun m => by first | rfl | (simp [entryFrame, mkF, argsToLocals, Value.category]; done)) ?_
  show GM_sbi l Z n0 (fun v h => v = none ∧ Keep h0 h [sb] ∧ ∃ (va : Addr) (kv : ClassId), n0 ≤ va ∧ h0.size ≤ va ∧ Sbd Z h sb va kv []) h0 0 0 0 #[.val (.ref sb)] []
  have KK : Keep h0 h0 [sb] := Keep.refl _ _
  refine Go.aloadN d_sbi_0 rfl rfl ?_
  refine Go.bipush 16 d_sbi_1 rfl ?_
  -- at pc 3: pc 3: invokespecial .invokespecial 1 stack [(.int (16 : Int32)), (.ref sb)]
  refine Go.callI (I' := IN) (hI := nQ) sb [(.int (16 : Int32))] [] (ct_sbiA l Z a0 hw n0 sb _ hz O z S_cs hcs g_sb E_sb F_sb_value F_sb_coder F_sb_count) (wd_41 hw) (wd_42 hw) (wd_45 hw) (wd_46 hw) (by decide) pd_5 rfl rfl rfl (Nat.le_of_ble_eq_true rfl) (Nat.le_of_ble_eq_true rfl) (Nat.le_of_ble_eq_true rfl) (Nat.le_of_ble_eq_true rfl) d_sbi_3 ?_
  rintro _ hp18 ⟨rfl, K18, va, kv, g_va, s_va, hS⟩
  replace E_sb := E_sb.keep K18
  replace KK : Keep h0 hp18 [sb] := KK.trans K18 (allS (Or.inl (by simp)) (all0))
  show GM_sbi l Z n0 (fun v h => v = none ∧ Keep h0 h [sb] ∧ ∃ (va : Addr) (kv : ClassId), n0 ≤ va ∧ h0.size ≤ va ∧ Sbd Z h sb va kv []) hp18 1 16 6 #[.val (.ref sb)] []
  -- at pc 6: pc 6: return .return_ stack []
  exact Go.return_ d_sbi_6 rfl (by decide) (by decide) ⟨rfl, KK, va, kv, g_va, s_va, hS⟩
theorem d_ecap_0 : decode jdk_68_method_9_code 0 = .ok (.aload_n 0, 1) := by decide +kernel
theorem d_ecap_1 : decode jdk_68_method_9_code 1 = .ok (.getfield 15, 3) := by decide +kernel
theorem d_ecap_4 : decode jdk_68_method_9_code 4 = .ok (.arraylength, 1) := by decide +kernel
theorem d_ecap_5 : decode jdk_68_method_9_code 5 = .ok (.aload_n 0, 1) := by decide +kernel
theorem d_ecap_6 : decode jdk_68_method_9_code 6 = .ok (.getfield 22, 3) := by decide +kernel
theorem d_ecap_9 : decode jdk_68_method_9_code 9 = .ok (.ishr, 1) := by decide +kernel
theorem d_ecap_10 : decode jdk_68_method_9_code 10 = .ok (.istore_n 2, 1) := by decide +kernel
theorem d_ecap_11 : decode jdk_68_method_9_code 11 = .ok (.iload_n 1, 1) := by decide +kernel
theorem d_ecap_12 : decode jdk_68_method_9_code 12 = .ok (.iload_n 2, 1) := by decide +kernel
theorem d_ecap_13 : decode jdk_68_method_9_code 13 = .ok (.isub, 1) := by decide +kernel
theorem d_ecap_14 : decode jdk_68_method_9_code 14 = .ok (.ifCond .le 24, 3) := by decide +kernel
theorem d_ecap_38 : decode jdk_68_method_9_code 38 = .ok (.return_, 1) := by decide +kernel
abbrev R_ecap : Room := ({ frames := 0, cells := 0, slots := 0, locals := 0 } : Room)
abbrev GM_ecap (l : Launch) (Z : State) (n0 : Nat) (Q : Option Value → Heap → Prop) (h : Heap) (cells slots pc : Nat) (Ls : Array Slot) (st : List Value) : Prop := Go l Z n0 R_ecap "java/lang/AbstractStringBuilder" "ensureCapacityInternal" jdk_68_method_9_code 3 none IN (FN n0 R_ecap Q) h cells slots pc Ls st
abbrev GW_ecap (l : Launch) (Z : State) (EL : List (String × Nat)) (s₀ : State) (n0 : Nat) (Q : Option Value → Heap → Prop) (lo : Nat) (Sf : List Addr) (h : Heap) (cells slots pc : Nat) (Ls : Array Slot) (st : List Value) : Prop := Go l Z n0 R_ecap "java/lang/AbstractStringBuilder" "ensureCapacityInternal" jdk_68_method_9_code 3 none (IW Z EL s₀ lo Sf) (FW Z EL s₀ n0 R_ecap Q) h cells slots pc Ls st
theorem pf_ecap : plainFor (⟨"java/lang/AbstractStringBuilder", "ensureCapacityInternal", "(I)V"⟩ : MethodName) = true := plainFor_of_name (by first | (simp [plainName, overriddenIn]; done) | decide +kernel)
theorem ct_ecap (l : Launch) (Z : State) (a0 : Array Value) (hw : ∀ d ∈ tables_1, d.before a0 Z = true) (n0 : Nat) (sb va : Addr) (kv : ClassId) (cs : List Int32) (m : Int32) (h0 : Heap) (B : Sbd Z h0 sb va kv cs) (hm : ¬ (0 : Int32) < m - ((16 : Int32) >>> ((0 : Int32) &&& 31))) : Ct l Z n0 "java/lang/AbstractStringBuilder" "ensureCapacityInternal" "(I)V" [] jdk_68_method_9_code 3 none R_ecap #[.ref sb, .int m] h0 (fun v h => v = none ∧ h0 = h) := by
  obtain ⟨E_sb, F_sb_value, F_sb_coder, F_sb_count, V_va⟩ := B
  refine Ct.of_go pf_ecap (Ls := #[.val (.ref sb), .val (.int m), .unset]) (fun m => by first | rfl | (simp [entryFrame, mkF, argsToLocals, Value.category]; done)) ?_
  show GM_ecap l Z n0 (fun v h => v = none ∧ h0 = h) h0 0 0 0 #[.val (.ref sb), .val (.int m), .unset] []
  refine Go.aloadN d_ecap_0 rfl rfl ?_
  refine Go.getF (wd_49 hw) Via.refl F_sb_value d_ecap_1 ?_
  refine Go.arraylength V_va d_ecap_4 ?_
  refine Go.aloadN d_ecap_5 rfl rfl ?_
  refine Go.getF (wd_51 hw) Via.refl F_sb_coder d_ecap_6 ?_
  refine Go.ishr d_ecap_9 ?_
  refine Go.istoreN (Ls' := #[.val (.ref sb), .val (.int m), .val (.int ((16 : Int32) >>> ((0 : Int32) &&& 31)))]) d_ecap_10 rfl ?_
  refine Go.iloadN d_ecap_11 rfl ?_
  refine Go.iloadN d_ecap_12 rfl ?_
  refine Go.isub d_ecap_13 ?_
  -- at pc 14: pc 14: ifCond .ifCond .le 24 stack [(.int (m - ((16 : Int32) >>> ((0 : Int32) &&& 31))))]
  -- not: (0 : Int32) < (m - ((16 : Int32) >>> ((0 : Int32) &&& 31)))
  refine Go.ifT 38 d_ecap_14 (flt (hm)).2.2.2 (by decide) (by decide) ?_
  -- at pc 38: pc 38: return .return_ stack []
  exact Go.return_ d_ecap_38 rfl (by decide) (by decide) ⟨rfl, rfl⟩
theorem d_infl_0 : decode jdk_68_method_71_code 0 = .ok (.getstatic 18, 3) := by decide +kernel
theorem d_infl_3 : decode jdk_68_method_71_code 3 = .ok (.ifCond .eq 18, 3) := by decide +kernel
theorem d_infl_6 : decode jdk_68_method_71_code 6 = .ok (.aload_n 0, 1) := by decide +kernel
theorem d_infl_7 : decode jdk_68_method_71_code 7 = .ok (.getfield 22, 3) := by decide +kernel
theorem d_infl_10 : decode jdk_68_method_71_code 10 = .ok (.aload_n 1, 1) := by decide +kernel
theorem d_infl_11 : decode jdk_68_method_71_code 11 = .ok (.invokevirtual 40, 3) := by decide +kernel
theorem d_infl_14 : decode jdk_68_method_71_code 14 = .ok (.if_icmp .eq 7, 3) := by decide +kernel
theorem d_infl_21 : decode jdk_68_method_71_code 21 = .ok (.return_, 1) := by decide +kernel
abbrev R_infl : Room := ({ frames := 1, cells := 0, slots := 0, locals := 13 } : Room)
abbrev GM_infl (l : Launch) (Z : State) (n0 : Nat) (Q : Option Value → Heap → Prop) (h : Heap) (cells slots pc : Nat) (Ls : Array Slot) (st : List Value) : Prop := Go l Z n0 R_infl "java/lang/AbstractStringBuilder" "inflateIfNeededFor" jdk_68_method_71_code 2 none IN (FN n0 R_infl Q) h cells slots pc Ls st
abbrev GW_infl (l : Launch) (Z : State) (EL : List (String × Nat)) (s₀ : State) (n0 : Nat) (Q : Option Value → Heap → Prop) (lo : Nat) (Sf : List Addr) (h : Heap) (cells slots pc : Nat) (Ls : Array Slot) (st : List Value) : Prop := Go l Z n0 R_infl "java/lang/AbstractStringBuilder" "inflateIfNeededFor" jdk_68_method_71_code 2 none (IW Z EL s₀ lo Sf) (FW Z EL s₀ n0 R_infl Q) h cells slots pc Ls st
theorem pf_infl : plainFor (⟨"java/lang/AbstractStringBuilder", "inflateIfNeededFor", "(Ljava/lang/String;)V"⟩ : MethodName) = true := plainFor_of_name (by first | (simp [plainName, overriddenIn]; done) | decide +kernel)
theorem ct_infl (l : Launch) (Z : State) (a0 : Array Value) (hw : ∀ d ∈ tables_1, d.before a0 Z = true) (n0 : Nat) (sb va x t : Addr) (kv kt : ClassId) (cs bs : List Int32) (h0 : Heap) (O : Old Z n0 h0) (z : Int32) (S_cs : Sta Z Z.heap "java/lang/String" "COMPACT_STRINGS" "Z" (.int z)) (hcs : ¬ z = 0) (S : Sbd Z h0 sb va kv cs) (B : Byt Z h0 x t kt bs) : Ct l Z n0 "java/lang/AbstractStringBuilder" "inflateIfNeededFor" "(Ljava/lang/String;)V" [] jdk_68_method_71_code 2 none R_infl #[.ref sb, .ref x] h0 (fun v h => v = none ∧ h0 = h) := by
  obtain ⟨E_x, F_x_coder, F_x_value, V_t⟩ := B
  have F_sb_coder := S.2.2.1
  refine Ct.of_go pf_infl (Ls := #[.val (.ref sb), .val (.ref x)]) (fun m => by first | rfl | (simp [entryFrame, mkF, argsToLocals, Value.category]; done)) ?_
  show GM_infl l Z n0 (fun v h => v = none ∧ h0 = h) h0 0 0 0 #[.val (.ref sb), .val (.ref x)] []
  refine Go.getS (wd_48 hw) Via.refl (S_cs.ext O.2) d_infl_0 ?_
  -- at pc 3: pc 3: ifCond .ifCond .eq 18 stack [(.int z)]
  -- not: z = (0 : Int32)
  refine Go.ifF d_infl_3 (feq (hcs)).1 ?_
  refine Go.aloadN d_infl_6 rfl rfl ?_
  refine Go.getF (wd_51 hw) Via.refl F_sb_coder d_infl_7 ?_
  refine Go.aloadN d_infl_10 rfl rfl ?_
  -- at pc 11: pc 11: invokevirtual .invokevirtual 40 stack [(.ref x), (.int (0 : Int32))]
  refine Go.callV (I' := IN) (hI := nQ) x [] [(.int (0 : Int32))] (ct_scoder l Z a0 hw n0 x _ O z S_cs hcs F_x_coder) E_x (wd_154 hw) (wd_107 hw) (nf_sel (wd_109 hw)) (wd_109 hw) (wd_108 hw) (wd_10 hw) (wd_110 hw) (by decide) pd_4 rfl rfl rfl (Nat.le_of_ble_eq_true rfl) (Nat.le_of_ble_eq_true rfl) (Nat.le_of_ble_eq_true rfl) (Nat.le_of_ble_eq_true rfl) d_infl_11 ?_
  rintro _ _ ⟨rfl, rfl⟩
  show GM_infl l Z n0 (fun v h => v = none ∧ h0 = h) h0 0 0 14 #[.val (.ref sb), .val (.ref x)] [(.int (0 : Int32)), (.int (0 : Int32))]
  -- (0 : Int32) = (0 : Int32)
  refine Go.icT 21 d_infl_14 (teq (rfl)).1 (by decide) (by decide) ?_
  -- at pc 21: pc 21: return .return_ stack []
  exact Go.return_ d_infl_21 rfl (by decide) (by decide) ⟨rfl, rfl⟩
theorem d_getb_0 : decode jdk_42_method_147_code 0 = .ok (.aload_n 0, 1) := by decide +kernel
theorem d_getb_1 : decode jdk_42_method_147_code 1 = .ok (.invokevirtual 335, 3) := by decide +kernel
theorem d_getb_4 : decode jdk_42_method_147_code 4 = .ok (.iload_n 3, 1) := by decide +kernel
theorem d_getb_5 : decode jdk_42_method_147_code 5 = .ok (.if_icmp .ne 23, 3) := by decide +kernel
theorem d_getb_8 : decode jdk_42_method_147_code 8 = .ok (.aload_n 0, 1) := by decide +kernel
theorem d_getb_9 : decode jdk_42_method_147_code 9 = .ok (.getfield 9, 3) := by decide +kernel
theorem d_getb_12 : decode jdk_42_method_147_code 12 = .ok (.iconst 0, 1) := by decide +kernel
theorem d_getb_13 : decode jdk_42_method_147_code 13 = .ok (.aload_n 1, 1) := by decide +kernel
theorem d_getb_14 : decode jdk_42_method_147_code 14 = .ok (.iload_n 2, 1) := by decide +kernel
theorem d_getb_15 : decode jdk_42_method_147_code 15 = .ok (.iload_n 3, 1) := by decide +kernel
theorem d_getb_16 : decode jdk_42_method_147_code 16 = .ok (.ishl, 1) := by decide +kernel
theorem d_getb_17 : decode jdk_42_method_147_code 17 = .ok (.aload_n 0, 1) := by decide +kernel
theorem d_getb_18 : decode jdk_42_method_147_code 18 = .ok (.getfield 9, 3) := by decide +kernel
theorem d_getb_21 : decode jdk_42_method_147_code 21 = .ok (.arraylength, 1) := by decide +kernel
theorem d_getb_22 : decode jdk_42_method_147_code 22 = .ok (.invokestatic 212, 3) := by decide +kernel
theorem d_getb_25 : decode jdk_42_method_147_code 25 = .ok (.goto 18, 3) := by decide +kernel
theorem d_getb_43 : decode jdk_42_method_147_code 43 = .ok (.return_, 1) := by decide +kernel
abbrev R_getb : Room := ({ frames := 1, cells := 0, slots := 0, locals := 30 } : Room)
abbrev GM_getb (l : Launch) (Z : State) (n0 : Nat) (Q : Option Value → Heap → Prop) (h : Heap) (cells slots pc : Nat) (Ls : Array Slot) (st : List Value) : Prop := Go l Z n0 R_getb "java/lang/String" "getBytes" jdk_42_method_147_code 4 none IN (FN n0 R_getb Q) h cells slots pc Ls st
abbrev GW_getb (l : Launch) (Z : State) (EL : List (String × Nat)) (s₀ : State) (n0 : Nat) (Q : Option Value → Heap → Prop) (lo : Nat) (Sf : List Addr) (h : Heap) (cells slots pc : Nat) (Ls : Array Slot) (st : List Value) : Prop := Go l Z n0 R_getb "java/lang/String" "getBytes" jdk_42_method_147_code 4 none (IW Z EL s₀ lo Sf) (FW Z EL s₀ n0 R_getb Q) h cells slots pc Ls st
theorem pf_getb : plainFor (⟨"java/lang/String", "getBytes", "([BIB)V"⟩ : MethodName) = true := plainFor_of_name (by first | (simp [plainName, overriddenIn]; done) | decide +kernel)
theorem ct_getb (l : Launch) (Z : State) (a0 : Array Value) (hw : ∀ d ∈ tables_1, d.before a0 Z = true) (n0 : Nat) (va x t : Addr) (kv kt : ClassId) (cs bs : List Int32) (h0 : Heap) (O : Old Z n0 h0) (z : Int32) (S_cs : Sta Z Z.heap "java/lang/String" "COMPACT_STRINGS" "Z" (.int z)) (hcs : ¬ z = 0) (g_va : n0 ≤ va) (V_va : Arv Z h0 va kv .byte (16 : Int32) (cs.map Value.int) (.int (0 : Int32))) (B : Byt Z h0 x t kt bs) (hl : cs.length + bs.length ≤ 16) :
    Ct l Z n0 "java/lang/String" "getBytes" "([BIB)V" [] jdk_42_method_147_code 4 none R_getb #[.ref x, .ref va, .int (Int32.ofNat cs.length), .int (0 : Int32)] h0 (fun v h => v = none ∧ Keep h0 h [va] ∧ Arv Z h va kv .byte (16 : Int32) ((cs ++ bs).map Value.int) (.int (0 : Int32))) := by
  obtain ⟨E_x, F_x_coder, F_x_value, V_t⟩ := B
  refine Ct.of_go pf_getb (Ls := #[.val (.ref x), .val (.ref va), .val (.int (Int32.ofNat cs.length)), .val (.int (0 : Int32))]) (fun m => by first | rfl | (simp [entryFrame, mkF, argsToLocals, Value.category]; done)) ?_
  show GM_getb l Z n0 (fun v h => v = none ∧ Keep h0 h [va] ∧ Arv Z h va kv .byte (16 : Int32) ((cs ++ bs).map Value.int) (.int (0 : Int32))) h0 0 0 0 #[.val (.ref x), .val (.ref va), .val (.int (Int32.ofNat cs.length)), .val (.int (0 : Int32))] []
  refine Go.aloadN d_getb_0 rfl rfl ?_
  -- at pc 1: pc 1: invokevirtual .invokevirtual 335 stack [(.ref x)]
  refine Go.callV (I' := IN) (hI := nQ) x [] [] (ct_scoder l Z a0 hw n0 x _ O z S_cs hcs F_x_coder) E_x (wd_106 hw) (wd_107 hw) (nf_sel (wd_109 hw)) (wd_109 hw) (wd_108 hw) (wd_10 hw) (wd_110 hw) (by decide) pd_4 rfl rfl rfl (Nat.le_of_ble_eq_true rfl) (Nat.le_of_ble_eq_true rfl) (Nat.le_of_ble_eq_true rfl) (Nat.le_of_ble_eq_true rfl) d_getb_1 ?_
  rintro _ _ ⟨rfl, rfl⟩
  show GM_getb l Z n0 (fun v h => v = none ∧ Keep h0 h [va] ∧ Arv Z h va kv .byte (16 : Int32) ((cs ++ bs).map Value.int) (.int (0 : Int32))) h0 0 0 4 #[.val (.ref x), .val (.ref va), .val (.int (Int32.ofNat cs.length)), .val (.int (0 : Int32))] [(.int (0 : Int32))]
  refine Go.iloadN d_getb_4 rfl ?_
  -- at pc 5: pc 5: if_icmp .if_icmp .ne 23 stack [(.int (0 : Int32)), (.int (0 : Int32))]
  -- (0 : Int32) = (0 : Int32)
  refine Go.icF d_getb_5 (teq (rfl)).2 ?_
  refine Go.aloadN d_getb_8 rfl rfl ?_
  refine Go.getF (wd_28 hw) Via.refl F_x_value d_getb_9 ?_
  refine Go.iconst 0 d_getb_12 rfl ?_
  refine Go.aloadN d_getb_13 rfl rfl ?_
  refine Go.iloadN d_getb_14 rfl ?_
  refine Go.iloadN d_getb_15 rfl ?_
  refine Go.ishl d_getb_16 ?_
  rw [show ((Int32.ofNat cs.length) <<< ((0 : Int32) &&& 31)) = (Int32.ofNat cs.length) from (own_shl0 _)]
  refine Go.aloadN d_getb_17 rfl rfl ?_
  refine Go.getF (wd_28 hw) Via.refl F_x_value d_getb_18 ?_
  refine Go.arraylength V_t d_getb_21 ?_
  refine Go.copyB (I' := IN) (hI := nI) (bs.map Value.int) V_t (V_va.pad (pad_rep _ _ (16 - cs.length))) rfl (wd_160 hw) (wd_100 hw) (wd_98 hw) (wd_99 hw) (by decide) (own_nneg (by omega)) (own_nneg (by omega)) (by rw [own_clamp (by omega)]; show 0 + bs.length ≤ bs.length; omega) (by rw [own_clamp (by omega), own_clamp (by omega)]; show cs.length + bs.length ≤ 16; omega) (by rw [own_clamp (by omega)]; exact own_range (by simp)) (by rw [own_clamp (by omega), own_clamp (by omega)]; simp; omega) g_va d_getb_22 rfl (by decide) (by decide) fun h1 K1 V1 => ?_
  replace V1 := own_put hl V1
  show GM_getb l Z n0 (fun v h => v = none ∧ Keep h0 h [va] ∧ Arv Z h va kv .byte (16 : Int32) ((cs ++ bs).map Value.int) (.int (0 : Int32))) h1 0 0 25 #[.val (.ref x), .val (.ref va), .val (.int (Int32.ofNat cs.length)), .val (.int (0 : Int32))] []
  refine Go.goto 43 d_getb_25 (by decide) (by decide) ?_
  -- at pc 43: pc 43: return .return_ stack []
  exact Go.return_ d_getb_43 rfl (by decide) (by decide) ⟨rfl, K1, V1⟩
theorem d_puts_0 : decode jdk_68_method_73_code 0 = .ok (.aload_n 0, 1) := by decide +kernel
theorem d_puts_1 : decode jdk_68_method_73_code 1 = .ok (.aload_n 2, 1) := by decide +kernel
theorem d_puts_2 : decode jdk_68_method_73_code 2 = .ok (.invokevirtual 397, 3) := by decide +kernel
theorem d_puts_5 : decode jdk_68_method_73_code 5 = .ok (.aload_n 2, 1) := by decide +kernel
theorem d_puts_6 : decode jdk_68_method_73_code 6 = .ok (.aload_n 0, 1) := by decide +kernel
theorem d_puts_7 : decode jdk_68_method_73_code 7 = .ok (.getfield 15, 3) := by decide +kernel
theorem d_puts_10 : decode jdk_68_method_73_code 10 = .ok (.iload_n 1, 1) := by decide +kernel
theorem d_puts_11 : decode jdk_68_method_73_code 11 = .ok (.aload_n 0, 1) := by decide +kernel
theorem d_puts_12 : decode jdk_68_method_73_code 12 = .ok (.getfield 22, 3) := by decide +kernel
theorem d_puts_15 : decode jdk_68_method_73_code 15 = .ok (.invokevirtual 399, 3) := by decide +kernel
theorem d_puts_18 : decode jdk_68_method_73_code 18 = .ok (.return_, 1) := by decide +kernel
abbrev R_puts : Room := ({ frames := 2, cells := 0, slots := 0, locals := 45 } : Room)
abbrev GM_puts (l : Launch) (Z : State) (n0 : Nat) (Q : Option Value → Heap → Prop) (h : Heap) (cells slots pc : Nat) (Ls : Array Slot) (st : List Value) : Prop := Go l Z n0 R_puts "java/lang/AbstractStringBuilder" "putStringAt" jdk_68_method_73_code 3 none IN (FN n0 R_puts Q) h cells slots pc Ls st
abbrev GW_puts (l : Launch) (Z : State) (EL : List (String × Nat)) (s₀ : State) (n0 : Nat) (Q : Option Value → Heap → Prop) (lo : Nat) (Sf : List Addr) (h : Heap) (cells slots pc : Nat) (Ls : Array Slot) (st : List Value) : Prop := Go l Z n0 R_puts "java/lang/AbstractStringBuilder" "putStringAt" jdk_68_method_73_code 3 none (IW Z EL s₀ lo Sf) (FW Z EL s₀ n0 R_puts Q) h cells slots pc Ls st
theorem pf_puts : plainFor (⟨"java/lang/AbstractStringBuilder", "putStringAt", "(ILjava/lang/String;)V"⟩ : MethodName) = true := plainFor_of_name (by first | (simp [plainName, overriddenIn]; done) | decide +kernel)
theorem ct_puts (l : Launch) (Z : State) (a0 : Array Value) (hw : ∀ d ∈ tables_1, d.before a0 Z = true) (n0 : Nat) (sb va x t : Addr) (kv kt : ClassId) (cs bs : List Int32) (h0 : Heap) (O : Old Z n0 h0) (z : Int32) (S_cs : Sta Z Z.heap "java/lang/String" "COMPACT_STRINGS" "Z" (.int z)) (hcs : ¬ z = 0) (g_va : n0 ≤ va) (S : Sbd Z h0 sb va kv cs) (B : Byt Z h0 x t kt bs) (hl : cs.length + bs.length ≤ 16) :
    Ct l Z n0 "java/lang/AbstractStringBuilder" "putStringAt" "(ILjava/lang/String;)V" [] jdk_68_method_73_code 3 none R_puts #[.ref sb, .int (Int32.ofNat cs.length), .ref x] h0 (fun v h => v = none ∧ Keep h0 h [va] ∧ Arv Z h va kv .byte (16 : Int32) ((cs ++ bs).map Value.int) (.int (0 : Int32))) := by
  have E_x := B.1
  have S0 := S
  obtain ⟨E_sb, F_sb_value, F_sb_coder, F_sb_count, V_va⟩ := S
  refine Ct.of_go pf_puts (Ls := #[.val (.ref sb), .val (.int (Int32.ofNat cs.length)), .val (.ref x)]) (fun m => by first | rfl | (simp [entryFrame, mkF, argsToLocals, Value.category]; done)) ?_
  show GM_puts l Z n0 (fun v h => v = none ∧ Keep h0 h [va] ∧ Arv Z h va kv .byte (16 : Int32) ((cs ++ bs).map Value.int) (.int (0 : Int32))) h0 0 0 0 #[.val (.ref sb), .val (.int (Int32.ofNat cs.length)), .val (.ref x)] []
  refine Go.aloadN d_puts_0 rfl rfl ?_
  refine Go.aloadN d_puts_1 rfl rfl ?_
  -- at pc 2: pc 2: invokevirtual .invokevirtual 397 stack [(.ref x), (.ref sb)]
  refine Go.callP (I' := IN) (hI := nQ) sb [(.ref x)] [] (ct_infl l Z a0 hw n0 sb va x t kv kt cs bs _ O z S_cs hcs S0 B) E_sb (wd_149 hw) (wd_150 hw) (sel_priv2 (y := (⟨"java/lang/AbstractStringBuilder", "inflateIfNeededFor", "(Ljava/lang/String;)V"⟩ : MethodName)) (show Ord Z "java/lang/AbstractStringBuilder" from Ord.sel (wd_68 hw)) (wd_150 hw) (wd_151 hw) (by decide)) (wd_151 hw) (wd_45 hw) (wd_153 hw) (by decide) pd_6 rfl rfl rfl (Nat.le_of_ble_eq_true rfl) (Nat.le_of_ble_eq_true rfl) (Nat.le_of_ble_eq_true rfl) (Nat.le_of_ble_eq_true rfl) d_puts_2 ?_
  rintro _ _ ⟨rfl, rfl⟩
  show GM_puts l Z n0 (fun v h => v = none ∧ Keep h0 h [va] ∧ Arv Z h va kv .byte (16 : Int32) ((cs ++ bs).map Value.int) (.int (0 : Int32))) h0 0 0 5 #[.val (.ref sb), .val (.int (Int32.ofNat cs.length)), .val (.ref x)] []
  refine Go.aloadN d_puts_5 rfl rfl ?_
  refine Go.aloadN d_puts_6 rfl rfl ?_
  refine Go.getF (wd_49 hw) Via.refl F_sb_value d_puts_7 ?_
  refine Go.iloadN d_puts_10 rfl ?_
  refine Go.aloadN d_puts_11 rfl rfl ?_
  refine Go.getF (wd_51 hw) Via.refl F_sb_coder d_puts_12 ?_
  -- at pc 15: pc 15: invokevirtual .invokevirtual 399 stack [(.int (0 : Int32)), (.int (Int32.ofNat cs.length)), (.ref va), (.ref x)]
  refine Go.callV (I' := IN) (hI := nQ) x [(.ref va), (.int (Int32.ofNat cs.length)), (.int (0 : Int32))] [] (ct_getb l Z a0 hw n0 va x t kv kt cs bs _ O z S_cs hcs g_va V_va B hl) E_x (wd_155 hw) (wd_156 hw) (nf_sel (wd_158 hw)) (wd_158 hw) (wd_157 hw) (wd_10 hw) (wd_159 hw) (by decide) pd_7 rfl rfl rfl (Nat.le_of_ble_eq_true rfl) (Nat.le_of_ble_eq_true rfl) (Nat.le_of_ble_eq_true rfl) (Nat.le_of_ble_eq_true rfl) d_puts_15 ?_
  rintro _ hp22 ⟨rfl, K1, V1⟩
  show GM_puts l Z n0 (fun v h => v = none ∧ Keep h0 h [va] ∧ Arv Z h va kv .byte (16 : Int32) ((cs ++ bs).map Value.int) (.int (0 : Int32))) hp22 0 0 18 #[.val (.ref sb), .val (.int (Int32.ofNat cs.length)), .val (.ref x)] []
  -- at pc 18: pc 18: return .return_ stack []
  exact Go.return_ d_puts_18 rfl (by decide) (by decide) ⟨rfl, K1, V1⟩
theorem d_apA_0 : decode jdk_68_method_22_code 0 = .ok (.aload_n 1, 1) := by decide +kernel
theorem d_apA_1 : decode jdk_68_method_22_code 1 = .ok (.ifnonnull 8, 3) := by decide +kernel
theorem d_apA_9 : decode jdk_68_method_22_code 9 = .ok (.aload_n 1, 1) := by decide +kernel
theorem d_apA_10 : decode jdk_68_method_22_code 10 = .ok (.invokevirtual 32, 3) := by decide +kernel
theorem d_apA_13 : decode jdk_68_method_22_code 13 = .ok (.istore_n 2, 1) := by decide +kernel
theorem d_apA_14 : decode jdk_68_method_22_code 14 = .ok (.aload_n 0, 1) := by decide +kernel
theorem d_apA_15 : decode jdk_68_method_22_code 15 = .ok (.aload_n 0, 1) := by decide +kernel
theorem d_apA_16 : decode jdk_68_method_22_code 16 = .ok (.getfield 79, 3) := by decide +kernel
theorem d_apA_19 : decode jdk_68_method_22_code 19 = .ok (.iload_n 2, 1) := by decide +kernel
theorem d_apA_20 : decode jdk_68_method_22_code 20 = .ok (.iadd, 1) := by decide +kernel
theorem d_apA_21 : decode jdk_68_method_22_code 21 = .ok (.invokevirtual 100, 3) := by decide +kernel
theorem d_apA_24 : decode jdk_68_method_22_code 24 = .ok (.aload_n 0, 1) := by decide +kernel
theorem d_apA_25 : decode jdk_68_method_22_code 25 = .ok (.aload_n 0, 1) := by decide +kernel
theorem d_apA_26 : decode jdk_68_method_22_code 26 = .ok (.getfield 79, 3) := by decide +kernel
theorem d_apA_29 : decode jdk_68_method_22_code 29 = .ok (.aload_n 1, 1) := by decide +kernel
theorem d_apA_30 : decode jdk_68_method_22_code 30 = .ok (.invokevirtual 208, 3) := by decide +kernel
theorem d_apA_33 : decode jdk_68_method_22_code 33 = .ok (.aload_n 0, 1) := by decide +kernel
theorem d_apA_34 : decode jdk_68_method_22_code 34 = .ok (.dup, 1) := by decide +kernel
theorem d_apA_35 : decode jdk_68_method_22_code 35 = .ok (.getfield 79, 3) := by decide +kernel
theorem d_apA_38 : decode jdk_68_method_22_code 38 = .ok (.iload_n 2, 1) := by decide +kernel
theorem d_apA_39 : decode jdk_68_method_22_code 39 = .ok (.iadd, 1) := by decide +kernel
theorem d_apA_40 : decode jdk_68_method_22_code 40 = .ok (.putfield 79, 3) := by decide +kernel
theorem d_apA_43 : decode jdk_68_method_22_code 43 = .ok (.aload_n 0, 1) := by decide +kernel
theorem d_apA_44 : decode jdk_68_method_22_code 44 = .ok (.areturn, 1) := by decide +kernel
abbrev R_apA : Room := ({ frames := 3, cells := 0, slots := 0, locals := 60 } : Room)
abbrev GM_apA (l : Launch) (Z : State) (n0 : Nat) (Q : Option Value → Heap → Prop) (h : Heap) (cells slots pc : Nat) (Ls : Array Slot) (st : List Value) : Prop := Go l Z n0 R_apA "java/lang/AbstractStringBuilder" "append" jdk_68_method_22_code 3 (some (.object "java/lang/AbstractStringBuilder")) IN (FN n0 R_apA Q) h cells slots pc Ls st
abbrev GW_apA (l : Launch) (Z : State) (EL : List (String × Nat)) (s₀ : State) (n0 : Nat) (Q : Option Value → Heap → Prop) (lo : Nat) (Sf : List Addr) (h : Heap) (cells slots pc : Nat) (Ls : Array Slot) (st : List Value) : Prop := Go l Z n0 R_apA "java/lang/AbstractStringBuilder" "append" jdk_68_method_22_code 3 (some (.object "java/lang/AbstractStringBuilder")) (IW Z EL s₀ lo Sf) (FW Z EL s₀ n0 R_apA Q) h cells slots pc Ls st
theorem pf_apA : plainFor (⟨"java/lang/AbstractStringBuilder", "append", "(Ljava/lang/String;)Ljava/lang/AbstractStringBuilder;"⟩ : MethodName) = true := plainFor_of_name (by first | (simp [plainName, overriddenIn]; done) | decide +kernel)
theorem ct_apA (l : Launch) (Z : State) (a0 : Array Value) (hw : ∀ d ∈ tables_1, d.before a0 Z = true) (n0 : Nat) (sb va x t : Addr) (kv kt : ClassId) (cs bs : List Int32) (h0 : Heap) (O : Old Z n0 h0) (z : Int32) (S_cs : Sta Z Z.heap "java/lang/String" "COMPACT_STRINGS" "Z" (.int z)) (hcs : ¬ z = 0) (g_sb : n0 ≤ sb) (g_va : n0 ≤ va) (nsv : sb ≠ va) (S : Sbd Z h0 sb va kv cs) (B : Byt Z h0 x t kt bs) (hl : cs.length + bs.length ≤ 16) :
    Ct l Z n0 "java/lang/AbstractStringBuilder" "append" "(Ljava/lang/String;)Ljava/lang/AbstractStringBuilder;" [] jdk_68_method_22_code 3 (some (.object "java/lang/AbstractStringBuilder")) R_apA #[.ref sb, .ref x] h0 (fun v h => v = some (.ref sb) ∧ Keep h0 h [sb, va] ∧ Sbd Z h sb va kv (cs ++ bs)) := by
  have E_x := B.1
  have S0 := S
  obtain ⟨E_sb, F_sb_value, F_sb_coder, F_sb_count, V_va⟩ := S
  refine Ct.of_go pf_apA (Ls := #[.val (.ref sb), .val (.ref x), .unset]) (fun m => by first | rfl | (simp [entryFrame, mkF, argsToLocals, Value.category]; done)) ?_
  show GM_apA l Z n0 (fun v h => v = some (.ref sb) ∧ Keep h0 h [sb, va] ∧ Sbd Z h sb va kv (cs ++ bs)) h0 0 0 0 #[.val (.ref sb), .val (.ref x), .unset] []
  have KK : Keep h0 h0 [sb, va] := Keep.refl _ _
  refine Go.aloadN d_apA_0 rfl rfl ?_
  refine Go.nnT 9 d_apA_1 (by decide) (by decide) ?_
  refine Go.aloadN d_apA_9 rfl rfl ?_
  -- at pc 10: pc 10: invokevirtual .invokevirtual 32 stack [(.ref x)]
  refine Go.callV (I' := IN) (hI := nQ) x [] [] (ct_slen l Z a0 hw n0 x t kt bs _ O z S_cs hcs B) E_x (wd_143 hw) (wd_102 hw) (nf_sel (wd_104 hw)) (wd_104 hw) (wd_103 hw) (wd_10 hw) (wd_105 hw) (by decide) pd_8 rfl rfl rfl (Nat.le_of_ble_eq_true rfl) (Nat.le_of_ble_eq_true rfl) (Nat.le_of_ble_eq_true rfl) (Nat.le_of_ble_eq_true rfl) d_apA_10 ?_
  rintro _ _ ⟨rfl, rfl⟩
  show GM_apA l Z n0 (fun v h => v = some (.ref sb) ∧ Keep h0 h [sb, va] ∧ Sbd Z h sb va kv (cs ++ bs)) h0 0 0 13 #[.val (.ref sb), .val (.ref x), .unset] [(.int (Int32.ofNat bs.length))]
  refine Go.istoreN (Ls' := #[.val (.ref sb), .val (.ref x), .val (.int (Int32.ofNat bs.length))]) d_apA_13 rfl ?_
  refine Go.aloadN d_apA_14 rfl rfl ?_
  refine Go.aloadN d_apA_15 rfl rfl ?_
  refine Go.getF (wd_79 hw) Via.refl F_sb_count d_apA_16 ?_
  refine Go.iloadN d_apA_19 rfl ?_
  refine Go.iadd d_apA_20 ?_
  -- at pc 21: pc 21: invokevirtual .invokevirtual 100 stack [(.int ((Int32.ofNat cs.length) + (Int32.ofNat bs.length))), (.ref sb)]
  refine Go.callP (I' := IN) (hI := nQ) sb [(.int ((Int32.ofNat cs.length) + (Int32.ofNat bs.length)))] [] (ct_ecap l Z a0 hw n0 sb va kv cs ((Int32.ofNat cs.length) + (Int32.ofNat bs.length)) _ S0 (by rw [own_cnt]; exact own_cap _ (by rw [List.length_append]; exact hl))) E_sb (wd_124 hw) (wd_125 hw) (sel_priv2 (y := (⟨"java/lang/AbstractStringBuilder", "ensureCapacityInternal", "(I)V"⟩ : MethodName)) (show Ord Z "java/lang/AbstractStringBuilder" from Ord.sel (wd_68 hw)) (wd_125 hw) (wd_126 hw) (by decide)) (wd_126 hw) (wd_45 hw) (wd_128 hw) (by decide) pd_5 rfl rfl rfl (Nat.le_of_ble_eq_true rfl) (Nat.le_of_ble_eq_true rfl) (Nat.le_of_ble_eq_true rfl) (Nat.le_of_ble_eq_true rfl) d_apA_21 ?_
  rintro _ _ ⟨rfl, rfl⟩
  show GM_apA l Z n0 (fun v h => v = some (.ref sb) ∧ Keep h0 h [sb, va] ∧ Sbd Z h sb va kv (cs ++ bs)) h0 0 0 24 #[.val (.ref sb), .val (.ref x), .val (.int (Int32.ofNat bs.length))] []
  refine Go.aloadN d_apA_24 rfl rfl ?_
  refine Go.aloadN d_apA_25 rfl rfl ?_
  refine Go.getF (wd_79 hw) Via.refl F_sb_count d_apA_26 ?_
  refine Go.aloadN d_apA_29 rfl rfl ?_
  -- at pc 30: pc 30: invokevirtual .invokevirtual 208 stack [(.ref x), (.int (Int32.ofNat cs.length)), (.ref sb)]
  refine Go.callP (I' := IN) (hI := nQ) sb [(.int (Int32.ofNat cs.length)), (.ref x)] [] (ct_puts l Z a0 hw n0 sb va x t kv kt cs bs _ O z S_cs hcs g_va S0 B hl) E_sb (wd_144 hw) (wd_145 hw) (sel_priv2 (y := (⟨"java/lang/AbstractStringBuilder", "putStringAt", "(ILjava/lang/String;)V"⟩ : MethodName)) (show Ord Z "java/lang/AbstractStringBuilder" from Ord.sel (wd_68 hw)) (wd_145 hw) (wd_146 hw) (by decide)) (wd_146 hw) (wd_45 hw) (wd_148 hw) (by decide) pd_9 rfl rfl rfl (Nat.le_of_ble_eq_true rfl) (Nat.le_of_ble_eq_true rfl) (Nat.le_of_ble_eq_true rfl) (Nat.le_of_ble_eq_true rfl) d_apA_30 ?_
  rintro _ hp25 ⟨rfl, K25, V1⟩
  replace E_x := E_x.keep K25
  replace E_sb := E_sb.keep K25
  replace F_sb_value := F_sb_value.keep K25 (ninS nsv nin0)
  replace F_sb_coder := F_sb_coder.keep K25 (ninS nsv nin0)
  replace F_sb_count := F_sb_count.keep K25 (ninS nsv nin0)
  replace KK : Keep h0 hp25 [sb, va] := KK.trans K25 (allS (Or.inl (by simp)) (all0))
  show GM_apA l Z n0 (fun v h => v = some (.ref sb) ∧ Keep h0 h [sb, va] ∧ Sbd Z h sb va kv (cs ++ bs)) hp25 0 0 33 #[.val (.ref sb), .val (.ref x), .val (.int (Int32.ofNat bs.length))] []
  refine Go.aloadN d_apA_33 rfl rfl ?_
  refine Go.dup d_apA_34 rfl ?_
  refine Go.getF (wd_79 hw) Via.refl F_sb_count d_apA_35 ?_
  refine Go.iloadN d_apA_38 rfl ?_
  refine Go.iadd d_apA_39 ?_
  refine Go.putF (I' := IN) (hI := nI) (wd_79 hw) Via.refl F_sb_count E_sb (Or.inl (wd_80 hw)) (wd_36 hw) (ty := .int) (by decide) rfl rfl g_sb d_apA_40 fun hp26 W26 => ?_
  have K26 := Keep.of_wr W26
  replace F_sb_value := F_sb_value.other W26 (Or.inr (slot_ne (Or.inl (wd_50 hw)) (Or.inl (wd_80 hw)) (by decide) (t := (.array .byte)) (t' := .int) (by decide) (by decide)))
  replace F_sb_coder := F_sb_coder.other W26 (Or.inr (slot_ne (Or.inl (wd_52 hw)) (Or.inl (wd_80 hw)) (by decide) (t := .byte) (t' := .int) (by decide) (by decide)))
  replace F_sb_count := F_sb_count.same W26
  replace E_x := E_x.keep K26
  replace E_sb := E_sb.keep K26
  replace V1 := V1.keep K26 (ninS (Ne.symm nsv) nin0)
  replace KK : Keep h0 hp26 [sb, va] := KK.trans K26 (allS (Or.inl (by simp)) (all0))
  refine Go.aloadN d_apA_43 rfl rfl ?_
  -- at pc 44: pc 44: areturn .areturn stack [(.ref sb)]
  exact Go.areturn d_apA_44 rfl rfl rfl (by decide) (by decide) ⟨rfl, KK, E_sb, F_sb_value, F_sb_coder, by rw [← own_cnt]; exact F_sb_count, V1⟩
theorem d_ap_0 : decode jdk_67_method_7_code 0 = .ok (.aload_n 0, 1) := by decide +kernel
theorem d_ap_1 : decode jdk_67_method_7_code 1 = .ok (.aload_n 1, 1) := by decide +kernel
theorem d_ap_2 : decode jdk_67_method_7_code 2 = .ok (.invokespecial 29, 3) := by decide +kernel
theorem d_ap_5 : decode jdk_67_method_7_code 5 = .ok (.pop, 1) := by decide +kernel
theorem d_ap_6 : decode jdk_67_method_7_code 6 = .ok (.aload_n 0, 1) := by decide +kernel
theorem d_ap_7 : decode jdk_67_method_7_code 7 = .ok (.areturn, 1) := by decide +kernel
abbrev R_ap : Room := ({ frames := 4, cells := 0, slots := 0, locals := 75 } : Room)
abbrev GM_ap (l : Launch) (Z : State) (n0 : Nat) (Q : Option Value → Heap → Prop) (h : Heap) (cells slots pc : Nat) (Ls : Array Slot) (st : List Value) : Prop := Go l Z n0 R_ap "java/lang/StringBuilder" "append" jdk_67_method_7_code 2 (some (.object "java/lang/StringBuilder")) IN (FN n0 R_ap Q) h cells slots pc Ls st
abbrev GW_ap (l : Launch) (Z : State) (EL : List (String × Nat)) (s₀ : State) (n0 : Nat) (Q : Option Value → Heap → Prop) (lo : Nat) (Sf : List Addr) (h : Heap) (cells slots pc : Nat) (Ls : Array Slot) (st : List Value) : Prop := Go l Z n0 R_ap "java/lang/StringBuilder" "append" jdk_67_method_7_code 2 (some (.object "java/lang/StringBuilder")) (IW Z EL s₀ lo Sf) (FW Z EL s₀ n0 R_ap Q) h cells slots pc Ls st
theorem pf_ap : plainFor (⟨"java/lang/StringBuilder", "append", "(Ljava/lang/String;)Ljava/lang/StringBuilder;"⟩ : MethodName) = true := plainFor_of_name (by first | (simp [plainName, overriddenIn]; done) | decide +kernel)
theorem ct_ap (l : Launch) (Z : State) (a0 : Array Value) (hw : ∀ d ∈ tables_1, d.before a0 Z = true) (n0 : Nat) (sb va x t : Addr) (kv kt : ClassId) (cs bs : List Int32) (h0 : Heap) (O : Old Z n0 h0) (z : Int32) (S_cs : Sta Z Z.heap "java/lang/String" "COMPACT_STRINGS" "Z" (.int z)) (hcs : ¬ z = 0) (g_sb : n0 ≤ sb) (g_va : n0 ≤ va) (nsv : sb ≠ va) (S : Sbd Z h0 sb va kv cs) (B : Byt Z h0 x t kt bs) (hl : cs.length + bs.length ≤ 16) :
    Ct l Z n0 "java/lang/StringBuilder" "append" "(Ljava/lang/String;)Ljava/lang/StringBuilder;" [] jdk_67_method_7_code 2 (some (.object "java/lang/StringBuilder")) R_ap #[.ref sb, .ref x] h0 (fun v h => v = some (.ref sb) ∧ Keep h0 h [sb, va] ∧ Sbd Z h sb va kv (cs ++ bs)) := by
  have E_sb := S.1
  refine Ct.of_go pf_ap (Ls := #[.val (.ref sb), .val (.ref x)]) (fun m => by first | rfl | (simp [entryFrame, mkF, argsToLocals, Value.category]; done)) ?_
  show GM_ap l Z n0 (fun v h => v = some (.ref sb) ∧ Keep h0 h [sb, va] ∧ Sbd Z h sb va kv (cs ++ bs)) h0 0 0 0 #[.val (.ref sb), .val (.ref x)] []
  refine Go.aloadN d_ap_0 rfl rfl ?_
  refine Go.aloadN d_ap_1 rfl rfl ?_
  -- at pc 2: pc 2: invokespecial .invokespecial 29 stack [(.ref x), (.ref sb)]
  refine Go.callSup (I' := IN) (hI := nQ) sb [(.ref x)] [] (ct_apA l Z a0 hw n0 sb va x t kv kt cs bs _ O z S_cs hcs g_sb g_va nsv S B hl) E_sb (show Ord Z "java/lang/AbstractStringBuilder" from Ord.sel (wd_68 hw)) (wd_139 hw) (wd_140 hw) (wd_77 hw) (wd_45 hw) (wd_142 hw) (by decide) (by decide) pd_10 rfl rfl rfl (Nat.le_of_ble_eq_true rfl) (Nat.le_of_ble_eq_true rfl) (Nat.le_of_ble_eq_true rfl) (Nat.le_of_ble_eq_true rfl) d_ap_2 ?_
  rintro _ hp27 ⟨rfl, K1, S1⟩
  show GM_ap l Z n0 (fun v h => v = some (.ref sb) ∧ Keep h0 h [sb, va] ∧ Sbd Z h sb va kv (cs ++ bs)) hp27 0 0 5 #[.val (.ref sb), .val (.ref x)] [(.ref sb)]
  refine Go.pop d_ap_5 rfl ?_
  refine Go.aloadN d_ap_6 rfl rfl ?_
  -- at pc 7: pc 7: areturn .areturn stack [(.ref sb)]
  exact Go.areturn d_ap_7 rfl rfl rfl (by decide) (by decide) ⟨rfl, K1, S1⟩
theorem d_getv_0 : decode jdk_68_method_64_code 0 = .ok (.aload_n 0, 1) := by decide +kernel
theorem d_getv_1 : decode jdk_68_method_64_code 1 = .ok (.getfield 15, 3) := by decide +kernel
theorem d_getv_4 : decode jdk_68_method_64_code 4 = .ok (.areturn, 1) := by decide +kernel
abbrev R_getv : Room := ({ frames := 0, cells := 0, slots := 0, locals := 0 } : Room)
abbrev GM_getv (l : Launch) (Z : State) (n0 : Nat) (Q : Option Value → Heap → Prop) (h : Heap) (cells slots pc : Nat) (Ls : Array Slot) (st : List Value) : Prop := Go l Z n0 R_getv "java/lang/AbstractStringBuilder" "getValue" jdk_68_method_64_code 1 (some (.array .byte)) IN (FN n0 R_getv Q) h cells slots pc Ls st
abbrev GW_getv (l : Launch) (Z : State) (EL : List (String × Nat)) (s₀ : State) (n0 : Nat) (Q : Option Value → Heap → Prop) (lo : Nat) (Sf : List Addr) (h : Heap) (cells slots pc : Nat) (Ls : Array Slot) (st : List Value) : Prop := Go l Z n0 R_getv "java/lang/AbstractStringBuilder" "getValue" jdk_68_method_64_code 1 (some (.array .byte)) (IW Z EL s₀ lo Sf) (FW Z EL s₀ n0 R_getv Q) h cells slots pc Ls st
theorem pf_getv : plainFor (⟨"java/lang/AbstractStringBuilder", "getValue", "()[B"⟩ : MethodName) = true := plainFor_of_name (by first | (simp [plainName, overriddenIn]; done) | decide +kernel)
theorem ct_getv (l : Launch) (Z : State) (a0 : Array Value) (hw : ∀ d ∈ tables_1, d.before a0 Z = true) (n0 : Nat) (sb va : Addr) (h0 : Heap) (F_sb_value : Fld Z h0 sb "java/lang/AbstractStringBuilder" "value" "[B" (.ref va)) : Ct l Z n0 "java/lang/AbstractStringBuilder" "getValue" "()[B" [] jdk_68_method_64_code 1 (some (.array .byte)) R_getv #[.ref sb] h0 (fun v h => v = some (.ref va) ∧ h0 = h) := by
  refine Ct.of_go pf_getv (Ls := #[.val (.ref sb)]) (fun m => by first | rfl | (simp [entryFrame, mkF, argsToLocals, Value.category]; done)) ?_
  show GM_getv l Z n0 (fun v h => v = some (.ref va) ∧ h0 = h) h0 0 0 0 #[.val (.ref sb)] []
  refine Go.aloadN d_getv_0 rfl rfl ?_
  refine Go.getF (wd_49 hw) Via.refl F_sb_value d_getv_1 ?_
  -- at pc 4: pc 4: areturn .areturn stack [(.ref va)]
  exact Go.areturn d_getv_4 rfl rfl rfl (by decide) (by decide) ⟨rfl, rfl⟩
theorem d_lenA_0 : decode jdk_68_method_6_code 0 = .ok (.aload_n 0, 1) := by decide +kernel
theorem d_lenA_1 : decode jdk_68_method_6_code 1 = .ok (.getfield 79, 3) := by decide +kernel
theorem d_lenA_4 : decode jdk_68_method_6_code 4 = .ok (.ireturn, 1) := by decide +kernel
abbrev R_lenA : Room := ({ frames := 0, cells := 0, slots := 0, locals := 0 } : Room)
abbrev GM_lenA (l : Launch) (Z : State) (n0 : Nat) (Q : Option Value → Heap → Prop) (h : Heap) (cells slots pc : Nat) (Ls : Array Slot) (st : List Value) : Prop := Go l Z n0 R_lenA "java/lang/AbstractStringBuilder" "length" jdk_68_method_6_code 1 (some .int) IN (FN n0 R_lenA Q) h cells slots pc Ls st
abbrev GW_lenA (l : Launch) (Z : State) (EL : List (String × Nat)) (s₀ : State) (n0 : Nat) (Q : Option Value → Heap → Prop) (lo : Nat) (Sf : List Addr) (h : Heap) (cells slots pc : Nat) (Ls : Array Slot) (st : List Value) : Prop := Go l Z n0 R_lenA "java/lang/AbstractStringBuilder" "length" jdk_68_method_6_code 1 (some .int) (IW Z EL s₀ lo Sf) (FW Z EL s₀ n0 R_lenA Q) h cells slots pc Ls st
theorem pf_lenA : plainFor (⟨"java/lang/AbstractStringBuilder", "length", "()I"⟩ : MethodName) = true := plainFor_of_name (by first | (simp [plainName, overriddenIn]; done) | decide +kernel)
theorem ct_lenA (l : Launch) (Z : State) (a0 : Array Value) (hw : ∀ d ∈ tables_1, d.before a0 Z = true) (n0 : Nat) (sb : Addr) (n : Int32) (h0 : Heap) (F_sb_count : Fld Z h0 sb "java/lang/AbstractStringBuilder" "count" "I" (.int n)) : Ct l Z n0 "java/lang/AbstractStringBuilder" "length" "()I" [] jdk_68_method_6_code 1 (some .int) R_lenA #[.ref sb] h0 (fun v h => v = some (.int n) ∧ h0 = h) := by
  refine Ct.of_go pf_lenA (Ls := #[.val (.ref sb)]) (fun m => by first | rfl | (simp [entryFrame, mkF, argsToLocals, Value.category]; done)) ?_
  show GM_lenA l Z n0 (fun v h => v = some (.int n) ∧ h0 = h) h0 0 0 0 #[.val (.ref sb)] []
  refine Go.aloadN d_lenA_0 rfl rfl ?_
  refine Go.getF (wd_79 hw) Via.refl F_sb_count d_lenA_1 ?_
  -- at pc 4: pc 4: ireturn .ireturn stack [(.int n)]
  exact Go.ireturn d_lenA_4 rfl (by decide) (by decide) ⟨rfl, rfl⟩
theorem d_lenB_0 : decode jdk_67_method_93_code 0 = .ok (.aload_n 0, 1) := by decide +kernel
theorem d_lenB_1 : decode jdk_67_method_93_code 1 = .ok (.invokespecial 343, 3) := by decide +kernel
theorem d_lenB_4 : decode jdk_67_method_93_code 4 = .ok (.ireturn, 1) := by decide +kernel
abbrev R_lenB : Room := ({ frames := 1, cells := 0, slots := 0, locals := 12 } : Room)
abbrev GM_lenB (l : Launch) (Z : State) (n0 : Nat) (Q : Option Value → Heap → Prop) (h : Heap) (cells slots pc : Nat) (Ls : Array Slot) (st : List Value) : Prop := Go l Z n0 R_lenB "java/lang/StringBuilder" "length" jdk_67_method_93_code 1 (some .int) IN (FN n0 R_lenB Q) h cells slots pc Ls st
abbrev GW_lenB (l : Launch) (Z : State) (EL : List (String × Nat)) (s₀ : State) (n0 : Nat) (Q : Option Value → Heap → Prop) (lo : Nat) (Sf : List Addr) (h : Heap) (cells slots pc : Nat) (Ls : Array Slot) (st : List Value) : Prop := Go l Z n0 R_lenB "java/lang/StringBuilder" "length" jdk_67_method_93_code 1 (some .int) (IW Z EL s₀ lo Sf) (FW Z EL s₀ n0 R_lenB Q) h cells slots pc Ls st
theorem pf_lenB : plainFor (⟨"java/lang/StringBuilder", "length", "()I"⟩ : MethodName) = true := plainFor_of_name (by first | (simp [plainName, overriddenIn]; done) | decide +kernel)
theorem ct_lenB (l : Launch) (Z : State) (a0 : Array Value) (hw : ∀ d ∈ tables_1, d.before a0 Z = true) (n0 : Nat) (sb : Addr) (n : Int32) (h0 : Heap) (E_sb : Exa Z h0 sb "java/lang/StringBuilder") (F_sb_count : Fld Z h0 sb "java/lang/AbstractStringBuilder" "count" "I" (.int n)) : Ct l Z n0 "java/lang/StringBuilder" "length" "()I" [] jdk_67_method_93_code 1 (some .int) R_lenB #[.ref sb] h0 (fun v h => v = some (.int n) ∧ h0 = h) := by
  refine Ct.of_go pf_lenB (Ls := #[.val (.ref sb)]) (fun m => by first | rfl | (simp [entryFrame, mkF, argsToLocals, Value.category]; done)) ?_
  show GM_lenB l Z n0 (fun v h => v = some (.int n) ∧ h0 = h) h0 0 0 0 #[.val (.ref sb)] []
  refine Go.aloadN d_lenB_0 rfl rfl ?_
  -- at pc 1: pc 1: invokespecial .invokespecial 343 stack [(.ref sb)]
  refine Go.callSup (I' := IN) (hI := nQ) sb [] [] (ct_lenA l Z a0 hw n0 sb n _ F_sb_count) E_sb (show Ord Z "java/lang/AbstractStringBuilder" from Ord.sel (wd_68 hw)) (wd_76 hw) (wd_72 hw) (wd_77 hw) (wd_45 hw) (wd_78 hw) (by decide) (by decide) pd_8 rfl rfl rfl (Nat.le_of_ble_eq_true rfl) (Nat.le_of_ble_eq_true rfl) (Nat.le_of_ble_eq_true rfl) (Nat.le_of_ble_eq_true rfl) d_lenB_1 ?_
  rintro _ _ ⟨rfl, rfl⟩
  show GM_lenB l Z n0 (fun v h => v = some (.int n) ∧ h0 = h) h0 0 0 4 #[.val (.ref sb)] [(.int n)]
  -- at pc 4: pc 4: ireturn .ireturn stack [(.int n)]
  exact Go.ireturn d_lenB_4 rfl (by decide) (by decide) ⟨rfl, rfl⟩
theorem d_isL_0 : decode jdk_68_method_68_code 0 = .ok (.getstatic 18, 3) := by decide +kernel
theorem d_isL_3 : decode jdk_68_method_68_code 3 = .ok (.ifCond .eq 14, 3) := by decide +kernel
theorem d_isL_6 : decode jdk_68_method_68_code 6 = .ok (.aload_n 0, 1) := by decide +kernel
theorem d_isL_7 : decode jdk_68_method_68_code 7 = .ok (.getfield 22, 3) := by decide +kernel
theorem d_isL_10 : decode jdk_68_method_68_code 10 = .ok (.ifCond .ne 7, 3) := by decide +kernel
theorem d_isL_13 : decode jdk_68_method_68_code 13 = .ok (.iconst 1, 1) := by decide +kernel
theorem d_isL_14 : decode jdk_68_method_68_code 14 = .ok (.goto 4, 3) := by decide +kernel
theorem d_isL_18 : decode jdk_68_method_68_code 18 = .ok (.ireturn, 1) := by decide +kernel
abbrev R_isL : Room := ({ frames := 0, cells := 0, slots := 0, locals := 0 } : Room)
abbrev GM_isL (l : Launch) (Z : State) (n0 : Nat) (Q : Option Value → Heap → Prop) (h : Heap) (cells slots pc : Nat) (Ls : Array Slot) (st : List Value) : Prop := Go l Z n0 R_isL "java/lang/AbstractStringBuilder" "isLatin1" jdk_68_method_68_code 1 (some .boolean) IN (FN n0 R_isL Q) h cells slots pc Ls st
abbrev GW_isL (l : Launch) (Z : State) (EL : List (String × Nat)) (s₀ : State) (n0 : Nat) (Q : Option Value → Heap → Prop) (lo : Nat) (Sf : List Addr) (h : Heap) (cells slots pc : Nat) (Ls : Array Slot) (st : List Value) : Prop := Go l Z n0 R_isL "java/lang/AbstractStringBuilder" "isLatin1" jdk_68_method_68_code 1 (some .boolean) (IW Z EL s₀ lo Sf) (FW Z EL s₀ n0 R_isL Q) h cells slots pc Ls st
theorem pf_isL : plainFor (⟨"java/lang/AbstractStringBuilder", "isLatin1", "()Z"⟩ : MethodName) = true := plainFor_of_name (by first | (simp [plainName, overriddenIn]; done) | decide +kernel)
theorem ct_isL (l : Launch) (Z : State) (a0 : Array Value) (hw : ∀ d ∈ tables_1, d.before a0 Z = true) (n0 : Nat) (sb : Addr) (h0 : Heap) (O : Old Z n0 h0) (z : Int32) (S_cs : Sta Z Z.heap "java/lang/String" "COMPACT_STRINGS" "Z" (.int z)) (hcs : ¬ z = 0) (F_sb_coder : Fld Z h0 sb "java/lang/AbstractStringBuilder" "coder" "B" (.int (0 : Int32))) : Ct l Z n0 "java/lang/AbstractStringBuilder" "isLatin1" "()Z" [] jdk_68_method_68_code 1 (some .boolean) R_isL #[.ref sb] h0 (fun v h => v = some (.int (1 : Int32)) ∧ h0 = h) := by
  refine Ct.of_go pf_isL (Ls := #[.val (.ref sb)]) (fun m => by first | rfl | (simp [entryFrame, mkF, argsToLocals, Value.category]; done)) ?_
  show GM_isL l Z n0 (fun v h => v = some (.int (1 : Int32)) ∧ h0 = h) h0 0 0 0 #[.val (.ref sb)] []
  refine Go.getS (wd_48 hw) Via.refl (S_cs.ext O.2) d_isL_0 ?_
  -- at pc 3: pc 3: ifCond .ifCond .eq 14 stack [(.int z)]
  -- not: z = (0 : Int32)
  refine Go.ifF d_isL_3 (feq (hcs)).1 ?_
  refine Go.aloadN d_isL_6 rfl rfl ?_
  refine Go.getF (wd_51 hw) Via.refl F_sb_coder d_isL_7 ?_
  -- at pc 10: pc 10: ifCond .ifCond .ne 7 stack [(.int (0 : Int32))]
  -- (0 : Int32) = (0 : Int32)
  refine Go.ifF d_isL_10 (teq (rfl)).2 ?_
  refine Go.iconst 1 d_isL_13 rfl ?_
  refine Go.goto 18 d_isL_14 (by decide) (by decide) ?_
  -- at pc 18: pc 18: ireturn .ireturn stack [(.int (1 : Int32))]
  exact Go.nreturn .boolean d_isL_18 rfl (by simp) (by decide) (by decide) ⟨rfl, rfl⟩
theorem d_chkl_0 : decode jdk_65_method_131_code 0 = .ok (.iload_n 1, 1) := by decide +kernel
theorem d_chkl_1 : decode jdk_65_method_131_code 1 = .ok (.iload_n 0, 1) := by decide +kernel
theorem d_chkl_2 : decode jdk_65_method_131_code 2 = .ok (.if_icmp .ge 35, 3) := by decide +kernel
theorem d_chkl_37 : decode jdk_65_method_131_code 37 = .ok (.return_, 1) := by decide +kernel
abbrev R_chkl : Room := ({ frames := 0, cells := 0, slots := 0, locals := 0 } : Room)
abbrev GM_chkl (l : Launch) (Z : State) (n0 : Nat) (Q : Option Value → Heap → Prop) (h : Heap) (cells slots pc : Nat) (Ls : Array Slot) (st : List Value) : Prop := Go l Z n0 R_chkl "java/util/Arrays" "checkLength" jdk_65_method_131_code 2 none IN (FN n0 R_chkl Q) h cells slots pc Ls st
abbrev GW_chkl (l : Launch) (Z : State) (EL : List (String × Nat)) (s₀ : State) (n0 : Nat) (Q : Option Value → Heap → Prop) (lo : Nat) (Sf : List Addr) (h : Heap) (cells slots pc : Nat) (Ls : Array Slot) (st : List Value) : Prop := Go l Z n0 R_chkl "java/util/Arrays" "checkLength" jdk_65_method_131_code 2 none (IW Z EL s₀ lo Sf) (FW Z EL s₀ n0 R_chkl Q) h cells slots pc Ls st
theorem pf_chkl : plainFor (⟨"java/util/Arrays", "checkLength", "(II)V"⟩ : MethodName) = true := plainFor_of_name (by first | (simp [plainName, overriddenIn]; done) | decide +kernel)
theorem ct_chkl (l : Launch) (Z : State) (a0 : Array Value) (hw : ∀ d ∈ tables_1, d.before a0 Z = true) (n0 : Nat) (a b : Int32) (h0 : Heap) (hab : ¬ b < a) : Ct l Z n0 "java/util/Arrays" "checkLength" "(II)V" [] jdk_65_method_131_code 2 none R_chkl #[.int a, .int b] h0 (fun v h => v = none ∧ h0 = h) := by
  refine Ct.of_go pf_chkl (Ls := #[.val (.int a), .val (.int b)]) (fun m => by first | rfl | (simp [entryFrame, mkF, argsToLocals, Value.category]; done)) ?_
  show GM_chkl l Z n0 (fun v h => v = none ∧ h0 = h) h0 0 0 0 #[.val (.int a), .val (.int b)] []
  refine Go.iloadN d_chkl_0 rfl ?_
  refine Go.iloadN d_chkl_1 rfl ?_
  -- at pc 2: pc 2: if_icmp .if_icmp .ge 35 stack [(.int a), (.int b)]
  -- not: b < a
  refine Go.icT 37 d_chkl_2 (flt (hab)).2.1 (by decide) (by decide) ?_
  -- at pc 37: pc 37: return .return_ stack []
  exact Go.return_ d_chkl_37 rfl (by decide) (by decide) ⟨rfl, rfl⟩
theorem d_mmin_0 : decode jdk_29_method_69_code 0 = .ok (.iload_n 0, 1) := by decide +kernel
theorem d_mmin_1 : decode jdk_29_method_69_code 1 = .ok (.iload_n 1, 1) := by decide +kernel
theorem d_mmin_2 : decode jdk_29_method_69_code 2 = .ok (.if_icmp .gt 7, 3) := by decide +kernel
theorem d_mmin_5 : decode jdk_29_method_69_code 5 = .ok (.iload_n 0, 1) := by decide +kernel
theorem d_mmin_6 : decode jdk_29_method_69_code 6 = .ok (.goto 4, 3) := by decide +kernel
theorem d_mmin_9 : decode jdk_29_method_69_code 9 = .ok (.iload_n 1, 1) := by decide +kernel
theorem d_mmin_10 : decode jdk_29_method_69_code 10 = .ok (.ireturn, 1) := by decide +kernel
abbrev R_mmin : Room := ({ frames := 0, cells := 0, slots := 0, locals := 0 } : Room)
abbrev GM_mmin (l : Launch) (Z : State) (n0 : Nat) (Q : Option Value → Heap → Prop) (h : Heap) (cells slots pc : Nat) (Ls : Array Slot) (st : List Value) : Prop := Go l Z n0 R_mmin "java/lang/Math" "min" jdk_29_method_69_code 2 (some .int) IN (FN n0 R_mmin Q) h cells slots pc Ls st
abbrev GW_mmin (l : Launch) (Z : State) (EL : List (String × Nat)) (s₀ : State) (n0 : Nat) (Q : Option Value → Heap → Prop) (lo : Nat) (Sf : List Addr) (h : Heap) (cells slots pc : Nat) (Ls : Array Slot) (st : List Value) : Prop := Go l Z n0 R_mmin "java/lang/Math" "min" jdk_29_method_69_code 2 (some .int) (IW Z EL s₀ lo Sf) (FW Z EL s₀ n0 R_mmin Q) h cells slots pc Ls st
theorem pf_mmin : plainFor (⟨"java/lang/Math", "min", "(II)I"⟩ : MethodName) = true := Jvm.Free.JP.mathPlain rfl (by decide +kernel)
theorem ct_mmin (l : Launch) (Z : State) (a0 : Array Value) (hw : ∀ d ∈ tables_1, d.before a0 Z = true) (n0 : Nat) (a b : Int32) (h0 : Heap) (hab : ¬ a < b) : Ct l Z n0 "java/lang/Math" "min" "(II)I" [] jdk_29_method_69_code 2 (some .int) R_mmin #[.int a, .int b] h0 (fun v h => v = some (.int b) ∧ h0 = h) := by
  refine Ct.of_go pf_mmin (Ls := #[.val (.int a), .val (.int b)]) (fun m => by first | rfl | (simp [entryFrame, mkF, argsToLocals, Value.category]; done)) ?_
  show GM_mmin l Z n0 (fun v h => v = some (.int b) ∧ h0 = h) h0 0 0 0 #[.val (.int a), .val (.int b)] []
  refine Go.iloadN d_mmin_0 rfl ?_
  refine Go.iloadN d_mmin_1 rfl ?_
  -- at pc 2: pc 2: if_icmp .if_icmp .gt 7 stack [(.int b), (.int a)]
  by_cases hq : b < a
  · refine Go.icT 9 d_mmin_2 (tlt hq).2.2.1 (by decide) (by decide) ?_
    refine Go.iloadN d_mmin_9 rfl ?_
    -- at pc 10: pc 10: ireturn .ireturn stack [(.int b)]
    exact Go.ireturn d_mmin_10 rfl (by decide) (by decide) ⟨rfl, rfl⟩
  · refine Go.icF d_mmin_2 (flt hq).2.2.1 ?_
    refine Go.iloadN d_mmin_5 rfl ?_
    refine Go.goto 10 d_mmin_6 (by decide) (by decide) ?_
    -- at pc 10: pc 10: ireturn .ireturn stack [(.int a)]
    have e : a = b := Int32.toInt_inj.mp (by rw [Int32.lt_iff_toInt_lt] at hab hq; omega)
    exact Go.ireturn d_mmin_10 rfl (by decide) (by decide) ⟨by rw [e], rfl⟩
theorem d_corB_0 : decode jdk_65_method_133_code 0 = .ok (.iload_n 1, 1) := by decide +kernel
theorem d_corB_1 : decode jdk_65_method_133_code 1 = .ok (.iload_n 2, 1) := by decide +kernel
theorem d_corB_2 : decode jdk_65_method_133_code 2 = .ok (.invokestatic 343, 3) := by decide +kernel
theorem d_corB_5 : decode jdk_65_method_133_code 5 = .ok (.iload_n 2, 1) := by decide +kernel
theorem d_corB_6 : decode jdk_65_method_133_code 6 = .ok (.iload_n 1, 1) := by decide +kernel
theorem d_corB_7 : decode jdk_65_method_133_code 7 = .ok (.isub, 1) := by decide +kernel
theorem d_corB_8 : decode jdk_65_method_133_code 8 = .ok (.istore_n 3, 1) := by decide +kernel
theorem d_corB_9 : decode jdk_65_method_133_code 9 = .ok (.iload_n 3, 1) := by decide +kernel
theorem d_corB_10 : decode jdk_65_method_133_code 10 = .ok (.newarray .byte, 2) := by decide +kernel
theorem d_corB_12 : decode jdk_65_method_133_code 12 = .ok (.astore 4, 2) := by decide +kernel
theorem d_corB_14 : decode jdk_65_method_133_code 14 = .ok (.aload_n 0, 1) := by decide +kernel
theorem d_corB_15 : decode jdk_65_method_133_code 15 = .ok (.iload_n 1, 1) := by decide +kernel
theorem d_corB_16 : decode jdk_65_method_133_code 16 = .ok (.aload 4, 2) := by decide +kernel
theorem d_corB_18 : decode jdk_65_method_133_code 18 = .ok (.iconst 0, 1) := by decide +kernel
theorem d_corB_19 : decode jdk_65_method_133_code 19 = .ok (.aload_n 0, 1) := by decide +kernel
theorem d_corB_20 : decode jdk_65_method_133_code 20 = .ok (.arraylength, 1) := by decide +kernel
theorem d_corB_21 : decode jdk_65_method_133_code 21 = .ok (.iload_n 1, 1) := by decide +kernel
theorem d_corB_22 : decode jdk_65_method_133_code 22 = .ok (.isub, 1) := by decide +kernel
theorem d_corB_23 : decode jdk_65_method_133_code 23 = .ok (.iload_n 3, 1) := by decide +kernel
theorem d_corB_24 : decode jdk_65_method_133_code 24 = .ok (.invokestatic 304, 3) := by decide +kernel
theorem d_corB_27 : decode jdk_65_method_133_code 27 = .ok (.invokestatic 150, 3) := by decide +kernel
theorem d_corB_30 : decode jdk_65_method_133_code 30 = .ok (.aload 4, 2) := by decide +kernel
theorem d_corB_32 : decode jdk_65_method_133_code 32 = .ok (.areturn, 1) := by decide +kernel
abbrev R_corB : Room := ({ frames := 1, cells := 1, slots := 16, locals := 34 } : Room)
abbrev GM_corB (l : Launch) (Z : State) (n0 : Nat) (Q : Option Value → Heap → Prop) (h : Heap) (cells slots pc : Nat) (Ls : Array Slot) (st : List Value) : Prop := Go l Z n0 R_corB "java/util/Arrays" "copyOfRangeByte" jdk_65_method_133_code 5 (some (.array .byte)) IN (FN n0 R_corB Q) h cells slots pc Ls st
abbrev GW_corB (l : Launch) (Z : State) (EL : List (String × Nat)) (s₀ : State) (n0 : Nat) (Q : Option Value → Heap → Prop) (lo : Nat) (Sf : List Addr) (h : Heap) (cells slots pc : Nat) (Ls : Array Slot) (st : List Value) : Prop := Go l Z n0 R_corB "java/util/Arrays" "copyOfRangeByte" jdk_65_method_133_code 5 (some (.array .byte)) (IW Z EL s₀ lo Sf) (FW Z EL s₀ n0 R_corB Q) h cells slots pc Ls st
theorem pf_corB : plainFor (⟨"java/util/Arrays", "copyOfRangeByte", "([BII)[B"⟩ : MethodName) = true := plainFor_of_name (by first | (simp [plainName, overriddenIn]; done) | decide +kernel)
theorem ct_corB (l : Launch) (Z : State) (a0 : Array Value) (hw : ∀ d ∈ tables_1, d.before a0 Z = true) (n0 : Nat) (va : Addr) (kv : ClassId) (cs : List Int32) (h0 : Heap) (hz : n0 ≤ h0.size) (V_va : Arv Z h0 va kv .byte (16 : Int32) (cs.map Value.int) (.int (0 : Int32))) (hl : cs.length ≤ 15) :
    Ct l Z n0 "java/util/Arrays" "copyOfRangeByte" "([BII)[B" [] jdk_65_method_133_code 5 (some (.array .byte)) R_corB #[.ref va, .int (0 : Int32), .int (Int32.ofNat cs.length)] h0 (fun v h => ∃ (b : Addr) (k : ClassId), v = some (.ref b) ∧ n0 ≤ b ∧ h0.size ≤ b ∧ Keep h0 h [] ∧ Arv Z h b k .byte (Int32.ofNat cs.length) (cs.map Value.int) (.int (0 : Int32))) := by
  have hn : ((Int32.ofNat cs.length) - (0 : Int32)) = (Int32.ofNat cs.length) := Int32.sub_zero _
  refine Ct.of_go pf_corB (Ls := #[.val (.ref va), .val (.int (0 : Int32)), .val (.int (Int32.ofNat cs.length)), .unset, .unset]) (fun m => by first | rfl | (simp [entryFrame, mkF, argsToLocals, Value.category]; done)) ?_
  show GM_corB l Z n0 (fun v h => ∃ (b : Addr) (k : ClassId), v = some (.ref b) ∧ n0 ≤ b ∧ h0.size ≤ b ∧ Keep h0 h [] ∧ Arv Z h b k .byte (Int32.ofNat cs.length) (cs.map Value.int) (.int (0 : Int32))) h0 0 0 0 #[.val (.ref va), .val (.int (0 : Int32)), .val (.int (Int32.ofNat cs.length)), .unset, .unset] []
  have KK : Keep h0 h0 [] := Keep.refl _ _
  refine Go.iloadN d_corB_0 rfl ?_
  refine Go.iloadN d_corB_1 rfl ?_
  -- at pc 2: pc 2: invokestatic .invokestatic 343 stack [(.int (Int32.ofNat cs.length)), (.int (0 : Int32))]
  refine Go.callS (I' := IN) (hI := nQ) [(.int (0 : Int32)), (.int (Int32.ofNat cs.length))] [] (ct_chkl l Z a0 hw n0 0 (Int32.ofNat cs.length) _ (own_nneg (by omega))) (wd_93 hw) (wd_94 hw) (wd_88 hw) (wd_95 hw) (by decide) pd_11 rfl rfl rfl (Nat.le_of_ble_eq_true rfl) (Nat.le_of_ble_eq_true rfl) (Nat.le_of_ble_eq_true rfl) (Nat.le_of_ble_eq_true rfl) d_corB_2 ?_
  rintro _ _ ⟨rfl, rfl⟩
  show GM_corB l Z n0 (fun v h => ∃ (b : Addr) (k : ClassId), v = some (.ref b) ∧ n0 ≤ b ∧ h0.size ≤ b ∧ Keep h0 h [] ∧ Arv Z h b k .byte (Int32.ofNat cs.length) (cs.map Value.int) (.int (0 : Int32))) h0 0 0 5 #[.val (.ref va), .val (.int (0 : Int32)), .val (.int (Int32.ofNat cs.length)), .unset, .unset] []
  refine Go.iloadN d_corB_5 rfl ?_
  refine Go.iloadN d_corB_6 rfl ?_
  refine Go.isub d_corB_7 ?_
  rw [show ((Int32.ofNat cs.length) - (0 : Int32)) = (Int32.ofNat cs.length) from hn]
  refine Go.istoreN (Ls' := #[.val (.ref va), .val (.int (0 : Int32)), .val (.int (Int32.ofNat cs.length)), .val (.int (Int32.ofNat cs.length)), .unset]) d_corB_8 rfl ?_
  refine Go.iloadN d_corB_9 rfl ?_
  refine Go.newP (I' := IN) (hI := nE) .byte (wd_23 hw) rfl d_corB_10 (own_nneg (by omega)) 16 (by rw [own_clamp (by omega)]; omega) (by decide) (by decide) (by decide) fun hp30 b k_b e_b X30 V_b => ?_
  have K30 : Keep h0 hp30 [] := (Keep.refl _ _).ext X30
  have g_b : n0 ≤ b := e_b ▸ hz
  have s_b : h0.size ≤ b := e_b ▸ KK.1
  have ne_va_b : va ≠ b := Nat.ne_of_lt (e_b ▸ V_va.lt)
  replace V_va := V_va.keep K30 nin0
  replace hz : n0 ≤ hp30.size := Nat.le_trans hz K30.1
  replace KK : Keep h0 hp30 [] := KK.trans K30 (all0)
  refine Go.astore (Ls' := #[.val (.ref va), .val (.int (0 : Int32)), .val (.int (Int32.ofNat cs.length)), .val (.int (Int32.ofNat cs.length)), .val (.ref b)]) d_corB_12 rfl rfl ?_
  refine Go.aloadN d_corB_14 rfl rfl ?_
  refine Go.iloadN d_corB_15 rfl ?_
  refine Go.aload d_corB_16 rfl rfl ?_
  refine Go.iconst 0 d_corB_18 rfl ?_
  refine Go.aloadN d_corB_19 rfl rfl ?_
  refine Go.arraylength V_va d_corB_20 ?_
  refine Go.iloadN d_corB_21 rfl ?_
  refine Go.isub d_corB_22 ?_
  refine Go.iloadN d_corB_23 rfl ?_
  -- at pc 24: pc 24: invokestatic .invokestatic 304 stack [(.int (Int32.ofNat cs.length)), (.int ((16 : Int32) - (0 : Int32))), (.int (0 : Int32)), (.ref b), (.int (0 : Int32)), (.ref va)]
  refine Go.callS (I' := IN) (hI := nQ) [(.int ((16 : Int32) - (0 : Int32))), (.int (Int32.ofNat cs.length))] [(.int (0 : Int32)), (.ref b), (.int (0 : Int32)), (.ref va)] (ct_mmin l Z a0 hw n0 ((16 : Int32) - (0 : Int32)) (Int32.ofNat cs.length) _ (own_le16 hl)) (wd_96 hw) (wd_1 hw) (wd_2 hw) (wd_3 hw) (by decide) pd_12 rfl rfl rfl (Nat.le_of_ble_eq_true rfl) (Nat.le_of_ble_eq_true rfl) (Nat.le_of_ble_eq_true rfl) (Nat.le_of_ble_eq_true rfl) d_corB_24 ?_
  rintro _ _ ⟨rfl, rfl⟩
  show GM_corB l Z n0 (fun v h => ∃ (b : Addr) (k : ClassId), v = some (.ref b) ∧ n0 ≤ b ∧ h0.size ≤ b ∧ Keep h0 h [] ∧ Arv Z h b k .byte (Int32.ofNat cs.length) (cs.map Value.int) (.int (0 : Int32))) hp30 1 16 27 #[.val (.ref va), .val (.int (0 : Int32)), .val (.int (Int32.ofNat cs.length)), .val (.int (Int32.ofNat cs.length)), .val (.ref b)] [(.int (Int32.ofNat cs.length)), (.int (0 : Int32)), (.ref b), (.int (0 : Int32)), (.ref va)]
  refine Go.copyB (I' := IN) (hI := nI) (cs.map Value.int) V_va (V_b.pad (pad_rep [] _ cs.length)) rfl (wd_97 hw) (wd_100 hw) (wd_98 hw) (wd_99 hw) (by decide) (by decide) (own_nneg (by omega)) (by rw [own_clamp (by omega)]; show 0 + cs.length ≤ 16; omega) (by rw [own_clamp (by omega)]; show 0 + cs.length ≤ cs.length; omega) (by rw [own_clamp (by omega)]; exact own_range (by simp)) (by rw [own_clamp (by omega)]; simp) g_b d_corB_27 rfl (by decide) (by decide) fun h1 K1 V1 => ?_
  rw [own_clamp (by omega)] at V1
  have V2 : Arv Z h1 b k_b .byte (Int32.ofNat cs.length) (cs.map Value.int) (.int (0 : Int32)) := by have W := V1; simp at W; exact W
  replace KK : Keep h0 h1 [] := KK.trans K1 (allS (Or.inr s_b) all0)
  show GM_corB l Z n0 (fun v h => ∃ (b : Addr) (k : ClassId), v = some (.ref b) ∧ n0 ≤ b ∧ h0.size ≤ b ∧ Keep h0 h [] ∧ Arv Z h b k .byte (Int32.ofNat cs.length) (cs.map Value.int) (.int (0 : Int32))) h1 1 16 30 #[.val (.ref va), .val (.int (0 : Int32)), .val (.int (Int32.ofNat cs.length)), .val (.int (Int32.ofNat cs.length)), .val (.ref b)] []
  refine Go.aload d_corB_30 rfl rfl ?_
  -- at pc 32: pc 32: areturn .areturn stack [(.ref b)]
  exact Go.areturn d_corB_32 rfl rfl rfl (by decide) (by decide) ⟨b, k_b, rfl, g_b, s_b, KK, V2⟩
theorem d_corA_0 : decode jdk_65_method_132_code 0 = .ok (.iload_n 1, 1) := by decide +kernel
theorem d_corA_1 : decode jdk_65_method_132_code 1 = .ok (.ifCond .ne 9, 3) := by decide +kernel
theorem d_corA_4 : decode jdk_65_method_132_code 4 = .ok (.iload_n 2, 1) := by decide +kernel
theorem d_corA_5 : decode jdk_65_method_132_code 5 = .ok (.aload_n 0, 1) := by decide +kernel
theorem d_corA_6 : decode jdk_65_method_132_code 6 = .ok (.arraylength, 1) := by decide +kernel
theorem d_corA_7 : decode jdk_65_method_132_code 7 = .ok (.if_icmp .eq 10, 3) := by decide +kernel
theorem d_corA_10 : decode jdk_65_method_132_code 10 = .ok (.aload_n 0, 1) := by decide +kernel
theorem d_corA_11 : decode jdk_65_method_132_code 11 = .ok (.iload_n 1, 1) := by decide +kernel
theorem d_corA_12 : decode jdk_65_method_132_code 12 = .ok (.iload_n 2, 1) := by decide +kernel
theorem d_corA_13 : decode jdk_65_method_132_code 13 = .ok (.invokestatic 339, 3) := by decide +kernel
theorem d_corA_16 : decode jdk_65_method_132_code 16 = .ok (.areturn, 1) := by decide +kernel
abbrev R_corA : Room := ({ frames := 2, cells := 1, slots := 16, locals := 50 } : Room)
abbrev GM_corA (l : Launch) (Z : State) (n0 : Nat) (Q : Option Value → Heap → Prop) (h : Heap) (cells slots pc : Nat) (Ls : Array Slot) (st : List Value) : Prop := Go l Z n0 R_corA "java/util/Arrays" "copyOfRange" jdk_65_method_132_code 3 (some (.array .byte)) IN (FN n0 R_corA Q) h cells slots pc Ls st
abbrev GW_corA (l : Launch) (Z : State) (EL : List (String × Nat)) (s₀ : State) (n0 : Nat) (Q : Option Value → Heap → Prop) (lo : Nat) (Sf : List Addr) (h : Heap) (cells slots pc : Nat) (Ls : Array Slot) (st : List Value) : Prop := Go l Z n0 R_corA "java/util/Arrays" "copyOfRange" jdk_65_method_132_code 3 (some (.array .byte)) (IW Z EL s₀ lo Sf) (FW Z EL s₀ n0 R_corA Q) h cells slots pc Ls st
theorem pf_corA : plainFor (⟨"java/util/Arrays", "copyOfRange", "([BII)[B"⟩ : MethodName) = true := plainFor_of_name (by first | (simp [plainName, overriddenIn]; done) | decide +kernel)
theorem ct_corA (l : Launch) (Z : State) (a0 : Array Value) (hw : ∀ d ∈ tables_1, d.before a0 Z = true) (n0 : Nat) (va : Addr) (kv : ClassId) (cs : List Int32) (h0 : Heap) (hz : n0 ≤ h0.size) (V_va : Arv Z h0 va kv .byte (16 : Int32) (cs.map Value.int) (.int (0 : Int32))) (hl : cs.length ≤ 15) :
    Ct l Z n0 "java/util/Arrays" "copyOfRange" "([BII)[B" [] jdk_65_method_132_code 3 (some (.array .byte)) R_corA #[.ref va, .int (0 : Int32), .int (Int32.ofNat cs.length)] h0 (fun v h => ∃ (b : Addr) (k : ClassId), v = some (.ref b) ∧ n0 ≤ b ∧ h0.size ≤ b ∧ Keep h0 h [] ∧ Arv Z h b k .byte (Int32.ofNat cs.length) (cs.map Value.int) (.int (0 : Int32))) := by
  refine Ct.of_go pf_corA (Ls := #[.val (.ref va), .val (.int (0 : Int32)), .val (.int (Int32.ofNat cs.length))]) (fun m => by first | rfl | (simp [entryFrame, mkF, argsToLocals, Value.category]; done)) ?_
  show GM_corA l Z n0 (fun v h => ∃ (b : Addr) (k : ClassId), v = some (.ref b) ∧ n0 ≤ b ∧ h0.size ≤ b ∧ Keep h0 h [] ∧ Arv Z h b k .byte (Int32.ofNat cs.length) (cs.map Value.int) (.int (0 : Int32))) h0 0 0 0 #[.val (.ref va), .val (.int (0 : Int32)), .val (.int (Int32.ofNat cs.length))] []
  refine Go.iloadN d_corA_0 rfl ?_
  -- at pc 1: pc 1: ifCond .ifCond .ne 9 stack [(.int (0 : Int32))]
  -- (0 : Int32) = (0 : Int32)
  refine Go.ifF d_corA_1 (teq (rfl)).2 ?_
  refine Go.iloadN d_corA_4 rfl ?_
  refine Go.aloadN d_corA_5 rfl rfl ?_
  refine Go.arraylength V_va d_corA_6 ?_
  -- at pc 7: pc 7: if_icmp .if_icmp .eq 10 stack [(.int (16 : Int32)), (.int (Int32.ofNat cs.length))]
  -- not: (Int32.ofNat cs.length) = (16 : Int32)
  refine Go.icF d_corA_7 (feq (own_ne16 hl)).1 ?_
  refine Go.aloadN d_corA_10 rfl rfl ?_
  refine Go.iloadN d_corA_11 rfl ?_
  refine Go.iloadN d_corA_12 rfl ?_
  -- at pc 13: pc 13: invokestatic .invokestatic 339 stack [(.int (Int32.ofNat cs.length)), (.int (0 : Int32)), (.ref va)]
  refine Go.callS (I' := IN) (hI := nQ) [(.ref va), (.int (0 : Int32)), (.int (Int32.ofNat cs.length))] [] (ct_corB l Z a0 hw n0 va kv cs _ hz V_va hl) (wd_90 hw) (wd_91 hw) (wd_88 hw) (wd_92 hw) (by decide) pd_13 rfl rfl rfl (Nat.le_of_ble_eq_true rfl) (Nat.le_of_ble_eq_true rfl) (Nat.le_of_ble_eq_true rfl) (Nat.le_of_ble_eq_true rfl) d_corA_13 ?_
  rintro _ hp32 ⟨b, k, rfl, q1, q2, q3, q4⟩
  show GM_corA l Z n0 (fun v h => ∃ (b : Addr) (k : ClassId), v = some (.ref b) ∧ n0 ≤ b ∧ h0.size ≤ b ∧ Keep h0 h [] ∧ Arv Z h b k .byte (Int32.ofNat cs.length) (cs.map Value.int) (.int (0 : Int32))) hp32 1 16 16 #[.val (.ref va), .val (.int (0 : Int32)), .val (.int (Int32.ofNat cs.length))] [(.ref b)]
  -- at pc 16: pc 16: areturn .areturn stack [(.ref b)]
  exact Go.areturn d_corA_16 rfl rfl rfl (by decide) (by decide) ⟨b, k, rfl, q1, q2, q3, q4⟩
theorem d_sinA_0 : decode jdk_42_method_150_code 0 = .ok (.aload_n 0, 1) := by decide +kernel
theorem d_sinA_1 : decode jdk_42_method_150_code 1 = .ok (.invokespecial 1, 3) := by decide +kernel
theorem d_sinA_4 : decode jdk_42_method_150_code 4 = .ok (.aload_n 1, 1) := by decide +kernel
theorem d_sinA_5 : decode jdk_42_method_150_code 5 = .ok (.invokevirtual 552, 3) := by decide +kernel
theorem d_sinA_8 : decode jdk_42_method_150_code 8 = .ok (.astore_n 3, 1) := by decide +kernel
theorem d_sinA_9 : decode jdk_42_method_150_code 9 = .ok (.aload_n 1, 1) := by decide +kernel
theorem d_sinA_10 : decode jdk_42_method_150_code 10 = .ok (.invokevirtual 549, 3) := by decide +kernel
theorem d_sinA_13 : decode jdk_42_method_150_code 13 = .ok (.istore 4, 2) := by decide +kernel
theorem d_sinA_15 : decode jdk_42_method_150_code 15 = .ok (.aload_n 1, 1) := by decide +kernel
theorem d_sinA_16 : decode jdk_42_method_150_code 16 = .ok (.invokevirtual 1047, 3) := by decide +kernel
theorem d_sinA_19 : decode jdk_42_method_150_code 19 = .ok (.ifCond .eq 22, 3) := by decide +kernel
theorem d_sinA_22 : decode jdk_42_method_150_code 22 = .ok (.aload_n 0, 1) := by decide +kernel
theorem d_sinA_23 : decode jdk_42_method_150_code 23 = .ok (.iconst 0, 1) := by decide +kernel
theorem d_sinA_24 : decode jdk_42_method_150_code 24 = .ok (.putfield 15, 3) := by decide +kernel
theorem d_sinA_27 : decode jdk_42_method_150_code 27 = .ok (.aload_n 0, 1) := by decide +kernel
theorem d_sinA_28 : decode jdk_42_method_150_code 28 = .ok (.aload_n 3, 1) := by decide +kernel
theorem d_sinA_29 : decode jdk_42_method_150_code 29 = .ok (.iconst 0, 1) := by decide +kernel
theorem d_sinA_30 : decode jdk_42_method_150_code 30 = .ok (.iload 4, 2) := by decide +kernel
theorem d_sinA_32 : decode jdk_42_method_150_code 32 = .ok (.invokestatic 54, 3) := by decide +kernel
theorem d_sinA_35 : decode jdk_42_method_150_code 35 = .ok (.putfield 9, 3) := by decide +kernel
theorem d_sinA_38 : decode jdk_42_method_150_code 38 = .ok (.goto 59, 3) := by decide +kernel
theorem d_sinA_97 : decode jdk_42_method_150_code 97 = .ok (.return_, 1) := by decide +kernel
abbrev R_sinA : Room := ({ frames := 3, cells := 1, slots := 16, locals := 65 } : Room)
abbrev GM_sinA (l : Launch) (Z : State) (n0 : Nat) (Q : Option Value → Heap → Prop) (h : Heap) (cells slots pc : Nat) (Ls : Array Slot) (st : List Value) : Prop := Go l Z n0 R_sinA "java/lang/String" "<init>" jdk_42_method_150_code 5 none IN (FN n0 R_sinA Q) h cells slots pc Ls st
abbrev GW_sinA (l : Launch) (Z : State) (EL : List (String × Nat)) (s₀ : State) (n0 : Nat) (Q : Option Value → Heap → Prop) (lo : Nat) (Sf : List Addr) (h : Heap) (cells slots pc : Nat) (Ls : Array Slot) (st : List Value) : Prop := Go l Z n0 R_sinA "java/lang/String" "<init>" jdk_42_method_150_code 5 none (IW Z EL s₀ lo Sf) (FW Z EL s₀ n0 R_sinA Q) h cells slots pc Ls st
theorem pf_sinA : plainFor (⟨"java/lang/String", "<init>", "(Ljava/lang/AbstractStringBuilder;Ljava/lang/Void;)V"⟩ : MethodName) = true := plainFor_of_name (by first | (simp [plainName, overriddenIn]; done) | decide +kernel)
theorem ct_sinA (l : Launch) (Z : State) (a0 : Array Value) (hw : ∀ d ∈ tables_1, d.before a0 Z = true) (n0 : Nat) (x sb va : Addr) (kv : ClassId) (cs : List Int32) (h0 : Heap) (hz : n0 ≤ h0.size) (O : Old Z n0 h0) (z : Int32) (S_cs : Sta Z Z.heap "java/lang/String" "COMPACT_STRINGS" "Z" (.int z)) (hcs : ¬ z = 0) (g_x : n0 ≤ x) (E_x : Exa Z h0 x "java/lang/String") (F_x_value : Fld Z h0 x "java/lang/String" "value" "[B" .null) (F_x_coder : Fld Z h0 x "java/lang/String" "coder" "B" (.int (0 : Int32))) (S : Sbd Z h0 sb va kv cs) (nxs : x ≠ sb) (nxv : x ≠ va) (hl : cs.length ≤ 15) :
    Ct l Z n0 "java/lang/String" "<init>" "(Ljava/lang/AbstractStringBuilder;Ljava/lang/Void;)V" [] jdk_42_method_150_code 5 none R_sinA #[.ref x, .ref sb, .null] h0 (fun v h => v = none ∧ Keep h0 h [x] ∧ ∃ (t : Addr) (kt : ClassId), n0 ≤ t ∧ h0.size ≤ t ∧ Byt Z h x t kt cs) := by
  obtain ⟨E_sb, F_sb_value, F_sb_coder, F_sb_count, V_va⟩ := S
  refine Ct.of_go pf_sinA (Ls := #[.val (.ref x), .val (.ref sb), .val .null, .unset, .unset]) (fun m => by first | rfl | (simp [entryFrame, mkF, argsToLocals, Value.category]; done)) ?_
  show GM_sinA l Z n0 (fun v h => v = none ∧ Keep h0 h [x] ∧ ∃ (t : Addr) (kt : ClassId), n0 ≤ t ∧ h0.size ≤ t ∧ Byt Z h x t kt cs) h0 0 0 0 #[.val (.ref x), .val (.ref sb), .val .null, .unset, .unset] []
  have KK : Keep h0 h0 [x] := Keep.refl _ _
  refine Go.aloadN d_sinA_0 rfl rfl ?_
  refine Go.initO (wd_19 hw) (wd_20 hw) (wd_21 hw) d_sinA_1 rfl (by decide) (Nat.le_of_ble_eq_true rfl) ?_
  refine Go.aloadN d_sinA_4 rfl rfl ?_
  -- at pc 5: pc 5: invokevirtual .invokevirtual 552 stack [(.ref sb)]
  refine Go.callV (I' := IN) (hI := nQ) sb [] [] (ct_getv l Z a0 hw n0 sb va _ F_sb_value) E_sb (wd_65 hw) (wd_66 hw) (nf_sel (wd_68 hw)) (wd_68 hw) (wd_67 hw) (wd_45 hw) (wd_69 hw) (by decide) pd_14 rfl rfl rfl (Nat.le_of_ble_eq_true rfl) (Nat.le_of_ble_eq_true rfl) (Nat.le_of_ble_eq_true rfl) (Nat.le_of_ble_eq_true rfl) d_sinA_5 ?_
  rintro _ _ ⟨rfl, rfl⟩
  show GM_sinA l Z n0 (fun v h => v = none ∧ Keep h0 h [x] ∧ ∃ (t : Addr) (kt : ClassId), n0 ≤ t ∧ h0.size ≤ t ∧ Byt Z h x t kt cs) h0 0 0 8 #[.val (.ref x), .val (.ref sb), .val .null, .unset, .unset] [(.ref va)]
  refine Go.astoreN (Ls' := #[.val (.ref x), .val (.ref sb), .val .null, .val (.ref va), .unset]) d_sinA_8 rfl rfl ?_
  refine Go.aloadN d_sinA_9 rfl rfl ?_
  -- at pc 10: pc 10: invokevirtual .invokevirtual 549 stack [(.ref sb)]
  refine Go.callV (I' := IN) (hI := nQ) sb [] [] (ct_lenB l Z a0 hw n0 sb (Int32.ofNat cs.length) _ E_sb F_sb_count) E_sb (wd_70 hw) (wd_71 hw) (Ord.nf (show Ord Z "java/lang/AbstractStringBuilder" from Ord.sel (wd_68 hw))) (wd_73 hw) (wd_74 hw) (wd_37 hw) (wd_75 hw) (by decide) pd_8 rfl rfl rfl (Nat.le_of_ble_eq_true rfl) (Nat.le_of_ble_eq_true rfl) (Nat.le_of_ble_eq_true rfl) (Nat.le_of_ble_eq_true rfl) d_sinA_10 ?_
  rintro _ _ ⟨rfl, rfl⟩
  show GM_sinA l Z n0 (fun v h => v = none ∧ Keep h0 h [x] ∧ ∃ (t : Addr) (kt : ClassId), n0 ≤ t ∧ h0.size ≤ t ∧ Byt Z h x t kt cs) h0 0 0 13 #[.val (.ref x), .val (.ref sb), .val .null, .val (.ref va), .unset] [(.int (Int32.ofNat cs.length))]
  refine Go.istore (Ls' := #[.val (.ref x), .val (.ref sb), .val .null, .val (.ref va), .val (.int (Int32.ofNat cs.length))]) d_sinA_13 rfl ?_
  refine Go.aloadN d_sinA_15 rfl rfl ?_
  -- at pc 16: pc 16: invokevirtual .invokevirtual 1047 stack [(.ref sb)]
  refine Go.callV (I' := IN) (hI := nQ) sb [] [] (ct_isL l Z a0 hw n0 sb _ O z S_cs hcs F_sb_coder) E_sb (wd_81 hw) (wd_82 hw) (nf_sel (wd_84 hw)) (wd_84 hw) (wd_83 hw) (wd_45 hw) (wd_85 hw) (by decide) pd_15 rfl rfl rfl (Nat.le_of_ble_eq_true rfl) (Nat.le_of_ble_eq_true rfl) (Nat.le_of_ble_eq_true rfl) (Nat.le_of_ble_eq_true rfl) d_sinA_16 ?_
  rintro _ _ ⟨rfl, rfl⟩
  show GM_sinA l Z n0 (fun v h => v = none ∧ Keep h0 h [x] ∧ ∃ (t : Addr) (kt : ClassId), n0 ≤ t ∧ h0.size ≤ t ∧ Byt Z h x t kt cs) h0 0 0 19 #[.val (.ref x), .val (.ref sb), .val .null, .val (.ref va), .val (.int (Int32.ofNat cs.length))] [(.int (1 : Int32))]
  -- at pc 19: pc 19: ifCond .ifCond .eq 22 stack [(.int (1 : Int32))]
  -- not: (1 : Int32) = (0 : Int32)
  refine Go.ifF d_sinA_19 (feq (by decide)).1 ?_
  refine Go.aloadN d_sinA_22 rfl rfl ?_
  refine Go.iconst 0 d_sinA_23 rfl ?_
  refine Go.putFN (I' := IN) (hI := nI) (v' := (.int (0 : Int32))) (wd_29 hw) Via.refl F_x_coder E_x (Or.inr ⟨(wd_25 hw), rfl, rfl⟩) (wd_9 hw) (ty := .byte) (by decide) rfl rfl g_x d_sinA_24 fun hp36 W36 => ?_
  have K36 := Keep.of_wr W36
  replace F_x_value := F_x_value.other W36 (Or.inr (slot_ne (Or.inr (wd_24 hw)) (Or.inr (wd_25 hw)) (by decide) (t := (.array .byte)) (t' := .byte) (by decide) (by decide)))
  replace F_x_coder := F_x_coder.same W36
  replace O := O.keep K36 (allS g_x (all0))
  replace E_x := E_x.keep K36
  replace E_sb := E_sb.keep K36
  replace F_sb_count := F_sb_count.keep K36 (ninS (Ne.symm nxs) nin0)
  replace V_va := V_va.keep K36 (ninS (Ne.symm nxv) nin0)
  replace hz : n0 ≤ hp36.size := Nat.le_trans hz K36.1
  replace KK : Keep h0 hp36 [x] := KK.trans K36 (allS (Or.inl (by simp)) (all0))
  refine Go.aloadN d_sinA_27 rfl rfl ?_
  refine Go.aloadN d_sinA_28 rfl rfl ?_
  refine Go.iconst 0 d_sinA_29 rfl ?_
  refine Go.iload d_sinA_30 rfl ?_
  -- at pc 32: pc 32: invokestatic .invokestatic 54 stack [(.int (Int32.ofNat cs.length)), (.int (0 : Int32)), (.ref va), (.ref x)]
  have KK1 := KK
  have lt_x := E_x.lt
  refine Go.callS (I' := IN) (hI := nQ) [(.ref va), (.int (0 : Int32)), (.int (Int32.ofNat cs.length))] [(.ref x)] (ct_corA l Z a0 hw n0 va kv cs _ hz V_va hl) (wd_86 hw) (wd_87 hw) (wd_88 hw) (wd_89 hw) (by decide) pd_13 rfl rfl rfl (Nat.le_of_ble_eq_true rfl) (Nat.le_of_ble_eq_true rfl) (Nat.le_of_ble_eq_true rfl) (Nat.le_of_ble_eq_true rfl) d_sinA_32 ?_
  rintro _ hp37 ⟨t, kt, rfl, g_t, sz_t, K37, V_t⟩
  replace O := O.keep K37 (all0)
  replace E_x := E_x.keep K37
  replace F_x_value := F_x_value.keep K37 nin0
  replace F_x_coder := F_x_coder.keep K37 nin0
  replace E_sb := E_sb.keep K37
  replace F_sb_count := F_sb_count.keep K37 nin0
  replace V_va := V_va.keep K37 nin0
  replace hz : n0 ≤ hp37.size := Nat.le_trans hz K37.1
  replace KK : Keep h0 hp37 [x] := KK.trans K37 (all0)
  show GM_sinA l Z n0 (fun v h => v = none ∧ Keep h0 h [x] ∧ ∃ (t : Addr) (kt : ClassId), n0 ≤ t ∧ h0.size ≤ t ∧ Byt Z h x t kt cs) hp37 1 16 35 #[.val (.ref x), .val (.ref sb), .val .null, .val (.ref va), .val (.int (Int32.ofNat cs.length))] [(.ref t), (.ref x)]
  have s_t : h0.size ≤ t := Nat.le_trans KK1.1 sz_t
  have ne_x_t : x ≠ t := (Nat.ne_of_lt (Nat.lt_of_lt_of_le lt_x sz_t))
  refine Go.putF (I' := IN) (hI := nI) (wd_28 hw) Via.refl F_x_value E_x (Or.inr ⟨(wd_24 hw), rfl, rfl⟩) (wd_9 hw) (ty := (.array .byte)) (by decide) rfl rfl g_x d_sinA_35 fun hp38 W38 => ?_
  have K38 := Keep.of_wr W38
  replace F_x_value := F_x_value.same W38
  replace F_x_coder := F_x_coder.other W38 (Or.inr (slot_ne (Or.inr (wd_25 hw)) (Or.inr (wd_24 hw)) (by decide) (t := .byte) (t' := (.array .byte)) (by decide) (by decide)))
  replace O := O.keep K38 (allS g_x (all0))
  replace E_x := E_x.keep K38
  replace E_sb := E_sb.keep K38
  replace F_sb_count := F_sb_count.keep K38 (ninS (Ne.symm nxs) nin0)
  replace V_va := V_va.keep K38 (ninS (Ne.symm nxv) nin0)
  replace V_t := V_t.keep K38 (ninS (Ne.symm ne_x_t) nin0)
  replace hz : n0 ≤ hp38.size := Nat.le_trans hz K38.1
  replace KK : Keep h0 hp38 [x] := KK.trans K38 (allS (Or.inl (by simp)) (all0))
  refine Go.goto 97 d_sinA_38 (by decide) (by decide) ?_
  -- at pc 97: pc 97: return .return_ stack []
  exact Go.return_ d_sinA_97 rfl (by decide) (by decide) ⟨rfl, KK, t, kt, g_t, s_t, E_x, F_x_coder, F_x_value, V_t⟩
theorem d_sinB_0 : decode jdk_42_method_53_code 0 = .ok (.aload_n 0, 1) := by decide +kernel
theorem d_sinB_1 : decode jdk_42_method_53_code 1 = .ok (.aload_n 1, 1) := by decide +kernel
theorem d_sinB_2 : decode jdk_42_method_53_code 2 = .ok (.aconst_null, 1) := by decide +kernel
theorem d_sinB_3 : decode jdk_42_method_53_code 3 = .ok (.invokespecial 489, 3) := by decide +kernel
theorem d_sinB_6 : decode jdk_42_method_53_code 6 = .ok (.return_, 1) := by decide +kernel
abbrev R_sinB : Room := ({ frames := 4, cells := 1, slots := 16, locals := 82 } : Room)
abbrev GM_sinB (l : Launch) (Z : State) (n0 : Nat) (Q : Option Value → Heap → Prop) (h : Heap) (cells slots pc : Nat) (Ls : Array Slot) (st : List Value) : Prop := Go l Z n0 R_sinB "java/lang/String" "<init>" jdk_42_method_53_code 2 none IN (FN n0 R_sinB Q) h cells slots pc Ls st
abbrev GW_sinB (l : Launch) (Z : State) (EL : List (String × Nat)) (s₀ : State) (n0 : Nat) (Q : Option Value → Heap → Prop) (lo : Nat) (Sf : List Addr) (h : Heap) (cells slots pc : Nat) (Ls : Array Slot) (st : List Value) : Prop := Go l Z n0 R_sinB "java/lang/String" "<init>" jdk_42_method_53_code 2 none (IW Z EL s₀ lo Sf) (FW Z EL s₀ n0 R_sinB Q) h cells slots pc Ls st
theorem pf_sinB : plainFor (⟨"java/lang/String", "<init>", "(Ljava/lang/StringBuilder;)V"⟩ : MethodName) = true := plainFor_of_name (by first | (simp [plainName, overriddenIn]; done) | decide +kernel)
theorem ct_sinB (l : Launch) (Z : State) (a0 : Array Value) (hw : ∀ d ∈ tables_1, d.before a0 Z = true) (n0 : Nat) (x sb va : Addr) (kv : ClassId) (cs : List Int32) (h0 : Heap) (hz : n0 ≤ h0.size) (O : Old Z n0 h0) (z : Int32) (S_cs : Sta Z Z.heap "java/lang/String" "COMPACT_STRINGS" "Z" (.int z)) (hcs : ¬ z = 0) (g_x : n0 ≤ x) (E_x : Exa Z h0 x "java/lang/String") (F_x_value : Fld Z h0 x "java/lang/String" "value" "[B" .null) (F_x_coder : Fld Z h0 x "java/lang/String" "coder" "B" (.int (0 : Int32))) (S : Sbd Z h0 sb va kv cs) (nxs : x ≠ sb) (nxv : x ≠ va) (hl : cs.length ≤ 15) :
    Ct l Z n0 "java/lang/String" "<init>" "(Ljava/lang/StringBuilder;)V" [] jdk_42_method_53_code 2 none R_sinB #[.ref x, .ref sb] h0 (fun v h => v = none ∧ Keep h0 h [x] ∧ ∃ (t : Addr) (kt : ClassId), n0 ≤ t ∧ h0.size ≤ t ∧ Byt Z h x t kt cs) := by
  refine Ct.of_go pf_sinB (Ls := #[.val (.ref x), .val (.ref sb)]) (fun m => by first | rfl | (simp [entryFrame, mkF, argsToLocals, Value.category]; done)) ?_
  show GM_sinB l Z n0 (fun v h => v = none ∧ Keep h0 h [x] ∧ ∃ (t : Addr) (kt : ClassId), n0 ≤ t ∧ h0.size ≤ t ∧ Byt Z h x t kt cs) h0 0 0 0 #[.val (.ref x), .val (.ref sb)] []
  refine Go.aloadN d_sinB_0 rfl rfl ?_
  refine Go.aloadN d_sinB_1 rfl rfl ?_
  refine Go.null d_sinB_2 ?_
  -- at pc 3: pc 3: invokespecial .invokespecial 489 stack [.null, (.ref sb), (.ref x)]
  refine Go.callI (I' := IN) (hI := nQ) x [(.ref sb), .null] [] (ct_sinA l Z a0 hw n0 x sb va kv cs _ hz O z S_cs hcs g_x E_x F_x_value F_x_coder S nxs nxv hl) (wd_62 hw) (wd_63 hw) (wd_10 hw) (wd_64 hw) (by decide) pd_16 rfl rfl rfl (Nat.le_of_ble_eq_true rfl) (Nat.le_of_ble_eq_true rfl) (Nat.le_of_ble_eq_true rfl) (Nat.le_of_ble_eq_true rfl) d_sinB_3 ?_
  rintro _ hp39 ⟨rfl, K1, t, kt, q1, q2, q3⟩
  show GM_sinB l Z n0 (fun v h => v = none ∧ Keep h0 h [x] ∧ ∃ (t : Addr) (kt : ClassId), n0 ≤ t ∧ h0.size ≤ t ∧ Byt Z h x t kt cs) hp39 1 16 6 #[.val (.ref x), .val (.ref sb)] []
  -- at pc 6: pc 6: return .return_ stack []
  exact Go.return_ d_sinB_6 rfl (by decide) (by decide) ⟨rfl, K1, t, kt, q1, q2, q3⟩
theorem d_tos_0 : decode jdk_67_method_42_code 0 = .ok (.new 18, 3) := by decide +kernel
theorem d_tos_3 : decode jdk_67_method_42_code 3 = .ok (.dup, 1) := by decide +kernel
theorem d_tos_4 : decode jdk_67_method_42_code 4 = .ok (.aload_n 0, 1) := by decide +kernel
theorem d_tos_5 : decode jdk_67_method_42_code 5 = .ok (.invokespecial 137, 3) := by decide +kernel
theorem d_tos_8 : decode jdk_67_method_42_code 8 = .ok (.areturn, 1) := by decide +kernel
abbrev R_tos : Room := ({ frames := 5, cells := 2, slots := 20, locals := 98 } : Room)
abbrev GM_tos (l : Launch) (Z : State) (n0 : Nat) (Q : Option Value → Heap → Prop) (h : Heap) (cells slots pc : Nat) (Ls : Array Slot) (st : List Value) : Prop := Go l Z n0 R_tos "java/lang/StringBuilder" "toString" jdk_67_method_42_code 1 (some (.object "java/lang/String")) IN (FN n0 R_tos Q) h cells slots pc Ls st
abbrev GW_tos (l : Launch) (Z : State) (EL : List (String × Nat)) (s₀ : State) (n0 : Nat) (Q : Option Value → Heap → Prop) (lo : Nat) (Sf : List Addr) (h : Heap) (cells slots pc : Nat) (Ls : Array Slot) (st : List Value) : Prop := Go l Z n0 R_tos "java/lang/StringBuilder" "toString" jdk_67_method_42_code 1 (some (.object "java/lang/String")) (IW Z EL s₀ lo Sf) (FW Z EL s₀ n0 R_tos Q) h cells slots pc Ls st
theorem pf_tos : plainFor (⟨"java/lang/StringBuilder", "toString", "()Ljava/lang/String;"⟩ : MethodName) = true := plainFor_of_name (by first | (simp [plainName, overriddenIn]; done) | decide +kernel)
theorem ct_tos (l : Launch) (Z : State) (a0 : Array Value) (hw : ∀ d ∈ tables_1, d.before a0 Z = true) (n0 : Nat) (sb va : Addr) (kv : ClassId) (cs : List Int32) (h0 : Heap) (hz : n0 ≤ h0.size) (O : Old Z n0 h0) (z : Int32) (S_cs : Sta Z Z.heap "java/lang/String" "COMPACT_STRINGS" "Z" (.int z)) (hcs : ¬ z = 0) (S : Sbd Z h0 sb va kv cs) (hl : cs.length ≤ 15) :
    Ct l Z n0 "java/lang/StringBuilder" "toString" "()Ljava/lang/String;" [] jdk_67_method_42_code 1 (some (.object "java/lang/String")) R_tos #[.ref sb] h0 (fun v h => ∃ (x t : Addr) (kt : ClassId), v = some (.ref x) ∧ Keep h0 h [] ∧ n0 ≤ x ∧ h0.size ≤ x ∧ n0 ≤ t ∧ h0.size ≤ t ∧ Byt Z h x t kt cs) := by
  refine Ct.of_go pf_tos (Ls := #[.val (.ref sb)]) (fun m => by first | rfl | (simp [entryFrame, mkF, argsToLocals, Value.category]; done)) ?_
  show GM_tos l Z n0 (fun v h => ∃ (x t : Addr) (kt : ClassId), v = some (.ref x) ∧ Keep h0 h [] ∧ n0 ≤ x ∧ h0.size ≤ x ∧ n0 ≤ t ∧ h0.size ≤ t ∧ Byt Z h x t kt cs) h0 0 0 0 #[.val (.ref sb)] []
  have KK : Keep h0 h0 [] := Keep.refl _ _
  -- at pc 0: pc 0: new .new 18 stack []
  refine Go.new (I' := IN) (hI := nE) (wd_58 hw) (wd_9 hw) (wd_10 hw) d_tos_0 (by decide) (by decide) fun hp40 x e_x X40 E_x D40 => ?_
  have K40 : Keep h0 hp40 [] := (Keep.refl _ _).ext X40
  have g_x : n0 ≤ x := e_x ▸ hz
  have s_x : h0.size ≤ x := e_x ▸ KK.1
  have ne_sb_x : sb ≠ x := Nat.ne_of_lt (e_x ▸ S.lt)
  have ne_va_x : va ≠ x := Nat.ne_of_lt (e_x ▸ S.lt2)
  replace O := O.keep K40 (all0)
  replace S := S.keep K40 nin0 nin0
  have F_x_value : Fld Z hp40 x "java/lang/String" "value" "[B" .null := D40 (Or.inr (wd_24 hw)) (ty := (.array .byte)) (by decide)
  have F_x_coder : Fld Z hp40 x "java/lang/String" "coder" "B" (.int (0 : Int32)) := D40 (Or.inr (wd_25 hw)) (ty := .byte) (by decide)
  replace hz : n0 ≤ hp40.size := Nat.le_trans hz K40.1
  replace KK : Keep h0 hp40 [] := KK.trans K40 (all0)
  refine Go.dup d_tos_3 rfl ?_
  refine Go.aloadN d_tos_4 rfl rfl ?_
  -- at pc 5: pc 5: invokespecial .invokespecial 137 stack [(.ref sb), (.ref x), (.ref x)]
  have KK1 := KK
  refine Go.callI (I' := IN) (hI := nQ) x [(.ref sb)] [(.ref x)] (ct_sinB l Z a0 hw n0 x sb va kv cs _ hz O z S_cs hcs g_x E_x F_x_value F_x_coder S (Ne.symm ne_sb_x) (Ne.symm ne_va_x) hl) (wd_59 hw) (wd_60 hw) (wd_10 hw) (wd_61 hw) (by decide) pd_17 rfl rfl rfl (Nat.le_of_ble_eq_true rfl) (Nat.le_of_ble_eq_true rfl) (Nat.le_of_ble_eq_true rfl) (Nat.le_of_ble_eq_true rfl) d_tos_5 ?_
  rintro _ hp41 ⟨rfl, K41, t, kt, g_t, sz_t, B⟩
  replace O := O.keep K41 (allS g_x (all0))
  replace S := S.keep K41 (ninS ne_sb_x nin0) (ninS ne_va_x nin0)
  replace E_x := E_x.keep K41
  replace hz : n0 ≤ hp41.size := Nat.le_trans hz K41.1
  replace KK : Keep h0 hp41 [] := KK.trans K41 (allS (Or.inr s_x) (all0))
  show GM_tos l Z n0 (fun v h => ∃ (x t : Addr) (kt : ClassId), v = some (.ref x) ∧ Keep h0 h [] ∧ n0 ≤ x ∧ h0.size ≤ x ∧ n0 ≤ t ∧ h0.size ≤ t ∧ Byt Z h x t kt cs) hp41 2 20 8 #[.val (.ref sb)] [(.ref x)]
  have s_t : h0.size ≤ t := Nat.le_trans KK1.1 sz_t
  -- at pc 8: pc 8: areturn .areturn stack [(.ref x)]
  exact Go.areturn d_tos_8 rfl rfl rfl (by decide) (by decide) ⟨x, t, kt, rfl, KK, g_x, s_x, g_t, s_t, B⟩
abbrev own_ch (b : Int32) : Int32 := (b &&& (255 : Int32)).toUInt32.toUInt16.toUInt32.toInt32
theorem own_ch8 (y : Int32) : own_ch ((y &&& 255).toInt8.toInt32) = y &&& 255 := by
  show ((y &&& 255).toInt8.toInt32 &&& (255 : Int32)).toUInt32.toUInt16.toUInt32.toInt32 = _
  rw [i2c_mask]
  have h1 := c_mask ((y &&& 255).toInt8.toInt32) 255 8 (by decide) (by decide)
  have h2 := c_mask y 255 8 (by decide) (by decide)
  have h3 := c_i2b (y &&& 255)
  apply Int32.toInt_inj.mp
  simp only [Nat.reducePow] at h1 h2
  omega
theorem own_idx {n m : Nat} (h : n < m) (hm : m < 2 ^ 31) : ¬ Int32.ofNat n < 0 ∧ Int32.ofNat n < Int32.ofNat m := by
  refine ⟨own_nneg (by omega), ?_⟩
  rw [Int32.lt_iff_toInt_lt, own_ofInt (by omega), own_ofInt hm]; omega
theorem d_pchk_0 : decode jdk_41_method_11_code 0 = .ok (.iload_n 0, 1) := by decide +kernel
theorem d_pchk_1 : decode jdk_41_method_11_code 1 = .ok (.ifCond .lt 8, 3) := by decide +kernel
theorem d_pchk_4 : decode jdk_41_method_11_code 4 = .ok (.iload_n 0, 1) := by decide +kernel
theorem d_pchk_5 : decode jdk_41_method_11_code 5 = .ok (.iload_n 1, 1) := by decide +kernel
theorem d_pchk_6 : decode jdk_41_method_11_code 6 = .ok (.if_icmp .lt 10, 3) := by decide +kernel
theorem d_pchk_16 : decode jdk_41_method_11_code 16 = .ok (.iload_n 0, 1) := by decide +kernel
theorem d_pchk_17 : decode jdk_41_method_11_code 17 = .ok (.ireturn, 1) := by decide +kernel
abbrev R_pchk : Room := ({ frames := 0, cells := 0, slots := 0, locals := 0 } : Room)
abbrev GM_pchk (l : Launch) (Z : State) (n0 : Nat) (Q : Option Value → Heap → Prop) (h : Heap) (cells slots pc : Nat) (Ls : Array Slot) (st : List Value) : Prop := Go l Z n0 R_pchk "jdk/internal/util/Preconditions" "checkIndex" jdk_41_method_11_code 3 (some .int) IN (FN n0 R_pchk Q) h cells slots pc Ls st
abbrev GW_pchk (l : Launch) (Z : State) (EL : List (String × Nat)) (s₀ : State) (n0 : Nat) (Q : Option Value → Heap → Prop) (lo : Nat) (Sf : List Addr) (h : Heap) (cells slots pc : Nat) (Ls : Array Slot) (st : List Value) : Prop := Go l Z n0 R_pchk "jdk/internal/util/Preconditions" "checkIndex" jdk_41_method_11_code 3 (some .int) (IW Z EL s₀ lo Sf) (FW Z EL s₀ n0 R_pchk Q) h cells slots pc Ls st
theorem pf_pchk : plainFor (⟨"jdk/internal/util/Preconditions", "checkIndex", "(IILjava/util/function/BiFunction;)I"⟩ : MethodName) = true := plainFor_of_name (by first | (simp [plainName, overriddenIn]; done) | decide +kernel)
theorem ct_pchk (l : Launch) (Z : State) (a0 : Array Value) (hw : ∀ d ∈ tables_1, d.before a0 Z = true) (n0 : Nat) (i n : Int32) (vf : Value) (hvf : vf.isRef = true) (h0 : Heap) (hq : ¬ i < 0 ∧ i < n) : Ct l Z n0 "jdk/internal/util/Preconditions" "checkIndex" "(IILjava/util/function/BiFunction;)I" [] jdk_41_method_11_code 3 (some .int) R_pchk #[.int i, .int n, vf] h0 (fun v h => v = some (.int i) ∧ h0 = h) := by
  refine Ct.of_go pf_pchk (Ls := #[.val (.int i), .val (.int n), .val vf]) (fun m => by rcases ref_cases hvf with rfl | ⟨_, rfl⟩ <;> rfl) ?_
  show GM_pchk l Z n0 (fun v h => v = some (.int i) ∧ h0 = h) h0 0 0 0 #[.val (.int i), .val (.int n), .val vf] []
  refine Go.iloadN d_pchk_0 rfl ?_
  -- at pc 1: pc 1: ifCond .ifCond .lt 8 stack [(.int i)]
  -- not: i < (0 : Int32)
  refine Go.ifF d_pchk_1 (flt (hq.1)).1 ?_
  refine Go.iloadN d_pchk_4 rfl ?_
  refine Go.iloadN d_pchk_5 rfl ?_
  -- at pc 6: pc 6: if_icmp .if_icmp .lt 10 stack [(.int n), (.int i)]
  -- i < n
  refine Go.icT 16 d_pchk_6 (tlt (hq.2)).1 (by decide) (by decide) ?_
  refine Go.iloadN d_pchk_16 rfl ?_
  -- at pc 17: pc 17: ireturn .ireturn stack [(.int i)]
  exact Go.ireturn d_pchk_17 rfl (by decide) (by decide) ⟨rfl, rfl⟩
theorem d_schk_0 : decode jdk_42_method_155_code 0 = .ok (.iload_n 0, 1) := by decide +kernel
theorem d_schk_1 : decode jdk_42_method_155_code 1 = .ok (.iload_n 1, 1) := by decide +kernel
theorem d_schk_2 : decode jdk_42_method_155_code 2 = .ok (.getstatic 1053, 3) := by decide +kernel
theorem d_schk_5 : decode jdk_42_method_155_code 5 = .ok (.invokestatic 1059, 3) := by decide +kernel
theorem d_schk_8 : decode jdk_42_method_155_code 8 = .ok (.pop, 1) := by decide +kernel
theorem d_schk_9 : decode jdk_42_method_155_code 9 = .ok (.return_, 1) := by decide +kernel
abbrev R_schk : Room := ({ frames := 1, cells := 0, slots := 0, locals := 14 } : Room)
abbrev GM_schk (l : Launch) (Z : State) (n0 : Nat) (Q : Option Value → Heap → Prop) (h : Heap) (cells slots pc : Nat) (Ls : Array Slot) (st : List Value) : Prop := Go l Z n0 R_schk "java/lang/String" "checkIndex" jdk_42_method_155_code 2 none IN (FN n0 R_schk Q) h cells slots pc Ls st
abbrev GW_schk (l : Launch) (Z : State) (EL : List (String × Nat)) (s₀ : State) (n0 : Nat) (Q : Option Value → Heap → Prop) (lo : Nat) (Sf : List Addr) (h : Heap) (cells slots pc : Nat) (Ls : Array Slot) (st : List Value) : Prop := Go l Z n0 R_schk "java/lang/String" "checkIndex" jdk_42_method_155_code 2 none (IW Z EL s₀ lo Sf) (FW Z EL s₀ n0 R_schk Q) h cells slots pc Ls st
theorem pf_schk : plainFor (⟨"java/lang/String", "checkIndex", "(II)V"⟩ : MethodName) = true := plainFor_of_name (by first | (simp [plainName, overriddenIn]; done) | decide +kernel)
theorem ct_schk (l : Launch) (Z : State) (a0 : Array Value) (hw : ∀ d ∈ tables_1, d.before a0 Z = true) (n0 : Nat) (i n : Int32) (h0 : Heap) (O : Old Z n0 h0) (vf : Value) (hvf : vf.isRef = true) (S_f : Sta Z Z.heap "jdk/internal/util/Preconditions" "SIOOBE_FORMATTER" "Ljava/util/function/BiFunction;" vf) (hq : ¬ i < 0 ∧ i < n) : Ct l Z n0 "java/lang/String" "checkIndex" "(II)V" [] jdk_42_method_155_code 2 none R_schk #[.int i, .int n] h0 (fun v h => v = none ∧ h0 = h) := by
  refine Ct.of_go pf_schk (Ls := #[.val (.int i), .val (.int n)]) (fun m => by first | rfl | (simp [entryFrame, mkF, argsToLocals, Value.category]; done)) ?_
  show GM_schk l Z n0 (fun v h => v = none ∧ h0 = h) h0 0 0 0 #[.val (.int i), .val (.int n)] []
  refine Go.iloadN d_schk_0 rfl ?_
  refine Go.iloadN d_schk_1 rfl ?_
  refine Go.getS (wd_180 hw) Via.refl (S_f.ext O.2) d_schk_2 ?_
  -- at pc 5: pc 5: invokestatic .invokestatic 1059 stack [vf, (.int n), (.int i)]
  refine Go.callS (I' := IN) (hI := nQ) [(.int i), (.int n), vf] [] (ct_pchk l Z a0 hw n0 i n vf hvf _ hq) (wd_182 hw) (wd_183 hw) (wd_181 hw) (wd_184 hw) (by decide) pd_18 rfl rfl rfl (Nat.le_of_ble_eq_true rfl) (Nat.le_of_ble_eq_true rfl) (Nat.le_of_ble_eq_true rfl) (Nat.le_of_ble_eq_true rfl) d_schk_5 ?_
  rintro _ _ ⟨rfl, rfl⟩
  show GM_schk l Z n0 (fun v h => v = none ∧ h0 = h) h0 0 0 8 #[.val (.int i), .val (.int n)] [(.int i)]
  refine Go.pop d_schk_8 rfl ?_
  -- at pc 9: pc 9: return .return_ stack []
  exact Go.return_ d_schk_9 rfl (by decide) (by decide) ⟨rfl, rfl⟩
theorem d_lchr_0 : decode jdk_43_method_2_code 0 = .ok (.iload_n 1, 1) := by decide +kernel
theorem d_lchr_1 : decode jdk_43_method_2_code 1 = .ok (.aload_n 0, 1) := by decide +kernel
theorem d_lchr_2 : decode jdk_43_method_2_code 2 = .ok (.arraylength, 1) := by decide +kernel
theorem d_lchr_3 : decode jdk_43_method_2_code 3 = .ok (.invokestatic 9, 3) := by decide +kernel
theorem d_lchr_6 : decode jdk_43_method_2_code 6 = .ok (.aload_n 0, 1) := by decide +kernel
theorem d_lchr_7 : decode jdk_43_method_2_code 7 = .ok (.iload_n 1, 1) := by decide +kernel
theorem d_lchr_8 : decode jdk_43_method_2_code 8 = .ok (.baload, 1) := by decide +kernel
theorem d_lchr_9 : decode jdk_43_method_2_code 9 = .ok (.sipush 255, 3) := by decide +kernel
theorem d_lchr_12 : decode jdk_43_method_2_code 12 = .ok (.iand, 1) := by decide +kernel
theorem d_lchr_13 : decode jdk_43_method_2_code 13 = .ok (.i2c, 1) := by decide +kernel
theorem d_lchr_14 : decode jdk_43_method_2_code 14 = .ok (.ireturn, 1) := by decide +kernel
abbrev R_lchr : Room := ({ frames := 2, cells := 0, slots := 0, locals := 27 } : Room)
abbrev GM_lchr (l : Launch) (Z : State) (n0 : Nat) (Q : Option Value → Heap → Prop) (h : Heap) (cells slots pc : Nat) (Ls : Array Slot) (st : List Value) : Prop := Go l Z n0 R_lchr "java/lang/StringLatin1" "charAt" jdk_43_method_2_code 2 (some .char) IN (FN n0 R_lchr Q) h cells slots pc Ls st
abbrev GW_lchr (l : Launch) (Z : State) (EL : List (String × Nat)) (s₀ : State) (n0 : Nat) (Q : Option Value → Heap → Prop) (lo : Nat) (Sf : List Addr) (h : Heap) (cells slots pc : Nat) (Ls : Array Slot) (st : List Value) : Prop := Go l Z n0 R_lchr "java/lang/StringLatin1" "charAt" jdk_43_method_2_code 2 (some .char) (IW Z EL s₀ lo Sf) (FW Z EL s₀ n0 R_lchr Q) h cells slots pc Ls st
theorem pf_lchr : plainFor (⟨"java/lang/StringLatin1", "charAt", "([BI)C"⟩ : MethodName) = true := plainFor_of_name (by first | (simp [plainName, overriddenIn]; done) | decide +kernel)
theorem ct_lchr (l : Launch) (Z : State) (a0 : Array Value) (hw : ∀ d ∈ tables_1, d.before a0 Z = true) (n0 : Nat) (t : Addr) (kt : ClassId) (bs : List Int32) (j : Nat) (b c : Int32) (h0 : Heap) (O : Old Z n0 h0) (vf : Value) (hvf : vf.isRef = true) (S_f : Sta Z Z.heap "jdk/internal/util/Preconditions" "SIOOBE_FORMATTER" "Ljava/util/function/BiFunction;" vf) (V_t : Arv Z h0 t kt .byte (Int32.ofNat bs.length) (bs.map Value.int) (.int (0 : Int32))) (hl : bs.length < 2 ^ 31) (hj : bs[j]? = some b) (hc : own_ch b = c) : Ct l Z n0 "java/lang/StringLatin1" "charAt" "([BI)C" [] jdk_43_method_2_code 2 (some .char) R_lchr #[.ref t, .int (Int32.ofNat j)] h0 (fun v h => v = some (.int c) ∧ h0 = h) := by
  have hjl : j < bs.length := (List.getElem?_eq_some_iff.mp hj).1
  have hq := own_idx hjl hl
  refine Ct.of_go pf_lchr (Ls := #[.val (.ref t), .val (.int (Int32.ofNat j))]) (fun m => by first | rfl | (simp [entryFrame, mkF, argsToLocals, Value.category]; done)) ?_
  show GM_lchr l Z n0 (fun v h => v = some (.int c) ∧ h0 = h) h0 0 0 0 #[.val (.ref t), .val (.int (Int32.ofNat j))] []
  refine Go.iloadN d_lchr_0 rfl ?_
  refine Go.aloadN d_lchr_1 rfl rfl ?_
  refine Go.arraylength V_t d_lchr_2 ?_
  -- at pc 3: pc 3: invokestatic .invokestatic 9 stack [(.int (Int32.ofNat bs.length)), (.int (Int32.ofNat j))]
  refine Go.callS (I' := IN) (hI := nQ) [(.int (Int32.ofNat j)), (.int (Int32.ofNat bs.length))] [] (ct_schk l Z a0 hw n0 (Int32.ofNat j) (Int32.ofNat bs.length) _ O vf hvf S_f hq) (wd_177 hw) (wd_178 hw) (wd_10 hw) (wd_179 hw) (by decide) pd_11 rfl rfl rfl (Nat.le_of_ble_eq_true rfl) (Nat.le_of_ble_eq_true rfl) (Nat.le_of_ble_eq_true rfl) (Nat.le_of_ble_eq_true rfl) d_lchr_3 ?_
  rintro _ _ ⟨rfl, rfl⟩
  show GM_lchr l Z n0 (fun v h => v = some (.int c) ∧ h0 = h) h0 0 0 6 #[.val (.ref t), .val (.int (Int32.ofNat j))] []
  refine Go.aloadN d_lchr_6 rfl rfl ?_
  refine Go.iloadN d_lchr_7 rfl ?_
  refine Go.baload (.int b) V_t hq (by rw [own_clamp (by omega), List.getD_eq_getElem?_getD, List.getElem?_map, hj]; rfl) d_lchr_8 ?_
  refine Go.sipush 255 d_lchr_9 rfl ?_
  refine Go.iand d_lchr_12 ?_
  refine Go.i2c d_lchr_13 ?_
  rw [show ((b &&& (255 : Int32)).toUInt32.toUInt16.toUInt32.toInt32) = c from hc]
  have hc2 : c.toUInt32.toUInt16.toUInt32.toInt32 = c := by rw [← hc]; show (own_ch b).toUInt32.toUInt16.toUInt32.toInt32 = _; unfold own_ch; rw [i2c_mask, i2c_mask]
  exact Go.nreturn .char d_lchr_14 rfl (by simp) (by decide) (by decide) ⟨congrArg (fun q => some (Value.int q)) hc2, rfl⟩
theorem d_isLs_0 : decode jdk_42_method_154_code 0 = .ok (.getstatic 38, 3) := by decide +kernel
theorem d_isLs_3 : decode jdk_42_method_154_code 3 = .ok (.ifCond .eq 14, 3) := by decide +kernel
theorem d_isLs_6 : decode jdk_42_method_154_code 6 = .ok (.aload_n 0, 1) := by decide +kernel
theorem d_isLs_7 : decode jdk_42_method_154_code 7 = .ok (.getfield 15, 3) := by decide +kernel
theorem d_isLs_10 : decode jdk_42_method_154_code 10 = .ok (.ifCond .ne 7, 3) := by decide +kernel
theorem d_isLs_13 : decode jdk_42_method_154_code 13 = .ok (.iconst 1, 1) := by decide +kernel
theorem d_isLs_14 : decode jdk_42_method_154_code 14 = .ok (.goto 4, 3) := by decide +kernel
theorem d_isLs_18 : decode jdk_42_method_154_code 18 = .ok (.ireturn, 1) := by decide +kernel
abbrev R_isLs : Room := ({ frames := 0, cells := 0, slots := 0, locals := 0 } : Room)
abbrev GM_isLs (l : Launch) (Z : State) (n0 : Nat) (Q : Option Value → Heap → Prop) (h : Heap) (cells slots pc : Nat) (Ls : Array Slot) (st : List Value) : Prop := Go l Z n0 R_isLs "java/lang/String" "isLatin1" jdk_42_method_154_code 1 (some .boolean) IN (FN n0 R_isLs Q) h cells slots pc Ls st
abbrev GW_isLs (l : Launch) (Z : State) (EL : List (String × Nat)) (s₀ : State) (n0 : Nat) (Q : Option Value → Heap → Prop) (lo : Nat) (Sf : List Addr) (h : Heap) (cells slots pc : Nat) (Ls : Array Slot) (st : List Value) : Prop := Go l Z n0 R_isLs "java/lang/String" "isLatin1" jdk_42_method_154_code 1 (some .boolean) (IW Z EL s₀ lo Sf) (FW Z EL s₀ n0 R_isLs Q) h cells slots pc Ls st
theorem pf_isLs : plainFor (⟨"java/lang/String", "isLatin1", "()Z"⟩ : MethodName) = true := plainFor_of_name (by first | (simp [plainName, overriddenIn]; done) | decide +kernel)
theorem ct_isLs (l : Launch) (Z : State) (a0 : Array Value) (hw : ∀ d ∈ tables_1, d.before a0 Z = true) (n0 : Nat) (x : Addr) (h0 : Heap) (O : Old Z n0 h0) (z : Int32) (S_cs : Sta Z Z.heap "java/lang/String" "COMPACT_STRINGS" "Z" (.int z)) (hcs : ¬ z = 0) (F_x_coder : Fld Z h0 x "java/lang/String" "coder" "B" (.int (0 : Int32))) : Ct l Z n0 "java/lang/String" "isLatin1" "()Z" [] jdk_42_method_154_code 1 (some .boolean) R_isLs #[.ref x] h0 (fun v h => v = some (.int (1 : Int32)) ∧ h0 = h) := by
  refine Ct.of_go pf_isLs (Ls := #[.val (.ref x)]) (fun m => by first | rfl | (simp [entryFrame, mkF, argsToLocals, Value.category]; done)) ?_
  show GM_isLs l Z n0 (fun v h => v = some (.int (1 : Int32)) ∧ h0 = h) h0 0 0 0 #[.val (.ref x)] []
  refine Go.getS (wd_111 hw) Via.refl (S_cs.ext O.2) d_isLs_0 ?_
  -- at pc 3: pc 3: ifCond .ifCond .eq 14 stack [(.int z)]
  -- not: z = (0 : Int32)
  refine Go.ifF d_isLs_3 (feq (hcs)).1 ?_
  refine Go.aloadN d_isLs_6 rfl rfl ?_
  refine Go.getF (wd_29 hw) Via.refl F_x_coder d_isLs_7 ?_
  -- at pc 10: pc 10: ifCond .ifCond .ne 7 stack [(.int (0 : Int32))]
  -- (0 : Int32) = (0 : Int32)
  refine Go.ifF d_isLs_10 (teq (rfl)).2 ?_
  refine Go.iconst 1 d_isLs_13 rfl ?_
  refine Go.goto 18 d_isLs_14 (by decide) (by decide) ?_
  -- at pc 18: pc 18: ireturn .ireturn stack [(.int (1 : Int32))]
  exact Go.nreturn .boolean d_isLs_18 rfl (by simp) (by decide) (by decide) ⟨rfl, rfl⟩
theorem d_chr_0 : decode jdk_42_method_56_code 0 = .ok (.aload_n 0, 1) := by decide +kernel
theorem d_chr_1 : decode jdk_42_method_56_code 1 = .ok (.invokevirtual 492, 3) := by decide +kernel
theorem d_chr_4 : decode jdk_42_method_56_code 4 = .ok (.ifCond .eq 12, 3) := by decide +kernel
theorem d_chr_7 : decode jdk_42_method_56_code 7 = .ok (.aload_n 0, 1) := by decide +kernel
theorem d_chr_8 : decode jdk_42_method_56_code 8 = .ok (.getfield 9, 3) := by decide +kernel
theorem d_chr_11 : decode jdk_42_method_56_code 11 = .ok (.iload_n 1, 1) := by decide +kernel
theorem d_chr_12 : decode jdk_42_method_56_code 12 = .ok (.invokestatic 495, 3) := by decide +kernel
theorem d_chr_15 : decode jdk_42_method_56_code 15 = .ok (.ireturn, 1) := by decide +kernel
abbrev R_chr : Room := ({ frames := 3, cells := 0, slots := 0, locals := 40 } : Room)
abbrev GM_chr (l : Launch) (Z : State) (n0 : Nat) (Q : Option Value → Heap → Prop) (h : Heap) (cells slots pc : Nat) (Ls : Array Slot) (st : List Value) : Prop := Go l Z n0 R_chr "java/lang/String" "charAt" jdk_42_method_56_code 2 (some .char) IN (FN n0 R_chr Q) h cells slots pc Ls st
abbrev GW_chr (l : Launch) (Z : State) (EL : List (String × Nat)) (s₀ : State) (n0 : Nat) (Q : Option Value → Heap → Prop) (lo : Nat) (Sf : List Addr) (h : Heap) (cells slots pc : Nat) (Ls : Array Slot) (st : List Value) : Prop := Go l Z n0 R_chr "java/lang/String" "charAt" jdk_42_method_56_code 2 (some .char) (IW Z EL s₀ lo Sf) (FW Z EL s₀ n0 R_chr Q) h cells slots pc Ls st
theorem pf_chr : plainFor (⟨"java/lang/String", "charAt", "(I)C"⟩ : MethodName) = true := plainFor_of_name (by first | (simp [plainName, overriddenIn]; done) | decide +kernel)
theorem ct_chr (l : Launch) (Z : State) (a0 : Array Value) (hw : ∀ d ∈ tables_1, d.before a0 Z = true) (n0 : Nat) (x t : Addr) (kt : ClassId) (bs : List Int32) (j : Nat) (b c : Int32) (h0 : Heap) (O : Old Z n0 h0) (z : Int32) (S_cs : Sta Z Z.heap "java/lang/String" "COMPACT_STRINGS" "Z" (.int z)) (hcs : ¬ z = 0) (vf : Value) (hvf : vf.isRef = true) (S_f : Sta Z Z.heap "jdk/internal/util/Preconditions" "SIOOBE_FORMATTER" "Ljava/util/function/BiFunction;" vf) (B : Byt Z h0 x t kt bs) (hl : bs.length < 2 ^ 31) (hj : bs[j]? = some b) (hc : own_ch b = c) : Ct l Z n0 "java/lang/String" "charAt" "(I)C" [] jdk_42_method_56_code 2 (some .char) R_chr #[.ref x, .int (Int32.ofNat j)] h0 (fun v h => v = some (.int c) ∧ h0 = h) := by
  have hc2 : c.toUInt32.toUInt16.toUInt32.toInt32 = c := by rw [← hc]; show (own_ch b).toUInt32.toUInt16.toUInt32.toInt32 = _; unfold own_ch; rw [i2c_mask, i2c_mask]
  obtain ⟨E_x, F_x_coder, F_x_value, V_t⟩ := B
  refine Ct.of_go pf_chr (Ls := #[.val (.ref x), .val (.int (Int32.ofNat j))]) (fun m => by first | rfl | (simp [entryFrame, mkF, argsToLocals, Value.category]; done)) ?_
  show GM_chr l Z n0 (fun v h => v = some (.int c) ∧ h0 = h) h0 0 0 0 #[.val (.ref x), .val (.int (Int32.ofNat j))] []
  refine Go.aloadN d_chr_0 rfl rfl ?_
  -- at pc 1: pc 1: invokevirtual .invokevirtual 492 stack [(.ref x)]
  refine Go.callV (I' := IN) (hI := nQ) x [] [] (ct_isLs l Z a0 hw n0 x _ O z S_cs hcs F_x_coder) E_x (wd_169 hw) (wd_170 hw) (nf_sel (wd_172 hw)) (wd_172 hw) (wd_171 hw) (wd_10 hw) (wd_173 hw) (by decide) pd_15 rfl rfl rfl (Nat.le_of_ble_eq_true rfl) (Nat.le_of_ble_eq_true rfl) (Nat.le_of_ble_eq_true rfl) (Nat.le_of_ble_eq_true rfl) d_chr_1 ?_
  rintro _ _ ⟨rfl, rfl⟩
  show GM_chr l Z n0 (fun v h => v = some (.int c) ∧ h0 = h) h0 0 0 4 #[.val (.ref x), .val (.int (Int32.ofNat j))] [(.int (1 : Int32))]
  -- at pc 4: pc 4: ifCond .ifCond .eq 12 stack [(.int (1 : Int32))]
  -- not: (1 : Int32) = (0 : Int32)
  refine Go.ifF d_chr_4 (feq (by decide)).1 ?_
  refine Go.aloadN d_chr_7 rfl rfl ?_
  refine Go.getF (wd_28 hw) Via.refl F_x_value d_chr_8 ?_
  refine Go.iloadN d_chr_11 rfl ?_
  -- at pc 12: pc 12: invokestatic .invokestatic 495 stack [(.int (Int32.ofNat j)), (.ref t)]
  refine Go.callS (I' := IN) (hI := nQ) [(.ref t), (.int (Int32.ofNat j))] [] (ct_lchr l Z a0 hw n0 t kt bs j b c _ O vf hvf S_f V_t hl hj hc) (wd_174 hw) (wd_175 hw) (wd_132 hw) (wd_176 hw) (by decide) pd_19 rfl rfl rfl (Nat.le_of_ble_eq_true rfl) (Nat.le_of_ble_eq_true rfl) (Nat.le_of_ble_eq_true rfl) (Nat.le_of_ble_eq_true rfl) d_chr_12 ?_
  rintro _ _ ⟨rfl, rfl⟩
  show GM_chr l Z n0 (fun v h => v = some (.int c) ∧ h0 = h) h0 0 0 15 #[.val (.ref x), .val (.int (Int32.ofNat j))] [(.int c)]
  exact Go.nreturn .char d_chr_15 rfl (by simp) (by decide) (by decide) ⟨congrArg (fun q => some (Value.int q)) hc2, rfl⟩
abbrev own_b (c : Int32) : Int32 := c.toInt8.toInt32
abbrev own_c1 (x : Int32) : Int32 := ((x.toUInt32 >>> ((8 : Int32) &&& 31).toUInt32).toInt32) &&& (255 : Int32)
def cC (len c : Int32) : List Int32 := if len = 0 then [] else if len = 1 then [c &&& (255 : Int32)] else [c &&& (255 : Int32), own_c1 c]
def cel (u len c : Int32) : List Int32 := if u = 0 then cC len c else []
/-- null, or a String: its chars -/
def Cel (Z : State) (h : Heap) (v : Value) (cs : List Int32) : Prop := (v = .null ∧ cs = []) ∨ ∃ (a t : Addr) (k : ClassId), v = .ref a ∧ Byt Z h a t k (cs.map own_b)
theorem Cel.keep {Z : State} {h h' : Heap} {v : Value} {cs : List Int32} (F : Cel Z h v cs) (K : Keep h h' []) : Cel Z h' v cs := F.imp id fun ⟨a, t, k, e, B⟩ => ⟨a, t, k, e, B.keep K nin0 nin0⟩
theorem Cel.isRef {Z : State} {h : Heap} {v : Value} {cs : List Int32} (F : Cel Z h v cs) : v.isRef = true := by rcases F with ⟨rfl, -⟩ | ⟨a, t, k, rfl, -⟩ <;> rfl
theorem Cel.sto {Z : State} {h : Heap} {v : Value} {cs : List Int32} {a : Addr} {k : ClassId} (F : Cel Z h v cs) (OO : Ovr Z k "java/lang/String") : ∀ c : Cell, Arr Z h a c (.object "java/lang/String") → c.cls = k → Sto Z h a v := fun c A q => by
  rcases F with ⟨rfl, -⟩ | ⟨a, t, k, rfl, B⟩
  · exact Or.inl rfl
  · exact Sto.ofV A q OO (Ins.self B.1)
def Cels (Z : State) (h : Heap) : List Value → List (List Int32) → Prop
  | [], [] => True
  | v :: vr, c :: cr => Cel Z h v c ∧ Cels Z h vr cr
  | [], _ :: _ => False
  | _ :: _, [] => False
def jn : Nat → List (List Int32) → List Int32
  | _, [] => []
  | i, c :: r => (if i = 0 then [] else [9]) ++ c ++ jn (i + 1) r
theorem own_nar255 (y : Int32) : nar .char (y &&& (255 : Int32)) = y &&& 255 := i2c_mask y
theorem own_of1 (n : Nat) : Int32.ofNat n + (1 : Int32) = Int32.ofNat (n + 1) := (Int32.ofNat_add n 1).symm
theorem own_cnt1 (P : List Int32) (c : Int32) : Int32.ofNat P.length + (1 : Int32) = Int32.ofNat (P ++ [c]).length := by rw [own_of1, List.length_append]; rfl
theorem own_setp {Z : State} {h : Heap} {va : Addr} {kv : ClassId} {ty : FieldType} {n : Int32} {m : Nat} {cs : List Int32} {b : Int32} (hm : cs.length < m) (V : Arv Z h va kv ty n ((cs.map Value.int ++ List.replicate (m - cs.length) (Value.int 0)).set cs.length (.int b)) (.int (0 : Int32))) : Arv Z h va kv ty n ((cs ++ [b]).map Value.int) (.int (0 : Int32)) := by
  have e : (cs.map Value.int ++ List.replicate (m - cs.length) (Value.int 0)).set cs.length (.int b) = (cs ++ [b]).map Value.int ++ List.replicate (m - cs.length - 1) (Value.int 0) := by
    rw [List.set_append_right _ _ (by simp)]
    obtain ⟨j, hj⟩ : ∃ j, m - cs.length = j + 1 := ⟨m - cs.length - 1, by omega⟩
    rw [hj]; simp [List.replicate_succ]
  rw [e] at V
  exact V.pad fun i => (pad_rep _ _ _ i).symm
theorem own_irr (x : Int32) : ¬ x < x := by rw [Int32.lt_iff_toInt_lt]; omega
theorem own_pos {n : Nat} (h : 0 < n) (h2 : n < 2 ^ 31) : (0 : Int32) < Int32.ofNat n := by rw [Int32.lt_iff_toInt_lt, own_ofInt h2]; show (0 : Int) < n; omega
theorem own_ltn {n m : Nat} (h1 : n < 2 ^ 31) (h2 : m < 2 ^ 31) (h : Int32.ofNat n < Int32.ofNat m) : n < m := by rw [Int32.lt_iff_toInt_lt, own_ofInt h1, own_ofInt h2] at h; omega
theorem own_cle (u len c : Int32) : (cel u len c).length ≤ 2 := by unfold cel cC; split <;> (try split) <;> (try split) <;> simp
theorem own_ok9 : own_ch (own_b 9) = 9 := by decide
theorem own_celok (u len c : Int32) : ∀ y ∈ cel u len c, own_ch (own_b y) = y := by
  unfold cel cC
  intro y hy
  split at hy
  · split at hy
    · cases hy
    · split at hy
      · rw [List.mem_singleton] at hy; subst hy; exact own_ch8 _
      · rw [List.mem_cons, List.mem_singleton] at hy; rcases hy with rfl | rfl <;> exact own_ch8 _
  · cases hy
theorem d_cell_0 : decode method_3_code 0 = .ok (.iload_n 1, 1) := by decide +kernel
theorem d_cell_1 : decode method_3_code 1 = .ok (.sipush 255, 3) := by decide +kernel
theorem d_cell_4 : decode method_3_code 4 = .ok (.iand, 1) := by decide +kernel
theorem d_cell_5 : decode method_3_code 5 = .ok (.i2c, 1) := by decide +kernel
theorem d_cell_6 : decode method_3_code 6 = .ok (.istore_n 2, 1) := by decide +kernel
theorem d_cell_7 : decode method_3_code 7 = .ok (.iload_n 1, 1) := by decide +kernel
theorem d_cell_8 : decode method_3_code 8 = .ok (.bipush 8, 2) := by decide +kernel
theorem d_cell_10 : decode method_3_code 10 = .ok (.iushr, 1) := by decide +kernel
theorem d_cell_11 : decode method_3_code 11 = .ok (.sipush 255, 3) := by decide +kernel
theorem d_cell_14 : decode method_3_code 14 = .ok (.iand, 1) := by decide +kernel
theorem d_cell_15 : decode method_3_code 15 = .ok (.i2c, 1) := by decide +kernel
theorem d_cell_16 : decode method_3_code 16 = .ok (.istore_n 3, 1) := by decide +kernel
theorem d_cell_17 : decode method_3_code 17 = .ok (.iload_n 0, 1) := by decide +kernel
theorem d_cell_18 : decode method_3_code 18 = .ok (.ifCond .ne 14, 3) := by decide +kernel
theorem d_cell_21 : decode method_3_code 21 = .ok (.new 19, 3) := by decide +kernel
theorem d_cell_24 : decode method_3_code 24 = .ok (.dup, 1) := by decide +kernel
theorem d_cell_25 : decode method_3_code 25 = .ok (.iconst 0, 1) := by decide +kernel
theorem d_cell_26 : decode method_3_code 26 = .ok (.newarray .char, 2) := by decide +kernel
theorem d_cell_28 : decode method_3_code 28 = .ok (.invokespecial 39, 3) := by decide +kernel
theorem d_cell_31 : decode method_3_code 31 = .ok (.areturn, 1) := by decide +kernel
theorem d_cell_32 : decode method_3_code 32 = .ok (.iload_n 0, 1) := by decide +kernel
theorem d_cell_33 : decode method_3_code 33 = .ok (.iconst 1, 1) := by decide +kernel
theorem d_cell_34 : decode method_3_code 34 = .ok (.if_icmp .ne 8, 3) := by decide +kernel
theorem d_cell_37 : decode method_3_code 37 = .ok (.iload_n 2, 1) := by decide +kernel
theorem d_cell_38 : decode method_3_code 38 = .ok (.invokestatic 42, 3) := by decide +kernel
theorem d_cell_41 : decode method_3_code 41 = .ok (.areturn, 1) := by decide +kernel
theorem d_cell_42 : decode method_3_code 42 = .ok (.new 19, 3) := by decide +kernel
theorem d_cell_45 : decode method_3_code 45 = .ok (.dup, 1) := by decide +kernel
theorem d_cell_46 : decode method_3_code 46 = .ok (.iconst 2, 1) := by decide +kernel
theorem d_cell_47 : decode method_3_code 47 = .ok (.newarray .char, 2) := by decide +kernel
theorem d_cell_49 : decode method_3_code 49 = .ok (.dup, 1) := by decide +kernel
theorem d_cell_50 : decode method_3_code 50 = .ok (.iconst 0, 1) := by decide +kernel
theorem d_cell_51 : decode method_3_code 51 = .ok (.iload_n 2, 1) := by decide +kernel
theorem d_cell_52 : decode method_3_code 52 = .ok (.castore, 1) := by decide +kernel
theorem d_cell_53 : decode method_3_code 53 = .ok (.dup, 1) := by decide +kernel
theorem d_cell_54 : decode method_3_code 54 = .ok (.iconst 1, 1) := by decide +kernel
theorem d_cell_55 : decode method_3_code 55 = .ok (.iload_n 3, 1) := by decide +kernel
theorem d_cell_56 : decode method_3_code 56 = .ok (.castore, 1) := by decide +kernel
theorem d_cell_57 : decode method_3_code 57 = .ok (.invokespecial 39, 3) := by decide +kernel
theorem d_cell_60 : decode method_3_code 60 = .ok (.areturn, 1) := by decide +kernel
abbrev R_cell : Room := ({ frames := 4, cells := 6, slots := 12, locals := 66 } : Room)
abbrev GM_cell (l : Launch) (Z : State) (n0 : Nat) (Q : Option Value → Heap → Prop) (h : Heap) (cells slots pc : Nat) (Ls : Array Slot) (st : List Value) : Prop := Go l Z n0 R_cell "com/example/triplecast/triplecast/rdf/SparqlTsvRowPinLaw" "cell" method_3_code 4 (some (.object "java/lang/String")) IN (FN n0 R_cell Q) h cells slots pc Ls st
abbrev GW_cell (l : Launch) (Z : State) (EL : List (String × Nat)) (s₀ : State) (n0 : Nat) (Q : Option Value → Heap → Prop) (lo : Nat) (Sf : List Addr) (h : Heap) (cells slots pc : Nat) (Ls : Array Slot) (st : List Value) : Prop := Go l Z n0 R_cell "com/example/triplecast/triplecast/rdf/SparqlTsvRowPinLaw" "cell" method_3_code 4 (some (.object "java/lang/String")) (IW Z EL s₀ lo Sf) (FW Z EL s₀ n0 R_cell Q) h cells slots pc Ls st
theorem pf_cell : plainFor (⟨"com/example/triplecast/triplecast/rdf/SparqlTsvRowPinLaw", "cell", "(II)Ljava/lang/String;"⟩ : MethodName) = true := plainFor_of_name (by first | (simp [plainName, overriddenIn]; done) | decide +kernel)
set_option maxRecDepth 65536 in
set_option maxHeartbeats 4000000 in
theorem ctw_cell (l : Launch) (Z : State) (a0 : Array Value) (hw : ∀ d ∈ tables_1, d.before a0 Z = true) (n0 : Nat) (m x : Int32) (h0 : Heap) (hz : n0 ≤ h0.size) (O : Old Z n0 h0) (z : Int32) (S_cs : Sta Z Z.heap "java/lang/String" "COMPACT_STRINGS" "Z" (.int z)) (hcs : ¬ z = 0) :
    CtW l Z EL n0 "com/example/triplecast/triplecast/rdf/SparqlTsvRowPinLaw" "cell" "(II)Ljava/lang/String;" [] method_3_code 4 (some (.object "java/lang/String")) R_cell #[.int m, .int x] h0 [] (fun v h => ∃ (s t : Addr) (k : ClassId), v = some (.ref s) ∧ Keep h0 h [] ∧ Str Z h s t k (cC m x)) := by
  refine CtW.of_go pf_cell (Ls := #[.val (.int m), .val (.int x), .unset, .unset]) (fun m => by first | rfl | (simp [entryFrame, mkF, argsToLocals, Value.category]; done)) fun s₀ => ?_
  have hlo : h0.size ≤ h0.size := Nat.le_refl _
  have hEL : EW Z a0 EL := ewEL hw
  show GW_cell l Z EL s₀ n0 (fun v h => ∃ (s t : Addr) (k : ClassId), v = some (.ref s) ∧ Keep h0 h [] ∧ Str Z h s t k (cC m x)) h0.size [] h0 0 0 0 #[.val (.int m), .val (.int x), .unset, .unset] []
  have KK : Keep h0 h0 [] := Keep.refl _ _
  refine Go.iloadN d_cell_0 rfl ?_
  refine Go.sipush 255 d_cell_1 rfl ?_
  refine Go.iand d_cell_4 ?_
  refine Go.i2c d_cell_5 ?_
  rw [show ((x &&& (255 : Int32)).toUInt32.toUInt16.toUInt32.toInt32) = (x &&& (255 : Int32)) from (i2c_mask x)]
  refine Go.istoreN (Ls' := #[.val (.int m), .val (.int x), .val (.int (x &&& (255 : Int32))), .unset]) d_cell_6 rfl ?_
  refine Go.iloadN d_cell_7 rfl ?_
  refine Go.bipush 8 d_cell_8 rfl ?_
  refine Go.iushr d_cell_10 ?_
  refine Go.sipush 255 d_cell_11 rfl ?_
  refine Go.iand d_cell_14 ?_
  refine Go.i2c d_cell_15 ?_
  rw [show ((((x.toUInt32 >>> ((8 : Int32) &&& 31).toUInt32).toInt32) &&& (255 : Int32)).toUInt32.toUInt16.toUInt32.toInt32) = (((x.toUInt32 >>> ((8 : Int32) &&& 31).toUInt32).toInt32) &&& (255 : Int32)) from (i2c_mask _)]
  refine Go.istoreN (Ls' := #[.val (.int m), .val (.int x), .val (.int (x &&& (255 : Int32))), .val (.int (((x.toUInt32 >>> ((8 : Int32) &&& 31).toUInt32).toInt32) &&& (255 : Int32)))]) d_cell_16 rfl ?_
  refine Go.iloadN d_cell_17 rfl ?_
  -- at pc 18: pc 18: ifCond .ifCond .ne 14 stack [(.int m)]
  by_cases h36 : m = (0 : Int32)
  · refine Go.ifF d_cell_18 (teq h36).2 ?_
    -- at pc 21: pc 21: new .new 19 stack []
    refine Go.new (I' := IW Z EL s₀ h0.size []) (hI := wE) (wd_8 hw) (wd_9 hw) (wd_10 hw) d_cell_21 (by decide) (by decide) fun hp46 s e_s X46 E_s D46 => ?_
    have K46 : Keep h0 hp46 [] := (Keep.refl _ _).ext X46
    have g_s : n0 ≤ s := e_s ▸ hz
    have l_s : h0.size ≤ s := e_s ▸ hlo
    have s_s : h0.size ≤ s := e_s ▸ KK.1
    replace O := O.keep K46 (all0)
    have F_s_value : Fld Z hp46 s "java/lang/String" "value" "[B" .null := D46 (Or.inr (wd_24 hw)) (ty := (.array .byte)) (by decide)
    have F_s_coder : Fld Z hp46 s "java/lang/String" "coder" "B" (.int (0 : Int32)) := D46 (Or.inr (wd_25 hw)) (ty := .byte) (by decide)
    replace hz : n0 ≤ hp46.size := Nat.le_trans hz K46.1
    replace hlo : h0.size ≤ hp46.size := Nat.le_trans hlo K46.1
    replace KK : Keep h0 hp46 [] := KK.trans K46 (all0)
    refine Go.dup d_cell_24 rfl ?_
    refine Go.iconst 0 d_cell_25 rfl ?_
    -- at pc 26: pc 26: newarray .newarray .char stack [(.int (0 : Int32)), (.ref s), (.ref s)]
    refine Go.newP (I' := IW Z EL s₀ h0.size []) (hI := wE) .char (wd_11 hw) rfl d_cell_26 (by decide) 0 (by decide) (by decide) (by decide) (by decide) fun hp47 b k_b e_b X47 V_b => ?_
    have K47 : Keep hp46 hp47 [] := (Keep.refl _ _).ext X47
    have g_b : n0 ≤ b := e_b ▸ hz
    have l_b : h0.size ≤ b := e_b ▸ hlo
    have s_b : h0.size ≤ b := e_b ▸ KK.1
    have ne_s_b : s ≠ b := Nat.ne_of_lt (e_b ▸ E_s.lt)
    replace O := O.keep K47 (all0)
    replace E_s := E_s.keep K47
    replace F_s_value := F_s_value.keep K47 nin0
    replace F_s_coder := F_s_coder.keep K47 nin0
    replace V_b : Arv Z hp47 b k_b .char (0 : Int32) [] (.int (0 : Int32)) := V_b.pad (pad_rep [] (.int (0 : Int32)) 0)
    replace hz : n0 ≤ hp47.size := Nat.le_trans hz K47.1
    replace hlo : h0.size ≤ hp47.size := Nat.le_trans hlo K47.1
    replace KK : Keep h0 hp47 [] := KK.trans K47 (all0)
    -- at pc 28: pc 28: invokespecial .invokespecial 39 stack [(.ref b), (.ref s), (.ref s)]
    refine GW.callI [] [s] s [(.ref b)] [(.ref s)] (ctw_si1E l Z a0 hw n0 s b k_b _ _ g_s E_s F_s_value F_s_coder V_b) hEL (allS ⟨Or.inl l_s, E_s.lt⟩ all0) all0 (wd_12 hw) (wd_13 hw) (wd_10 hw) (wd_14 hw) (by decide) pd_20 rfl rfl rfl (Nat.le_of_ble_eq_true rfl) (Nat.le_of_ble_eq_true rfl) (Nat.le_of_ble_eq_true rfl) (Nat.le_of_ble_eq_true rfl) d_cell_28 ?_
    rintro _ hp48 ⟨rfl, K48, t, kt, hS⟩ hgr48
    replace O := O.keep K48 (allS g_s (all0))
    replace E_s := E_s.keep K48
    replace V_b := V_b.keep K48 (ninS (Ne.symm ne_s_b) nin0)
    replace hz : n0 ≤ hp48.size := Nat.le_trans hz K48.1
    replace hlo : h0.size ≤ hp48.size := Nat.le_trans hlo K48.1
    replace KK : Keep h0 hp48 [] := KK.trans K48 (allS (Or.inr s_s) (all0))
    replace hlo : hp48.size ≤ hp48.size := Nat.le_refl _
    show GW_cell l Z EL s₀ n0 (fun v h => ∃ (s t : Addr) (k : ClassId), v = some (.ref s) ∧ Keep h0 h [] ∧ Str Z h s t k (cC m x)) hp48.size [] hp48 6 12 31 #[.val (.int m), .val (.int x), .val (.int (x &&& (255 : Int32))), .val (.int (((x.toUInt32 >>> ((8 : Int32) &&& 31).toUInt32).toInt32) &&& (255 : Int32)))] [(.ref s)]
    -- at pc 31: pc 31: areturn .areturn stack [(.ref s)]
    exact GW.areturn hEL d_cell_31 rfl rfl rfl (by decide) (by decide) ⟨s, t, kt, rfl, KK, by rw [cC, if_pos h36]; exact hS⟩
  · refine Go.ifT 32 d_cell_18 (feq h36).2 (by decide) (by decide) ?_
    refine Go.iloadN d_cell_32 rfl ?_
    refine Go.iconst 1 d_cell_33 rfl ?_
    -- at pc 34: pc 34: if_icmp .if_icmp .ne 8 stack [(.int (1 : Int32)), (.int m)]
    by_cases h42 : m = (1 : Int32)
    · refine Go.icF d_cell_34 (teq h42).2 ?_
      refine Go.iloadN d_cell_37 rfl ?_
      -- at pc 38: pc 38: invokestatic .invokestatic 42 stack [(.int (x &&& (255 : Int32)))]
      refine Go.callS (I' := IW Z EL s₀ h0.size []) (hI := wQ (ws := []) (fun v h' q => by obtain ⟨s, t, kt, rfl, K49, g1, s1, g2, s2, hS⟩ := q; exact K49) all0) [(.int (x &&& (255 : Int32)))] [] (ct_vofc l Z a0 hw n0 (x &&& (255 : Int32)) _ hz (own_255 _).2 O z S_cs hcs) (wd_185 hw) (wd_186 hw) (wd_10 hw) (wd_187 hw) (by decide) pd_21 rfl rfl rfl (Nat.le_of_ble_eq_true rfl) (Nat.le_of_ble_eq_true rfl) (Nat.le_of_ble_eq_true rfl) (Nat.le_of_ble_eq_true rfl) d_cell_38 ?_
      rintro _ hp49 ⟨s, t, kt, rfl, K49, g1, s1, g2, s2, hS⟩
      replace O := O.keep K49 (all0)
      replace hz : n0 ≤ hp49.size := Nat.le_trans hz K49.1
      replace hlo : h0.size ≤ hp49.size := Nat.le_trans hlo K49.1
      replace KK : Keep h0 hp49 [] := KK.trans K49 (all0)
      show GW_cell l Z EL s₀ n0 (fun v h => ∃ (s t : Addr) (k : ClassId), v = some (.ref s) ∧ Keep h0 h [] ∧ Str Z h s t k (cC m x)) h0.size [] hp49 2 5 41 #[.val (.int m), .val (.int x), .val (.int (x &&& (255 : Int32))), .val (.int (((x.toUInt32 >>> ((8 : Int32) &&& 31).toUInt32).toInt32) &&& (255 : Int32)))] [(.ref s)]
      -- at pc 41: pc 41: areturn .areturn stack [(.ref s)]
      exact GW.areturn hEL d_cell_41 rfl rfl rfl (by decide) (by decide) ⟨s, t, kt, rfl, KK, by rw [cC, if_neg h36, if_pos h42]; exact hS⟩
    · refine Go.icT 42 d_cell_34 (feq h42).2 (by decide) (by decide) ?_
      -- at pc 42: pc 42: new .new 19 stack []
      refine Go.new (I' := IW Z EL s₀ h0.size []) (hI := wE) (wd_8 hw) (wd_9 hw) (wd_10 hw) d_cell_42 (by decide) (by decide) fun hp50 s e_s X50 E_s D50 => ?_
      have K50 : Keep h0 hp50 [] := (Keep.refl _ _).ext X50
      have g_s : n0 ≤ s := e_s ▸ hz
      have l_s : h0.size ≤ s := e_s ▸ hlo
      have s_s : h0.size ≤ s := e_s ▸ KK.1
      replace O := O.keep K50 (all0)
      have F_s_value : Fld Z hp50 s "java/lang/String" "value" "[B" .null := D50 (Or.inr (wd_24 hw)) (ty := (.array .byte)) (by decide)
      have F_s_coder : Fld Z hp50 s "java/lang/String" "coder" "B" (.int (0 : Int32)) := D50 (Or.inr (wd_25 hw)) (ty := .byte) (by decide)
      replace hz : n0 ≤ hp50.size := Nat.le_trans hz K50.1
      replace hlo : h0.size ≤ hp50.size := Nat.le_trans hlo K50.1
      replace KK : Keep h0 hp50 [] := KK.trans K50 (all0)
      refine Go.dup d_cell_45 rfl ?_
      refine Go.iconst 2 d_cell_46 rfl ?_
      -- at pc 47: pc 47: newarray .newarray .char stack [(.int (2 : Int32)), (.ref s), (.ref s)]
      refine Go.newP (I' := IW Z EL s₀ h0.size []) (hI := wE) .char (wd_11 hw) rfl d_cell_47 (by decide) 2 (by decide) (by decide) (by decide) (by decide) fun hp51 b k_b e_b X51 V_b => ?_
      have K51 : Keep hp50 hp51 [] := (Keep.refl _ _).ext X51
      have g_b : n0 ≤ b := e_b ▸ hz
      have l_b : h0.size ≤ b := e_b ▸ hlo
      have s_b : h0.size ≤ b := e_b ▸ KK.1
      have ne_s_b : s ≠ b := Nat.ne_of_lt (e_b ▸ E_s.lt)
      replace O := O.keep K51 (all0)
      replace E_s := E_s.keep K51
      replace F_s_value := F_s_value.keep K51 nin0
      replace F_s_coder := F_s_coder.keep K51 nin0
      replace V_b : Arv Z hp51 b k_b .char (2 : Int32) [(.int (0 : Int32)), (.int (0 : Int32))] (.int (0 : Int32)) := V_b.pad (pad_rep [] (.int (0 : Int32)) 2)
      replace hz : n0 ≤ hp51.size := Nat.le_trans hz K51.1
      replace hlo : h0.size ≤ hp51.size := Nat.le_trans hlo K51.1
      replace KK : Keep h0 hp51 [] := KK.trans K51 (all0)
      refine Go.dup d_cell_49 rfl ?_
      refine Go.iconst 0 d_cell_50 rfl ?_
      refine Go.iloadN d_cell_51 rfl ?_
      refine Go.castore (I' := IW Z EL s₀ h0.size []) (hI := wI (Sb.arv V_b (by decide))) V_b ⟨by decide, by decide⟩ g_b 0 rfl (Nat.le_of_ble_eq_true rfl) d_cell_52 fun hp52 K52 V_b_n => ?_
      replace V_b : Arv Z hp52 b k_b .char (2 : Int32) [(.int (nar .char (x &&& (255 : Int32)))), (.int (0 : Int32))] (.int (0 : Int32)) := V_b_n
      replace O := O.keep K52 (allS g_b (all0))
      replace E_s := E_s.keep K52
      replace F_s_value := F_s_value.keep K52 (ninS ne_s_b nin0)
      replace F_s_coder := F_s_coder.keep K52 (ninS ne_s_b nin0)
      replace hz : n0 ≤ hp52.size := Nat.le_trans hz K52.1
      replace hlo : h0.size ≤ hp52.size := Nat.le_trans hlo K52.1
      replace KK : Keep h0 hp52 [] := KK.trans K52 (allS (Or.inr s_b) (all0))
      refine Go.dup d_cell_53 rfl ?_
      refine Go.iconst 1 d_cell_54 rfl ?_
      refine Go.iloadN d_cell_55 rfl ?_
      refine Go.castore (I' := IW Z EL s₀ h0.size []) (hI := wI (Sb.arv V_b (by decide))) V_b ⟨by decide, by decide⟩ g_b 1 rfl (Nat.le_of_ble_eq_true rfl) d_cell_56 fun hp53 K53 V_b_n => ?_
      replace V_b : Arv Z hp53 b k_b .char (2 : Int32) [(.int (nar .char (x &&& (255 : Int32)))), (.int (nar .char (((x.toUInt32 >>> ((8 : Int32) &&& 31).toUInt32).toInt32) &&& (255 : Int32))))] (.int (0 : Int32)) := V_b_n
      replace O := O.keep K53 (allS g_b (all0))
      replace E_s := E_s.keep K53
      replace F_s_value := F_s_value.keep K53 (ninS ne_s_b nin0)
      replace F_s_coder := F_s_coder.keep K53 (ninS ne_s_b nin0)
      replace hz : n0 ≤ hp53.size := Nat.le_trans hz K53.1
      replace hlo : h0.size ≤ hp53.size := Nat.le_trans hlo K53.1
      replace KK : Keep h0 hp53 [] := KK.trans K53 (allS (Or.inr s_b) (all0))
      rw [own_nar255, own_nar255] at V_b
      refine Go.callIP (I' := IW Z EL s₀ h0.size []) (hI := wQ (ws := [s]) (fun v h' q => by obtain ⟨rfl, K54, hc, t, kt, q1, q2, q3, hv, ha⟩ := q; exact K54) (allS (Sb.up l_s) all0)) s [(.ref b)] [(.ref s)] (pay_new hw (W := 1) (wd_9 hw) [x &&& (255 : Int32), own_c1 x] g_s hz E_s F_s_value F_s_coder V_b (S_cs.ext O.2) hcs rfl (Nat.le_of_ble_eq_true rfl) (Nat.le_of_ble_eq_true rfl) (by intro c hc; simp only [List.mem_cons, List.not_mem_nil, or_false] at hc; rcases hc with rfl | rfl <;> exact own_255 _) (by decide) (by decide)) (wd_12 hw) (wd_13 hw) (wd_10 hw) (wd_14 hw) (by decide) pd_20 rfl rfl rfl (Nat.le_of_ble_eq_true rfl) (Nat.le_of_ble_eq_true rfl) (Nat.le_of_ble_eq_true rfl) d_cell_57 ?_
      rintro _ hp54 ⟨rfl, K54, hc, t, kt, q1, q2, q3, hv, ha⟩
      replace O := O.keep K54 (allS g_s (all0))
      replace E_s := E_s.keep K54
      replace V_b := V_b.keep K54 (ninS (Ne.symm ne_s_b) nin0)
      replace hz : n0 ≤ hp54.size := Nat.le_trans hz K54.1
      replace hlo : h0.size ≤ hp54.size := Nat.le_trans hlo K54.1
      replace KK : Keep h0 hp54 [] := KK.trans K54 (allS (Or.inr s_s) (all0))
      show GW_cell l Z EL s₀ n0 (fun v h => ∃ (s t : Addr) (k : ClassId), v = some (.ref s) ∧ Keep h0 h [] ∧ Str Z h s t k (cC m x)) h0.size [] hp54 3 8 60 #[.val (.int m), .val (.int x), .val (.int (x &&& (255 : Int32))), .val (.int (((x.toUInt32 >>> ((8 : Int32) &&& 31).toUInt32).toInt32) &&& (255 : Int32)))] [(.ref s)]
      -- at pc 60: pc 60: areturn .areturn stack [(.ref s)]
      exact GW.areturn hEL d_cell_60 rfl rfl rfl (by decide) (by decide) ⟨s, t, kt, rfl, KK, by rw [cC, if_neg h36, if_neg h42]; exact ⟨E_s, hc, hv, ha⟩⟩
theorem d_apcA_0 : decode jdk_68_method_31_code 0 = .ok (.aload_n 0, 1) := by decide +kernel
theorem d_apcA_1 : decode jdk_68_method_31_code 1 = .ok (.aload_n 0, 1) := by decide +kernel
theorem d_apcA_2 : decode jdk_68_method_31_code 2 = .ok (.getfield 79, 3) := by decide +kernel
theorem d_apcA_5 : decode jdk_68_method_31_code 5 = .ok (.iconst 1, 1) := by decide +kernel
theorem d_apcA_6 : decode jdk_68_method_31_code 6 = .ok (.iadd, 1) := by decide +kernel
theorem d_apcA_7 : decode jdk_68_method_31_code 7 = .ok (.invokevirtual 100, 3) := by decide +kernel
theorem d_apcA_10 : decode jdk_68_method_31_code 10 = .ok (.aload_n 0, 1) := by decide +kernel
theorem d_apcA_11 : decode jdk_68_method_31_code 11 = .ok (.invokevirtual 83, 3) := by decide +kernel
theorem d_apcA_14 : decode jdk_68_method_31_code 14 = .ok (.ifCond .eq 31, 3) := by decide +kernel
theorem d_apcA_17 : decode jdk_68_method_31_code 17 = .ok (.iload_n 1, 1) := by decide +kernel
theorem d_apcA_18 : decode jdk_68_method_31_code 18 = .ok (.invokestatic 191, 3) := by decide +kernel
theorem d_apcA_21 : decode jdk_68_method_31_code 21 = .ok (.ifCond .eq 24, 3) := by decide +kernel
theorem d_apcA_24 : decode jdk_68_method_31_code 24 = .ok (.aload_n 0, 1) := by decide +kernel
theorem d_apcA_25 : decode jdk_68_method_31_code 25 = .ok (.getfield 15, 3) := by decide +kernel
theorem d_apcA_28 : decode jdk_68_method_31_code 28 = .ok (.aload_n 0, 1) := by decide +kernel
theorem d_apcA_29 : decode jdk_68_method_31_code 29 = .ok (.dup, 1) := by decide +kernel
theorem d_apcA_30 : decode jdk_68_method_31_code 30 = .ok (.getfield 79, 3) := by decide +kernel
theorem d_apcA_33 : decode jdk_68_method_31_code 33 = .ok (.dup_x1, 1) := by decide +kernel
theorem d_apcA_34 : decode jdk_68_method_31_code 34 = .ok (.iconst 1, 1) := by decide +kernel
theorem d_apcA_35 : decode jdk_68_method_31_code 35 = .ok (.iadd, 1) := by decide +kernel
theorem d_apcA_36 : decode jdk_68_method_31_code 36 = .ok (.putfield 79, 3) := by decide +kernel
theorem d_apcA_39 : decode jdk_68_method_31_code 39 = .ok (.iload_n 1, 1) := by decide +kernel
theorem d_apcA_40 : decode jdk_68_method_31_code 40 = .ok (.i2b, 1) := by decide +kernel
theorem d_apcA_41 : decode jdk_68_method_31_code 41 = .ok (.bastore, 1) := by decide +kernel
theorem d_apcA_42 : decode jdk_68_method_31_code 42 = .ok (.goto 33, 3) := by decide +kernel
theorem d_apcA_75 : decode jdk_68_method_31_code 75 = .ok (.aload_n 0, 1) := by decide +kernel
theorem d_apcA_76 : decode jdk_68_method_31_code 76 = .ok (.areturn, 1) := by decide +kernel
abbrev R_apcA : Room := ({ frames := 1, cells := 0, slots := 0, locals := 20 } : Room)
abbrev GM_apcA (l : Launch) (Z : State) (n0 : Nat) (Q : Option Value → Heap → Prop) (h : Heap) (cells slots pc : Nat) (Ls : Array Slot) (st : List Value) : Prop := Go l Z n0 R_apcA "java/lang/AbstractStringBuilder" "append" jdk_68_method_31_code 2 (some (.object "java/lang/AbstractStringBuilder")) IN (FN n0 R_apcA Q) h cells slots pc Ls st
abbrev GW_apcA (l : Launch) (Z : State) (EL : List (String × Nat)) (s₀ : State) (n0 : Nat) (Q : Option Value → Heap → Prop) (lo : Nat) (Sf : List Addr) (h : Heap) (cells slots pc : Nat) (Ls : Array Slot) (st : List Value) : Prop := Go l Z n0 R_apcA "java/lang/AbstractStringBuilder" "append" jdk_68_method_31_code 2 (some (.object "java/lang/AbstractStringBuilder")) (IW Z EL s₀ lo Sf) (FW Z EL s₀ n0 R_apcA Q) h cells slots pc Ls st
theorem pf_apcA : plainFor (⟨"java/lang/AbstractStringBuilder", "append", "(C)Ljava/lang/AbstractStringBuilder;"⟩ : MethodName) = true := plainFor_of_name (by first | (simp [plainName, overriddenIn]; done) | decide +kernel)
theorem ct_apcA (l : Launch) (Z : State) (a0 : Array Value) (hw : ∀ d ∈ tables_1, d.before a0 Z = true) (n0 : Nat) (sb va : Addr) (kv : ClassId) (cs : List Int32) (c : Int32) (h0 : Heap) (O : Old Z n0 h0) (z : Int32) (S_cs : Sta Z Z.heap "java/lang/String" "COMPACT_STRINGS" "Z" (.int z)) (hcs : ¬ z = 0) (g_sb : n0 ≤ sb) (g_va : n0 ≤ va) (nsv : sb ≠ va) (S : Sbd Z h0 sb va kv cs) (hl : cs.length < 16) (hc : ¬ (255 : Int32) < c) :
    Ct l Z n0 "java/lang/AbstractStringBuilder" "append" "(C)Ljava/lang/AbstractStringBuilder;" [] jdk_68_method_31_code 2 (some (.object "java/lang/AbstractStringBuilder")) R_apcA #[.ref sb, .int c] h0 (fun v h => v = some (.ref sb) ∧ Keep h0 h [sb, va] ∧ Sbd Z h sb va kv (cs ++ [c.toInt8.toInt32])) := by
  have S0 := S
  obtain ⟨E_sb, F_sb_value, F_sb_coder, F_sb_count, V_va⟩ := S
  refine Ct.of_go pf_apcA (Ls := #[.val (.ref sb), .val (.int c)]) (fun m => by first | rfl | (simp [entryFrame, mkF, argsToLocals, Value.category]; done)) ?_
  show GM_apcA l Z n0 (fun v h => v = some (.ref sb) ∧ Keep h0 h [sb, va] ∧ Sbd Z h sb va kv (cs ++ [c.toInt8.toInt32])) h0 0 0 0 #[.val (.ref sb), .val (.int c)] []
  have KK : Keep h0 h0 [sb, va] := Keep.refl _ _
  refine Go.aloadN d_apcA_0 rfl rfl ?_
  refine Go.aloadN d_apcA_1 rfl rfl ?_
  refine Go.getF (wd_79 hw) Via.refl F_sb_count d_apcA_2 ?_
  refine Go.iconst 1 d_apcA_5 rfl ?_
  refine Go.iadd d_apcA_6 ?_
  -- at pc 7: pc 7: invokevirtual .invokevirtual 100 stack [(.int ((Int32.ofNat cs.length) + (1 : Int32))), (.ref sb)]
  refine Go.callP (I' := IN) (hI := nQ) sb [(.int ((Int32.ofNat cs.length) + (1 : Int32)))] [] (ct_ecap l Z a0 hw n0 sb va kv cs ((Int32.ofNat cs.length) + (1 : Int32)) _ S0 (by rw [own_of1]; exact own_cap _ hl)) E_sb (wd_124 hw) (wd_125 hw) (sel_priv2 (y := (⟨"java/lang/AbstractStringBuilder", "ensureCapacityInternal", "(I)V"⟩ : MethodName)) (show Ord Z "java/lang/AbstractStringBuilder" from Ord.sel (wd_68 hw)) (wd_125 hw) (wd_126 hw) (by decide)) (wd_126 hw) (wd_45 hw) (wd_128 hw) (by decide) pd_5 rfl rfl rfl (Nat.le_of_ble_eq_true rfl) (Nat.le_of_ble_eq_true rfl) (Nat.le_of_ble_eq_true rfl) (Nat.le_of_ble_eq_true rfl) d_apcA_7 ?_
  rintro _ _ ⟨rfl, rfl⟩
  show GM_apcA l Z n0 (fun v h => v = some (.ref sb) ∧ Keep h0 h [sb, va] ∧ Sbd Z h sb va kv (cs ++ [c.toInt8.toInt32])) h0 0 0 10 #[.val (.ref sb), .val (.int c)] []
  refine Go.aloadN d_apcA_10 rfl rfl ?_
  -- at pc 11: pc 11: invokevirtual .invokevirtual 83 stack [(.ref sb)]
  refine Go.callV (I' := IN) (hI := nQ) sb [] [] (ct_isL l Z a0 hw n0 sb _ O z S_cs hcs F_sb_coder) E_sb (wd_129 hw) (wd_82 hw) (nf_sel (wd_84 hw)) (wd_84 hw) (wd_83 hw) (wd_45 hw) (wd_85 hw) (by decide) pd_15 rfl rfl rfl (Nat.le_of_ble_eq_true rfl) (Nat.le_of_ble_eq_true rfl) (Nat.le_of_ble_eq_true rfl) (Nat.le_of_ble_eq_true rfl) d_apcA_11 ?_
  rintro _ _ ⟨rfl, rfl⟩
  show GM_apcA l Z n0 (fun v h => v = some (.ref sb) ∧ Keep h0 h [sb, va] ∧ Sbd Z h sb va kv (cs ++ [c.toInt8.toInt32])) h0 0 0 14 #[.val (.ref sb), .val (.int c)] [(.int (1 : Int32))]
  -- at pc 14: pc 14: ifCond .ifCond .eq 31 stack [(.int (1 : Int32))]
  -- not: (1 : Int32) = (0 : Int32)
  refine Go.ifF d_apcA_14 (feq (by decide)).1 ?_
  refine Go.iloadN d_apcA_17 rfl ?_
  -- at pc 18: pc 18: invokestatic .invokestatic 191 stack [(.int c)]
  refine Go.callS (I' := IN) (hI := nQ) [(.int c)] [] (ct_can l Z a0 hw n0 c _ hc) (wd_130 hw) (wd_131 hw) (wd_132 hw) (wd_133 hw) (by decide) pd_0 rfl rfl rfl (Nat.le_of_ble_eq_true rfl) (Nat.le_of_ble_eq_true rfl) (Nat.le_of_ble_eq_true rfl) (Nat.le_of_ble_eq_true rfl) d_apcA_18 ?_
  rintro _ _ ⟨rfl, rfl⟩
  show GM_apcA l Z n0 (fun v h => v = some (.ref sb) ∧ Keep h0 h [sb, va] ∧ Sbd Z h sb va kv (cs ++ [c.toInt8.toInt32])) h0 0 0 21 #[.val (.ref sb), .val (.int c)] [(.int (1 : Int32))]
  -- at pc 21: pc 21: ifCond .ifCond .eq 24 stack [(.int (1 : Int32))]
  -- not: (1 : Int32) = (0 : Int32)
  refine Go.ifF d_apcA_21 (feq (by decide)).1 ?_
  refine Go.aloadN d_apcA_24 rfl rfl ?_
  refine Go.getF (wd_49 hw) Via.refl F_sb_value d_apcA_25 ?_
  refine Go.aloadN d_apcA_28 rfl rfl ?_
  refine Go.dup d_apcA_29 rfl ?_
  refine Go.getF (wd_79 hw) Via.refl F_sb_count d_apcA_30 ?_
  refine Go.dupX1 d_apcA_33 rfl rfl ?_
  refine Go.iconst 1 d_apcA_34 rfl ?_
  refine Go.iadd d_apcA_35 ?_
  refine Go.putF (I' := IN) (hI := nI) (wd_79 hw) Via.refl F_sb_count E_sb (Or.inl (wd_80 hw)) (wd_36 hw) (ty := .int) (by decide) rfl rfl g_sb d_apcA_36 fun hp58 W58 => ?_
  have K58 := Keep.of_wr W58
  replace F_sb_value := F_sb_value.other W58 (Or.inr (slot_ne (Or.inl (wd_50 hw)) (Or.inl (wd_80 hw)) (by decide) (t := (.array .byte)) (t' := .int) (by decide) (by decide)))
  replace F_sb_coder := F_sb_coder.other W58 (Or.inr (slot_ne (Or.inl (wd_52 hw)) (Or.inl (wd_80 hw)) (by decide) (t := .byte) (t' := .int) (by decide) (by decide)))
  replace F_sb_count := F_sb_count.same W58
  replace E_sb := E_sb.keep K58
  replace V_va := V_va.keep K58 (ninS (Ne.symm nsv) nin0)
  replace KK : Keep h0 hp58 [sb, va] := KK.trans K58 (allS (Or.inl (by simp)) (all0))
  refine Go.iloadN d_apcA_39 rfl ?_
  refine Go.i2b d_apcA_40 ?_
  refine Go.bastore (I' := IN) (hI := nI) (V_va.pad (pad_rep _ _ (16 - cs.length))) (own_idx (m := 16) hl (by decide)) g_va cs.length (own_clamp (by omega)) (by simp; omega) d_apcA_41 fun h9 K9 V9 => ?_
  rw [own_b8] at V9
  replace V9 := own_setp hl V9
  replace E_sb := E_sb.keep K9
  replace F_sb_value := F_sb_value.keep K9 (ninS nsv nin0)
  replace F_sb_coder := F_sb_coder.keep K9 (ninS nsv nin0)
  replace F_sb_count := F_sb_count.keep K9 (ninS nsv nin0)
  replace KK : Keep h0 h9 [sb, va] := KK.trans K9 (allS (Or.inl (by simp)) all0)
  show GM_apcA l Z n0 (fun v h => v = some (.ref sb) ∧ Keep h0 h [sb, va] ∧ Sbd Z h sb va kv (cs ++ [c.toInt8.toInt32])) h9 0 0 42 #[.val (.ref sb), .val (.int c)] []
  refine Go.goto 75 d_apcA_42 (by decide) (by decide) ?_
  refine Go.aloadN d_apcA_75 rfl rfl ?_
  -- at pc 76: pc 76: areturn .areturn stack [(.ref sb)]
  exact Go.areturn d_apcA_76 rfl rfl rfl (by decide) (by decide) ⟨rfl, KK, E_sb, F_sb_value, F_sb_coder, by rw [← own_cnt1]; exact F_sb_count, V9⟩
theorem d_apc_0 : decode jdk_67_method_14_code 0 = .ok (.aload_n 0, 1) := by decide +kernel
theorem d_apc_1 : decode jdk_67_method_14_code 1 = .ok (.iload_n 1, 1) := by decide +kernel
theorem d_apc_2 : decode jdk_67_method_14_code 2 = .ok (.invokespecial 50, 3) := by decide +kernel
theorem d_apc_5 : decode jdk_67_method_14_code 5 = .ok (.pop, 1) := by decide +kernel
theorem d_apc_6 : decode jdk_67_method_14_code 6 = .ok (.aload_n 0, 1) := by decide +kernel
theorem d_apc_7 : decode jdk_67_method_14_code 7 = .ok (.areturn, 1) := by decide +kernel
abbrev R_apc : Room := ({ frames := 2, cells := 0, slots := 0, locals := 34 } : Room)
abbrev GM_apc (l : Launch) (Z : State) (n0 : Nat) (Q : Option Value → Heap → Prop) (h : Heap) (cells slots pc : Nat) (Ls : Array Slot) (st : List Value) : Prop := Go l Z n0 R_apc "java/lang/StringBuilder" "append" jdk_67_method_14_code 2 (some (.object "java/lang/StringBuilder")) IN (FN n0 R_apc Q) h cells slots pc Ls st
abbrev GW_apc (l : Launch) (Z : State) (EL : List (String × Nat)) (s₀ : State) (n0 : Nat) (Q : Option Value → Heap → Prop) (lo : Nat) (Sf : List Addr) (h : Heap) (cells slots pc : Nat) (Ls : Array Slot) (st : List Value) : Prop := Go l Z n0 R_apc "java/lang/StringBuilder" "append" jdk_67_method_14_code 2 (some (.object "java/lang/StringBuilder")) (IW Z EL s₀ lo Sf) (FW Z EL s₀ n0 R_apc Q) h cells slots pc Ls st
theorem pf_apc : plainFor (⟨"java/lang/StringBuilder", "append", "(C)Ljava/lang/StringBuilder;"⟩ : MethodName) = true := plainFor_of_name (by first | (simp [plainName, overriddenIn]; done) | decide +kernel)
theorem ct_apc (l : Launch) (Z : State) (a0 : Array Value) (hw : ∀ d ∈ tables_1, d.before a0 Z = true) (n0 : Nat) (sb va : Addr) (kv : ClassId) (cs : List Int32) (c : Int32) (h0 : Heap) (O : Old Z n0 h0) (z : Int32) (S_cs : Sta Z Z.heap "java/lang/String" "COMPACT_STRINGS" "Z" (.int z)) (hcs : ¬ z = 0) (g_sb : n0 ≤ sb) (g_va : n0 ≤ va) (nsv : sb ≠ va) (S : Sbd Z h0 sb va kv cs) (hl : cs.length < 16) (hc : ¬ (255 : Int32) < c) :
    Ct l Z n0 "java/lang/StringBuilder" "append" "(C)Ljava/lang/StringBuilder;" [] jdk_67_method_14_code 2 (some (.object "java/lang/StringBuilder")) R_apc #[.ref sb, .int c] h0 (fun v h => v = some (.ref sb) ∧ Keep h0 h [sb, va] ∧ Sbd Z h sb va kv (cs ++ [c.toInt8.toInt32])) := by
  have E_sb := S.1
  refine Ct.of_go pf_apc (Ls := #[.val (.ref sb), .val (.int c)]) (fun m => by first | rfl | (simp [entryFrame, mkF, argsToLocals, Value.category]; done)) ?_
  show GM_apc l Z n0 (fun v h => v = some (.ref sb) ∧ Keep h0 h [sb, va] ∧ Sbd Z h sb va kv (cs ++ [c.toInt8.toInt32])) h0 0 0 0 #[.val (.ref sb), .val (.int c)] []
  refine Go.aloadN d_apc_0 rfl rfl ?_
  refine Go.iloadN d_apc_1 rfl ?_
  -- at pc 2: pc 2: invokespecial .invokespecial 50 stack [(.int c), (.ref sb)]
  refine Go.callSup (I' := IN) (hI := nQ) sb [(.int c)] [] (ct_apcA l Z a0 hw n0 sb va kv cs c _ O z S_cs hcs g_sb g_va nsv S hl hc) E_sb (show Ord Z "java/lang/AbstractStringBuilder" from Ord.sel (wd_68 hw)) (wd_120 hw) (wd_121 hw) (wd_77 hw) (wd_45 hw) (wd_123 hw) (by decide) (by decide) pd_22 rfl rfl rfl (Nat.le_of_ble_eq_true rfl) (Nat.le_of_ble_eq_true rfl) (Nat.le_of_ble_eq_true rfl) (Nat.le_of_ble_eq_true rfl) d_apc_2 ?_
  rintro _ hp59 ⟨rfl, K1, S1⟩
  show GM_apc l Z n0 (fun v h => v = some (.ref sb) ∧ Keep h0 h [sb, va] ∧ Sbd Z h sb va kv (cs ++ [c.toInt8.toInt32])) hp59 0 0 5 #[.val (.ref sb), .val (.int c)] [(.ref sb)]
  refine Go.pop d_apc_5 rfl ?_
  refine Go.aloadN d_apc_6 rfl rfl ?_
  -- at pc 7: pc 7: areturn .areturn stack [(.ref sb)]
  exact Go.areturn d_apc_7 rfl rfl rfl (by decide) (by decide) ⟨rfl, K1, S1⟩
theorem d_row_0 : decode prog_28_method_3_code 0 = .ok (.new 43, 3) := by decide +kernel
theorem d_row_3 : decode prog_28_method_3_code 3 = .ok (.dup, 1) := by decide +kernel
theorem d_row_4 : decode prog_28_method_3_code 4 = .ok (.invokespecial 45, 3) := by decide +kernel
theorem d_row_7 : decode prog_28_method_3_code 7 = .ok (.astore_n 1, 1) := by decide +kernel
theorem d_row_8 : decode prog_28_method_3_code 8 = .ok (.iconst 0, 1) := by decide +kernel
theorem d_row_9 : decode prog_28_method_3_code 9 = .ok (.istore_n 2, 1) := by decide +kernel
theorem d_row_10 : decode prog_28_method_3_code 10 = .ok (.iload_n 2, 1) := by decide +kernel
theorem d_row_11 : decode prog_28_method_3_code 11 = .ok (.aload_n 0, 1) := by decide +kernel
theorem d_row_12 : decode prog_28_method_3_code 12 = .ok (.arraylength, 1) := by decide +kernel
theorem d_row_13 : decode prog_28_method_3_code 13 = .ok (.if_icmp .ge 34, 3) := by decide +kernel
theorem d_row_16 : decode prog_28_method_3_code 16 = .ok (.iload_n 2, 1) := by decide +kernel
theorem d_row_17 : decode prog_28_method_3_code 17 = .ok (.ifCond .le 10, 3) := by decide +kernel
theorem d_row_20 : decode prog_28_method_3_code 20 = .ok (.aload_n 1, 1) := by decide +kernel
theorem d_row_21 : decode prog_28_method_3_code 21 = .ok (.bipush 9, 2) := by decide +kernel
theorem d_row_23 : decode prog_28_method_3_code 23 = .ok (.invokevirtual 46, 3) := by decide +kernel
theorem d_row_26 : decode prog_28_method_3_code 26 = .ok (.pop, 1) := by decide +kernel
theorem d_row_27 : decode prog_28_method_3_code 27 = .ok (.aload_n 0, 1) := by decide +kernel
theorem d_row_28 : decode prog_28_method_3_code 28 = .ok (.iload_n 2, 1) := by decide +kernel
theorem d_row_29 : decode prog_28_method_3_code 29 = .ok (.aaload, 1) := by decide +kernel
theorem d_row_30 : decode prog_28_method_3_code 30 = .ok (.ifnull 11, 3) := by decide +kernel
theorem d_row_33 : decode prog_28_method_3_code 33 = .ok (.aload_n 1, 1) := by decide +kernel
theorem d_row_34 : decode prog_28_method_3_code 34 = .ok (.aload_n 0, 1) := by decide +kernel
theorem d_row_35 : decode prog_28_method_3_code 35 = .ok (.iload_n 2, 1) := by decide +kernel
theorem d_row_36 : decode prog_28_method_3_code 36 = .ok (.aaload, 1) := by decide +kernel
theorem d_row_37 : decode prog_28_method_3_code 37 = .ok (.invokevirtual 50, 3) := by decide +kernel
theorem d_row_40 : decode prog_28_method_3_code 40 = .ok (.pop, 1) := by decide +kernel
theorem d_row_41 : decode prog_28_method_3_code 41 = .ok (.iinc 2 1, 3) := by decide +kernel
theorem d_row_44 : decode prog_28_method_3_code 44 = .ok (.goto (-34), 3) := by decide +kernel
theorem d_row_47 : decode prog_28_method_3_code 47 = .ok (.aload_n 1, 1) := by decide +kernel
theorem d_row_48 : decode prog_28_method_3_code 48 = .ok (.invokevirtual 53, 3) := by decide +kernel
theorem d_row_51 : decode prog_28_method_3_code 51 = .ok (.areturn, 1) := by decide +kernel
abbrev R_row : Room := ({ frames := 6, cells := 4, slots := 44, locals := 112 } : Room)
abbrev GM_row (l : Launch) (Z : State) (n0 : Nat) (Q : Option Value → Heap → Prop) (h : Heap) (cells slots pc : Nat) (Ls : Array Slot) (st : List Value) : Prop := Go l Z n0 R_row "com/example/triplecast/triplecast/rdf/SparqlTsv" "row" prog_28_method_3_code 3 (some (.object "java/lang/String")) IN (FN n0 R_row Q) h cells slots pc Ls st
abbrev GW_row (l : Launch) (Z : State) (EL : List (String × Nat)) (s₀ : State) (n0 : Nat) (Q : Option Value → Heap → Prop) (lo : Nat) (Sf : List Addr) (h : Heap) (cells slots pc : Nat) (Ls : Array Slot) (st : List Value) : Prop := Go l Z n0 R_row "com/example/triplecast/triplecast/rdf/SparqlTsv" "row" prog_28_method_3_code 3 (some (.object "java/lang/String")) (IW Z EL s₀ lo Sf) (FW Z EL s₀ n0 R_row Q) h cells slots pc Ls st
theorem pf_row : plainFor (⟨"com/example/triplecast/triplecast/rdf/SparqlTsv", "row", "([Ljava/lang/String;)Ljava/lang/String;"⟩ : MethodName) = true := plainFor_of_name (by first | (simp [plainName, overriddenIn]; done) | decide +kernel)
set_option maxRecDepth 65536 in
set_option maxHeartbeats 4000000 in
theorem ct_row (l : Launch) (Z : State) (a0 : Array Value) (hw : ∀ d ∈ tables_1, d.before a0 Z = true) (n0 : Nat) (ca : Addr) (kc : ClassId) (vs : List Value) (css : List (List Int32)) (h0 : Heap) (hz : n0 ≤ h0.size) (O : Old Z n0 h0) (z : Int32) (S_cs : Sta Z Z.heap "java/lang/String" "COMPACT_STRINGS" "Z" (.int z)) (hcs : ¬ z = 0) (V_ca : Arv Z h0 ca kc (.object "java/lang/String") (Int32.ofNat vs.length) vs .null) (hvl : vs.length < 2 ^ 31) (hC : Cels Z h0 vs css) (htot : (jn 0 css).length ≤ 15) :
    Ct l Z n0 "com/example/triplecast/triplecast/rdf/SparqlTsv" "row" "([Ljava/lang/String;)Ljava/lang/String;" [] prog_28_method_3_code 3 (some (.object "java/lang/String")) R_row #[.ref ca] h0 (fun v h => ∃ (x t : Addr) (k : ClassId), v = some (.ref x) ∧ Keep h0 h [] ∧ Byt Z h x t k ((jn 0 css).map own_b)) := by
  have V_ca0 := V_ca
  refine Ct.of_go pf_row (Ls := #[.val (.ref ca), .unset, .unset]) (fun m => by first | rfl | (simp [entryFrame, mkF, argsToLocals, Value.category]; done)) ?_
  show GM_row l Z n0 (fun v h => ∃ (x t : Addr) (k : ClassId), v = some (.ref x) ∧ Keep h0 h [] ∧ Byt Z h x t k ((jn 0 css).map own_b)) h0 0 0 0 #[.val (.ref ca), .unset, .unset] []
  have KK : Keep h0 h0 [] := Keep.refl _ _
  -- at pc 0: pc 0: new .new 43 stack []
  refine Go.new (I' := IN) (hI := nE) (wd_35 hw) (wd_36 hw) (wd_37 hw) d_row_0 (by decide) (by decide) fun hp60 sb e_sb X60 E_sb D60 => ?_
  have K60 : Keep h0 hp60 [] := (Keep.refl _ _).ext X60
  have g_sb : n0 ≤ sb := e_sb ▸ hz
  have s_sb : h0.size ≤ sb := e_sb ▸ KK.1
  have ne_ca_sb : ca ≠ sb := Nat.ne_of_lt (e_sb ▸ V_ca.lt)
  replace O := O.keep K60 (all0)
  replace V_ca := V_ca.keep K60 nin0
  have F_sb_value : Fld Z hp60 sb "java/lang/AbstractStringBuilder" "value" "[B" .null := D60 (Or.inl (wd_50 hw)) (ty := (.array .byte)) (by decide)
  have F_sb_coder : Fld Z hp60 sb "java/lang/AbstractStringBuilder" "coder" "B" (.int (0 : Int32)) := D60 (Or.inl (wd_52 hw)) (ty := .byte) (by decide)
  have F_sb_count : Fld Z hp60 sb "java/lang/AbstractStringBuilder" "count" "I" (.int (0 : Int32)) := D60 (Or.inl (wd_80 hw)) (ty := .int) (by decide)
  replace hz : n0 ≤ hp60.size := Nat.le_trans hz K60.1
  replace KK : Keep h0 hp60 [] := KK.trans K60 (all0)
  refine Go.dup d_row_3 rfl ?_
  -- at pc 4: pc 4: invokespecial .invokespecial 45 stack [(.ref sb), (.ref sb)]
  have KKA := KK
  have lt_sb := E_sb.lt
  have lt_ca := V_ca.lt
  refine Go.callI (I' := IN) (hI := nQ) sb [] [(.ref sb)] (ct_sbi l Z a0 hw n0 sb _ hz O z S_cs hcs g_sb E_sb F_sb_value F_sb_coder F_sb_count) (wd_38 hw) (wd_39 hw) (wd_37 hw) (wd_40 hw) (by decide) pd_23 rfl rfl rfl (Nat.le_of_ble_eq_true rfl) (Nat.le_of_ble_eq_true rfl) (Nat.le_of_ble_eq_true rfl) (Nat.le_of_ble_eq_true rfl) d_row_4 ?_
  rintro _ hp61 ⟨rfl, K61, va, kv, g_va, sz_va, S1⟩
  replace O := O.keep K61 (allS g_sb (all0))
  replace V_ca := V_ca.keep K61 (ninS ne_ca_sb nin0)
  replace E_sb := E_sb.keep K61
  replace hz : n0 ≤ hp61.size := Nat.le_trans hz K61.1
  replace KK : Keep h0 hp61 [] := KK.trans K61 (allS (Or.inr s_sb) (all0))
  show GM_row l Z n0 (fun v h => ∃ (x t : Addr) (k : ClassId), v = some (.ref x) ∧ Keep h0 h [] ∧ Byt Z h x t k ((jn 0 css).map own_b)) hp61 2 20 7 #[.val (.ref ca), .unset, .unset] [(.ref sb)]
  have s_va : h0.size ≤ va := Nat.le_trans KKA.1 sz_va
  have ne_sb_va : sb ≠ va := (Nat.ne_of_lt (Nat.lt_of_lt_of_le lt_sb sz_va))
  refine Go.astoreN (Ls' := #[.val (.ref ca), .val (.ref sb), .unset]) d_row_7 rfl rfl ?_
  refine Go.iconst 0 d_row_8 rfl ?_
  refine Go.istoreN (Ls' := #[.val (.ref ca), .val (.ref sb), .val (.int (0 : Int32))]) d_row_9 rfl ?_
  have loop : ∀ (vr : List Value) (cr : List (List Int32)), Cels Z h0 vr cr → ∀ (i : Nat) (X : List Int32) (h : Heap), vs.drop i = vr → i ≤ vs.length → X ++ jn i cr = jn 0 css → n0 ≤ h.size → Old Z n0 h → Keep h0 h [] → Sbd Z h sb va kv (X.map own_b) → GM_row l Z n0 (fun v h => ∃ (x t : Addr) (k : ClassId), v = some (.ref x) ∧ Keep h0 h [] ∧ Byt Z h x t k ((jn 0 css).map own_b)) h 2 20 10 #[.val (.ref ca), .val (.ref sb), .val (.int (Int32.ofNat i))] [] := by
    clear hz O S1 V_ca E_sb
    intro vr
    induction vr with
    | nil =>
      intro cr hcr i X h hd hle hX hz O KK S1
      obtain rfl : cr = [] := by
        cases cr with
        | nil => rfl
        | cons c r => exact hcr.elim
      have V_ca := V_ca0.keep KK nin0
      have E_sb := S1.1
      have hi : ¬ Int32.ofNat i < Int32.ofNat vs.length := by
        have hle2 : vs.length ≤ i := List.drop_eq_nil_iff.mp hd
        rw [Nat.le_antisymm hle hle2]
        exact own_irr _
      have hXe : X = jn 0 css := by rw [← hX]; simp [jn]
      refine Go.iloadN d_row_10 rfl ?_
      refine Go.aloadN d_row_11 rfl rfl ?_
      refine Go.arraylength V_ca d_row_12 ?_
      -- at pc 13: pc 13: if_icmp .if_icmp .ge 34 stack [(.int (Int32.ofNat vs.length)), (.int (Int32.ofNat i))]
      -- not: (Int32.ofNat i) < (Int32.ofNat vs.length)
      refine Go.icT 47 d_row_13 (flt (hi)).2.1 (by decide) (by decide) ?_
      refine Go.aloadN d_row_47 rfl rfl ?_
      -- at pc 48: pc 48: invokevirtual .invokevirtual 53 stack [(.ref sb)]
      refine Go.callV (I' := IN) (hI := nQ) sb [] [] (ct_tos l Z a0 hw n0 sb va kv (X.map own_b) _ hz O z S_cs hcs S1 (by rw [List.length_map, hXe]; exact htot)) E_sb (wd_53 hw) (wd_54 hw) (nf_sel (wd_56 hw)) (wd_56 hw) (wd_55 hw) (wd_37 hw) (wd_57 hw) (by decide) pd_24 rfl rfl rfl (Nat.le_of_ble_eq_true rfl) (Nat.le_of_ble_eq_true rfl) (Nat.le_of_ble_eq_true rfl) (Nat.le_of_ble_eq_true rfl) d_row_48 ?_
      rintro _ hp62 ⟨x, t, k, rfl, K62, g1, g2, g3, g4, BR⟩
      replace O := O.keep K62 (all0)
      replace V_ca := V_ca.keep K62 nin0
      replace E_sb := E_sb.keep K62
      replace hz : n0 ≤ hp62.size := Nat.le_trans hz K62.1
      replace KK : Keep h0 hp62 [] := KK.trans K62 (all0)
      show GM_row l Z n0 (fun v h => ∃ (x t : Addr) (k : ClassId), v = some (.ref x) ∧ Keep h0 h [] ∧ Byt Z h x t k ((jn 0 css).map own_b)) hp62 4 40 51 #[.val (.ref ca), .val (.ref sb), .val (.int (Int32.ofNat i))] [(.ref x)]
      -- at pc 51: pc 51: areturn .areturn stack [(.ref x)]
      exact Go.areturn d_row_51 rfl rfl rfl (by decide) (by decide) ⟨x, t, k, rfl, KK, hXe ▸ BR⟩
    | cons v vr ih =>
      intro cr0 hcr i X h hd hle hX hz O KK S1
      obtain ⟨cs, cr, rfl, hv, hr⟩ : ∃ cs cr', cr0 = cs :: cr' ∧ Cel Z h0 v cs ∧ Cels Z h0 vr cr' := by
        cases cr0 with
        | nil => exact hcr.elim
        | cons c r => exact ⟨c, r, rfl, hcr.1, hcr.2⟩
      have hi : i < vs.length := by
        rcases Nat.lt_or_ge i vs.length with q | q
        · exact q
        · rw [List.drop_eq_nil_iff.mpr q] at hd; cases hd
      have hvi : vs[i]? = some v := by
        have := congrArg (fun L => L[0]?) hd
        simpa using this
      have hd' : vs.drop (i + 1) = vr := by
        have := congrArg (List.drop 1) hd
        simpa [List.drop_drop, Nat.add_comm] using this
      have V_ca := V_ca0.keep KK nin0
      have E_sb := S1.1
      refine Go.iloadN d_row_10 rfl ?_
      refine Go.aloadN d_row_11 rfl rfl ?_
      refine Go.arraylength V_ca d_row_12 ?_
      -- at pc 13: pc 13: if_icmp .if_icmp .ge 34 stack [(.int (Int32.ofNat vs.length)), (.int (Int32.ofNat i))]
      -- (Int32.ofNat i) < (Int32.ofNat vs.length)
      refine Go.icF d_row_13 (tlt ((own_idx hi hvl).2)).2.1 ?_
      refine Go.iloadN d_row_16 rfl ?_
      -- at pc 17: pc 17: ifCond .ifCond .le 10 stack [(.int (Int32.ofNat i))]
      have j27 : ∀ (h : Heap) (Y : List Int32), Y = X ++ (if i = 0 then [] else [9]) → n0 ≤ h.size → Old Z n0 h → Keep h0 h [] → Sbd Z h sb va kv (Y.map own_b) → GM_row l Z n0 (fun v h => ∃ (x t : Addr) (k : ClassId), v = some (.ref x) ∧ Keep h0 h [] ∧ Byt Z h x t k ((jn 0 css).map own_b)) h 2 20 27 #[.val (.ref ca), .val (.ref sb), .val (.int (Int32.ofNat i))] [] := by
        clear hz O S1 V_ca E_sb KK
        intro h Y hY hz O KK S1
        have V_ca := V_ca0.keep KK nin0
        have E_sb := S1.1
        have hXY : (Y ++ cs) ++ jn (i + 1) cr = jn 0 css := by rw [← hX, hY]; simp [jn]
        have hYl : Y.length + cs.length ≤ 15 := by
          have := congrArg List.length hXY
          simp only [List.length_append] at this
          omega
        have hv' := hv.keep KK
        refine Go.aloadN d_row_27 rfl rfl ?_
        refine Go.iloadN d_row_28 rfl ?_
        rcases hv' with ⟨rfl, rfl⟩ | ⟨a, t, k, rfl, B⟩
        · skip
          refine Go.aaload .null V_ca rfl (own_idx hi hvl) (by rw [own_clamp (by omega), List.getD_eq_getElem?_getD, hvi]; rfl) d_row_29 ?_
          refine Go.nullT 41 d_row_30 (by decide) (by decide) ?_
          refine Go.iinc (Ls' := #[.val (.ref ca), .val (.ref sb), .val (.int ((Int32.ofNat i) + (1 : Int32)))]) (1 : Int32) rfl d_row_41 rfl rfl ?_
          refine Go.goto 10 d_row_44 (by decide) (by decide) ?_
          rw [show ((Int32.ofNat i) + (1 : Int32)) = (Int32.ofNat (i + 1)) from (own_of1 _)]
          exact ih cr hr (i + 1) (Y ++ []) h hd' hi hXY hz O KK (by rw [List.append_nil]; exact S1)
        · skip
          refine Go.aaload (.ref a) V_ca rfl (own_idx hi hvl) (by rw [own_clamp (by omega), List.getD_eq_getElem?_getD, hvi]; rfl) d_row_29 ?_
          refine Go.nullF d_row_30 ?_
          refine Go.aloadN d_row_33 rfl rfl ?_
          refine Go.aloadN d_row_34 rfl rfl ?_
          refine Go.iloadN d_row_35 rfl ?_
          refine Go.aaload (.ref a) V_ca rfl (own_idx hi hvl) (by rw [own_clamp (by omega), List.getD_eq_getElem?_getD, hvi]; rfl) d_row_36 ?_
          refine Go.callV (I' := IN) (hI := nQ) sb [(.ref a)] [] (ct_ap l Z a0 hw n0 sb va a t kv k (Y.map own_b) (cs.map own_b) _ O z S_cs hcs g_sb g_va ne_sb_va S1 B (by rw [List.length_map, List.length_map]; omega)) E_sb (wd_134 hw) (wd_135 hw) (nf_sel (wd_137 hw)) (wd_137 hw) (wd_136 hw) (wd_37 hw) (wd_138 hw) (by decide) pd_25 rfl rfl rfl (Nat.le_of_ble_eq_true rfl) (Nat.le_of_ble_eq_true rfl) (Nat.le_of_ble_eq_true rfl) (Nat.le_of_ble_eq_true rfl) d_row_37 ?_
          rintro _ hp63 ⟨rfl, K63, S2⟩
          replace O := O.keep K63 (allS g_sb (allS g_va (all0)))
          replace E_sb := E_sb.keep K63
          replace hz : n0 ≤ hp63.size := Nat.le_trans hz K63.1
          replace KK : Keep h0 hp63 [] := KK.trans K63 (allS (Or.inr s_sb) (allS (Or.inr s_va) (all0)))
          show GM_row l Z n0 (fun v h => ∃ (x t : Addr) (k : ClassId), v = some (.ref x) ∧ Keep h0 h [] ∧ Byt Z h x t k ((jn 0 css).map own_b)) hp63 2 20 40 #[.val (.ref ca), .val (.ref sb), .val (.int (Int32.ofNat i))] [(.ref sb)]
          rw [← List.map_append] at S2
          refine Go.pop d_row_40 rfl ?_
          refine Go.iinc (Ls' := #[.val (.ref ca), .val (.ref sb), .val (.int ((Int32.ofNat i) + (1 : Int32)))]) (1 : Int32) rfl d_row_41 rfl rfl ?_
          refine Go.goto 10 d_row_44 (by decide) (by decide) ?_
          rw [show ((Int32.ofNat i) + (1 : Int32)) = (Int32.ofNat (i + 1)) from (own_of1 _)]
          exact ih cr hr (i + 1) (Y ++ cs) _ hd' hi hXY hz O KK S2
      by_cases hi0 : i = 0
      · skip
        -- not: (0 : Int32) < (Int32.ofNat i)
        refine Go.ifT 27 d_row_17 (flt ((by rw [hi0]; decide))).2.2.2 (by decide) (by decide) ?_
        exact j27 _ X (by rw [if_pos hi0, List.append_nil]) hz O KK S1
      · skip
        have hXl : X.length + 1 ≤ 15 := by
          have := congrArg List.length hX
          simp only [List.length_append, jn, if_neg hi0, List.length_cons, List.length_nil] at this
          omega
        -- (0 : Int32) < (Int32.ofNat i)
        refine Go.ifF d_row_17 (tlt (own_pos (by omega) (by omega))).2.2.2 ?_
        refine Go.aloadN d_row_20 rfl rfl ?_
        refine Go.bipush 9 d_row_21 rfl ?_
        -- at pc 23: pc 23: invokevirtual .invokevirtual 46 stack [(.int (9 : Int32)), (.ref sb)]
        refine Go.callV (I' := IN) (hI := nQ) sb [(.int (9 : Int32))] [] (ct_apc l Z a0 hw n0 sb va kv (X.map own_b) 9 _ O z S_cs hcs g_sb g_va ne_sb_va S1 (by rw [List.length_map]; omega) (by decide)) E_sb (wd_115 hw) (wd_116 hw) (nf_sel (wd_118 hw)) (wd_118 hw) (wd_117 hw) (wd_37 hw) (wd_119 hw) (by decide) pd_26 rfl rfl rfl (Nat.le_of_ble_eq_true rfl) (Nat.le_of_ble_eq_true rfl) (Nat.le_of_ble_eq_true rfl) (Nat.le_of_ble_eq_true rfl) d_row_23 ?_
        rintro _ hp64 ⟨rfl, K64, S2⟩
        replace O := O.keep K64 (allS g_sb (allS g_va (all0)))
        replace E_sb := E_sb.keep K64
        replace hz : n0 ≤ hp64.size := Nat.le_trans hz K64.1
        replace KK : Keep h0 hp64 [] := KK.trans K64 (allS (Or.inr s_sb) (allS (Or.inr s_va) (all0)))
        show GM_row l Z n0 (fun v h => ∃ (x t : Addr) (k : ClassId), v = some (.ref x) ∧ Keep h0 h [] ∧ Byt Z h x t k ((jn 0 css).map own_b)) hp64 2 20 26 #[.val (.ref ca), .val (.ref sb), .val (.int (Int32.ofNat i))] [(.ref sb)]
        refine Go.pop d_row_26 rfl ?_
        exact j27 _ (X ++ [9]) (by rw [if_neg hi0]) hz O KK (by rw [List.map_append]; exact S2)
  exact loop vs css hC 0 [] _ rfl (Nat.zero_le _) (by simp) hz O KK S1
theorem d_put_0 : decode method_4_code 0 = .ok (.iload_n 2, 1) := by decide +kernel
theorem d_put_1 : decode method_4_code 1 = .ok (.ifCond .eq 5, 3) := by decide +kernel
theorem d_put_4 : decode method_4_code 4 = .ok (.iload_n 1, 1) := by decide +kernel
theorem d_put_5 : decode method_4_code 5 = .ok (.ireturn, 1) := by decide +kernel
theorem d_put_6 : decode method_4_code 6 = .ok (.iload_n 3, 1) := by decide +kernel
theorem d_put_7 : decode method_4_code 7 = .ok (.iconst 1, 1) := by decide +kernel
theorem d_put_8 : decode method_4_code 8 = .ok (.if_icmp .lt 13, 3) := by decide +kernel
theorem d_put_11 : decode method_4_code 11 = .ok (.aload_n 0, 1) := by decide +kernel
theorem d_put_12 : decode method_4_code 12 = .ok (.iload_n 1, 1) := by decide +kernel
theorem d_put_13 : decode method_4_code 13 = .ok (.iload 4, 2) := by decide +kernel
theorem d_put_15 : decode method_4_code 15 = .ok (.sipush 255, 3) := by decide +kernel
theorem d_put_18 : decode method_4_code 18 = .ok (.iand, 1) := by decide +kernel
theorem d_put_19 : decode method_4_code 19 = .ok (.i2c, 1) := by decide +kernel
theorem d_put_20 : decode method_4_code 20 = .ok (.castore, 1) := by decide +kernel
theorem d_put_21 : decode method_4_code 21 = .ok (.iload_n 3, 1) := by decide +kernel
theorem d_put_22 : decode method_4_code 22 = .ok (.iconst 2, 1) := by decide +kernel
theorem d_put_23 : decode method_4_code 23 = .ok (.if_icmp .lt 18, 3) := by decide +kernel
theorem d_put_26 : decode method_4_code 26 = .ok (.aload_n 0, 1) := by decide +kernel
theorem d_put_27 : decode method_4_code 27 = .ok (.iload_n 1, 1) := by decide +kernel
theorem d_put_28 : decode method_4_code 28 = .ok (.iconst 1, 1) := by decide +kernel
theorem d_put_29 : decode method_4_code 29 = .ok (.iadd, 1) := by decide +kernel
theorem d_put_30 : decode method_4_code 30 = .ok (.iload 4, 2) := by decide +kernel
theorem d_put_32 : decode method_4_code 32 = .ok (.bipush 8, 2) := by decide +kernel
theorem d_put_34 : decode method_4_code 34 = .ok (.iushr, 1) := by decide +kernel
theorem d_put_35 : decode method_4_code 35 = .ok (.sipush 255, 3) := by decide +kernel
theorem d_put_38 : decode method_4_code 38 = .ok (.iand, 1) := by decide +kernel
theorem d_put_39 : decode method_4_code 39 = .ok (.i2c, 1) := by decide +kernel
theorem d_put_40 : decode method_4_code 40 = .ok (.castore, 1) := by decide +kernel
theorem d_put_41 : decode method_4_code 41 = .ok (.iload_n 1, 1) := by decide +kernel
theorem d_put_42 : decode method_4_code 42 = .ok (.iload_n 3, 1) := by decide +kernel
theorem d_put_43 : decode method_4_code 43 = .ok (.iadd, 1) := by decide +kernel
theorem d_put_44 : decode method_4_code 44 = .ok (.ireturn, 1) := by decide +kernel
abbrev R_put : Room := ({ frames := 0, cells := 0, slots := 0, locals := 0 } : Room)
abbrev GM_put (l : Launch) (Z : State) (n0 : Nat) (Q : Option Value → Heap → Prop) (h : Heap) (cells slots pc : Nat) (Ls : Array Slot) (st : List Value) : Prop := Go l Z n0 R_put "com/example/triplecast/triplecast/rdf/SparqlTsvRowPinLaw" "put" method_4_code 5 (some .int) IN (FN n0 R_put Q) h cells slots pc Ls st
abbrev GW_put (l : Launch) (Z : State) (EL : List (String × Nat)) (s₀ : State) (n0 : Nat) (Q : Option Value → Heap → Prop) (lo : Nat) (Sf : List Addr) (h : Heap) (cells slots pc : Nat) (Ls : Array Slot) (st : List Value) : Prop := Go l Z n0 R_put "com/example/triplecast/triplecast/rdf/SparqlTsvRowPinLaw" "put" method_4_code 5 (some .int) (IW Z EL s₀ lo Sf) (FW Z EL s₀ n0 R_put Q) h cells slots pc Ls st
theorem pf_put : plainFor (⟨"com/example/triplecast/triplecast/rdf/SparqlTsvRowPinLaw", "put", "([CIZII)I"⟩ : MethodName) = true := plainFor_of_name (by first | (simp [plainName, overriddenIn]; done) | decide +kernel)
theorem ct_put (l : Launch) (Z : State) (a0 : Array Value) (hw : ∀ d ∈ tables_1, d.before a0 Z = true) (n0 : Nat) (bf : Addr) (kb : ClassId) (P : List Int32) (u m x pos : Int32) (h0 : Heap) (hpos : pos = Int32.ofNat P.length) (g_bf : n0 ≤ bf) (hm : m = 0 ∨ m = 1 ∨ m = 2) (hP : P.length + (cel u m x).length ≤ 8) (V_bf : Arv Z h0 bf kb .char (8 : Int32) (P.map Value.int) (.int (0 : Int32))) :
    Ct l Z n0 "com/example/triplecast/triplecast/rdf/SparqlTsvRowPinLaw" "put" "([CIZII)I" [] method_4_code 5 (some .int) R_put #[.ref bf, .int pos, .int u, .int m, .int x] h0 (fun v h => v = some (.int (Int32.ofNat (P ++ cel u m x).length)) ∧ Keep h0 h [bf] ∧ Arv Z h bf kb .char (8 : Int32) ((P ++ cel u m x).map Value.int) (.int (0 : Int32))) := by
  subst hpos
  refine Ct.of_go pf_put (Ls := #[.val (.ref bf), .val (.int (Int32.ofNat P.length)), .val (.int u), .val (.int m), .val (.int x)]) (fun m => by first | rfl | (simp [entryFrame, mkF, argsToLocals, Value.category]; done)) ?_
  show GM_put l Z n0 (fun v h => v = some (.int (Int32.ofNat (P ++ cel u m x).length)) ∧ Keep h0 h [bf] ∧ Arv Z h bf kb .char (8 : Int32) ((P ++ cel u m x).map Value.int) (.int (0 : Int32))) h0 0 0 0 #[.val (.ref bf), .val (.int (Int32.ofNat P.length)), .val (.int u), .val (.int m), .val (.int x)] []
  refine Go.iloadN d_put_0 rfl ?_
  -- at pc 1: pc 1: ifCond .ifCond .eq 5 stack [(.int u)]
  by_cases h1 : u = (0 : Int32)
  · refine Go.ifT 6 d_put_1 (teq h1).1 (by decide) (by decide) ?_
    rw [cel, if_pos h1] at hP
    rcases hm with rfl | rfl | rfl
    · have hcel : cel u 0 x = [] := by rw [cel, if_pos h1, cC, if_pos rfl]
      refine Go.iloadN d_put_6 rfl ?_
      refine Go.iconst 1 d_put_7 rfl ?_
      -- at pc 8: pc 8: if_icmp .if_icmp .lt 13 stack [(.int (1 : Int32)), (.int (0 : Int32))]
      -- (0 : Int32) < (1 : Int32)
      refine Go.icT 21 d_put_8 (tlt (by decide)).1 (by decide) (by decide) ?_
      refine Go.iloadN d_put_21 rfl ?_
      refine Go.iconst 2 d_put_22 rfl ?_
      -- at pc 23: pc 23: if_icmp .if_icmp .lt 18 stack [(.int (2 : Int32)), (.int (0 : Int32))]
      -- (0 : Int32) < (2 : Int32)
      refine Go.icT 41 d_put_23 (tlt (by decide)).1 (by decide) (by decide) ?_
      refine Go.iloadN d_put_41 rfl ?_
      refine Go.iloadN d_put_42 rfl ?_
      refine Go.iadd d_put_43 ?_
      rw [show ((Int32.ofNat P.length) + (0 : Int32)) = (Int32.ofNat P.length) from (Int32.add_zero _)]
      exact Go.ireturn d_put_44 rfl (by decide) (by decide) ⟨by rw [hcel, List.append_nil], Keep.refl _ _, by rw [hcel, List.append_nil]; exact V_bf⟩
    · skip
      have hcel : cel u 1 x = [x &&& (255 : Int32)] := by rw [cel, if_pos h1, cC, if_neg (by decide), if_pos rfl]
      have hP1 : P.length + 1 ≤ 8 := hP
      refine Go.iloadN d_put_6 rfl ?_
      refine Go.iconst 1 d_put_7 rfl ?_
      -- at pc 8: pc 8: if_icmp .if_icmp .lt 13 stack [(.int (1 : Int32)), (.int (1 : Int32))]
      -- not: (1 : Int32) < (1 : Int32)
      refine Go.icF d_put_8 (flt (by decide)).1 ?_
      refine Go.aloadN d_put_11 rfl rfl ?_
      refine Go.iloadN d_put_12 rfl ?_
      refine Go.iload d_put_13 rfl ?_
      refine Go.sipush 255 d_put_15 rfl ?_
      refine Go.iand d_put_18 ?_
      refine Go.i2c d_put_19 ?_
      rw [show ((x &&& (255 : Int32)).toUInt32.toUInt16.toUInt32.toInt32) = (x &&& (255 : Int32)) from (i2c_mask x)]
      refine Go.castore (I' := IN) (hI := nI) (V_bf.pad (pad_rep _ _ (8 - P.length))) (own_idx (m := 8) (by (try simp only [List.length_append, List.length_cons, List.length_nil]); omega) (by decide)) g_bf P.length (own_clamp (by (try simp only [List.length_append, List.length_cons, List.length_nil]); omega)) (by simp; omega) d_put_20 fun h1 K_h1 V_h1 => ?_
      rw [own_nar255] at V_h1
      replace V_h1 := own_setp (by (try simp only [List.length_append, List.length_cons, List.length_nil]); omega) V_h1
      show GM_put l Z n0 (fun v h => v = some (.int (Int32.ofNat (P ++ cel u (1 : Int32) x).length)) ∧ Keep h0 h [bf] ∧ Arv Z h bf kb .char (8 : Int32) ((P ++ cel u (1 : Int32) x).map Value.int) (.int (0 : Int32))) h1 0 0 21 #[.val (.ref bf), .val (.int (Int32.ofNat P.length)), .val (.int u), .val (.int (1 : Int32)), .val (.int x)] []
      refine Go.iloadN d_put_21 rfl ?_
      refine Go.iconst 2 d_put_22 rfl ?_
      -- at pc 23: pc 23: if_icmp .if_icmp .lt 18 stack [(.int (2 : Int32)), (.int (1 : Int32))]
      -- (1 : Int32) < (2 : Int32)
      refine Go.icT 41 d_put_23 (tlt (by decide)).1 (by decide) (by decide) ?_
      refine Go.iloadN d_put_41 rfl ?_
      refine Go.iloadN d_put_42 rfl ?_
      refine Go.iadd d_put_43 ?_
      rw [show ((Int32.ofNat P.length) + (1 : Int32)) = (Int32.ofNat (P ++ [x &&& (255 : Int32)]).length) from (own_cnt1 _ _)]
      exact Go.ireturn d_put_44 rfl (by decide) (by decide) ⟨by rw [hcel], K_h1, by rw [hcel]; exact V_h1⟩
    · skip
      have hcel : cel u 2 x = [x &&& (255 : Int32), own_c1 x] := by rw [cel, if_pos h1, cC, if_neg (by decide), if_neg (by decide)]
      have hP2 : P.length + 2 ≤ 8 := hP
      refine Go.iloadN d_put_6 rfl ?_
      refine Go.iconst 1 d_put_7 rfl ?_
      -- at pc 8: pc 8: if_icmp .if_icmp .lt 13 stack [(.int (1 : Int32)), (.int (2 : Int32))]
      -- not: (2 : Int32) < (1 : Int32)
      refine Go.icF d_put_8 (flt (by decide)).1 ?_
      refine Go.aloadN d_put_11 rfl rfl ?_
      refine Go.iloadN d_put_12 rfl ?_
      refine Go.iload d_put_13 rfl ?_
      refine Go.sipush 255 d_put_15 rfl ?_
      refine Go.iand d_put_18 ?_
      refine Go.i2c d_put_19 ?_
      rw [show ((x &&& (255 : Int32)).toUInt32.toUInt16.toUInt32.toInt32) = (x &&& (255 : Int32)) from (i2c_mask x)]
      refine Go.castore (I' := IN) (hI := nI) (V_bf.pad (pad_rep _ _ (8 - P.length))) (own_idx (m := 8) (by (try simp only [List.length_append, List.length_cons, List.length_nil]); omega) (by decide)) g_bf P.length (own_clamp (by (try simp only [List.length_append, List.length_cons, List.length_nil]); omega)) (by simp; omega) d_put_20 fun h1 K_h1 V_h1 => ?_
      rw [own_nar255] at V_h1
      replace V_h1 := own_setp (by (try simp only [List.length_append, List.length_cons, List.length_nil]); omega) V_h1
      show GM_put l Z n0 (fun v h => v = some (.int (Int32.ofNat (P ++ cel u (2 : Int32) x).length)) ∧ Keep h0 h [bf] ∧ Arv Z h bf kb .char (8 : Int32) ((P ++ cel u (2 : Int32) x).map Value.int) (.int (0 : Int32))) h1 0 0 21 #[.val (.ref bf), .val (.int (Int32.ofNat P.length)), .val (.int u), .val (.int (2 : Int32)), .val (.int x)] []
      refine Go.iloadN d_put_21 rfl ?_
      refine Go.iconst 2 d_put_22 rfl ?_
      -- at pc 23: pc 23: if_icmp .if_icmp .lt 18 stack [(.int (2 : Int32)), (.int (2 : Int32))]
      -- not: (2 : Int32) < (2 : Int32)
      refine Go.icF d_put_23 (flt (by decide)).1 ?_
      refine Go.aloadN d_put_26 rfl rfl ?_
      refine Go.iloadN d_put_27 rfl ?_
      refine Go.iconst 1 d_put_28 rfl ?_
      refine Go.iadd d_put_29 ?_
      refine Go.iload d_put_30 rfl ?_
      refine Go.bipush 8 d_put_32 rfl ?_
      refine Go.iushr d_put_34 ?_
      refine Go.sipush 255 d_put_35 rfl ?_
      refine Go.iand d_put_38 ?_
      refine Go.i2c d_put_39 ?_
      rw [show ((((x.toUInt32 >>> ((8 : Int32) &&& 31).toUInt32).toInt32) &&& (255 : Int32)).toUInt32.toUInt16.toUInt32.toInt32) = (((x.toUInt32 >>> ((8 : Int32) &&& 31).toUInt32).toInt32) &&& (255 : Int32)) from (i2c_mask _)]
      rw [show ((Int32.ofNat P.length) + (1 : Int32)) = (Int32.ofNat (P ++ [x &&& (255 : Int32)]).length) from (own_cnt1 _ _)]
      refine Go.castore (I' := IN) (hI := nI) (V_h1.pad (pad_rep _ _ (8 - (P ++ [x &&& (255 : Int32)]).length))) (own_idx (m := 8) (by (try simp only [List.length_append, List.length_cons, List.length_nil]); omega) (by decide)) g_bf (P ++ [x &&& (255 : Int32)]).length (own_clamp (by (try simp only [List.length_append, List.length_cons, List.length_nil]); omega)) (by simp; omega) d_put_40 fun h2 K_h2 V_h2 => ?_
      rw [own_nar255] at V_h2
      replace V_h2 := own_setp (by (try simp only [List.length_append, List.length_cons, List.length_nil]); omega) V_h2
      show GM_put l Z n0 (fun v h => v = some (.int (Int32.ofNat (P ++ cel u (2 : Int32) x).length)) ∧ Keep h0 h [bf] ∧ Arv Z h bf kb .char (8 : Int32) ((P ++ cel u (2 : Int32) x).map Value.int) (.int (0 : Int32))) h2 0 0 41 #[.val (.ref bf), .val (.int (Int32.ofNat P.length)), .val (.int u), .val (.int (2 : Int32)), .val (.int x)] []
      refine Go.iloadN d_put_41 rfl ?_
      refine Go.iloadN d_put_42 rfl ?_
      refine Go.iadd d_put_43 ?_
      rw [show ((Int32.ofNat P.length) + (2 : Int32)) = (Int32.ofNat (P ++ [x &&& (255 : Int32), own_c1 x]).length) from (by rw [List.length_append]; exact (Int32.ofNat_add _ 2).symm)]
      exact Go.ireturn d_put_44 rfl (by decide) (by decide) ⟨by rw [hcel], K_h1.trans K_h2 (fun y hy => Or.inl hy), by rw [hcel]; rw [List.append_assoc] at V_h2; exact V_h2⟩
  · refine Go.ifF d_put_1 (feq h1).1 ?_
    rw [cel, if_neg h1]
    refine Go.iloadN d_put_4 rfl ?_
    -- at pc 5: pc 5: ireturn .ireturn stack [(.int (Int32.ofNat P.length))]
    exact Go.ireturn d_put_5 rfl (by decide) (by decide) ⟨by simp, Keep.refl _ _, by simpa using V_bf⟩
theorem d_att_0 : decode method_5_code 0 = .ok (.iload_n 3, 1) := by decide +kernel
theorem d_att_1 : decode method_5_code 1 = .ok (.iload_n 2, 1) := by decide +kernel
theorem d_att_2 : decode method_5_code 2 = .ok (.if_icmp .ge 14, 3) := by decide +kernel
theorem d_att_5 : decode method_5_code 5 = .ok (.aload_n 0, 1) := by decide +kernel
theorem d_att_6 : decode method_5_code 6 = .ok (.iload_n 3, 1) := by decide +kernel
theorem d_att_7 : decode method_5_code 7 = .ok (.invokevirtual 46, 3) := by decide +kernel
theorem d_att_10 : decode method_5_code 10 = .ok (.aload_n 1, 1) := by decide +kernel
theorem d_att_11 : decode method_5_code 11 = .ok (.iload_n 3, 1) := by decide +kernel
theorem d_att_12 : decode method_5_code 12 = .ok (.caload, 1) := by decide +kernel
theorem d_att_13 : decode method_5_code 13 = .ok (.if_icmp .ne 7, 3) := by decide +kernel
theorem d_att_16 : decode method_5_code 16 = .ok (.iconst 1, 1) := by decide +kernel
theorem d_att_17 : decode method_5_code 17 = .ok (.goto 4, 3) := by decide +kernel
theorem d_att_21 : decode method_5_code 21 = .ok (.ireturn, 1) := by decide +kernel
abbrev R_att : Room := ({ frames := 4, cells := 0, slots := 0, locals := 54 } : Room)
abbrev GM_att (l : Launch) (Z : State) (n0 : Nat) (Q : Option Value → Heap → Prop) (h : Heap) (cells slots pc : Nat) (Ls : Array Slot) (st : List Value) : Prop := Go l Z n0 R_att "com/example/triplecast/triplecast/rdf/SparqlTsvRowPinLaw" "at" method_5_code 4 (some .boolean) IN (FN n0 R_att Q) h cells slots pc Ls st
abbrev GW_att (l : Launch) (Z : State) (EL : List (String × Nat)) (s₀ : State) (n0 : Nat) (Q : Option Value → Heap → Prop) (lo : Nat) (Sf : List Addr) (h : Heap) (cells slots pc : Nat) (Ls : Array Slot) (st : List Value) : Prop := Go l Z n0 R_att "com/example/triplecast/triplecast/rdf/SparqlTsvRowPinLaw" "at" method_5_code 4 (some .boolean) (IW Z EL s₀ lo Sf) (FW Z EL s₀ n0 R_att Q) h cells slots pc Ls st
theorem pf_att : plainFor (⟨"com/example/triplecast/triplecast/rdf/SparqlTsvRowPinLaw", "at", "(Ljava/lang/String;[CII)Z"⟩ : MethodName) = true := plainFor_of_name (by first | (simp [plainName, overriddenIn]; done) | decide +kernel)
theorem ct_att (l : Launch) (Z : State) (a0 : Array Value) (hw : ∀ d ∈ tables_1, d.before a0 Z = true) (n0 : Nat) (r t bf : Addr) (kt kb : ClassId) (P : List Int32) (i : Nat) (h0 : Heap) (O : Old Z n0 h0) (z : Int32) (S_cs : Sta Z Z.heap "java/lang/String" "COMPACT_STRINGS" "Z" (.int z)) (hcs : ¬ z = 0) (vf : Value) (hvf : vf.isRef = true) (S_f : Sta Z Z.heap "jdk/internal/util/Preconditions" "SIOOBE_FORMATTER" "Ljava/util/function/BiFunction;" vf) (hi : i < 8) (hPl : P.length ≤ 8) (hok : ∀ c ∈ P, own_ch (own_b c) = c) (B : Byt Z h0 r t kt (P.map own_b)) (V_bf : Arv Z h0 bf kb .char (8 : Int32) (P.map Value.int) (.int (0 : Int32))) :
    Ct l Z n0 "com/example/triplecast/triplecast/rdf/SparqlTsvRowPinLaw" "at" "(Ljava/lang/String;[CII)Z" [] method_5_code 4 (some .boolean) R_att #[.ref r, .ref bf, .int (Int32.ofNat P.length), .int (Int32.ofNat i)] h0 (fun v h => v = some (.int (1 : Int32)) ∧ h0 = h) := by
  have E_r := B.1
  refine Ct.of_go pf_att (Ls := #[.val (.ref r), .val (.ref bf), .val (.int (Int32.ofNat P.length)), .val (.int (Int32.ofNat i))]) (fun m => by first | rfl | (simp [entryFrame, mkF, argsToLocals, Value.category]; done)) ?_
  show GM_att l Z n0 (fun v h => v = some (.int (1 : Int32)) ∧ h0 = h) h0 0 0 0 #[.val (.ref r), .val (.ref bf), .val (.int (Int32.ofNat P.length)), .val (.int (Int32.ofNat i))] []
  refine Go.iloadN d_att_0 rfl ?_
  refine Go.iloadN d_att_1 rfl ?_
  -- at pc 2: pc 2: if_icmp .if_icmp .ge 14 stack [(.int (Int32.ofNat P.length)), (.int (Int32.ofNat i))]
  by_cases hq : (Int32.ofNat i) < (Int32.ofNat P.length)
  · refine Go.icF d_att_2 (tlt hq).2.1 ?_
    have hlt : i < P.length := own_ltn (by omega) (by omega) hq
    obtain ⟨c, hc⟩ : ∃ c, P[i]? = some c := ⟨_, List.getElem?_eq_getElem hlt⟩
    have hcm : c ∈ P := List.mem_of_getElem? hc
    refine Go.aloadN d_att_5 rfl rfl ?_
    refine Go.iloadN d_att_6 rfl ?_
    -- at pc 7: pc 7: invokevirtual .invokevirtual 46 stack [(.int (Int32.ofNat i)), (.ref r)]
    refine Go.callV (I' := IN) (hI := nQ) r [(.int (Int32.ofNat i))] [] (ct_chr l Z a0 hw n0 r t kt (P.map own_b) i (own_b c) c _ O z S_cs hcs vf hvf S_f B (by rw [List.length_map]; omega) (by rw [List.getElem?_map, hc]; rfl) (hok c hcm)) E_r (wd_164 hw) (wd_165 hw) (nf_sel (wd_167 hw)) (wd_167 hw) (wd_166 hw) (wd_10 hw) (wd_168 hw) (by decide) pd_27 rfl rfl rfl (Nat.le_of_ble_eq_true rfl) (Nat.le_of_ble_eq_true rfl) (Nat.le_of_ble_eq_true rfl) (Nat.le_of_ble_eq_true rfl) d_att_7 ?_
    rintro _ _ ⟨rfl, rfl⟩
    show GM_att l Z n0 (fun v h => v = some (.int (1 : Int32)) ∧ h0 = h) h0 0 0 10 #[.val (.ref r), .val (.ref bf), .val (.int (Int32.ofNat P.length)), .val (.int (Int32.ofNat i))] [(.int c)]
    refine Go.aloadN d_att_10 rfl rfl ?_
    refine Go.iloadN d_att_11 rfl ?_
    refine Go.caload (.int c) V_bf (own_idx (m := 8) hi (by decide)) (by rw [own_clamp (by omega), List.getD_eq_getElem?_getD, List.getElem?_map, hc]; rfl) d_att_12 ?_
    -- c = c
    refine Go.icF d_att_13 (teq (rfl)).2 ?_
    refine Go.iconst 1 d_att_16 rfl ?_
    refine Go.goto 21 d_att_17 (by decide) (by decide) ?_
    -- at pc 21: pc 21: ireturn .ireturn stack [(.int (1 : Int32))]
    exact Go.nreturn .boolean d_att_21 rfl (by simp) (by decide) (by decide) ⟨rfl, rfl⟩
  · refine Go.icT 16 d_att_2 (flt hq).2.1 (by decide) (by decide) ?_
    refine Go.iconst 1 d_att_16 rfl ?_
    refine Go.goto 21 d_att_17 (by decide) (by decide) ?_
    -- at pc 21: pc 21: ireturn .ireturn stack [(.int (1 : Int32))]
    exact Go.nreturn .boolean d_att_21 rfl (by simp) (by decide) (by decide) ⟨rfl, rfl⟩
theorem ct_minm (l : Launch) (Z : State) (a0 : Array Value) (hw : ∀ d ∈ tables_1, d.before a0 Z = true) (n0 : Nat) (a : Int32) (h0 : Heap) (ha : a = 0 ∨ a = 1 ∨ a = 2 ∨ a = 3) : Ct l Z n0 "java/lang/Math" "min" "(II)I" [] jdk_29_method_69_code 2 (some .int) R_mmin #[.int a, .int (2 : Int32)] h0 (fun v h => ∃ m : Int32, v = some (.int m) ∧ (m = 0 ∨ m = 1 ∨ m = 2) ∧ h0 = h) := by
  refine Ct.of_go pf_mmin (Ls := #[.val (.int a), .val (.int (2 : Int32))]) (fun m => by first | rfl | (simp [entryFrame, mkF, argsToLocals, Value.category]; done)) ?_
  show GM_mmin l Z n0 (fun v h => ∃ m : Int32, v = some (.int m) ∧ (m = 0 ∨ m = 1 ∨ m = 2) ∧ h0 = h) h0 0 0 0 #[.val (.int a), .val (.int (2 : Int32))] []
  refine Go.iloadN d_mmin_0 rfl ?_
  refine Go.iloadN d_mmin_1 rfl ?_
  -- at pc 2: pc 2: if_icmp .if_icmp .gt 7 stack [(.int (2 : Int32)), (.int a)]
  by_cases hq : (2 : Int32) < a
  · refine Go.icT 9 d_mmin_2 (tlt hq).2.2.1 (by decide) (by decide) ?_
    refine Go.iloadN d_mmin_9 rfl ?_
    -- at pc 10: pc 10: ireturn .ireturn stack [(.int (2 : Int32))]
    exact Go.ireturn d_mmin_10 rfl (by decide) (by decide) ⟨_, rfl, by decide, rfl⟩
  · refine Go.icF d_mmin_2 (flt hq).2.2.1 ?_
    refine Go.iloadN d_mmin_5 rfl ?_
    refine Go.goto 10 d_mmin_6 (by decide) (by decide) ?_
    -- at pc 10: pc 10: ireturn .ireturn stack [(.int a)]
    exact Go.ireturn d_mmin_10 rfl (by decide) (by decide) ⟨_, rfl, by rcases ha with rfl | rfl | rfl | rfl <;> first | (exact absurd (by decide) hq) | decide, rfl⟩
theorem own_and3 (x : Int32) : x &&& (3 : Int32) = 0 ∨ x &&& (3 : Int32) = 1 ∨ x &&& (3 : Int32) = 2 ∨ x &&& (3 : Int32) = 3 := by
  have h := c_mask x 3 2 (by decide) (by decide)
  simp only [Nat.reducePow] at h
  have : (x &&& 3).toInt = 0 ∨ (x &&& 3).toInt = 1 ∨ (x &&& 3).toInt = 2 ∨ (x &&& 3).toInt = 3 := by omega
  rcases this with q | q | q | q
  · exact Or.inl (Int32.toInt_inj.mp q)
  · exact Or.inr (Or.inl (Int32.toInt_inj.mp q))
  · exact Or.inr (Or.inr (Or.inl (Int32.toInt_inj.mp q)))
  · exact Or.inr (Or.inr (Or.inr (Int32.toInt_inj.mp q)))
def OkL (P : List Int32) : Prop := ∀ c ∈ P, own_ch (own_b c) = c
theorem OkL.nil : OkL [] := fun _ h => nomatch h
theorem OkL.app {P Q : List Int32} (h : OkL P) (g : OkL Q) : OkL (P ++ Q) := fun c q => (List.mem_append.mp q).elim (h c) (g c)
theorem OkL.nine : OkL [9] := fun c q => by rw [List.mem_singleton] at q; subst q; exact own_ok9

abbrev R_law : Room := room_1
abbrev GM_law (l : Launch) (Z : State) (n0 : Nat) (Q : Option Value → Heap → Prop) (h : Heap) (cells slots pc : Nat) (Ls : Array Slot) (st : List Value) : Prop := Go l Z n0 R_law "com/example/triplecast/triplecast/rdf/SparqlTsvRowPinLaw" "law" code maxLocals ret IN (FN n0 R_law Q) h cells slots pc Ls st
abbrev GW_law (l : Launch) (Z : State) (EL : List (String × Nat)) (s₀ : State) (n0 : Nat) (Q : Option Value → Heap → Prop) (lo : Nat) (Sf : List Addr) (h : Heap) (cells slots pc : Nat) (Ls : Array Slot) (st : List Value) : Prop := Go l Z n0 R_law "com/example/triplecast/triplecast/rdf/SparqlTsvRowPinLaw" "law" code maxLocals ret (IW Z EL s₀ lo Sf) (FW Z EL s₀ n0 R_law Q) h cells slots pc Ls st
theorem pf_law : plainFor (⟨"com/example/triplecast/triplecast/rdf/SparqlTsvRowPinLaw", "law", "(IIII)Z"⟩ : MethodName) = true := plainFor_of_name (by first | (simp [plainName, overriddenIn]; done) | decide +kernel)
set_option maxRecDepth 65536 in
set_option maxHeartbeats 40000000 in
theorem ct_law (l : Launch) (Z : State) (a0 : Array Value) (hw : ∀ d ∈ tables_1, d.before a0 Z = true) (n0 : Nat) (p0 p1 p2 p3 : Int32) (h0 : Heap) (hz : n0 ≤ h0.size) (O : Old Z n0 h0) (z : Int32) (S_cs : Sta Z Z.heap "java/lang/String" "COMPACT_STRINGS" "Z" (.int z)) (hcs : ¬ z = 0) (vf : Value) (hvf : vf.isRef = true) (S_f : Sta Z Z.heap "jdk/internal/util/Preconditions" "SIOOBE_FORMATTER" "Ljava/util/function/BiFunction;" vf) :
    CtW l Z EL n0 "com/example/triplecast/triplecast/rdf/SparqlTsvRowPinLaw" "law" "(IIII)Z" tables_1 code maxLocals ret R_law #[.int p0, .int p1, .int p2, .int p3] h0 [] (fun v _ => v = some (.int 1)) := by
  refine CtW.of_go pf_law (Ls := #[.val (.int p0), .val (.int p1), .val (.int p2), .val (.int p3), .unset, .unset, .unset, .unset, .unset, .unset, .unset, .unset, .unset, .unset, .unset, .unset, .unset, .unset]) (fun m => by first | (simp [entryFrame, mkF, argsToLocals, Value.category, maxLocals]; done) | rfl) fun s₀ => ?_
  have hlo : h0.size ≤ h0.size := Nat.le_refl _
  have hEL : EW Z a0 EL := ewEL hw
  show GW_law l Z EL s₀ n0 (fun v _ => v = some (.int 1)) h0.size [] h0 0 0 0 #[.val (.int p0), .val (.int p1), .val (.int p2), .val (.int p3), .unset, .unset, .unset, .unset, .unset, .unset, .unset, .unset, .unset, .unset, .unset, .unset, .unset, .unset] []
  refine Go.iloadN at_0 rfl ?_
  refine Go.iconst 3 at_1 rfl ?_
  refine Go.iand at_2 ?_
  refine Go.istore (Ls' := #[.val (.int p0), .val (.int p1), .val (.int p2), .val (.int p3), .val (.int (p0 &&& (3 : Int32))), .unset, .unset, .unset, .unset, .unset, .unset, .unset, .unset, .unset, .unset, .unset, .unset, .unset]) at_3 rfl ?_
  refine Go.iloadN at_5 rfl ?_
  refine Go.iconst 2 at_6 rfl ?_
  refine Go.iushr at_7 ?_
  refine Go.iconst 1 at_8 rfl ?_
  refine Go.iand at_9 ?_
  -- at pc 10: pc 10: ifCond .ifCond .eq 7 stack [(.int (((p0.toUInt32 >>> ((2 : Int32) &&& 31).toUInt32).toInt32) &&& (1 : Int32)))]
  have j18 : ∀ u0 : Int32, GW_law l Z EL s₀ n0 (fun v _ => v = some (.int 1)) h0.size [] h0 0 0 18 #[.val (.int p0), .val (.int p1), .val (.int p2), .val (.int p3), .val (.int (p0 &&& (3 : Int32))), .unset, .unset, .unset, .unset, .unset, .unset, .unset, .unset, .unset, .unset, .unset, .unset, .unset] [.int u0] := by
    intro u0
    refine Go.istore (Ls' := #[.val (.int p0), .val (.int p1), .val (.int p2), .val (.int p3), .val (.int (p0 &&& (3 : Int32))), .val (.int u0), .unset, .unset, .unset, .unset, .unset, .unset, .unset, .unset, .unset, .unset, .unset, .unset]) at_18 rfl ?_
    refine Go.iloadN at_20 rfl ?_
    refine Go.iconst 3 at_21 rfl ?_
    refine Go.iushr at_22 ?_
    refine Go.iconst 1 at_23 rfl ?_
    refine Go.iand at_24 ?_
    -- at pc 25: pc 25: ifCond .ifCond .eq 7 stack [(.int (((p0.toUInt32 >>> ((3 : Int32) &&& 31).toUInt32).toInt32) &&& (1 : Int32)))]
    have j33 : ∀ u1 : Int32, GW_law l Z EL s₀ n0 (fun v _ => v = some (.int 1)) h0.size [] h0 0 0 33 #[.val (.int p0), .val (.int p1), .val (.int p2), .val (.int p3), .val (.int (p0 &&& (3 : Int32))), .val (.int u0), .unset, .unset, .unset, .unset, .unset, .unset, .unset, .unset, .unset, .unset, .unset, .unset] [.int u1] := by
      intro u1
      refine Go.istore (Ls' := #[.val (.int p0), .val (.int p1), .val (.int p2), .val (.int p3), .val (.int (p0 &&& (3 : Int32))), .val (.int u0), .val (.int u1), .unset, .unset, .unset, .unset, .unset, .unset, .unset, .unset, .unset, .unset, .unset]) at_33 rfl ?_
      refine Go.iloadN at_35 rfl ?_
      refine Go.iconst 4 at_36 rfl ?_
      refine Go.iushr at_37 ?_
      refine Go.iconst 1 at_38 rfl ?_
      refine Go.iand at_39 ?_
      -- at pc 40: pc 40: ifCond .ifCond .eq 7 stack [(.int (((p0.toUInt32 >>> ((4 : Int32) &&& 31).toUInt32).toInt32) &&& (1 : Int32)))]
      have j48 : ∀ u2 : Int32, GW_law l Z EL s₀ n0 (fun v _ => v = some (.int 1)) h0.size [] h0 0 0 48 #[.val (.int p0), .val (.int p1), .val (.int p2), .val (.int p3), .val (.int (p0 &&& (3 : Int32))), .val (.int u0), .val (.int u1), .unset, .unset, .unset, .unset, .unset, .unset, .unset, .unset, .unset, .unset, .unset] [.int u2] := by
        intro u2
        refine Go.istore (Ls' := #[.val (.int p0), .val (.int p1), .val (.int p2), .val (.int p3), .val (.int (p0 &&& (3 : Int32))), .val (.int u0), .val (.int u1), .val (.int u2), .unset, .unset, .unset, .unset, .unset, .unset, .unset, .unset, .unset, .unset]) at_48 rfl ?_
        refine Go.iloadN at_50 rfl ?_
        refine Go.iconst 5 at_51 rfl ?_
        refine Go.iushr at_52 ?_
        refine Go.iconst 3 at_53 rfl ?_
        refine Go.iand at_54 ?_
        refine Go.iconst 2 at_55 rfl ?_
        -- at pc 56: pc 56: invokestatic .invokestatic 7 stack [(.int (2 : Int32)), (.int (((p0.toUInt32 >>> ((5 : Int32) &&& 31).toUInt32).toInt32) &&& (3 : Int32)))]
        refine Go.callS (I' := IW Z EL s₀ h0.size []) (hI := wQ (ws := []) (fun v h' q => by obtain ⟨m0, rfl, hm0, rfl⟩ := q; exact Keep.refl _ _) all0) [(.int (((p0.toUInt32 >>> ((5 : Int32) &&& 31).toUInt32).toInt32) &&& (3 : Int32))), (.int (2 : Int32))] [] (ct_minm l Z a0 hw n0 (((p0.toUInt32 >>> ((5 : Int32) &&& 31).toUInt32).toInt32) &&& (3 : Int32)) _ (own_and3 _)) (wd_0 hw) (wd_1 hw) (wd_2 hw) (wd_3 hw) (by decide) pd_12 rfl rfl rfl (Nat.le_of_ble_eq_true rfl) (Nat.le_of_ble_eq_true rfl) (Nat.le_of_ble_eq_true rfl) (Nat.le_of_ble_eq_true rfl) at_56 ?_
        rintro _ _ ⟨m0, rfl, hm0, rfl⟩
        show GW_law l Z EL s₀ n0 (fun v _ => v = some (.int 1)) h0.size [] h0 0 0 59 #[.val (.int p0), .val (.int p1), .val (.int p2), .val (.int p3), .val (.int (p0 &&& (3 : Int32))), .val (.int u0), .val (.int u1), .val (.int u2), .unset, .unset, .unset, .unset, .unset, .unset, .unset, .unset, .unset, .unset] [(.int m0)]
        refine Go.istore (Ls' := #[.val (.int p0), .val (.int p1), .val (.int p2), .val (.int p3), .val (.int (p0 &&& (3 : Int32))), .val (.int u0), .val (.int u1), .val (.int u2), .val (.int m0), .unset, .unset, .unset, .unset, .unset, .unset, .unset, .unset, .unset]) at_59 rfl ?_
        refine Go.iloadN at_61 rfl ?_
        refine Go.bipush 7 at_62 rfl ?_
        refine Go.iushr at_64 ?_
        refine Go.iconst 3 at_65 rfl ?_
        refine Go.iand at_66 ?_
        refine Go.iconst 2 at_67 rfl ?_
        -- at pc 68: pc 68: invokestatic .invokestatic 7 stack [(.int (2 : Int32)), (.int (((p0.toUInt32 >>> ((7 : Int32) &&& 31).toUInt32).toInt32) &&& (3 : Int32)))]
        refine Go.callS (I' := IW Z EL s₀ h0.size []) (hI := wQ (ws := []) (fun v h' q => by obtain ⟨m1, rfl, hm1, rfl⟩ := q; exact Keep.refl _ _) all0) [(.int (((p0.toUInt32 >>> ((7 : Int32) &&& 31).toUInt32).toInt32) &&& (3 : Int32))), (.int (2 : Int32))] [] (ct_minm l Z a0 hw n0 (((p0.toUInt32 >>> ((7 : Int32) &&& 31).toUInt32).toInt32) &&& (3 : Int32)) _ (own_and3 _)) (wd_0 hw) (wd_1 hw) (wd_2 hw) (wd_3 hw) (by decide) pd_12 rfl rfl rfl (Nat.le_of_ble_eq_true rfl) (Nat.le_of_ble_eq_true rfl) (Nat.le_of_ble_eq_true rfl) (Nat.le_of_ble_eq_true rfl) at_68 ?_
        rintro _ _ ⟨m1, rfl, hm1, rfl⟩
        show GW_law l Z EL s₀ n0 (fun v _ => v = some (.int 1)) h0.size [] h0 0 0 71 #[.val (.int p0), .val (.int p1), .val (.int p2), .val (.int p3), .val (.int (p0 &&& (3 : Int32))), .val (.int u0), .val (.int u1), .val (.int u2), .val (.int m0), .unset, .unset, .unset, .unset, .unset, .unset, .unset, .unset, .unset] [(.int m1)]
        refine Go.istore (Ls' := #[.val (.int p0), .val (.int p1), .val (.int p2), .val (.int p3), .val (.int (p0 &&& (3 : Int32))), .val (.int u0), .val (.int u1), .val (.int u2), .val (.int m0), .val (.int m1), .unset, .unset, .unset, .unset, .unset, .unset, .unset, .unset]) at_71 rfl ?_
        refine Go.iloadN at_73 rfl ?_
        refine Go.bipush 9 at_74 rfl ?_
        refine Go.iushr at_76 ?_
        refine Go.iconst 3 at_77 rfl ?_
        refine Go.iand at_78 ?_
        refine Go.iconst 2 at_79 rfl ?_
        -- at pc 80: pc 80: invokestatic .invokestatic 7 stack [(.int (2 : Int32)), (.int (((p0.toUInt32 >>> ((9 : Int32) &&& 31).toUInt32).toInt32) &&& (3 : Int32)))]
        refine Go.callS (I' := IW Z EL s₀ h0.size []) (hI := wQ (ws := []) (fun v h' q => by obtain ⟨m2, rfl, hm2, rfl⟩ := q; exact Keep.refl _ _) all0) [(.int (((p0.toUInt32 >>> ((9 : Int32) &&& 31).toUInt32).toInt32) &&& (3 : Int32))), (.int (2 : Int32))] [] (ct_minm l Z a0 hw n0 (((p0.toUInt32 >>> ((9 : Int32) &&& 31).toUInt32).toInt32) &&& (3 : Int32)) _ (own_and3 _)) (wd_0 hw) (wd_1 hw) (wd_2 hw) (wd_3 hw) (by decide) pd_12 rfl rfl rfl (Nat.le_of_ble_eq_true rfl) (Nat.le_of_ble_eq_true rfl) (Nat.le_of_ble_eq_true rfl) (Nat.le_of_ble_eq_true rfl) at_80 ?_
        rintro _ _ ⟨m2, rfl, hm2, rfl⟩
        show GW_law l Z EL s₀ n0 (fun v _ => v = some (.int 1)) h0.size [] h0 0 0 83 #[.val (.int p0), .val (.int p1), .val (.int p2), .val (.int p3), .val (.int (p0 &&& (3 : Int32))), .val (.int u0), .val (.int u1), .val (.int u2), .val (.int m0), .val (.int m1), .unset, .unset, .unset, .unset, .unset, .unset, .unset, .unset] [(.int m2)]
        refine Go.istore (Ls' := #[.val (.int p0), .val (.int p1), .val (.int p2), .val (.int p3), .val (.int (p0 &&& (3 : Int32))), .val (.int u0), .val (.int u1), .val (.int u2), .val (.int m0), .val (.int m1), .val (.int m2), .unset, .unset, .unset, .unset, .unset, .unset, .unset]) at_83 rfl ?_
        refine Go.iload at_85 rfl ?_
        -- at pc 87: pc 87: ifCond .ifCond .eq 7 stack [(.int u0)]
        have j100 : ∀ (h : Heap) (lo : Nat) (v0 : Value), v0.isRef = true → lo ≤ h.size → n0 ≤ h.size → Old Z n0 h → Cel Z h v0 (cel u0 m0 p1) → GW_law l Z EL s₀ n0 (fun v _ => v = some (.int 1)) lo [] h 6 12 100 #[.val (.int p0), .val (.int p1), .val (.int p2), .val (.int p3), .val (.int (p0 &&& (3 : Int32))), .val (.int u0), .val (.int u1), .val (.int u2), .val (.int m0), .val (.int m1), .val (.int m2), .unset, .unset, .unset, .unset, .unset, .unset, .unset] [v0] := by
          clear hz O hlo
          intro h lo v0 r0 hlo hz O C0
          refine Go.astore (Ls' := #[.val (.int p0), .val (.int p1), .val (.int p2), .val (.int p3), .val (.int (p0 &&& (3 : Int32))), .val (.int u0), .val (.int u1), .val (.int u2), .val (.int m0), .val (.int m1), .val (.int m2), .val v0, .unset, .unset, .unset, .unset, .unset, .unset]) at_100 r0 (st_at rfl One.u (cat_ref r0) rfl) ?_
          refine Go.iload at_102 rfl ?_
          -- at pc 104: pc 104: ifCond .ifCond .eq 7 stack [(.int u1)]
          have j117 : ∀ (h : Heap) (lo : Nat) (v1 : Value), v1.isRef = true → lo ≤ h.size → n0 ≤ h.size → Old Z n0 h → Cel Z h v0 (cel u0 m0 p1) → Cel Z h v1 (cel u1 m1 p2) → GW_law l Z EL s₀ n0 (fun v _ => v = some (.int 1)) lo [] h 12 24 117 #[.val (.int p0), .val (.int p1), .val (.int p2), .val (.int p3), .val (.int (p0 &&& (3 : Int32))), .val (.int u0), .val (.int u1), .val (.int u2), .val (.int m0), .val (.int m1), .val (.int m2), .val v0, .unset, .unset, .unset, .unset, .unset, .unset] [v1] := by
            clear hz O hlo C0
            intro h lo v1 r1 hlo hz O C0 C1
            refine Go.astore (Ls' := #[.val (.int p0), .val (.int p1), .val (.int p2), .val (.int p3), .val (.int (p0 &&& (3 : Int32))), .val (.int u0), .val (.int u1), .val (.int u2), .val (.int m0), .val (.int m1), .val (.int m2), .val v0, .val v1, .unset, .unset, .unset, .unset, .unset]) at_117 r1 (st_at rfl One.u (cat_ref r1) rfl) ?_
            refine Go.iload at_119 rfl ?_
            -- at pc 121: pc 121: ifCond .ifCond .eq 7 stack [(.int u2)]
            have j134 : ∀ (h : Heap) (lo : Nat) (v2 : Value), v2.isRef = true → lo ≤ h.size → n0 ≤ h.size → Old Z n0 h → Cel Z h v0 (cel u0 m0 p1) → Cel Z h v1 (cel u1 m1 p2) → Cel Z h v2 (cel u2 m2 p3) → GW_law l Z EL s₀ n0 (fun v _ => v = some (.int 1)) lo [] h 18 36 134 #[.val (.int p0), .val (.int p1), .val (.int p2), .val (.int p3), .val (.int (p0 &&& (3 : Int32))), .val (.int u0), .val (.int u1), .val (.int u2), .val (.int m0), .val (.int m1), .val (.int m2), .val v0, .val v1, .unset, .unset, .unset, .unset, .unset] [v2] := by
              clear hz O hlo C0 C1
              intro h lo v2 r2 hlo hz O C0 C1 C2
              obtain ⟨e0, he0⟩ : ∃ e, e = cel u0 m0 p1 := ⟨_, rfl⟩
              obtain ⟨e1, he1⟩ : ∃ e, e = cel u1 m1 p2 := ⟨_, rfl⟩
              obtain ⟨e2, he2⟩ : ∃ e, e = cel u2 m2 p3 := ⟨_, rfl⟩
              rw [← he0] at C0
              rw [← he1] at C1
              rw [← he2] at C2
              have l_e0 : e0.length ≤ 2 := he0 ▸ own_cle _ _ _
              have l_e1 : e1.length ≤ 2 := he1 ▸ own_cle _ _ _
              have l_e2 : e2.length ≤ 2 := he2 ▸ own_cle _ _ _
              have k_e0 : OkL e0 := he0 ▸ own_celok _ _ _
              have k_e1 : OkL e1 := he1 ▸ own_celok _ _ _
              have k_e2 : OkL e2 := he2 ▸ own_celok _ _ _
              have KK : Keep h h [] := Keep.refl _ _
              rcases own_and3 p0 with hn | hn | hn | hn
              · rw [hn]
                refine Go.astore (Ls' := #[.val (.int p0), .val (.int p1), .val (.int p2), .val (.int p3), .val (.int (0 : Int32)), .val (.int u0), .val (.int u1), .val (.int u2), .val (.int m0), .val (.int m1), .val (.int m2), .val v0, .val v1, .val v2, .unset, .unset, .unset, .unset]) at_134 r2 (st_at rfl One.u (cat_ref r2) rfl) ?_
                refine Go.iload at_136 rfl ?_
                -- at pc 138: pc 138: anewarray .anewarray 19 stack [(.int (0 : Int32))]
                refine Go.newR (I' := IW Z EL s₀ lo []) (hI := wE) (wd_8 hw) (wd_30 hw) at_138 (by decide) 0 (by decide) (by decide) (by decide) (by decide) fun hp69 ca k_ca e_ca X69 V_ca O_ca => ?_
                have K69 : Keep h hp69 [] := (Keep.refl _ _).ext X69
                have g_ca : n0 ≤ ca := e_ca ▸ hz
                have l_ca : lo ≤ ca := e_ca ▸ hlo
                have s_ca : h.size ≤ ca := e_ca ▸ KK.1
                replace O := O.keep K69 (all0)
                replace V_ca : Arv Z hp69 ca k_ca (.object "java/lang/String") (0 : Int32) [] .null := V_ca.pad (pad_rep [] .null 0)
                replace hz : n0 ≤ hp69.size := Nat.le_trans hz K69.1
                replace hlo : lo ≤ hp69.size := Nat.le_trans hlo K69.1
                replace KK : Keep h hp69 [] := KK.trans K69 (all0)
                refine Go.astore (Ls' := #[.val (.int p0), .val (.int p1), .val (.int p2), .val (.int p3), .val (.int (0 : Int32)), .val (.int u0), .val (.int u1), .val (.int u2), .val (.int m0), .val (.int m1), .val (.int m2), .val v0, .val v1, .val v2, .val (.ref ca), .unset, .unset, .unset]) at_141 rfl rfl ?_
                refine Go.iload at_143 rfl ?_
                -- at pc 145: pc 145: ifCond .ifCond .le 9 stack [(.int (0 : Int32))]
                -- not: (0 : Int32) < (0 : Int32)
                refine Go.ifT 154 at_145 (flt (by decide)).2.2.2 (by decide) (by decide) ?_
                refine Go.iload at_154 rfl ?_
                refine Go.iconst 1 at_156 rfl ?_
                -- at pc 157: pc 157: if_icmp .if_icmp .le 9 stack [(.int (1 : Int32)), (.int (0 : Int32))]
                -- not: (1 : Int32) < (0 : Int32)
                refine Go.icT 166 at_157 (flt (by decide)).2.2.2 (by decide) (by decide) ?_
                refine Go.iload at_166 rfl ?_
                refine Go.iconst 2 at_168 rfl ?_
                -- at pc 169: pc 169: if_icmp .if_icmp .le 9 stack [(.int (2 : Int32)), (.int (0 : Int32))]
                -- not: (2 : Int32) < (0 : Int32)
                refine Go.icT 178 at_169 (flt (by decide)).2.2.2 (by decide) (by decide) ?_
                refine Go.aload at_178 rfl rfl ?_
                -- at pc 180: pc 180: invokestatic .invokestatic 21 stack [(.ref ca)]
                refine Go.callS (I' := IW Z EL s₀ lo []) (hI := wQ (ws := []) (fun v h' q => by obtain ⟨r, t, k, rfl, K70, BR⟩ := q; exact K70) all0) [(.ref ca)] [] (ct_row l Z a0 hw n0 ca k_ca [] [] _ hz O z S_cs hcs V_ca (by simp) trivial (by simp [jn] <;> omega)) (wd_31 hw) (wd_32 hw) (wd_33 hw) (wd_34 hw) (by decide) pd_28 rfl rfl rfl (Nat.le_of_ble_eq_true rfl) (Nat.le_of_ble_eq_true rfl) (Nat.le_of_ble_eq_true rfl) (Nat.le_of_ble_eq_true rfl) at_180 ?_
                rintro _ hp70 ⟨r, t, k, rfl, K70, BR⟩
                replace O := O.keep K70 (all0)
                replace V_ca := V_ca.keep K70 nin0
                replace hz : n0 ≤ hp70.size := Nat.le_trans hz K70.1
                replace hlo : lo ≤ hp70.size := Nat.le_trans hlo K70.1
                replace KK : Keep h hp70 [] := KK.trans K70 (all0)
                show GW_law l Z EL s₀ n0 (fun v _ => v = some (.int 1)) lo [] hp70 23 80 183 #[.val (.int p0), .val (.int p1), .val (.int p2), .val (.int p3), .val (.int (0 : Int32)), .val (.int u0), .val (.int u1), .val (.int u2), .val (.int m0), .val (.int m1), .val (.int m2), .val v0, .val v1, .val v2, .val (.ref ca), .unset, .unset, .unset] [(.ref r)]
                have E_r := BR.1
                refine Go.astore (Ls' := #[.val (.int p0), .val (.int p1), .val (.int p2), .val (.int p3), .val (.int (0 : Int32)), .val (.int u0), .val (.int u1), .val (.int u2), .val (.int m0), .val (.int m1), .val (.int m2), .val v0, .val v1, .val v2, .val (.ref ca), .val (.ref r), .unset, .unset]) at_183 rfl rfl ?_
                refine Go.bipush 8 at_185 rfl ?_
                -- at pc 187: pc 187: newarray .newarray .char stack [(.int (8 : Int32))]
                refine Go.newP (I' := IW Z EL s₀ lo []) (hI := wE) .char (wd_11 hw) rfl at_187 (by decide) 8 (by decide) (by decide) (by decide) (by decide) fun hp71 bf k_bf e_bf X71 V_bf => ?_
                have K71 : Keep hp70 hp71 [] := (Keep.refl _ _).ext X71
                have g_bf : n0 ≤ bf := e_bf ▸ hz
                have l_bf : lo ≤ bf := e_bf ▸ hlo
                have s_bf : h.size ≤ bf := e_bf ▸ KK.1
                have ne_r_bf : r ≠ bf := Nat.ne_of_lt (e_bf ▸ E_r.lt)
                have ne_t_bf : t ≠ bf := Nat.ne_of_lt (e_bf ▸ BR.lt2)
                replace O := O.keep K71 (all0)
                replace E_r := E_r.keep K71
                replace BR := BR.keep K71 nin0 nin0
                replace V_bf : Arv Z hp71 bf k_bf .char (8 : Int32) [(.int (0 : Int32)), (.int (0 : Int32)), (.int (0 : Int32)), (.int (0 : Int32)), (.int (0 : Int32)), (.int (0 : Int32)), (.int (0 : Int32)), (.int (0 : Int32))] (.int (0 : Int32)) := V_bf.pad (pad_rep [] (.int (0 : Int32)) 8)
                replace hz : n0 ≤ hp71.size := Nat.le_trans hz K71.1
                replace hlo : lo ≤ hp71.size := Nat.le_trans hlo K71.1
                replace KK : Keep h hp71 [] := KK.trans K71 (all0)
                replace V_bf : Arv Z _ bf k_bf .char (8 : Int32) (([] : List Int32).map Value.int) (.int (0 : Int32)) := V_bf.pad (fun i => (pad_rep [] (.int (0 : Int32)) 8 i).symm)
                refine Go.astore (Ls' := #[.val (.int p0), .val (.int p1), .val (.int p2), .val (.int p3), .val (.int (0 : Int32)), .val (.int u0), .val (.int u1), .val (.int u2), .val (.int m0), .val (.int m1), .val (.int m2), .val v0, .val v1, .val v2, .val (.ref ca), .val (.ref r), .val (.ref bf), .unset]) at_189 rfl rfl ?_
                refine Go.iconst 0 at_191 rfl ?_
                refine Go.istore (Ls' := #[.val (.int p0), .val (.int p1), .val (.int p2), .val (.int p3), .val (.int (0 : Int32)), .val (.int u0), .val (.int u1), .val (.int u2), .val (.int m0), .val (.int m1), .val (.int m2), .val v0, .val v1, .val v2, .val (.ref ca), .val (.ref r), .val (.ref bf), .val (.int (0 : Int32))]) at_192 rfl ?_
                refine Go.iload at_194 rfl ?_
                -- at pc 196: pc 196: ifCond .ifCond .le 17 stack [(.int (0 : Int32))]
                -- not: (0 : Int32) < (0 : Int32)
                refine Go.ifT 213 at_196 (flt (by decide)).2.2.2 (by decide) (by decide) ?_
                refine Go.iload at_213 rfl ?_
                refine Go.iconst 1 at_215 rfl ?_
                -- at pc 216: pc 216: if_icmp .if_icmp .le 30 stack [(.int (1 : Int32)), (.int (0 : Int32))]
                -- not: (1 : Int32) < (0 : Int32)
                refine Go.icT 246 at_216 (flt (by decide)).2.2.2 (by decide) (by decide) ?_
                refine Go.iload at_246 rfl ?_
                refine Go.iconst 2 at_248 rfl ?_
                -- at pc 249: pc 249: if_icmp .if_icmp .le 30 stack [(.int (2 : Int32)), (.int (0 : Int32))]
                -- not: (2 : Int32) < (0 : Int32)
                refine Go.icT 279 at_249 (flt (by decide)).2.2.2 (by decide) (by decide) ?_
                have hok : OkL ([] : List Int32) := OkL.nil
                have hPl : ([] : List Int32).length ≤ 8 := (by (try simp only [List.length_append, List.length_cons, List.length_nil]); omega)
                have hR : (jn 0 []).map own_b = ([] : List Int32).map own_b := by simp [jn]
                rw [hR] at BR
                refine Go.aload at_279 rfl rfl ?_
                refine Go.nullF at_281 ?_
                refine Go.aload at_284 rfl rfl ?_
                -- at pc 286: pc 286: invokevirtual .invokevirtual 31 stack [(.ref r)]
                refine Go.callV (I' := IW Z EL s₀ lo []) (hI := wQ (ws := []) (fun v h' q => by obtain ⟨rfl, rfl⟩ := q; exact Keep.refl _ _) all0) r [] [] (ct_slen l Z a0 hw n0 r t k (([] : List Int32).map own_b) _ O z S_cs hcs BR) E_r (wd_101 hw) (wd_102 hw) (nf_sel (wd_104 hw)) (wd_104 hw) (wd_103 hw) (wd_10 hw) (wd_105 hw) (by decide) pd_8 rfl rfl rfl (Nat.le_of_ble_eq_true rfl) (Nat.le_of_ble_eq_true rfl) (Nat.le_of_ble_eq_true rfl) (Nat.le_of_ble_eq_true rfl) at_286 ?_
                rintro _ _ ⟨rfl, rfl⟩
                show GW_law l Z EL s₀ n0 (fun v _ => v = some (.int 1)) lo [] hp71 24 88 289 #[.val (.int p0), .val (.int p1), .val (.int p2), .val (.int p3), .val (.int (0 : Int32)), .val (.int u0), .val (.int u1), .val (.int u2), .val (.int m0), .val (.int m1), .val (.int m2), .val v0, .val v1, .val v2, .val (.ref ca), .val (.ref r), .val (.ref bf), .val (.int (0 : Int32))] [(.int (Int32.ofNat (([] : List Int32).map own_b).length))]
                refine Go.iload at_289 rfl ?_
                -- at pc 291: pc 291: if_icmp .if_icmp .eq 5 stack [(.int (0 : Int32)), (.int (Int32.ofNat (([] : List Int32).map own_b).length))]
                -- (Int32.ofNat (([] : List Int32).map own_b).length) = (0 : Int32)
                refine Go.icT 296 at_291 (teq ((by first | (rw [List.length_map]; done) | rfl))).1 (by decide) (by decide) ?_
                refine Go.aload at_296 rfl rfl ?_
                refine Go.aload at_298 rfl rfl ?_
                refine Go.iload at_300 rfl ?_
                refine Go.iconst 0 at_302 rfl ?_
                -- at pc 303: pc 303: invokestatic .invokestatic 35 stack [(.int (0 : Int32)), (.int (0 : Int32)), (.ref bf), (.ref r)]
                refine Go.callS (I' := IW Z EL s₀ lo []) (hI := wQ (ws := []) (fun v h' q => by obtain ⟨rfl, rfl⟩ := q; exact Keep.refl _ _) all0) [(.ref r), (.ref bf), (.int (0 : Int32)), (.int (0 : Int32))] [] (ct_att l Z a0 hw n0 r t bf k k_bf ([] : List Int32) 0 _ O z S_cs hcs vf hvf S_f (by decide) hPl hok BR V_bf) (wd_112 hw) (wd_113 hw) (wd_6 hw) (wd_114 hw) (by decide) pd_29 rfl rfl rfl (Nat.le_of_ble_eq_true rfl) (Nat.le_of_ble_eq_true rfl) (Nat.le_of_ble_eq_true rfl) (Nat.le_of_ble_eq_true rfl) at_303 ?_
                rintro _ _ ⟨rfl, rfl⟩
                show GW_law l Z EL s₀ n0 (fun v _ => v = some (.int 1)) lo [] hp71 24 88 306 #[.val (.int p0), .val (.int p1), .val (.int p2), .val (.int p3), .val (.int (0 : Int32)), .val (.int u0), .val (.int u1), .val (.int u2), .val (.int m0), .val (.int m1), .val (.int m2), .val v0, .val v1, .val v2, .val (.ref ca), .val (.ref r), .val (.ref bf), .val (.int (0 : Int32))] [(.int (1 : Int32))]
                -- at pc 306: pc 306: ifCond .ifCond .eq 100 stack [(.int (1 : Int32))]
                -- not: (1 : Int32) = (0 : Int32)
                refine Go.ifF at_306 (feq (by decide)).1 ?_
                refine Go.aload at_309 rfl rfl ?_
                refine Go.aload at_311 rfl rfl ?_
                refine Go.iload at_313 rfl ?_
                refine Go.iconst 1 at_315 rfl ?_
                -- at pc 316: pc 316: invokestatic .invokestatic 35 stack [(.int (1 : Int32)), (.int (0 : Int32)), (.ref bf), (.ref r)]
                refine Go.callS (I' := IW Z EL s₀ lo []) (hI := wQ (ws := []) (fun v h' q => by obtain ⟨rfl, rfl⟩ := q; exact Keep.refl _ _) all0) [(.ref r), (.ref bf), (.int (0 : Int32)), (.int (1 : Int32))] [] (ct_att l Z a0 hw n0 r t bf k k_bf ([] : List Int32) 1 _ O z S_cs hcs vf hvf S_f (by decide) hPl hok BR V_bf) (wd_112 hw) (wd_113 hw) (wd_6 hw) (wd_114 hw) (by decide) pd_29 rfl rfl rfl (Nat.le_of_ble_eq_true rfl) (Nat.le_of_ble_eq_true rfl) (Nat.le_of_ble_eq_true rfl) (Nat.le_of_ble_eq_true rfl) at_316 ?_
                rintro _ _ ⟨rfl, rfl⟩
                show GW_law l Z EL s₀ n0 (fun v _ => v = some (.int 1)) lo [] hp71 24 88 319 #[.val (.int p0), .val (.int p1), .val (.int p2), .val (.int p3), .val (.int (0 : Int32)), .val (.int u0), .val (.int u1), .val (.int u2), .val (.int m0), .val (.int m1), .val (.int m2), .val v0, .val v1, .val v2, .val (.ref ca), .val (.ref r), .val (.ref bf), .val (.int (0 : Int32))] [(.int (1 : Int32))]
                -- at pc 319: pc 319: ifCond .ifCond .eq 87 stack [(.int (1 : Int32))]
                -- not: (1 : Int32) = (0 : Int32)
                refine Go.ifF at_319 (feq (by decide)).1 ?_
                refine Go.aload at_322 rfl rfl ?_
                refine Go.aload at_324 rfl rfl ?_
                refine Go.iload at_326 rfl ?_
                refine Go.iconst 2 at_328 rfl ?_
                -- at pc 329: pc 329: invokestatic .invokestatic 35 stack [(.int (2 : Int32)), (.int (0 : Int32)), (.ref bf), (.ref r)]
                refine Go.callS (I' := IW Z EL s₀ lo []) (hI := wQ (ws := []) (fun v h' q => by obtain ⟨rfl, rfl⟩ := q; exact Keep.refl _ _) all0) [(.ref r), (.ref bf), (.int (0 : Int32)), (.int (2 : Int32))] [] (ct_att l Z a0 hw n0 r t bf k k_bf ([] : List Int32) 2 _ O z S_cs hcs vf hvf S_f (by decide) hPl hok BR V_bf) (wd_112 hw) (wd_113 hw) (wd_6 hw) (wd_114 hw) (by decide) pd_29 rfl rfl rfl (Nat.le_of_ble_eq_true rfl) (Nat.le_of_ble_eq_true rfl) (Nat.le_of_ble_eq_true rfl) (Nat.le_of_ble_eq_true rfl) at_329 ?_
                rintro _ _ ⟨rfl, rfl⟩
                show GW_law l Z EL s₀ n0 (fun v _ => v = some (.int 1)) lo [] hp71 24 88 332 #[.val (.int p0), .val (.int p1), .val (.int p2), .val (.int p3), .val (.int (0 : Int32)), .val (.int u0), .val (.int u1), .val (.int u2), .val (.int m0), .val (.int m1), .val (.int m2), .val v0, .val v1, .val v2, .val (.ref ca), .val (.ref r), .val (.ref bf), .val (.int (0 : Int32))] [(.int (1 : Int32))]
                -- at pc 332: pc 332: ifCond .ifCond .eq 74 stack [(.int (1 : Int32))]
                -- not: (1 : Int32) = (0 : Int32)
                refine Go.ifF at_332 (feq (by decide)).1 ?_
                refine Go.aload at_335 rfl rfl ?_
                refine Go.aload at_337 rfl rfl ?_
                refine Go.iload at_339 rfl ?_
                refine Go.iconst 3 at_341 rfl ?_
                -- at pc 342: pc 342: invokestatic .invokestatic 35 stack [(.int (3 : Int32)), (.int (0 : Int32)), (.ref bf), (.ref r)]
                refine Go.callS (I' := IW Z EL s₀ lo []) (hI := wQ (ws := []) (fun v h' q => by obtain ⟨rfl, rfl⟩ := q; exact Keep.refl _ _) all0) [(.ref r), (.ref bf), (.int (0 : Int32)), (.int (3 : Int32))] [] (ct_att l Z a0 hw n0 r t bf k k_bf ([] : List Int32) 3 _ O z S_cs hcs vf hvf S_f (by decide) hPl hok BR V_bf) (wd_112 hw) (wd_113 hw) (wd_6 hw) (wd_114 hw) (by decide) pd_29 rfl rfl rfl (Nat.le_of_ble_eq_true rfl) (Nat.le_of_ble_eq_true rfl) (Nat.le_of_ble_eq_true rfl) (Nat.le_of_ble_eq_true rfl) at_342 ?_
                rintro _ _ ⟨rfl, rfl⟩
                show GW_law l Z EL s₀ n0 (fun v _ => v = some (.int 1)) lo [] hp71 24 88 345 #[.val (.int p0), .val (.int p1), .val (.int p2), .val (.int p3), .val (.int (0 : Int32)), .val (.int u0), .val (.int u1), .val (.int u2), .val (.int m0), .val (.int m1), .val (.int m2), .val v0, .val v1, .val v2, .val (.ref ca), .val (.ref r), .val (.ref bf), .val (.int (0 : Int32))] [(.int (1 : Int32))]
                -- at pc 345: pc 345: ifCond .ifCond .eq 61 stack [(.int (1 : Int32))]
                -- not: (1 : Int32) = (0 : Int32)
                refine Go.ifF at_345 (feq (by decide)).1 ?_
                refine Go.aload at_348 rfl rfl ?_
                refine Go.aload at_350 rfl rfl ?_
                refine Go.iload at_352 rfl ?_
                refine Go.iconst 4 at_354 rfl ?_
                -- at pc 355: pc 355: invokestatic .invokestatic 35 stack [(.int (4 : Int32)), (.int (0 : Int32)), (.ref bf), (.ref r)]
                refine Go.callS (I' := IW Z EL s₀ lo []) (hI := wQ (ws := []) (fun v h' q => by obtain ⟨rfl, rfl⟩ := q; exact Keep.refl _ _) all0) [(.ref r), (.ref bf), (.int (0 : Int32)), (.int (4 : Int32))] [] (ct_att l Z a0 hw n0 r t bf k k_bf ([] : List Int32) 4 _ O z S_cs hcs vf hvf S_f (by decide) hPl hok BR V_bf) (wd_112 hw) (wd_113 hw) (wd_6 hw) (wd_114 hw) (by decide) pd_29 rfl rfl rfl (Nat.le_of_ble_eq_true rfl) (Nat.le_of_ble_eq_true rfl) (Nat.le_of_ble_eq_true rfl) (Nat.le_of_ble_eq_true rfl) at_355 ?_
                rintro _ _ ⟨rfl, rfl⟩
                show GW_law l Z EL s₀ n0 (fun v _ => v = some (.int 1)) lo [] hp71 24 88 358 #[.val (.int p0), .val (.int p1), .val (.int p2), .val (.int p3), .val (.int (0 : Int32)), .val (.int u0), .val (.int u1), .val (.int u2), .val (.int m0), .val (.int m1), .val (.int m2), .val v0, .val v1, .val v2, .val (.ref ca), .val (.ref r), .val (.ref bf), .val (.int (0 : Int32))] [(.int (1 : Int32))]
                -- at pc 358: pc 358: ifCond .ifCond .eq 48 stack [(.int (1 : Int32))]
                -- not: (1 : Int32) = (0 : Int32)
                refine Go.ifF at_358 (feq (by decide)).1 ?_
                refine Go.aload at_361 rfl rfl ?_
                refine Go.aload at_363 rfl rfl ?_
                refine Go.iload at_365 rfl ?_
                refine Go.iconst 5 at_367 rfl ?_
                -- at pc 368: pc 368: invokestatic .invokestatic 35 stack [(.int (5 : Int32)), (.int (0 : Int32)), (.ref bf), (.ref r)]
                refine Go.callS (I' := IW Z EL s₀ lo []) (hI := wQ (ws := []) (fun v h' q => by obtain ⟨rfl, rfl⟩ := q; exact Keep.refl _ _) all0) [(.ref r), (.ref bf), (.int (0 : Int32)), (.int (5 : Int32))] [] (ct_att l Z a0 hw n0 r t bf k k_bf ([] : List Int32) 5 _ O z S_cs hcs vf hvf S_f (by decide) hPl hok BR V_bf) (wd_112 hw) (wd_113 hw) (wd_6 hw) (wd_114 hw) (by decide) pd_29 rfl rfl rfl (Nat.le_of_ble_eq_true rfl) (Nat.le_of_ble_eq_true rfl) (Nat.le_of_ble_eq_true rfl) (Nat.le_of_ble_eq_true rfl) at_368 ?_
                rintro _ _ ⟨rfl, rfl⟩
                show GW_law l Z EL s₀ n0 (fun v _ => v = some (.int 1)) lo [] hp71 24 88 371 #[.val (.int p0), .val (.int p1), .val (.int p2), .val (.int p3), .val (.int (0 : Int32)), .val (.int u0), .val (.int u1), .val (.int u2), .val (.int m0), .val (.int m1), .val (.int m2), .val v0, .val v1, .val v2, .val (.ref ca), .val (.ref r), .val (.ref bf), .val (.int (0 : Int32))] [(.int (1 : Int32))]
                -- at pc 371: pc 371: ifCond .ifCond .eq 35 stack [(.int (1 : Int32))]
                -- not: (1 : Int32) = (0 : Int32)
                refine Go.ifF at_371 (feq (by decide)).1 ?_
                refine Go.aload at_374 rfl rfl ?_
                refine Go.aload at_376 rfl rfl ?_
                refine Go.iload at_378 rfl ?_
                refine Go.bipush 6 at_380 rfl ?_
                -- at pc 382: pc 382: invokestatic .invokestatic 35 stack [(.int (6 : Int32)), (.int (0 : Int32)), (.ref bf), (.ref r)]
                refine Go.callS (I' := IW Z EL s₀ lo []) (hI := wQ (ws := []) (fun v h' q => by obtain ⟨rfl, rfl⟩ := q; exact Keep.refl _ _) all0) [(.ref r), (.ref bf), (.int (0 : Int32)), (.int (6 : Int32))] [] (ct_att l Z a0 hw n0 r t bf k k_bf ([] : List Int32) 6 _ O z S_cs hcs vf hvf S_f (by decide) hPl hok BR V_bf) (wd_112 hw) (wd_113 hw) (wd_6 hw) (wd_114 hw) (by decide) pd_29 rfl rfl rfl (Nat.le_of_ble_eq_true rfl) (Nat.le_of_ble_eq_true rfl) (Nat.le_of_ble_eq_true rfl) (Nat.le_of_ble_eq_true rfl) at_382 ?_
                rintro _ _ ⟨rfl, rfl⟩
                show GW_law l Z EL s₀ n0 (fun v _ => v = some (.int 1)) lo [] hp71 24 88 385 #[.val (.int p0), .val (.int p1), .val (.int p2), .val (.int p3), .val (.int (0 : Int32)), .val (.int u0), .val (.int u1), .val (.int u2), .val (.int m0), .val (.int m1), .val (.int m2), .val v0, .val v1, .val v2, .val (.ref ca), .val (.ref r), .val (.ref bf), .val (.int (0 : Int32))] [(.int (1 : Int32))]
                -- at pc 385: pc 385: ifCond .ifCond .eq 21 stack [(.int (1 : Int32))]
                -- not: (1 : Int32) = (0 : Int32)
                refine Go.ifF at_385 (feq (by decide)).1 ?_
                refine Go.aload at_388 rfl rfl ?_
                refine Go.aload at_390 rfl rfl ?_
                refine Go.iload at_392 rfl ?_
                refine Go.bipush 7 at_394 rfl ?_
                -- at pc 396: pc 396: invokestatic .invokestatic 35 stack [(.int (7 : Int32)), (.int (0 : Int32)), (.ref bf), (.ref r)]
                refine Go.callS (I' := IW Z EL s₀ lo []) (hI := wQ (ws := []) (fun v h' q => by obtain ⟨rfl, rfl⟩ := q; exact Keep.refl _ _) all0) [(.ref r), (.ref bf), (.int (0 : Int32)), (.int (7 : Int32))] [] (ct_att l Z a0 hw n0 r t bf k k_bf ([] : List Int32) 7 _ O z S_cs hcs vf hvf S_f (by decide) hPl hok BR V_bf) (wd_112 hw) (wd_113 hw) (wd_6 hw) (wd_114 hw) (by decide) pd_29 rfl rfl rfl (Nat.le_of_ble_eq_true rfl) (Nat.le_of_ble_eq_true rfl) (Nat.le_of_ble_eq_true rfl) (Nat.le_of_ble_eq_true rfl) at_396 ?_
                rintro _ _ ⟨rfl, rfl⟩
                show GW_law l Z EL s₀ n0 (fun v _ => v = some (.int 1)) lo [] hp71 24 88 399 #[.val (.int p0), .val (.int p1), .val (.int p2), .val (.int p3), .val (.int (0 : Int32)), .val (.int u0), .val (.int u1), .val (.int u2), .val (.int m0), .val (.int m1), .val (.int m2), .val v0, .val v1, .val v2, .val (.ref ca), .val (.ref r), .val (.ref bf), .val (.int (0 : Int32))] [(.int (1 : Int32))]
                -- at pc 399: pc 399: ifCond .ifCond .eq 7 stack [(.int (1 : Int32))]
                -- not: (1 : Int32) = (0 : Int32)
                refine Go.ifF at_399 (feq (by decide)).1 ?_
                refine Go.iconst 1 at_402 rfl ?_
                refine Go.goto 407 at_403 (by decide) (by decide) ?_
                -- at pc 407: pc 407: ireturn .ireturn stack [(.int (1 : Int32))]
                exact GW.nreturn .boolean hEL at_407 rfl (by simp) (by decide) (by decide) rfl
              · rw [hn]
                refine Go.astore (Ls' := #[.val (.int p0), .val (.int p1), .val (.int p2), .val (.int p3), .val (.int (1 : Int32)), .val (.int u0), .val (.int u1), .val (.int u2), .val (.int m0), .val (.int m1), .val (.int m2), .val v0, .val v1, .val v2, .unset, .unset, .unset, .unset]) at_134 r2 (st_at rfl One.u (cat_ref r2) rfl) ?_
                refine Go.iload at_136 rfl ?_
                -- at pc 138: pc 138: anewarray .anewarray 19 stack [(.int (1 : Int32))]
                refine Go.newR (I' := IW Z EL s₀ lo []) (hI := wE) (wd_8 hw) (wd_30 hw) at_138 (by decide) 1 (by decide) (by decide) (by decide) (by decide) fun hp81 ca k_ca e_ca X81 V_ca O_ca => ?_
                have K81 : Keep h hp81 [] := (Keep.refl _ _).ext X81
                have g_ca : n0 ≤ ca := e_ca ▸ hz
                have l_ca : lo ≤ ca := e_ca ▸ hlo
                have s_ca : h.size ≤ ca := e_ca ▸ KK.1
                replace O := O.keep K81 (all0)
                replace V_ca : Arv Z hp81 ca k_ca (.object "java/lang/String") (1 : Int32) [.null] .null := V_ca.pad (pad_rep [] .null 1)
                replace hz : n0 ≤ hp81.size := Nat.le_trans hz K81.1
                replace hlo : lo ≤ hp81.size := Nat.le_trans hlo K81.1
                replace KK : Keep h hp81 [] := KK.trans K81 (all0)
                refine Go.astore (Ls' := #[.val (.int p0), .val (.int p1), .val (.int p2), .val (.int p3), .val (.int (1 : Int32)), .val (.int u0), .val (.int u1), .val (.int u2), .val (.int m0), .val (.int m1), .val (.int m2), .val v0, .val v1, .val v2, .val (.ref ca), .unset, .unset, .unset]) at_141 rfl rfl ?_
                refine Go.iload at_143 rfl ?_
                -- at pc 145: pc 145: ifCond .ifCond .le 9 stack [(.int (1 : Int32))]
                -- (0 : Int32) < (1 : Int32)
                refine Go.ifF at_145 (tlt (by decide)).2.2.2 ?_
                refine Go.aload at_148 rfl rfl ?_
                refine Go.iconst 0 at_150 rfl ?_
                refine Go.aload at_151 rfl r0 ?_
                refine Go.aastore (I' := IW Z EL s₀ lo []) (hI := wI (Sb.arv V_ca (by decide))) V_ca rfl (fits_ref' r0) ((C0.keep KK).sto O_ca) ⟨by decide, by decide⟩ g_ca 0 rfl (Nat.le_of_ble_eq_true rfl) at_153 fun hp82 K82 V_ca_n => ?_
                replace V_ca : Arv Z hp82 ca k_ca (.object "java/lang/String") (1 : Int32) [v0] .null := V_ca_n
                replace O := O.keep K82 (allS g_ca (all0))
                replace hz : n0 ≤ hp82.size := Nat.le_trans hz K82.1
                replace hlo : lo ≤ hp82.size := Nat.le_trans hlo K82.1
                replace KK : Keep h hp82 [] := KK.trans K82 (allS (Or.inr s_ca) (all0))
                refine Go.iload at_154 rfl ?_
                refine Go.iconst 1 at_156 rfl ?_
                -- at pc 157: pc 157: if_icmp .if_icmp .le 9 stack [(.int (1 : Int32)), (.int (1 : Int32))]
                -- not: (1 : Int32) < (1 : Int32)
                refine Go.icT 166 at_157 (flt (by decide)).2.2.2 (by decide) (by decide) ?_
                refine Go.iload at_166 rfl ?_
                refine Go.iconst 2 at_168 rfl ?_
                -- at pc 169: pc 169: if_icmp .if_icmp .le 9 stack [(.int (2 : Int32)), (.int (1 : Int32))]
                -- not: (2 : Int32) < (1 : Int32)
                refine Go.icT 178 at_169 (flt (by decide)).2.2.2 (by decide) (by decide) ?_
                refine Go.aload at_178 rfl rfl ?_
                -- at pc 180: pc 180: invokestatic .invokestatic 21 stack [(.ref ca)]
                refine Go.callS (I' := IW Z EL s₀ lo []) (hI := wQ (ws := []) (fun v h' q => by obtain ⟨r, t, k, rfl, K83, BR⟩ := q; exact K83) all0) [(.ref ca)] [] (ct_row l Z a0 hw n0 ca k_ca [v0] [e0] _ hz O z S_cs hcs V_ca (by simp) ⟨C0.keep KK, trivial⟩ (by simp [jn] <;> omega)) (wd_31 hw) (wd_32 hw) (wd_33 hw) (wd_34 hw) (by decide) pd_28 rfl rfl rfl (Nat.le_of_ble_eq_true rfl) (Nat.le_of_ble_eq_true rfl) (Nat.le_of_ble_eq_true rfl) (Nat.le_of_ble_eq_true rfl) at_180 ?_
                rintro _ hp83 ⟨r, t, k, rfl, K83, BR⟩
                replace O := O.keep K83 (all0)
                replace V_ca := V_ca.keep K83 nin0
                replace hz : n0 ≤ hp83.size := Nat.le_trans hz K83.1
                replace hlo : lo ≤ hp83.size := Nat.le_trans hlo K83.1
                replace KK : Keep h hp83 [] := KK.trans K83 (all0)
                show GW_law l Z EL s₀ n0 (fun v _ => v = some (.int 1)) lo [] hp83 23 81 183 #[.val (.int p0), .val (.int p1), .val (.int p2), .val (.int p3), .val (.int (1 : Int32)), .val (.int u0), .val (.int u1), .val (.int u2), .val (.int m0), .val (.int m1), .val (.int m2), .val v0, .val v1, .val v2, .val (.ref ca), .unset, .unset, .unset] [(.ref r)]
                have E_r := BR.1
                refine Go.astore (Ls' := #[.val (.int p0), .val (.int p1), .val (.int p2), .val (.int p3), .val (.int (1 : Int32)), .val (.int u0), .val (.int u1), .val (.int u2), .val (.int m0), .val (.int m1), .val (.int m2), .val v0, .val v1, .val v2, .val (.ref ca), .val (.ref r), .unset, .unset]) at_183 rfl rfl ?_
                refine Go.bipush 8 at_185 rfl ?_
                -- at pc 187: pc 187: newarray .newarray .char stack [(.int (8 : Int32))]
                refine Go.newP (I' := IW Z EL s₀ lo []) (hI := wE) .char (wd_11 hw) rfl at_187 (by decide) 8 (by decide) (by decide) (by decide) (by decide) fun hp84 bf k_bf e_bf X84 V_bf => ?_
                have K84 : Keep hp83 hp84 [] := (Keep.refl _ _).ext X84
                have g_bf : n0 ≤ bf := e_bf ▸ hz
                have l_bf : lo ≤ bf := e_bf ▸ hlo
                have s_bf : h.size ≤ bf := e_bf ▸ KK.1
                have ne_r_bf : r ≠ bf := Nat.ne_of_lt (e_bf ▸ E_r.lt)
                have ne_t_bf : t ≠ bf := Nat.ne_of_lt (e_bf ▸ BR.lt2)
                replace O := O.keep K84 (all0)
                replace E_r := E_r.keep K84
                replace BR := BR.keep K84 nin0 nin0
                replace V_bf : Arv Z hp84 bf k_bf .char (8 : Int32) [(.int (0 : Int32)), (.int (0 : Int32)), (.int (0 : Int32)), (.int (0 : Int32)), (.int (0 : Int32)), (.int (0 : Int32)), (.int (0 : Int32)), (.int (0 : Int32))] (.int (0 : Int32)) := V_bf.pad (pad_rep [] (.int (0 : Int32)) 8)
                replace hz : n0 ≤ hp84.size := Nat.le_trans hz K84.1
                replace hlo : lo ≤ hp84.size := Nat.le_trans hlo K84.1
                replace KK : Keep h hp84 [] := KK.trans K84 (all0)
                replace V_bf : Arv Z _ bf k_bf .char (8 : Int32) (([] : List Int32).map Value.int) (.int (0 : Int32)) := V_bf.pad (fun i => (pad_rep [] (.int (0 : Int32)) 8 i).symm)
                refine Go.astore (Ls' := #[.val (.int p0), .val (.int p1), .val (.int p2), .val (.int p3), .val (.int (1 : Int32)), .val (.int u0), .val (.int u1), .val (.int u2), .val (.int m0), .val (.int m1), .val (.int m2), .val v0, .val v1, .val v2, .val (.ref ca), .val (.ref r), .val (.ref bf), .unset]) at_189 rfl rfl ?_
                refine Go.iconst 0 at_191 rfl ?_
                refine Go.istore (Ls' := #[.val (.int p0), .val (.int p1), .val (.int p2), .val (.int p3), .val (.int (1 : Int32)), .val (.int u0), .val (.int u1), .val (.int u2), .val (.int m0), .val (.int m1), .val (.int m2), .val v0, .val v1, .val v2, .val (.ref ca), .val (.ref r), .val (.ref bf), .val (.int (0 : Int32))]) at_192 rfl ?_
                refine Go.iload at_194 rfl ?_
                -- at pc 196: pc 196: ifCond .ifCond .le 17 stack [(.int (1 : Int32))]
                -- (0 : Int32) < (1 : Int32)
                refine Go.ifF at_196 (tlt (by decide)).2.2.2 ?_
                refine Go.aload at_199 rfl rfl ?_
                refine Go.iload at_201 rfl ?_
                refine Go.iload at_203 rfl ?_
                refine Go.iload at_205 rfl ?_
                refine Go.iloadN at_207 rfl ?_
                -- at pc 208: pc 208: invokestatic .invokestatic 27 stack [(.int p1), (.int m0), (.int u0), (.int (0 : Int32)), (.ref bf)]
                refine Go.callS (I' := IW Z EL s₀ lo []) (hI := wQ (ws := [bf]) (fun v h' q => by obtain ⟨rfl, K85, V_bf⟩ := q; exact K85) (allS (Sb.arv V_bf (by decide)) all0)) [(.ref bf), (.int (0 : Int32)), (.int u0), (.int m0), (.int p1)] [] (ct_put l Z a0 hw n0 bf k_bf ([] : List Int32) u0 m0 p1 (0 : Int32) _ rfl g_bf hm0 (by rw [← he0]; simp only [List.length_append, List.length_cons, List.length_nil]; omega) V_bf) (wd_161 hw) (wd_162 hw) (wd_6 hw) (wd_163 hw) (by decide) pd_30 rfl rfl rfl (Nat.le_of_ble_eq_true rfl) (Nat.le_of_ble_eq_true rfl) (Nat.le_of_ble_eq_true rfl) (Nat.le_of_ble_eq_true rfl) at_208 ?_
                rintro _ hp85 ⟨rfl, K85, V_bf⟩
                replace O := O.keep K85 (allS g_bf (all0))
                replace E_r := E_r.keep K85
                replace BR := BR.keep K85 (ninS ne_r_bf nin0) (ninS ne_t_bf nin0)
                replace hz : n0 ≤ hp85.size := Nat.le_trans hz K85.1
                replace hlo : lo ≤ hp85.size := Nat.le_trans hlo K85.1
                replace KK : Keep h hp85 [] := KK.trans K85 (allS (Or.inr s_bf) (all0))
                show GW_law l Z EL s₀ n0 (fun v _ => v = some (.int 1)) lo [] hp85 24 89 211 #[.val (.int p0), .val (.int p1), .val (.int p2), .val (.int p3), .val (.int (1 : Int32)), .val (.int u0), .val (.int u1), .val (.int u2), .val (.int m0), .val (.int m1), .val (.int m2), .val v0, .val v1, .val v2, .val (.ref ca), .val (.ref r), .val (.ref bf), .val (.int (0 : Int32))] [(.int (Int32.ofNat (([] : List Int32) ++ cel u0 m0 p1).length))]
                rw [← he0] at V_bf
                rw [← he0]
                refine Go.istore (Ls' := #[.val (.int p0), .val (.int p1), .val (.int p2), .val (.int p3), .val (.int (1 : Int32)), .val (.int u0), .val (.int u1), .val (.int u2), .val (.int m0), .val (.int m1), .val (.int m2), .val v0, .val v1, .val v2, .val (.ref ca), .val (.ref r), .val (.ref bf), .val (.int (Int32.ofNat (([] : List Int32) ++ e0).length))]) at_211 rfl ?_
                refine Go.iload at_213 rfl ?_
                refine Go.iconst 1 at_215 rfl ?_
                -- at pc 216: pc 216: if_icmp .if_icmp .le 30 stack [(.int (1 : Int32)), (.int (1 : Int32))]
                -- not: (1 : Int32) < (1 : Int32)
                refine Go.icT 246 at_216 (flt (by decide)).2.2.2 (by decide) (by decide) ?_
                refine Go.iload at_246 rfl ?_
                refine Go.iconst 2 at_248 rfl ?_
                -- at pc 249: pc 249: if_icmp .if_icmp .le 30 stack [(.int (2 : Int32)), (.int (1 : Int32))]
                -- not: (2 : Int32) < (1 : Int32)
                refine Go.icT 279 at_249 (flt (by decide)).2.2.2 (by decide) (by decide) ?_
                have hok : OkL (([] : List Int32) ++ e0) := (OkL.app OkL.nil k_e0)
                have hPl : (([] : List Int32) ++ e0).length ≤ 8 := (by (try simp only [List.length_append, List.length_cons, List.length_nil]); omega)
                have hR : (jn 0 [e0]).map own_b = (([] : List Int32) ++ e0).map own_b := by simp [jn]
                rw [hR] at BR
                refine Go.aload at_279 rfl rfl ?_
                refine Go.nullF at_281 ?_
                refine Go.aload at_284 rfl rfl ?_
                -- at pc 286: pc 286: invokevirtual .invokevirtual 31 stack [(.ref r)]
                refine Go.callV (I' := IW Z EL s₀ lo []) (hI := wQ (ws := []) (fun v h' q => by obtain ⟨rfl, rfl⟩ := q; exact Keep.refl _ _) all0) r [] [] (ct_slen l Z a0 hw n0 r t k ((([] : List Int32) ++ e0).map own_b) _ O z S_cs hcs BR) E_r (wd_101 hw) (wd_102 hw) (nf_sel (wd_104 hw)) (wd_104 hw) (wd_103 hw) (wd_10 hw) (wd_105 hw) (by decide) pd_8 rfl rfl rfl (Nat.le_of_ble_eq_true rfl) (Nat.le_of_ble_eq_true rfl) (Nat.le_of_ble_eq_true rfl) (Nat.le_of_ble_eq_true rfl) at_286 ?_
                rintro _ _ ⟨rfl, rfl⟩
                show GW_law l Z EL s₀ n0 (fun v _ => v = some (.int 1)) lo [] hp85 24 89 289 #[.val (.int p0), .val (.int p1), .val (.int p2), .val (.int p3), .val (.int (1 : Int32)), .val (.int u0), .val (.int u1), .val (.int u2), .val (.int m0), .val (.int m1), .val (.int m2), .val v0, .val v1, .val v2, .val (.ref ca), .val (.ref r), .val (.ref bf), .val (.int (Int32.ofNat (([] : List Int32) ++ e0).length))] [(.int (Int32.ofNat ((([] : List Int32) ++ e0).map own_b).length))]
                refine Go.iload at_289 rfl ?_
                -- at pc 291: pc 291: if_icmp .if_icmp .eq 5 stack [(.int (Int32.ofNat (([] : List Int32) ++ e0).length)), (.int (Int32.ofNat ((([] : List Int32) ++ e0).map own_b).length))]
                -- (Int32.ofNat ((([] : List Int32) ++ e0).map own_b).length) = (Int32.ofNat (([] : List Int32) ++ e0).length)
                refine Go.icT 296 at_291 (teq ((by first | (rw [List.length_map]; done) | rfl))).1 (by decide) (by decide) ?_
                refine Go.aload at_296 rfl rfl ?_
                refine Go.aload at_298 rfl rfl ?_
                refine Go.iload at_300 rfl ?_
                refine Go.iconst 0 at_302 rfl ?_
                -- at pc 303: pc 303: invokestatic .invokestatic 35 stack [(.int (0 : Int32)), (.int (Int32.ofNat (([] : List Int32) ++ e0).length)), (.ref bf), (.ref r)]
                refine Go.callS (I' := IW Z EL s₀ lo []) (hI := wQ (ws := []) (fun v h' q => by obtain ⟨rfl, rfl⟩ := q; exact Keep.refl _ _) all0) [(.ref r), (.ref bf), (.int (Int32.ofNat (([] : List Int32) ++ e0).length)), (.int (0 : Int32))] [] (ct_att l Z a0 hw n0 r t bf k k_bf (([] : List Int32) ++ e0) 0 _ O z S_cs hcs vf hvf S_f (by decide) hPl hok BR V_bf) (wd_112 hw) (wd_113 hw) (wd_6 hw) (wd_114 hw) (by decide) pd_29 rfl rfl rfl (Nat.le_of_ble_eq_true rfl) (Nat.le_of_ble_eq_true rfl) (Nat.le_of_ble_eq_true rfl) (Nat.le_of_ble_eq_true rfl) at_303 ?_
                rintro _ _ ⟨rfl, rfl⟩
                show GW_law l Z EL s₀ n0 (fun v _ => v = some (.int 1)) lo [] hp85 24 89 306 #[.val (.int p0), .val (.int p1), .val (.int p2), .val (.int p3), .val (.int (1 : Int32)), .val (.int u0), .val (.int u1), .val (.int u2), .val (.int m0), .val (.int m1), .val (.int m2), .val v0, .val v1, .val v2, .val (.ref ca), .val (.ref r), .val (.ref bf), .val (.int (Int32.ofNat (([] : List Int32) ++ e0).length))] [(.int (1 : Int32))]
                -- at pc 306: pc 306: ifCond .ifCond .eq 100 stack [(.int (1 : Int32))]
                -- not: (1 : Int32) = (0 : Int32)
                refine Go.ifF at_306 (feq (by decide)).1 ?_
                refine Go.aload at_309 rfl rfl ?_
                refine Go.aload at_311 rfl rfl ?_
                refine Go.iload at_313 rfl ?_
                refine Go.iconst 1 at_315 rfl ?_
                -- at pc 316: pc 316: invokestatic .invokestatic 35 stack [(.int (1 : Int32)), (.int (Int32.ofNat (([] : List Int32) ++ e0).length)), (.ref bf), (.ref r)]
                refine Go.callS (I' := IW Z EL s₀ lo []) (hI := wQ (ws := []) (fun v h' q => by obtain ⟨rfl, rfl⟩ := q; exact Keep.refl _ _) all0) [(.ref r), (.ref bf), (.int (Int32.ofNat (([] : List Int32) ++ e0).length)), (.int (1 : Int32))] [] (ct_att l Z a0 hw n0 r t bf k k_bf (([] : List Int32) ++ e0) 1 _ O z S_cs hcs vf hvf S_f (by decide) hPl hok BR V_bf) (wd_112 hw) (wd_113 hw) (wd_6 hw) (wd_114 hw) (by decide) pd_29 rfl rfl rfl (Nat.le_of_ble_eq_true rfl) (Nat.le_of_ble_eq_true rfl) (Nat.le_of_ble_eq_true rfl) (Nat.le_of_ble_eq_true rfl) at_316 ?_
                rintro _ _ ⟨rfl, rfl⟩
                show GW_law l Z EL s₀ n0 (fun v _ => v = some (.int 1)) lo [] hp85 24 89 319 #[.val (.int p0), .val (.int p1), .val (.int p2), .val (.int p3), .val (.int (1 : Int32)), .val (.int u0), .val (.int u1), .val (.int u2), .val (.int m0), .val (.int m1), .val (.int m2), .val v0, .val v1, .val v2, .val (.ref ca), .val (.ref r), .val (.ref bf), .val (.int (Int32.ofNat (([] : List Int32) ++ e0).length))] [(.int (1 : Int32))]
                -- at pc 319: pc 319: ifCond .ifCond .eq 87 stack [(.int (1 : Int32))]
                -- not: (1 : Int32) = (0 : Int32)
                refine Go.ifF at_319 (feq (by decide)).1 ?_
                refine Go.aload at_322 rfl rfl ?_
                refine Go.aload at_324 rfl rfl ?_
                refine Go.iload at_326 rfl ?_
                refine Go.iconst 2 at_328 rfl ?_
                -- at pc 329: pc 329: invokestatic .invokestatic 35 stack [(.int (2 : Int32)), (.int (Int32.ofNat (([] : List Int32) ++ e0).length)), (.ref bf), (.ref r)]
                refine Go.callS (I' := IW Z EL s₀ lo []) (hI := wQ (ws := []) (fun v h' q => by obtain ⟨rfl, rfl⟩ := q; exact Keep.refl _ _) all0) [(.ref r), (.ref bf), (.int (Int32.ofNat (([] : List Int32) ++ e0).length)), (.int (2 : Int32))] [] (ct_att l Z a0 hw n0 r t bf k k_bf (([] : List Int32) ++ e0) 2 _ O z S_cs hcs vf hvf S_f (by decide) hPl hok BR V_bf) (wd_112 hw) (wd_113 hw) (wd_6 hw) (wd_114 hw) (by decide) pd_29 rfl rfl rfl (Nat.le_of_ble_eq_true rfl) (Nat.le_of_ble_eq_true rfl) (Nat.le_of_ble_eq_true rfl) (Nat.le_of_ble_eq_true rfl) at_329 ?_
                rintro _ _ ⟨rfl, rfl⟩
                show GW_law l Z EL s₀ n0 (fun v _ => v = some (.int 1)) lo [] hp85 24 89 332 #[.val (.int p0), .val (.int p1), .val (.int p2), .val (.int p3), .val (.int (1 : Int32)), .val (.int u0), .val (.int u1), .val (.int u2), .val (.int m0), .val (.int m1), .val (.int m2), .val v0, .val v1, .val v2, .val (.ref ca), .val (.ref r), .val (.ref bf), .val (.int (Int32.ofNat (([] : List Int32) ++ e0).length))] [(.int (1 : Int32))]
                -- at pc 332: pc 332: ifCond .ifCond .eq 74 stack [(.int (1 : Int32))]
                -- not: (1 : Int32) = (0 : Int32)
                refine Go.ifF at_332 (feq (by decide)).1 ?_
                refine Go.aload at_335 rfl rfl ?_
                refine Go.aload at_337 rfl rfl ?_
                refine Go.iload at_339 rfl ?_
                refine Go.iconst 3 at_341 rfl ?_
                -- at pc 342: pc 342: invokestatic .invokestatic 35 stack [(.int (3 : Int32)), (.int (Int32.ofNat (([] : List Int32) ++ e0).length)), (.ref bf), (.ref r)]
                refine Go.callS (I' := IW Z EL s₀ lo []) (hI := wQ (ws := []) (fun v h' q => by obtain ⟨rfl, rfl⟩ := q; exact Keep.refl _ _) all0) [(.ref r), (.ref bf), (.int (Int32.ofNat (([] : List Int32) ++ e0).length)), (.int (3 : Int32))] [] (ct_att l Z a0 hw n0 r t bf k k_bf (([] : List Int32) ++ e0) 3 _ O z S_cs hcs vf hvf S_f (by decide) hPl hok BR V_bf) (wd_112 hw) (wd_113 hw) (wd_6 hw) (wd_114 hw) (by decide) pd_29 rfl rfl rfl (Nat.le_of_ble_eq_true rfl) (Nat.le_of_ble_eq_true rfl) (Nat.le_of_ble_eq_true rfl) (Nat.le_of_ble_eq_true rfl) at_342 ?_
                rintro _ _ ⟨rfl, rfl⟩
                show GW_law l Z EL s₀ n0 (fun v _ => v = some (.int 1)) lo [] hp85 24 89 345 #[.val (.int p0), .val (.int p1), .val (.int p2), .val (.int p3), .val (.int (1 : Int32)), .val (.int u0), .val (.int u1), .val (.int u2), .val (.int m0), .val (.int m1), .val (.int m2), .val v0, .val v1, .val v2, .val (.ref ca), .val (.ref r), .val (.ref bf), .val (.int (Int32.ofNat (([] : List Int32) ++ e0).length))] [(.int (1 : Int32))]
                -- at pc 345: pc 345: ifCond .ifCond .eq 61 stack [(.int (1 : Int32))]
                -- not: (1 : Int32) = (0 : Int32)
                refine Go.ifF at_345 (feq (by decide)).1 ?_
                refine Go.aload at_348 rfl rfl ?_
                refine Go.aload at_350 rfl rfl ?_
                refine Go.iload at_352 rfl ?_
                refine Go.iconst 4 at_354 rfl ?_
                -- at pc 355: pc 355: invokestatic .invokestatic 35 stack [(.int (4 : Int32)), (.int (Int32.ofNat (([] : List Int32) ++ e0).length)), (.ref bf), (.ref r)]
                refine Go.callS (I' := IW Z EL s₀ lo []) (hI := wQ (ws := []) (fun v h' q => by obtain ⟨rfl, rfl⟩ := q; exact Keep.refl _ _) all0) [(.ref r), (.ref bf), (.int (Int32.ofNat (([] : List Int32) ++ e0).length)), (.int (4 : Int32))] [] (ct_att l Z a0 hw n0 r t bf k k_bf (([] : List Int32) ++ e0) 4 _ O z S_cs hcs vf hvf S_f (by decide) hPl hok BR V_bf) (wd_112 hw) (wd_113 hw) (wd_6 hw) (wd_114 hw) (by decide) pd_29 rfl rfl rfl (Nat.le_of_ble_eq_true rfl) (Nat.le_of_ble_eq_true rfl) (Nat.le_of_ble_eq_true rfl) (Nat.le_of_ble_eq_true rfl) at_355 ?_
                rintro _ _ ⟨rfl, rfl⟩
                show GW_law l Z EL s₀ n0 (fun v _ => v = some (.int 1)) lo [] hp85 24 89 358 #[.val (.int p0), .val (.int p1), .val (.int p2), .val (.int p3), .val (.int (1 : Int32)), .val (.int u0), .val (.int u1), .val (.int u2), .val (.int m0), .val (.int m1), .val (.int m2), .val v0, .val v1, .val v2, .val (.ref ca), .val (.ref r), .val (.ref bf), .val (.int (Int32.ofNat (([] : List Int32) ++ e0).length))] [(.int (1 : Int32))]
                -- at pc 358: pc 358: ifCond .ifCond .eq 48 stack [(.int (1 : Int32))]
                -- not: (1 : Int32) = (0 : Int32)
                refine Go.ifF at_358 (feq (by decide)).1 ?_
                refine Go.aload at_361 rfl rfl ?_
                refine Go.aload at_363 rfl rfl ?_
                refine Go.iload at_365 rfl ?_
                refine Go.iconst 5 at_367 rfl ?_
                -- at pc 368: pc 368: invokestatic .invokestatic 35 stack [(.int (5 : Int32)), (.int (Int32.ofNat (([] : List Int32) ++ e0).length)), (.ref bf), (.ref r)]
                refine Go.callS (I' := IW Z EL s₀ lo []) (hI := wQ (ws := []) (fun v h' q => by obtain ⟨rfl, rfl⟩ := q; exact Keep.refl _ _) all0) [(.ref r), (.ref bf), (.int (Int32.ofNat (([] : List Int32) ++ e0).length)), (.int (5 : Int32))] [] (ct_att l Z a0 hw n0 r t bf k k_bf (([] : List Int32) ++ e0) 5 _ O z S_cs hcs vf hvf S_f (by decide) hPl hok BR V_bf) (wd_112 hw) (wd_113 hw) (wd_6 hw) (wd_114 hw) (by decide) pd_29 rfl rfl rfl (Nat.le_of_ble_eq_true rfl) (Nat.le_of_ble_eq_true rfl) (Nat.le_of_ble_eq_true rfl) (Nat.le_of_ble_eq_true rfl) at_368 ?_
                rintro _ _ ⟨rfl, rfl⟩
                show GW_law l Z EL s₀ n0 (fun v _ => v = some (.int 1)) lo [] hp85 24 89 371 #[.val (.int p0), .val (.int p1), .val (.int p2), .val (.int p3), .val (.int (1 : Int32)), .val (.int u0), .val (.int u1), .val (.int u2), .val (.int m0), .val (.int m1), .val (.int m2), .val v0, .val v1, .val v2, .val (.ref ca), .val (.ref r), .val (.ref bf), .val (.int (Int32.ofNat (([] : List Int32) ++ e0).length))] [(.int (1 : Int32))]
                -- at pc 371: pc 371: ifCond .ifCond .eq 35 stack [(.int (1 : Int32))]
                -- not: (1 : Int32) = (0 : Int32)
                refine Go.ifF at_371 (feq (by decide)).1 ?_
                refine Go.aload at_374 rfl rfl ?_
                refine Go.aload at_376 rfl rfl ?_
                refine Go.iload at_378 rfl ?_
                refine Go.bipush 6 at_380 rfl ?_
                -- at pc 382: pc 382: invokestatic .invokestatic 35 stack [(.int (6 : Int32)), (.int (Int32.ofNat (([] : List Int32) ++ e0).length)), (.ref bf), (.ref r)]
                refine Go.callS (I' := IW Z EL s₀ lo []) (hI := wQ (ws := []) (fun v h' q => by obtain ⟨rfl, rfl⟩ := q; exact Keep.refl _ _) all0) [(.ref r), (.ref bf), (.int (Int32.ofNat (([] : List Int32) ++ e0).length)), (.int (6 : Int32))] [] (ct_att l Z a0 hw n0 r t bf k k_bf (([] : List Int32) ++ e0) 6 _ O z S_cs hcs vf hvf S_f (by decide) hPl hok BR V_bf) (wd_112 hw) (wd_113 hw) (wd_6 hw) (wd_114 hw) (by decide) pd_29 rfl rfl rfl (Nat.le_of_ble_eq_true rfl) (Nat.le_of_ble_eq_true rfl) (Nat.le_of_ble_eq_true rfl) (Nat.le_of_ble_eq_true rfl) at_382 ?_
                rintro _ _ ⟨rfl, rfl⟩
                show GW_law l Z EL s₀ n0 (fun v _ => v = some (.int 1)) lo [] hp85 24 89 385 #[.val (.int p0), .val (.int p1), .val (.int p2), .val (.int p3), .val (.int (1 : Int32)), .val (.int u0), .val (.int u1), .val (.int u2), .val (.int m0), .val (.int m1), .val (.int m2), .val v0, .val v1, .val v2, .val (.ref ca), .val (.ref r), .val (.ref bf), .val (.int (Int32.ofNat (([] : List Int32) ++ e0).length))] [(.int (1 : Int32))]
                -- at pc 385: pc 385: ifCond .ifCond .eq 21 stack [(.int (1 : Int32))]
                -- not: (1 : Int32) = (0 : Int32)
                refine Go.ifF at_385 (feq (by decide)).1 ?_
                refine Go.aload at_388 rfl rfl ?_
                refine Go.aload at_390 rfl rfl ?_
                refine Go.iload at_392 rfl ?_
                refine Go.bipush 7 at_394 rfl ?_
                -- at pc 396: pc 396: invokestatic .invokestatic 35 stack [(.int (7 : Int32)), (.int (Int32.ofNat (([] : List Int32) ++ e0).length)), (.ref bf), (.ref r)]
                refine Go.callS (I' := IW Z EL s₀ lo []) (hI := wQ (ws := []) (fun v h' q => by obtain ⟨rfl, rfl⟩ := q; exact Keep.refl _ _) all0) [(.ref r), (.ref bf), (.int (Int32.ofNat (([] : List Int32) ++ e0).length)), (.int (7 : Int32))] [] (ct_att l Z a0 hw n0 r t bf k k_bf (([] : List Int32) ++ e0) 7 _ O z S_cs hcs vf hvf S_f (by decide) hPl hok BR V_bf) (wd_112 hw) (wd_113 hw) (wd_6 hw) (wd_114 hw) (by decide) pd_29 rfl rfl rfl (Nat.le_of_ble_eq_true rfl) (Nat.le_of_ble_eq_true rfl) (Nat.le_of_ble_eq_true rfl) (Nat.le_of_ble_eq_true rfl) at_396 ?_
                rintro _ _ ⟨rfl, rfl⟩
                show GW_law l Z EL s₀ n0 (fun v _ => v = some (.int 1)) lo [] hp85 24 89 399 #[.val (.int p0), .val (.int p1), .val (.int p2), .val (.int p3), .val (.int (1 : Int32)), .val (.int u0), .val (.int u1), .val (.int u2), .val (.int m0), .val (.int m1), .val (.int m2), .val v0, .val v1, .val v2, .val (.ref ca), .val (.ref r), .val (.ref bf), .val (.int (Int32.ofNat (([] : List Int32) ++ e0).length))] [(.int (1 : Int32))]
                -- at pc 399: pc 399: ifCond .ifCond .eq 7 stack [(.int (1 : Int32))]
                -- not: (1 : Int32) = (0 : Int32)
                refine Go.ifF at_399 (feq (by decide)).1 ?_
                refine Go.iconst 1 at_402 rfl ?_
                refine Go.goto 407 at_403 (by decide) (by decide) ?_
                -- at pc 407: pc 407: ireturn .ireturn stack [(.int (1 : Int32))]
                exact GW.nreturn .boolean hEL at_407 rfl (by simp) (by decide) (by decide) rfl
              · rw [hn]
                refine Go.astore (Ls' := #[.val (.int p0), .val (.int p1), .val (.int p2), .val (.int p3), .val (.int (2 : Int32)), .val (.int u0), .val (.int u1), .val (.int u2), .val (.int m0), .val (.int m1), .val (.int m2), .val v0, .val v1, .val v2, .unset, .unset, .unset, .unset]) at_134 r2 (st_at rfl One.u (cat_ref r2) rfl) ?_
                refine Go.iload at_136 rfl ?_
                -- at pc 138: pc 138: anewarray .anewarray 19 stack [(.int (2 : Int32))]
                refine Go.newR (I' := IW Z EL s₀ lo []) (hI := wE) (wd_8 hw) (wd_30 hw) at_138 (by decide) 2 (by decide) (by decide) (by decide) (by decide) fun hp95 ca k_ca e_ca X95 V_ca O_ca => ?_
                have K95 : Keep h hp95 [] := (Keep.refl _ _).ext X95
                have g_ca : n0 ≤ ca := e_ca ▸ hz
                have l_ca : lo ≤ ca := e_ca ▸ hlo
                have s_ca : h.size ≤ ca := e_ca ▸ KK.1
                replace O := O.keep K95 (all0)
                replace V_ca : Arv Z hp95 ca k_ca (.object "java/lang/String") (2 : Int32) [.null, .null] .null := V_ca.pad (pad_rep [] .null 2)
                replace hz : n0 ≤ hp95.size := Nat.le_trans hz K95.1
                replace hlo : lo ≤ hp95.size := Nat.le_trans hlo K95.1
                replace KK : Keep h hp95 [] := KK.trans K95 (all0)
                refine Go.astore (Ls' := #[.val (.int p0), .val (.int p1), .val (.int p2), .val (.int p3), .val (.int (2 : Int32)), .val (.int u0), .val (.int u1), .val (.int u2), .val (.int m0), .val (.int m1), .val (.int m2), .val v0, .val v1, .val v2, .val (.ref ca), .unset, .unset, .unset]) at_141 rfl rfl ?_
                refine Go.iload at_143 rfl ?_
                -- at pc 145: pc 145: ifCond .ifCond .le 9 stack [(.int (2 : Int32))]
                -- (0 : Int32) < (2 : Int32)
                refine Go.ifF at_145 (tlt (by decide)).2.2.2 ?_
                refine Go.aload at_148 rfl rfl ?_
                refine Go.iconst 0 at_150 rfl ?_
                refine Go.aload at_151 rfl r0 ?_
                refine Go.aastore (I' := IW Z EL s₀ lo []) (hI := wI (Sb.arv V_ca (by decide))) V_ca rfl (fits_ref' r0) ((C0.keep KK).sto O_ca) ⟨by decide, by decide⟩ g_ca 0 rfl (Nat.le_of_ble_eq_true rfl) at_153 fun hp96 K96 V_ca_n => ?_
                replace V_ca : Arv Z hp96 ca k_ca (.object "java/lang/String") (2 : Int32) [v0, .null] .null := V_ca_n
                replace O := O.keep K96 (allS g_ca (all0))
                replace hz : n0 ≤ hp96.size := Nat.le_trans hz K96.1
                replace hlo : lo ≤ hp96.size := Nat.le_trans hlo K96.1
                replace KK : Keep h hp96 [] := KK.trans K96 (allS (Or.inr s_ca) (all0))
                refine Go.iload at_154 rfl ?_
                refine Go.iconst 1 at_156 rfl ?_
                -- at pc 157: pc 157: if_icmp .if_icmp .le 9 stack [(.int (1 : Int32)), (.int (2 : Int32))]
                -- (1 : Int32) < (2 : Int32)
                refine Go.icF at_157 (tlt (by decide)).2.2.2 ?_
                refine Go.aload at_160 rfl rfl ?_
                refine Go.iconst 1 at_162 rfl ?_
                refine Go.aload at_163 rfl r1 ?_
                refine Go.aastore (I' := IW Z EL s₀ lo []) (hI := wI (Sb.arv V_ca (by decide))) V_ca rfl (fits_ref' r1) ((C1.keep KK).sto O_ca) ⟨by decide, by decide⟩ g_ca 1 rfl (Nat.le_of_ble_eq_true rfl) at_165 fun hp97 K97 V_ca_n => ?_
                replace V_ca : Arv Z hp97 ca k_ca (.object "java/lang/String") (2 : Int32) [v0, v1] .null := V_ca_n
                replace O := O.keep K97 (allS g_ca (all0))
                replace hz : n0 ≤ hp97.size := Nat.le_trans hz K97.1
                replace hlo : lo ≤ hp97.size := Nat.le_trans hlo K97.1
                replace KK : Keep h hp97 [] := KK.trans K97 (allS (Or.inr s_ca) (all0))
                refine Go.iload at_166 rfl ?_
                refine Go.iconst 2 at_168 rfl ?_
                -- at pc 169: pc 169: if_icmp .if_icmp .le 9 stack [(.int (2 : Int32)), (.int (2 : Int32))]
                -- not: (2 : Int32) < (2 : Int32)
                refine Go.icT 178 at_169 (flt (by decide)).2.2.2 (by decide) (by decide) ?_
                refine Go.aload at_178 rfl rfl ?_
                -- at pc 180: pc 180: invokestatic .invokestatic 21 stack [(.ref ca)]
                refine Go.callS (I' := IW Z EL s₀ lo []) (hI := wQ (ws := []) (fun v h' q => by obtain ⟨r, t, k, rfl, K98, BR⟩ := q; exact K98) all0) [(.ref ca)] [] (ct_row l Z a0 hw n0 ca k_ca [v0, v1] [e0, e1] _ hz O z S_cs hcs V_ca (by simp) ⟨C0.keep KK, C1.keep KK, trivial⟩ (by simp [jn] <;> omega)) (wd_31 hw) (wd_32 hw) (wd_33 hw) (wd_34 hw) (by decide) pd_28 rfl rfl rfl (Nat.le_of_ble_eq_true rfl) (Nat.le_of_ble_eq_true rfl) (Nat.le_of_ble_eq_true rfl) (Nat.le_of_ble_eq_true rfl) at_180 ?_
                rintro _ hp98 ⟨r, t, k, rfl, K98, BR⟩
                replace O := O.keep K98 (all0)
                replace V_ca := V_ca.keep K98 nin0
                replace hz : n0 ≤ hp98.size := Nat.le_trans hz K98.1
                replace hlo : lo ≤ hp98.size := Nat.le_trans hlo K98.1
                replace KK : Keep h hp98 [] := KK.trans K98 (all0)
                show GW_law l Z EL s₀ n0 (fun v _ => v = some (.int 1)) lo [] hp98 23 82 183 #[.val (.int p0), .val (.int p1), .val (.int p2), .val (.int p3), .val (.int (2 : Int32)), .val (.int u0), .val (.int u1), .val (.int u2), .val (.int m0), .val (.int m1), .val (.int m2), .val v0, .val v1, .val v2, .val (.ref ca), .unset, .unset, .unset] [(.ref r)]
                have E_r := BR.1
                refine Go.astore (Ls' := #[.val (.int p0), .val (.int p1), .val (.int p2), .val (.int p3), .val (.int (2 : Int32)), .val (.int u0), .val (.int u1), .val (.int u2), .val (.int m0), .val (.int m1), .val (.int m2), .val v0, .val v1, .val v2, .val (.ref ca), .val (.ref r), .unset, .unset]) at_183 rfl rfl ?_
                refine Go.bipush 8 at_185 rfl ?_
                -- at pc 187: pc 187: newarray .newarray .char stack [(.int (8 : Int32))]
                refine Go.newP (I' := IW Z EL s₀ lo []) (hI := wE) .char (wd_11 hw) rfl at_187 (by decide) 8 (by decide) (by decide) (by decide) (by decide) fun hp99 bf k_bf e_bf X99 V_bf => ?_
                have K99 : Keep hp98 hp99 [] := (Keep.refl _ _).ext X99
                have g_bf : n0 ≤ bf := e_bf ▸ hz
                have l_bf : lo ≤ bf := e_bf ▸ hlo
                have s_bf : h.size ≤ bf := e_bf ▸ KK.1
                have ne_r_bf : r ≠ bf := Nat.ne_of_lt (e_bf ▸ E_r.lt)
                have ne_t_bf : t ≠ bf := Nat.ne_of_lt (e_bf ▸ BR.lt2)
                replace O := O.keep K99 (all0)
                replace E_r := E_r.keep K99
                replace BR := BR.keep K99 nin0 nin0
                replace V_bf : Arv Z hp99 bf k_bf .char (8 : Int32) [(.int (0 : Int32)), (.int (0 : Int32)), (.int (0 : Int32)), (.int (0 : Int32)), (.int (0 : Int32)), (.int (0 : Int32)), (.int (0 : Int32)), (.int (0 : Int32))] (.int (0 : Int32)) := V_bf.pad (pad_rep [] (.int (0 : Int32)) 8)
                replace hz : n0 ≤ hp99.size := Nat.le_trans hz K99.1
                replace hlo : lo ≤ hp99.size := Nat.le_trans hlo K99.1
                replace KK : Keep h hp99 [] := KK.trans K99 (all0)
                replace V_bf : Arv Z _ bf k_bf .char (8 : Int32) (([] : List Int32).map Value.int) (.int (0 : Int32)) := V_bf.pad (fun i => (pad_rep [] (.int (0 : Int32)) 8 i).symm)
                refine Go.astore (Ls' := #[.val (.int p0), .val (.int p1), .val (.int p2), .val (.int p3), .val (.int (2 : Int32)), .val (.int u0), .val (.int u1), .val (.int u2), .val (.int m0), .val (.int m1), .val (.int m2), .val v0, .val v1, .val v2, .val (.ref ca), .val (.ref r), .val (.ref bf), .unset]) at_189 rfl rfl ?_
                refine Go.iconst 0 at_191 rfl ?_
                refine Go.istore (Ls' := #[.val (.int p0), .val (.int p1), .val (.int p2), .val (.int p3), .val (.int (2 : Int32)), .val (.int u0), .val (.int u1), .val (.int u2), .val (.int m0), .val (.int m1), .val (.int m2), .val v0, .val v1, .val v2, .val (.ref ca), .val (.ref r), .val (.ref bf), .val (.int (0 : Int32))]) at_192 rfl ?_
                refine Go.iload at_194 rfl ?_
                -- at pc 196: pc 196: ifCond .ifCond .le 17 stack [(.int (2 : Int32))]
                -- (0 : Int32) < (2 : Int32)
                refine Go.ifF at_196 (tlt (by decide)).2.2.2 ?_
                refine Go.aload at_199 rfl rfl ?_
                refine Go.iload at_201 rfl ?_
                refine Go.iload at_203 rfl ?_
                refine Go.iload at_205 rfl ?_
                refine Go.iloadN at_207 rfl ?_
                -- at pc 208: pc 208: invokestatic .invokestatic 27 stack [(.int p1), (.int m0), (.int u0), (.int (0 : Int32)), (.ref bf)]
                refine Go.callS (I' := IW Z EL s₀ lo []) (hI := wQ (ws := [bf]) (fun v h' q => by obtain ⟨rfl, K100, V_bf⟩ := q; exact K100) (allS (Sb.arv V_bf (by decide)) all0)) [(.ref bf), (.int (0 : Int32)), (.int u0), (.int m0), (.int p1)] [] (ct_put l Z a0 hw n0 bf k_bf ([] : List Int32) u0 m0 p1 (0 : Int32) _ rfl g_bf hm0 (by rw [← he0]; simp only [List.length_append, List.length_cons, List.length_nil]; omega) V_bf) (wd_161 hw) (wd_162 hw) (wd_6 hw) (wd_163 hw) (by decide) pd_30 rfl rfl rfl (Nat.le_of_ble_eq_true rfl) (Nat.le_of_ble_eq_true rfl) (Nat.le_of_ble_eq_true rfl) (Nat.le_of_ble_eq_true rfl) at_208 ?_
                rintro _ hp100 ⟨rfl, K100, V_bf⟩
                replace O := O.keep K100 (allS g_bf (all0))
                replace E_r := E_r.keep K100
                replace BR := BR.keep K100 (ninS ne_r_bf nin0) (ninS ne_t_bf nin0)
                replace hz : n0 ≤ hp100.size := Nat.le_trans hz K100.1
                replace hlo : lo ≤ hp100.size := Nat.le_trans hlo K100.1
                replace KK : Keep h hp100 [] := KK.trans K100 (allS (Or.inr s_bf) (all0))
                show GW_law l Z EL s₀ n0 (fun v _ => v = some (.int 1)) lo [] hp100 24 90 211 #[.val (.int p0), .val (.int p1), .val (.int p2), .val (.int p3), .val (.int (2 : Int32)), .val (.int u0), .val (.int u1), .val (.int u2), .val (.int m0), .val (.int m1), .val (.int m2), .val v0, .val v1, .val v2, .val (.ref ca), .val (.ref r), .val (.ref bf), .val (.int (0 : Int32))] [(.int (Int32.ofNat (([] : List Int32) ++ cel u0 m0 p1).length))]
                rw [← he0] at V_bf
                rw [← he0]
                refine Go.istore (Ls' := #[.val (.int p0), .val (.int p1), .val (.int p2), .val (.int p3), .val (.int (2 : Int32)), .val (.int u0), .val (.int u1), .val (.int u2), .val (.int m0), .val (.int m1), .val (.int m2), .val v0, .val v1, .val v2, .val (.ref ca), .val (.ref r), .val (.ref bf), .val (.int (Int32.ofNat (([] : List Int32) ++ e0).length))]) at_211 rfl ?_
                refine Go.iload at_213 rfl ?_
                refine Go.iconst 1 at_215 rfl ?_
                -- at pc 216: pc 216: if_icmp .if_icmp .le 30 stack [(.int (1 : Int32)), (.int (2 : Int32))]
                -- (1 : Int32) < (2 : Int32)
                refine Go.icF at_216 (tlt (by decide)).2.2.2 ?_
                refine Go.aload at_219 rfl rfl ?_
                refine Go.iload at_221 rfl ?_
                refine Go.bipush 9 at_223 rfl ?_
                refine Go.castore (I' := IW Z EL s₀ lo []) (hI := wI (Sb.arv V_bf (by decide))) (V_bf.pad (pad_rep _ _ (8 - (([] : List Int32) ++ e0).length))) (own_idx (m := 8) (by (try simp only [List.length_append, List.length_cons, List.length_nil]); omega) (by decide)) g_bf (([] : List Int32) ++ e0).length (own_clamp (by (try simp only [List.length_append, List.length_cons, List.length_nil]); omega)) (by simp; omega) at_225 fun ha K_ha V_ha => ?_
                rw [show nar .char (9 : Int32) = 9 from rfl] at V_ha
                replace V_ha := own_setp (by (try simp only [List.length_append, List.length_cons, List.length_nil]); omega) V_ha
                replace O := O.keep K_ha (allS g_bf (all0))
                replace E_r := E_r.keep K_ha
                replace BR := BR.keep K_ha (ninS ne_r_bf nin0) (ninS ne_t_bf nin0)
                replace hz : n0 ≤ ha.size := Nat.le_trans hz K_ha.1
                replace hlo : lo ≤ ha.size := Nat.le_trans hlo K_ha.1
                replace KK : Keep h ha [] := KK.trans K_ha (allS (Or.inr s_bf) (all0))
                have V_bf := V_ha
                show GW_law l Z EL s₀ n0 (fun v _ => v = some (.int 1)) lo [] ha 24 90 226 #[.val (.int p0), .val (.int p1), .val (.int p2), .val (.int p3), .val (.int (2 : Int32)), .val (.int u0), .val (.int u1), .val (.int u2), .val (.int m0), .val (.int m1), .val (.int m2), .val v0, .val v1, .val v2, .val (.ref ca), .val (.ref r), .val (.ref bf), .val (.int (Int32.ofNat (([] : List Int32) ++ e0).length))] []
                refine Go.iload at_226 rfl ?_
                refine Go.iconst 1 at_228 rfl ?_
                refine Go.iadd at_229 ?_
                refine Go.istore (Ls' := #[.val (.int p0), .val (.int p1), .val (.int p2), .val (.int p3), .val (.int (2 : Int32)), .val (.int u0), .val (.int u1), .val (.int u2), .val (.int m0), .val (.int m1), .val (.int m2), .val v0, .val v1, .val v2, .val (.ref ca), .val (.ref r), .val (.ref bf), .val (.int ((Int32.ofNat (([] : List Int32) ++ e0).length) + (1 : Int32)))]) at_230 rfl ?_
                refine Go.aload at_232 rfl rfl ?_
                refine Go.iload at_234 rfl ?_
                refine Go.iload at_236 rfl ?_
                refine Go.iload at_238 rfl ?_
                refine Go.iloadN at_240 rfl ?_
                -- at pc 241: pc 241: invokestatic .invokestatic 27 stack [(.int p2), (.int m1), (.int u1), (.int ((Int32.ofNat (([] : List Int32) ++ e0).length) + (1 : Int32))), (.ref bf)]
                refine Go.callS (I' := IW Z EL s₀ lo []) (hI := wQ (ws := [bf]) (fun v h' q => by obtain ⟨rfl, K101, V_bf⟩ := q; exact K101) (allS (Sb.arv V_bf (by decide)) all0)) [(.ref bf), (.int ((Int32.ofNat (([] : List Int32) ++ e0).length) + (1 : Int32))), (.int u1), (.int m1), (.int p2)] [] (ct_put l Z a0 hw n0 bf k_bf ((([] : List Int32) ++ e0) ++ ([9] : List Int32)) u1 m1 p2 ((Int32.ofNat (([] : List Int32) ++ e0).length) + (1 : Int32)) _ (own_cnt1 (([] : List Int32) ++ e0) 9) g_bf hm1 (by rw [← he1]; simp only [List.length_append, List.length_cons, List.length_nil]; omega) V_bf) (wd_161 hw) (wd_162 hw) (wd_6 hw) (wd_163 hw) (by decide) pd_30 rfl rfl rfl (Nat.le_of_ble_eq_true rfl) (Nat.le_of_ble_eq_true rfl) (Nat.le_of_ble_eq_true rfl) (Nat.le_of_ble_eq_true rfl) at_241 ?_
                rintro _ hp101 ⟨rfl, K101, V_bf⟩
                replace O := O.keep K101 (allS g_bf (all0))
                replace E_r := E_r.keep K101
                replace BR := BR.keep K101 (ninS ne_r_bf nin0) (ninS ne_t_bf nin0)
                replace hz : n0 ≤ hp101.size := Nat.le_trans hz K101.1
                replace hlo : lo ≤ hp101.size := Nat.le_trans hlo K101.1
                replace KK : Keep h hp101 [] := KK.trans K101 (allS (Or.inr s_bf) (all0))
                show GW_law l Z EL s₀ n0 (fun v _ => v = some (.int 1)) lo [] hp101 24 90 244 #[.val (.int p0), .val (.int p1), .val (.int p2), .val (.int p3), .val (.int (2 : Int32)), .val (.int u0), .val (.int u1), .val (.int u2), .val (.int m0), .val (.int m1), .val (.int m2), .val v0, .val v1, .val v2, .val (.ref ca), .val (.ref r), .val (.ref bf), .val (.int ((Int32.ofNat (([] : List Int32) ++ e0).length) + (1 : Int32)))] [(.int (Int32.ofNat (((([] : List Int32) ++ e0) ++ ([9] : List Int32)) ++ cel u1 m1 p2).length))]
                rw [← he1] at V_bf
                rw [← he1]
                refine Go.istore (Ls' := #[.val (.int p0), .val (.int p1), .val (.int p2), .val (.int p3), .val (.int (2 : Int32)), .val (.int u0), .val (.int u1), .val (.int u2), .val (.int m0), .val (.int m1), .val (.int m2), .val v0, .val v1, .val v2, .val (.ref ca), .val (.ref r), .val (.ref bf), .val (.int (Int32.ofNat (((([] : List Int32) ++ e0) ++ ([9] : List Int32)) ++ e1).length))]) at_244 rfl ?_
                refine Go.iload at_246 rfl ?_
                refine Go.iconst 2 at_248 rfl ?_
                -- at pc 249: pc 249: if_icmp .if_icmp .le 30 stack [(.int (2 : Int32)), (.int (2 : Int32))]
                -- not: (2 : Int32) < (2 : Int32)
                refine Go.icT 279 at_249 (flt (by decide)).2.2.2 (by decide) (by decide) ?_
                have hok : OkL (((([] : List Int32) ++ e0) ++ ([9] : List Int32)) ++ e1) := (OkL.app (OkL.app (OkL.app OkL.nil k_e0) OkL.nine) k_e1)
                have hPl : (((([] : List Int32) ++ e0) ++ ([9] : List Int32)) ++ e1).length ≤ 8 := (by (try simp only [List.length_append, List.length_cons, List.length_nil]); omega)
                have hR : (jn 0 [e0, e1]).map own_b = (((([] : List Int32) ++ e0) ++ ([9] : List Int32)) ++ e1).map own_b := by simp [jn]
                rw [hR] at BR
                refine Go.aload at_279 rfl rfl ?_
                refine Go.nullF at_281 ?_
                refine Go.aload at_284 rfl rfl ?_
                -- at pc 286: pc 286: invokevirtual .invokevirtual 31 stack [(.ref r)]
                refine Go.callV (I' := IW Z EL s₀ lo []) (hI := wQ (ws := []) (fun v h' q => by obtain ⟨rfl, rfl⟩ := q; exact Keep.refl _ _) all0) r [] [] (ct_slen l Z a0 hw n0 r t k ((((([] : List Int32) ++ e0) ++ ([9] : List Int32)) ++ e1).map own_b) _ O z S_cs hcs BR) E_r (wd_101 hw) (wd_102 hw) (nf_sel (wd_104 hw)) (wd_104 hw) (wd_103 hw) (wd_10 hw) (wd_105 hw) (by decide) pd_8 rfl rfl rfl (Nat.le_of_ble_eq_true rfl) (Nat.le_of_ble_eq_true rfl) (Nat.le_of_ble_eq_true rfl) (Nat.le_of_ble_eq_true rfl) at_286 ?_
                rintro _ _ ⟨rfl, rfl⟩
                show GW_law l Z EL s₀ n0 (fun v _ => v = some (.int 1)) lo [] hp101 24 90 289 #[.val (.int p0), .val (.int p1), .val (.int p2), .val (.int p3), .val (.int (2 : Int32)), .val (.int u0), .val (.int u1), .val (.int u2), .val (.int m0), .val (.int m1), .val (.int m2), .val v0, .val v1, .val v2, .val (.ref ca), .val (.ref r), .val (.ref bf), .val (.int (Int32.ofNat (((([] : List Int32) ++ e0) ++ ([9] : List Int32)) ++ e1).length))] [(.int (Int32.ofNat ((((([] : List Int32) ++ e0) ++ ([9] : List Int32)) ++ e1).map own_b).length))]
                refine Go.iload at_289 rfl ?_
                -- at pc 291: pc 291: if_icmp .if_icmp .eq 5 stack [(.int (Int32.ofNat (((([] : List Int32) ++ e0) ++ ([9] : List Int32)) ++ e1).length)), (.int (Int32.ofNat ((((([] : List Int32) ++ e0) ++ ([9] : List Int32)) ++ e1).map own_b).length))]
                -- (Int32.ofNat ((((([] : List Int32) ++ e0) ++ ([9] : List Int32)) ++ e1).map own_b).length) = (Int32.ofNat (((([] : List Int32) ++ e0) ++ ([9] : List Int32)) ++ e1).length)
                refine Go.icT 296 at_291 (teq ((by first | (rw [List.length_map]; done) | rfl))).1 (by decide) (by decide) ?_
                refine Go.aload at_296 rfl rfl ?_
                refine Go.aload at_298 rfl rfl ?_
                refine Go.iload at_300 rfl ?_
                refine Go.iconst 0 at_302 rfl ?_
                -- at pc 303: pc 303: invokestatic .invokestatic 35 stack [(.int (0 : Int32)), (.int (Int32.ofNat (((([] : List Int32) ++ e0) ++ ([9] : List Int32)) ++ e1).length)), (.ref bf), (.ref r)]
                refine Go.callS (I' := IW Z EL s₀ lo []) (hI := wQ (ws := []) (fun v h' q => by obtain ⟨rfl, rfl⟩ := q; exact Keep.refl _ _) all0) [(.ref r), (.ref bf), (.int (Int32.ofNat (((([] : List Int32) ++ e0) ++ ([9] : List Int32)) ++ e1).length)), (.int (0 : Int32))] [] (ct_att l Z a0 hw n0 r t bf k k_bf (((([] : List Int32) ++ e0) ++ ([9] : List Int32)) ++ e1) 0 _ O z S_cs hcs vf hvf S_f (by decide) hPl hok BR V_bf) (wd_112 hw) (wd_113 hw) (wd_6 hw) (wd_114 hw) (by decide) pd_29 rfl rfl rfl (Nat.le_of_ble_eq_true rfl) (Nat.le_of_ble_eq_true rfl) (Nat.le_of_ble_eq_true rfl) (Nat.le_of_ble_eq_true rfl) at_303 ?_
                rintro _ _ ⟨rfl, rfl⟩
                show GW_law l Z EL s₀ n0 (fun v _ => v = some (.int 1)) lo [] hp101 24 90 306 #[.val (.int p0), .val (.int p1), .val (.int p2), .val (.int p3), .val (.int (2 : Int32)), .val (.int u0), .val (.int u1), .val (.int u2), .val (.int m0), .val (.int m1), .val (.int m2), .val v0, .val v1, .val v2, .val (.ref ca), .val (.ref r), .val (.ref bf), .val (.int (Int32.ofNat (((([] : List Int32) ++ e0) ++ ([9] : List Int32)) ++ e1).length))] [(.int (1 : Int32))]
                -- at pc 306: pc 306: ifCond .ifCond .eq 100 stack [(.int (1 : Int32))]
                -- not: (1 : Int32) = (0 : Int32)
                refine Go.ifF at_306 (feq (by decide)).1 ?_
                refine Go.aload at_309 rfl rfl ?_
                refine Go.aload at_311 rfl rfl ?_
                refine Go.iload at_313 rfl ?_
                refine Go.iconst 1 at_315 rfl ?_
                -- at pc 316: pc 316: invokestatic .invokestatic 35 stack [(.int (1 : Int32)), (.int (Int32.ofNat (((([] : List Int32) ++ e0) ++ ([9] : List Int32)) ++ e1).length)), (.ref bf), (.ref r)]
                refine Go.callS (I' := IW Z EL s₀ lo []) (hI := wQ (ws := []) (fun v h' q => by obtain ⟨rfl, rfl⟩ := q; exact Keep.refl _ _) all0) [(.ref r), (.ref bf), (.int (Int32.ofNat (((([] : List Int32) ++ e0) ++ ([9] : List Int32)) ++ e1).length)), (.int (1 : Int32))] [] (ct_att l Z a0 hw n0 r t bf k k_bf (((([] : List Int32) ++ e0) ++ ([9] : List Int32)) ++ e1) 1 _ O z S_cs hcs vf hvf S_f (by decide) hPl hok BR V_bf) (wd_112 hw) (wd_113 hw) (wd_6 hw) (wd_114 hw) (by decide) pd_29 rfl rfl rfl (Nat.le_of_ble_eq_true rfl) (Nat.le_of_ble_eq_true rfl) (Nat.le_of_ble_eq_true rfl) (Nat.le_of_ble_eq_true rfl) at_316 ?_
                rintro _ _ ⟨rfl, rfl⟩
                show GW_law l Z EL s₀ n0 (fun v _ => v = some (.int 1)) lo [] hp101 24 90 319 #[.val (.int p0), .val (.int p1), .val (.int p2), .val (.int p3), .val (.int (2 : Int32)), .val (.int u0), .val (.int u1), .val (.int u2), .val (.int m0), .val (.int m1), .val (.int m2), .val v0, .val v1, .val v2, .val (.ref ca), .val (.ref r), .val (.ref bf), .val (.int (Int32.ofNat (((([] : List Int32) ++ e0) ++ ([9] : List Int32)) ++ e1).length))] [(.int (1 : Int32))]
                -- at pc 319: pc 319: ifCond .ifCond .eq 87 stack [(.int (1 : Int32))]
                -- not: (1 : Int32) = (0 : Int32)
                refine Go.ifF at_319 (feq (by decide)).1 ?_
                refine Go.aload at_322 rfl rfl ?_
                refine Go.aload at_324 rfl rfl ?_
                refine Go.iload at_326 rfl ?_
                refine Go.iconst 2 at_328 rfl ?_
                -- at pc 329: pc 329: invokestatic .invokestatic 35 stack [(.int (2 : Int32)), (.int (Int32.ofNat (((([] : List Int32) ++ e0) ++ ([9] : List Int32)) ++ e1).length)), (.ref bf), (.ref r)]
                refine Go.callS (I' := IW Z EL s₀ lo []) (hI := wQ (ws := []) (fun v h' q => by obtain ⟨rfl, rfl⟩ := q; exact Keep.refl _ _) all0) [(.ref r), (.ref bf), (.int (Int32.ofNat (((([] : List Int32) ++ e0) ++ ([9] : List Int32)) ++ e1).length)), (.int (2 : Int32))] [] (ct_att l Z a0 hw n0 r t bf k k_bf (((([] : List Int32) ++ e0) ++ ([9] : List Int32)) ++ e1) 2 _ O z S_cs hcs vf hvf S_f (by decide) hPl hok BR V_bf) (wd_112 hw) (wd_113 hw) (wd_6 hw) (wd_114 hw) (by decide) pd_29 rfl rfl rfl (Nat.le_of_ble_eq_true rfl) (Nat.le_of_ble_eq_true rfl) (Nat.le_of_ble_eq_true rfl) (Nat.le_of_ble_eq_true rfl) at_329 ?_
                rintro _ _ ⟨rfl, rfl⟩
                show GW_law l Z EL s₀ n0 (fun v _ => v = some (.int 1)) lo [] hp101 24 90 332 #[.val (.int p0), .val (.int p1), .val (.int p2), .val (.int p3), .val (.int (2 : Int32)), .val (.int u0), .val (.int u1), .val (.int u2), .val (.int m0), .val (.int m1), .val (.int m2), .val v0, .val v1, .val v2, .val (.ref ca), .val (.ref r), .val (.ref bf), .val (.int (Int32.ofNat (((([] : List Int32) ++ e0) ++ ([9] : List Int32)) ++ e1).length))] [(.int (1 : Int32))]
                -- at pc 332: pc 332: ifCond .ifCond .eq 74 stack [(.int (1 : Int32))]
                -- not: (1 : Int32) = (0 : Int32)
                refine Go.ifF at_332 (feq (by decide)).1 ?_
                refine Go.aload at_335 rfl rfl ?_
                refine Go.aload at_337 rfl rfl ?_
                refine Go.iload at_339 rfl ?_
                refine Go.iconst 3 at_341 rfl ?_
                -- at pc 342: pc 342: invokestatic .invokestatic 35 stack [(.int (3 : Int32)), (.int (Int32.ofNat (((([] : List Int32) ++ e0) ++ ([9] : List Int32)) ++ e1).length)), (.ref bf), (.ref r)]
                refine Go.callS (I' := IW Z EL s₀ lo []) (hI := wQ (ws := []) (fun v h' q => by obtain ⟨rfl, rfl⟩ := q; exact Keep.refl _ _) all0) [(.ref r), (.ref bf), (.int (Int32.ofNat (((([] : List Int32) ++ e0) ++ ([9] : List Int32)) ++ e1).length)), (.int (3 : Int32))] [] (ct_att l Z a0 hw n0 r t bf k k_bf (((([] : List Int32) ++ e0) ++ ([9] : List Int32)) ++ e1) 3 _ O z S_cs hcs vf hvf S_f (by decide) hPl hok BR V_bf) (wd_112 hw) (wd_113 hw) (wd_6 hw) (wd_114 hw) (by decide) pd_29 rfl rfl rfl (Nat.le_of_ble_eq_true rfl) (Nat.le_of_ble_eq_true rfl) (Nat.le_of_ble_eq_true rfl) (Nat.le_of_ble_eq_true rfl) at_342 ?_
                rintro _ _ ⟨rfl, rfl⟩
                show GW_law l Z EL s₀ n0 (fun v _ => v = some (.int 1)) lo [] hp101 24 90 345 #[.val (.int p0), .val (.int p1), .val (.int p2), .val (.int p3), .val (.int (2 : Int32)), .val (.int u0), .val (.int u1), .val (.int u2), .val (.int m0), .val (.int m1), .val (.int m2), .val v0, .val v1, .val v2, .val (.ref ca), .val (.ref r), .val (.ref bf), .val (.int (Int32.ofNat (((([] : List Int32) ++ e0) ++ ([9] : List Int32)) ++ e1).length))] [(.int (1 : Int32))]
                -- at pc 345: pc 345: ifCond .ifCond .eq 61 stack [(.int (1 : Int32))]
                -- not: (1 : Int32) = (0 : Int32)
                refine Go.ifF at_345 (feq (by decide)).1 ?_
                refine Go.aload at_348 rfl rfl ?_
                refine Go.aload at_350 rfl rfl ?_
                refine Go.iload at_352 rfl ?_
                refine Go.iconst 4 at_354 rfl ?_
                -- at pc 355: pc 355: invokestatic .invokestatic 35 stack [(.int (4 : Int32)), (.int (Int32.ofNat (((([] : List Int32) ++ e0) ++ ([9] : List Int32)) ++ e1).length)), (.ref bf), (.ref r)]
                refine Go.callS (I' := IW Z EL s₀ lo []) (hI := wQ (ws := []) (fun v h' q => by obtain ⟨rfl, rfl⟩ := q; exact Keep.refl _ _) all0) [(.ref r), (.ref bf), (.int (Int32.ofNat (((([] : List Int32) ++ e0) ++ ([9] : List Int32)) ++ e1).length)), (.int (4 : Int32))] [] (ct_att l Z a0 hw n0 r t bf k k_bf (((([] : List Int32) ++ e0) ++ ([9] : List Int32)) ++ e1) 4 _ O z S_cs hcs vf hvf S_f (by decide) hPl hok BR V_bf) (wd_112 hw) (wd_113 hw) (wd_6 hw) (wd_114 hw) (by decide) pd_29 rfl rfl rfl (Nat.le_of_ble_eq_true rfl) (Nat.le_of_ble_eq_true rfl) (Nat.le_of_ble_eq_true rfl) (Nat.le_of_ble_eq_true rfl) at_355 ?_
                rintro _ _ ⟨rfl, rfl⟩
                show GW_law l Z EL s₀ n0 (fun v _ => v = some (.int 1)) lo [] hp101 24 90 358 #[.val (.int p0), .val (.int p1), .val (.int p2), .val (.int p3), .val (.int (2 : Int32)), .val (.int u0), .val (.int u1), .val (.int u2), .val (.int m0), .val (.int m1), .val (.int m2), .val v0, .val v1, .val v2, .val (.ref ca), .val (.ref r), .val (.ref bf), .val (.int (Int32.ofNat (((([] : List Int32) ++ e0) ++ ([9] : List Int32)) ++ e1).length))] [(.int (1 : Int32))]
                -- at pc 358: pc 358: ifCond .ifCond .eq 48 stack [(.int (1 : Int32))]
                -- not: (1 : Int32) = (0 : Int32)
                refine Go.ifF at_358 (feq (by decide)).1 ?_
                refine Go.aload at_361 rfl rfl ?_
                refine Go.aload at_363 rfl rfl ?_
                refine Go.iload at_365 rfl ?_
                refine Go.iconst 5 at_367 rfl ?_
                -- at pc 368: pc 368: invokestatic .invokestatic 35 stack [(.int (5 : Int32)), (.int (Int32.ofNat (((([] : List Int32) ++ e0) ++ ([9] : List Int32)) ++ e1).length)), (.ref bf), (.ref r)]
                refine Go.callS (I' := IW Z EL s₀ lo []) (hI := wQ (ws := []) (fun v h' q => by obtain ⟨rfl, rfl⟩ := q; exact Keep.refl _ _) all0) [(.ref r), (.ref bf), (.int (Int32.ofNat (((([] : List Int32) ++ e0) ++ ([9] : List Int32)) ++ e1).length)), (.int (5 : Int32))] [] (ct_att l Z a0 hw n0 r t bf k k_bf (((([] : List Int32) ++ e0) ++ ([9] : List Int32)) ++ e1) 5 _ O z S_cs hcs vf hvf S_f (by decide) hPl hok BR V_bf) (wd_112 hw) (wd_113 hw) (wd_6 hw) (wd_114 hw) (by decide) pd_29 rfl rfl rfl (Nat.le_of_ble_eq_true rfl) (Nat.le_of_ble_eq_true rfl) (Nat.le_of_ble_eq_true rfl) (Nat.le_of_ble_eq_true rfl) at_368 ?_
                rintro _ _ ⟨rfl, rfl⟩
                show GW_law l Z EL s₀ n0 (fun v _ => v = some (.int 1)) lo [] hp101 24 90 371 #[.val (.int p0), .val (.int p1), .val (.int p2), .val (.int p3), .val (.int (2 : Int32)), .val (.int u0), .val (.int u1), .val (.int u2), .val (.int m0), .val (.int m1), .val (.int m2), .val v0, .val v1, .val v2, .val (.ref ca), .val (.ref r), .val (.ref bf), .val (.int (Int32.ofNat (((([] : List Int32) ++ e0) ++ ([9] : List Int32)) ++ e1).length))] [(.int (1 : Int32))]
                -- at pc 371: pc 371: ifCond .ifCond .eq 35 stack [(.int (1 : Int32))]
                -- not: (1 : Int32) = (0 : Int32)
                refine Go.ifF at_371 (feq (by decide)).1 ?_
                refine Go.aload at_374 rfl rfl ?_
                refine Go.aload at_376 rfl rfl ?_
                refine Go.iload at_378 rfl ?_
                refine Go.bipush 6 at_380 rfl ?_
                -- at pc 382: pc 382: invokestatic .invokestatic 35 stack [(.int (6 : Int32)), (.int (Int32.ofNat (((([] : List Int32) ++ e0) ++ ([9] : List Int32)) ++ e1).length)), (.ref bf), (.ref r)]
                refine Go.callS (I' := IW Z EL s₀ lo []) (hI := wQ (ws := []) (fun v h' q => by obtain ⟨rfl, rfl⟩ := q; exact Keep.refl _ _) all0) [(.ref r), (.ref bf), (.int (Int32.ofNat (((([] : List Int32) ++ e0) ++ ([9] : List Int32)) ++ e1).length)), (.int (6 : Int32))] [] (ct_att l Z a0 hw n0 r t bf k k_bf (((([] : List Int32) ++ e0) ++ ([9] : List Int32)) ++ e1) 6 _ O z S_cs hcs vf hvf S_f (by decide) hPl hok BR V_bf) (wd_112 hw) (wd_113 hw) (wd_6 hw) (wd_114 hw) (by decide) pd_29 rfl rfl rfl (Nat.le_of_ble_eq_true rfl) (Nat.le_of_ble_eq_true rfl) (Nat.le_of_ble_eq_true rfl) (Nat.le_of_ble_eq_true rfl) at_382 ?_
                rintro _ _ ⟨rfl, rfl⟩
                show GW_law l Z EL s₀ n0 (fun v _ => v = some (.int 1)) lo [] hp101 24 90 385 #[.val (.int p0), .val (.int p1), .val (.int p2), .val (.int p3), .val (.int (2 : Int32)), .val (.int u0), .val (.int u1), .val (.int u2), .val (.int m0), .val (.int m1), .val (.int m2), .val v0, .val v1, .val v2, .val (.ref ca), .val (.ref r), .val (.ref bf), .val (.int (Int32.ofNat (((([] : List Int32) ++ e0) ++ ([9] : List Int32)) ++ e1).length))] [(.int (1 : Int32))]
                -- at pc 385: pc 385: ifCond .ifCond .eq 21 stack [(.int (1 : Int32))]
                -- not: (1 : Int32) = (0 : Int32)
                refine Go.ifF at_385 (feq (by decide)).1 ?_
                refine Go.aload at_388 rfl rfl ?_
                refine Go.aload at_390 rfl rfl ?_
                refine Go.iload at_392 rfl ?_
                refine Go.bipush 7 at_394 rfl ?_
                -- at pc 396: pc 396: invokestatic .invokestatic 35 stack [(.int (7 : Int32)), (.int (Int32.ofNat (((([] : List Int32) ++ e0) ++ ([9] : List Int32)) ++ e1).length)), (.ref bf), (.ref r)]
                refine Go.callS (I' := IW Z EL s₀ lo []) (hI := wQ (ws := []) (fun v h' q => by obtain ⟨rfl, rfl⟩ := q; exact Keep.refl _ _) all0) [(.ref r), (.ref bf), (.int (Int32.ofNat (((([] : List Int32) ++ e0) ++ ([9] : List Int32)) ++ e1).length)), (.int (7 : Int32))] [] (ct_att l Z a0 hw n0 r t bf k k_bf (((([] : List Int32) ++ e0) ++ ([9] : List Int32)) ++ e1) 7 _ O z S_cs hcs vf hvf S_f (by decide) hPl hok BR V_bf) (wd_112 hw) (wd_113 hw) (wd_6 hw) (wd_114 hw) (by decide) pd_29 rfl rfl rfl (Nat.le_of_ble_eq_true rfl) (Nat.le_of_ble_eq_true rfl) (Nat.le_of_ble_eq_true rfl) (Nat.le_of_ble_eq_true rfl) at_396 ?_
                rintro _ _ ⟨rfl, rfl⟩
                show GW_law l Z EL s₀ n0 (fun v _ => v = some (.int 1)) lo [] hp101 24 90 399 #[.val (.int p0), .val (.int p1), .val (.int p2), .val (.int p3), .val (.int (2 : Int32)), .val (.int u0), .val (.int u1), .val (.int u2), .val (.int m0), .val (.int m1), .val (.int m2), .val v0, .val v1, .val v2, .val (.ref ca), .val (.ref r), .val (.ref bf), .val (.int (Int32.ofNat (((([] : List Int32) ++ e0) ++ ([9] : List Int32)) ++ e1).length))] [(.int (1 : Int32))]
                -- at pc 399: pc 399: ifCond .ifCond .eq 7 stack [(.int (1 : Int32))]
                -- not: (1 : Int32) = (0 : Int32)
                refine Go.ifF at_399 (feq (by decide)).1 ?_
                refine Go.iconst 1 at_402 rfl ?_
                refine Go.goto 407 at_403 (by decide) (by decide) ?_
                -- at pc 407: pc 407: ireturn .ireturn stack [(.int (1 : Int32))]
                exact GW.nreturn .boolean hEL at_407 rfl (by simp) (by decide) (by decide) rfl
              · rw [hn]
                refine Go.astore (Ls' := #[.val (.int p0), .val (.int p1), .val (.int p2), .val (.int p3), .val (.int (3 : Int32)), .val (.int u0), .val (.int u1), .val (.int u2), .val (.int m0), .val (.int m1), .val (.int m2), .val v0, .val v1, .val v2, .unset, .unset, .unset, .unset]) at_134 r2 (st_at rfl One.u (cat_ref r2) rfl) ?_
                refine Go.iload at_136 rfl ?_
                -- at pc 138: pc 138: anewarray .anewarray 19 stack [(.int (3 : Int32))]
                refine Go.newR (I' := IW Z EL s₀ lo []) (hI := wE) (wd_8 hw) (wd_30 hw) at_138 (by decide) 3 (by decide) (by decide) (by decide) (by decide) fun hp111 ca k_ca e_ca X111 V_ca O_ca => ?_
                have K111 : Keep h hp111 [] := (Keep.refl _ _).ext X111
                have g_ca : n0 ≤ ca := e_ca ▸ hz
                have l_ca : lo ≤ ca := e_ca ▸ hlo
                have s_ca : h.size ≤ ca := e_ca ▸ KK.1
                replace O := O.keep K111 (all0)
                replace V_ca : Arv Z hp111 ca k_ca (.object "java/lang/String") (3 : Int32) [.null, .null, .null] .null := V_ca.pad (pad_rep [] .null 3)
                replace hz : n0 ≤ hp111.size := Nat.le_trans hz K111.1
                replace hlo : lo ≤ hp111.size := Nat.le_trans hlo K111.1
                replace KK : Keep h hp111 [] := KK.trans K111 (all0)
                refine Go.astore (Ls' := #[.val (.int p0), .val (.int p1), .val (.int p2), .val (.int p3), .val (.int (3 : Int32)), .val (.int u0), .val (.int u1), .val (.int u2), .val (.int m0), .val (.int m1), .val (.int m2), .val v0, .val v1, .val v2, .val (.ref ca), .unset, .unset, .unset]) at_141 rfl rfl ?_
                refine Go.iload at_143 rfl ?_
                -- at pc 145: pc 145: ifCond .ifCond .le 9 stack [(.int (3 : Int32))]
                -- (0 : Int32) < (3 : Int32)
                refine Go.ifF at_145 (tlt (by decide)).2.2.2 ?_
                refine Go.aload at_148 rfl rfl ?_
                refine Go.iconst 0 at_150 rfl ?_
                refine Go.aload at_151 rfl r0 ?_
                refine Go.aastore (I' := IW Z EL s₀ lo []) (hI := wI (Sb.arv V_ca (by decide))) V_ca rfl (fits_ref' r0) ((C0.keep KK).sto O_ca) ⟨by decide, by decide⟩ g_ca 0 rfl (Nat.le_of_ble_eq_true rfl) at_153 fun hp112 K112 V_ca_n => ?_
                replace V_ca : Arv Z hp112 ca k_ca (.object "java/lang/String") (3 : Int32) [v0, .null, .null] .null := V_ca_n
                replace O := O.keep K112 (allS g_ca (all0))
                replace hz : n0 ≤ hp112.size := Nat.le_trans hz K112.1
                replace hlo : lo ≤ hp112.size := Nat.le_trans hlo K112.1
                replace KK : Keep h hp112 [] := KK.trans K112 (allS (Or.inr s_ca) (all0))
                refine Go.iload at_154 rfl ?_
                refine Go.iconst 1 at_156 rfl ?_
                -- at pc 157: pc 157: if_icmp .if_icmp .le 9 stack [(.int (1 : Int32)), (.int (3 : Int32))]
                -- (1 : Int32) < (3 : Int32)
                refine Go.icF at_157 (tlt (by decide)).2.2.2 ?_
                refine Go.aload at_160 rfl rfl ?_
                refine Go.iconst 1 at_162 rfl ?_
                refine Go.aload at_163 rfl r1 ?_
                refine Go.aastore (I' := IW Z EL s₀ lo []) (hI := wI (Sb.arv V_ca (by decide))) V_ca rfl (fits_ref' r1) ((C1.keep KK).sto O_ca) ⟨by decide, by decide⟩ g_ca 1 rfl (Nat.le_of_ble_eq_true rfl) at_165 fun hp113 K113 V_ca_n => ?_
                replace V_ca : Arv Z hp113 ca k_ca (.object "java/lang/String") (3 : Int32) [v0, v1, .null] .null := V_ca_n
                replace O := O.keep K113 (allS g_ca (all0))
                replace hz : n0 ≤ hp113.size := Nat.le_trans hz K113.1
                replace hlo : lo ≤ hp113.size := Nat.le_trans hlo K113.1
                replace KK : Keep h hp113 [] := KK.trans K113 (allS (Or.inr s_ca) (all0))
                refine Go.iload at_166 rfl ?_
                refine Go.iconst 2 at_168 rfl ?_
                -- at pc 169: pc 169: if_icmp .if_icmp .le 9 stack [(.int (2 : Int32)), (.int (3 : Int32))]
                -- (2 : Int32) < (3 : Int32)
                refine Go.icF at_169 (tlt (by decide)).2.2.2 ?_
                refine Go.aload at_172 rfl rfl ?_
                refine Go.iconst 2 at_174 rfl ?_
                refine Go.aload at_175 rfl r2 ?_
                refine Go.aastore (I' := IW Z EL s₀ lo []) (hI := wI (Sb.arv V_ca (by decide))) V_ca rfl (fits_ref' r2) ((C2.keep KK).sto O_ca) ⟨by decide, by decide⟩ g_ca 2 rfl (Nat.le_of_ble_eq_true rfl) at_177 fun hp114 K114 V_ca_n => ?_
                replace V_ca : Arv Z hp114 ca k_ca (.object "java/lang/String") (3 : Int32) [v0, v1, v2] .null := V_ca_n
                replace O := O.keep K114 (allS g_ca (all0))
                replace hz : n0 ≤ hp114.size := Nat.le_trans hz K114.1
                replace hlo : lo ≤ hp114.size := Nat.le_trans hlo K114.1
                replace KK : Keep h hp114 [] := KK.trans K114 (allS (Or.inr s_ca) (all0))
                refine Go.aload at_178 rfl rfl ?_
                -- at pc 180: pc 180: invokestatic .invokestatic 21 stack [(.ref ca)]
                refine Go.callS (I' := IW Z EL s₀ lo []) (hI := wQ (ws := []) (fun v h' q => by obtain ⟨r, t, k, rfl, K115, BR⟩ := q; exact K115) all0) [(.ref ca)] [] (ct_row l Z a0 hw n0 ca k_ca [v0, v1, v2] [e0, e1, e2] _ hz O z S_cs hcs V_ca (by simp) ⟨C0.keep KK, C1.keep KK, C2.keep KK, trivial⟩ (by simp [jn] <;> omega)) (wd_31 hw) (wd_32 hw) (wd_33 hw) (wd_34 hw) (by decide) pd_28 rfl rfl rfl (Nat.le_of_ble_eq_true rfl) (Nat.le_of_ble_eq_true rfl) (Nat.le_of_ble_eq_true rfl) (Nat.le_of_ble_eq_true rfl) at_180 ?_
                rintro _ hp115 ⟨r, t, k, rfl, K115, BR⟩
                replace O := O.keep K115 (all0)
                replace V_ca := V_ca.keep K115 nin0
                replace hz : n0 ≤ hp115.size := Nat.le_trans hz K115.1
                replace hlo : lo ≤ hp115.size := Nat.le_trans hlo K115.1
                replace KK : Keep h hp115 [] := KK.trans K115 (all0)
                show GW_law l Z EL s₀ n0 (fun v _ => v = some (.int 1)) lo [] hp115 23 83 183 #[.val (.int p0), .val (.int p1), .val (.int p2), .val (.int p3), .val (.int (3 : Int32)), .val (.int u0), .val (.int u1), .val (.int u2), .val (.int m0), .val (.int m1), .val (.int m2), .val v0, .val v1, .val v2, .val (.ref ca), .unset, .unset, .unset] [(.ref r)]
                have E_r := BR.1
                refine Go.astore (Ls' := #[.val (.int p0), .val (.int p1), .val (.int p2), .val (.int p3), .val (.int (3 : Int32)), .val (.int u0), .val (.int u1), .val (.int u2), .val (.int m0), .val (.int m1), .val (.int m2), .val v0, .val v1, .val v2, .val (.ref ca), .val (.ref r), .unset, .unset]) at_183 rfl rfl ?_
                refine Go.bipush 8 at_185 rfl ?_
                -- at pc 187: pc 187: newarray .newarray .char stack [(.int (8 : Int32))]
                refine Go.newP (I' := IW Z EL s₀ lo []) (hI := wE) .char (wd_11 hw) rfl at_187 (by decide) 8 (by decide) (by decide) (by decide) (by decide) fun hp116 bf k_bf e_bf X116 V_bf => ?_
                have K116 : Keep hp115 hp116 [] := (Keep.refl _ _).ext X116
                have g_bf : n0 ≤ bf := e_bf ▸ hz
                have l_bf : lo ≤ bf := e_bf ▸ hlo
                have s_bf : h.size ≤ bf := e_bf ▸ KK.1
                have ne_r_bf : r ≠ bf := Nat.ne_of_lt (e_bf ▸ E_r.lt)
                have ne_t_bf : t ≠ bf := Nat.ne_of_lt (e_bf ▸ BR.lt2)
                replace O := O.keep K116 (all0)
                replace E_r := E_r.keep K116
                replace BR := BR.keep K116 nin0 nin0
                replace V_bf : Arv Z hp116 bf k_bf .char (8 : Int32) [(.int (0 : Int32)), (.int (0 : Int32)), (.int (0 : Int32)), (.int (0 : Int32)), (.int (0 : Int32)), (.int (0 : Int32)), (.int (0 : Int32)), (.int (0 : Int32))] (.int (0 : Int32)) := V_bf.pad (pad_rep [] (.int (0 : Int32)) 8)
                replace hz : n0 ≤ hp116.size := Nat.le_trans hz K116.1
                replace hlo : lo ≤ hp116.size := Nat.le_trans hlo K116.1
                replace KK : Keep h hp116 [] := KK.trans K116 (all0)
                replace V_bf : Arv Z _ bf k_bf .char (8 : Int32) (([] : List Int32).map Value.int) (.int (0 : Int32)) := V_bf.pad (fun i => (pad_rep [] (.int (0 : Int32)) 8 i).symm)
                refine Go.astore (Ls' := #[.val (.int p0), .val (.int p1), .val (.int p2), .val (.int p3), .val (.int (3 : Int32)), .val (.int u0), .val (.int u1), .val (.int u2), .val (.int m0), .val (.int m1), .val (.int m2), .val v0, .val v1, .val v2, .val (.ref ca), .val (.ref r), .val (.ref bf), .unset]) at_189 rfl rfl ?_
                refine Go.iconst 0 at_191 rfl ?_
                refine Go.istore (Ls' := #[.val (.int p0), .val (.int p1), .val (.int p2), .val (.int p3), .val (.int (3 : Int32)), .val (.int u0), .val (.int u1), .val (.int u2), .val (.int m0), .val (.int m1), .val (.int m2), .val v0, .val v1, .val v2, .val (.ref ca), .val (.ref r), .val (.ref bf), .val (.int (0 : Int32))]) at_192 rfl ?_
                refine Go.iload at_194 rfl ?_
                -- at pc 196: pc 196: ifCond .ifCond .le 17 stack [(.int (3 : Int32))]
                -- (0 : Int32) < (3 : Int32)
                refine Go.ifF at_196 (tlt (by decide)).2.2.2 ?_
                refine Go.aload at_199 rfl rfl ?_
                refine Go.iload at_201 rfl ?_
                refine Go.iload at_203 rfl ?_
                refine Go.iload at_205 rfl ?_
                refine Go.iloadN at_207 rfl ?_
                -- at pc 208: pc 208: invokestatic .invokestatic 27 stack [(.int p1), (.int m0), (.int u0), (.int (0 : Int32)), (.ref bf)]
                refine Go.callS (I' := IW Z EL s₀ lo []) (hI := wQ (ws := [bf]) (fun v h' q => by obtain ⟨rfl, K117, V_bf⟩ := q; exact K117) (allS (Sb.arv V_bf (by decide)) all0)) [(.ref bf), (.int (0 : Int32)), (.int u0), (.int m0), (.int p1)] [] (ct_put l Z a0 hw n0 bf k_bf ([] : List Int32) u0 m0 p1 (0 : Int32) _ rfl g_bf hm0 (by rw [← he0]; simp only [List.length_append, List.length_cons, List.length_nil]; omega) V_bf) (wd_161 hw) (wd_162 hw) (wd_6 hw) (wd_163 hw) (by decide) pd_30 rfl rfl rfl (Nat.le_of_ble_eq_true rfl) (Nat.le_of_ble_eq_true rfl) (Nat.le_of_ble_eq_true rfl) (Nat.le_of_ble_eq_true rfl) at_208 ?_
                rintro _ hp117 ⟨rfl, K117, V_bf⟩
                replace O := O.keep K117 (allS g_bf (all0))
                replace E_r := E_r.keep K117
                replace BR := BR.keep K117 (ninS ne_r_bf nin0) (ninS ne_t_bf nin0)
                replace hz : n0 ≤ hp117.size := Nat.le_trans hz K117.1
                replace hlo : lo ≤ hp117.size := Nat.le_trans hlo K117.1
                replace KK : Keep h hp117 [] := KK.trans K117 (allS (Or.inr s_bf) (all0))
                show GW_law l Z EL s₀ n0 (fun v _ => v = some (.int 1)) lo [] hp117 24 91 211 #[.val (.int p0), .val (.int p1), .val (.int p2), .val (.int p3), .val (.int (3 : Int32)), .val (.int u0), .val (.int u1), .val (.int u2), .val (.int m0), .val (.int m1), .val (.int m2), .val v0, .val v1, .val v2, .val (.ref ca), .val (.ref r), .val (.ref bf), .val (.int (0 : Int32))] [(.int (Int32.ofNat (([] : List Int32) ++ cel u0 m0 p1).length))]
                rw [← he0] at V_bf
                rw [← he0]
                refine Go.istore (Ls' := #[.val (.int p0), .val (.int p1), .val (.int p2), .val (.int p3), .val (.int (3 : Int32)), .val (.int u0), .val (.int u1), .val (.int u2), .val (.int m0), .val (.int m1), .val (.int m2), .val v0, .val v1, .val v2, .val (.ref ca), .val (.ref r), .val (.ref bf), .val (.int (Int32.ofNat (([] : List Int32) ++ e0).length))]) at_211 rfl ?_
                refine Go.iload at_213 rfl ?_
                refine Go.iconst 1 at_215 rfl ?_
                -- at pc 216: pc 216: if_icmp .if_icmp .le 30 stack [(.int (1 : Int32)), (.int (3 : Int32))]
                -- (1 : Int32) < (3 : Int32)
                refine Go.icF at_216 (tlt (by decide)).2.2.2 ?_
                refine Go.aload at_219 rfl rfl ?_
                refine Go.iload at_221 rfl ?_
                refine Go.bipush 9 at_223 rfl ?_
                refine Go.castore (I' := IW Z EL s₀ lo []) (hI := wI (Sb.arv V_bf (by decide))) (V_bf.pad (pad_rep _ _ (8 - (([] : List Int32) ++ e0).length))) (own_idx (m := 8) (by (try simp only [List.length_append, List.length_cons, List.length_nil]); omega) (by decide)) g_bf (([] : List Int32) ++ e0).length (own_clamp (by (try simp only [List.length_append, List.length_cons, List.length_nil]); omega)) (by simp; omega) at_225 fun ha K_ha V_ha => ?_
                rw [show nar .char (9 : Int32) = 9 from rfl] at V_ha
                replace V_ha := own_setp (by (try simp only [List.length_append, List.length_cons, List.length_nil]); omega) V_ha
                replace O := O.keep K_ha (allS g_bf (all0))
                replace E_r := E_r.keep K_ha
                replace BR := BR.keep K_ha (ninS ne_r_bf nin0) (ninS ne_t_bf nin0)
                replace hz : n0 ≤ ha.size := Nat.le_trans hz K_ha.1
                replace hlo : lo ≤ ha.size := Nat.le_trans hlo K_ha.1
                replace KK : Keep h ha [] := KK.trans K_ha (allS (Or.inr s_bf) (all0))
                have V_bf := V_ha
                show GW_law l Z EL s₀ n0 (fun v _ => v = some (.int 1)) lo [] ha 24 91 226 #[.val (.int p0), .val (.int p1), .val (.int p2), .val (.int p3), .val (.int (3 : Int32)), .val (.int u0), .val (.int u1), .val (.int u2), .val (.int m0), .val (.int m1), .val (.int m2), .val v0, .val v1, .val v2, .val (.ref ca), .val (.ref r), .val (.ref bf), .val (.int (Int32.ofNat (([] : List Int32) ++ e0).length))] []
                refine Go.iload at_226 rfl ?_
                refine Go.iconst 1 at_228 rfl ?_
                refine Go.iadd at_229 ?_
                refine Go.istore (Ls' := #[.val (.int p0), .val (.int p1), .val (.int p2), .val (.int p3), .val (.int (3 : Int32)), .val (.int u0), .val (.int u1), .val (.int u2), .val (.int m0), .val (.int m1), .val (.int m2), .val v0, .val v1, .val v2, .val (.ref ca), .val (.ref r), .val (.ref bf), .val (.int ((Int32.ofNat (([] : List Int32) ++ e0).length) + (1 : Int32)))]) at_230 rfl ?_
                refine Go.aload at_232 rfl rfl ?_
                refine Go.iload at_234 rfl ?_
                refine Go.iload at_236 rfl ?_
                refine Go.iload at_238 rfl ?_
                refine Go.iloadN at_240 rfl ?_
                -- at pc 241: pc 241: invokestatic .invokestatic 27 stack [(.int p2), (.int m1), (.int u1), (.int ((Int32.ofNat (([] : List Int32) ++ e0).length) + (1 : Int32))), (.ref bf)]
                refine Go.callS (I' := IW Z EL s₀ lo []) (hI := wQ (ws := [bf]) (fun v h' q => by obtain ⟨rfl, K118, V_bf⟩ := q; exact K118) (allS (Sb.arv V_bf (by decide)) all0)) [(.ref bf), (.int ((Int32.ofNat (([] : List Int32) ++ e0).length) + (1 : Int32))), (.int u1), (.int m1), (.int p2)] [] (ct_put l Z a0 hw n0 bf k_bf ((([] : List Int32) ++ e0) ++ ([9] : List Int32)) u1 m1 p2 ((Int32.ofNat (([] : List Int32) ++ e0).length) + (1 : Int32)) _ (own_cnt1 (([] : List Int32) ++ e0) 9) g_bf hm1 (by rw [← he1]; simp only [List.length_append, List.length_cons, List.length_nil]; omega) V_bf) (wd_161 hw) (wd_162 hw) (wd_6 hw) (wd_163 hw) (by decide) pd_30 rfl rfl rfl (Nat.le_of_ble_eq_true rfl) (Nat.le_of_ble_eq_true rfl) (Nat.le_of_ble_eq_true rfl) (Nat.le_of_ble_eq_true rfl) at_241 ?_
                rintro _ hp118 ⟨rfl, K118, V_bf⟩
                replace O := O.keep K118 (allS g_bf (all0))
                replace E_r := E_r.keep K118
                replace BR := BR.keep K118 (ninS ne_r_bf nin0) (ninS ne_t_bf nin0)
                replace hz : n0 ≤ hp118.size := Nat.le_trans hz K118.1
                replace hlo : lo ≤ hp118.size := Nat.le_trans hlo K118.1
                replace KK : Keep h hp118 [] := KK.trans K118 (allS (Or.inr s_bf) (all0))
                show GW_law l Z EL s₀ n0 (fun v _ => v = some (.int 1)) lo [] hp118 24 91 244 #[.val (.int p0), .val (.int p1), .val (.int p2), .val (.int p3), .val (.int (3 : Int32)), .val (.int u0), .val (.int u1), .val (.int u2), .val (.int m0), .val (.int m1), .val (.int m2), .val v0, .val v1, .val v2, .val (.ref ca), .val (.ref r), .val (.ref bf), .val (.int ((Int32.ofNat (([] : List Int32) ++ e0).length) + (1 : Int32)))] [(.int (Int32.ofNat (((([] : List Int32) ++ e0) ++ ([9] : List Int32)) ++ cel u1 m1 p2).length))]
                rw [← he1] at V_bf
                rw [← he1]
                refine Go.istore (Ls' := #[.val (.int p0), .val (.int p1), .val (.int p2), .val (.int p3), .val (.int (3 : Int32)), .val (.int u0), .val (.int u1), .val (.int u2), .val (.int m0), .val (.int m1), .val (.int m2), .val v0, .val v1, .val v2, .val (.ref ca), .val (.ref r), .val (.ref bf), .val (.int (Int32.ofNat (((([] : List Int32) ++ e0) ++ ([9] : List Int32)) ++ e1).length))]) at_244 rfl ?_
                refine Go.iload at_246 rfl ?_
                refine Go.iconst 2 at_248 rfl ?_
                -- at pc 249: pc 249: if_icmp .if_icmp .le 30 stack [(.int (2 : Int32)), (.int (3 : Int32))]
                -- (2 : Int32) < (3 : Int32)
                refine Go.icF at_249 (tlt (by decide)).2.2.2 ?_
                refine Go.aload at_252 rfl rfl ?_
                refine Go.iload at_254 rfl ?_
                refine Go.bipush 9 at_256 rfl ?_
                refine Go.castore (I' := IW Z EL s₀ lo []) (hI := wI (Sb.arv V_bf (by decide))) (V_bf.pad (pad_rep _ _ (8 - (((([] : List Int32) ++ e0) ++ ([9] : List Int32)) ++ e1).length))) (own_idx (m := 8) (by (try simp only [List.length_append, List.length_cons, List.length_nil]); omega) (by decide)) g_bf (((([] : List Int32) ++ e0) ++ ([9] : List Int32)) ++ e1).length (own_clamp (by (try simp only [List.length_append, List.length_cons, List.length_nil]); omega)) (by simp; omega) at_258 fun hc K_hc V_hc => ?_
                rw [show nar .char (9 : Int32) = 9 from rfl] at V_hc
                replace V_hc := own_setp (by (try simp only [List.length_append, List.length_cons, List.length_nil]); omega) V_hc
                replace O := O.keep K_hc (allS g_bf (all0))
                replace E_r := E_r.keep K_hc
                replace BR := BR.keep K_hc (ninS ne_r_bf nin0) (ninS ne_t_bf nin0)
                replace hz : n0 ≤ hc.size := Nat.le_trans hz K_hc.1
                replace hlo : lo ≤ hc.size := Nat.le_trans hlo K_hc.1
                replace KK : Keep h hc [] := KK.trans K_hc (allS (Or.inr s_bf) (all0))
                have V_bf := V_hc
                show GW_law l Z EL s₀ n0 (fun v _ => v = some (.int 1)) lo [] hc 24 91 259 #[.val (.int p0), .val (.int p1), .val (.int p2), .val (.int p3), .val (.int (3 : Int32)), .val (.int u0), .val (.int u1), .val (.int u2), .val (.int m0), .val (.int m1), .val (.int m2), .val v0, .val v1, .val v2, .val (.ref ca), .val (.ref r), .val (.ref bf), .val (.int (Int32.ofNat (((([] : List Int32) ++ e0) ++ ([9] : List Int32)) ++ e1).length))] []
                refine Go.iload at_259 rfl ?_
                refine Go.iconst 1 at_261 rfl ?_
                refine Go.iadd at_262 ?_
                refine Go.istore (Ls' := #[.val (.int p0), .val (.int p1), .val (.int p2), .val (.int p3), .val (.int (3 : Int32)), .val (.int u0), .val (.int u1), .val (.int u2), .val (.int m0), .val (.int m1), .val (.int m2), .val v0, .val v1, .val v2, .val (.ref ca), .val (.ref r), .val (.ref bf), .val (.int ((Int32.ofNat (((([] : List Int32) ++ e0) ++ ([9] : List Int32)) ++ e1).length) + (1 : Int32)))]) at_263 rfl ?_
                refine Go.aload at_265 rfl rfl ?_
                refine Go.iload at_267 rfl ?_
                refine Go.iload at_269 rfl ?_
                refine Go.iload at_271 rfl ?_
                refine Go.iloadN at_273 rfl ?_
                -- at pc 274: pc 274: invokestatic .invokestatic 27 stack [(.int p3), (.int m2), (.int u2), (.int ((Int32.ofNat (((([] : List Int32) ++ e0) ++ ([9] : List Int32)) ++ e1).length) + (1 : Int32))), (.ref bf)]
                refine Go.callS (I' := IW Z EL s₀ lo []) (hI := wQ (ws := [bf]) (fun v h' q => by obtain ⟨rfl, K119, V_bf⟩ := q; exact K119) (allS (Sb.arv V_bf (by decide)) all0)) [(.ref bf), (.int ((Int32.ofNat (((([] : List Int32) ++ e0) ++ ([9] : List Int32)) ++ e1).length) + (1 : Int32))), (.int u2), (.int m2), (.int p3)] [] (ct_put l Z a0 hw n0 bf k_bf ((((([] : List Int32) ++ e0) ++ ([9] : List Int32)) ++ e1) ++ ([9] : List Int32)) u2 m2 p3 ((Int32.ofNat (((([] : List Int32) ++ e0) ++ ([9] : List Int32)) ++ e1).length) + (1 : Int32)) _ (own_cnt1 (((([] : List Int32) ++ e0) ++ ([9] : List Int32)) ++ e1) 9) g_bf hm2 (by rw [← he2]; simp only [List.length_append, List.length_cons, List.length_nil]; omega) V_bf) (wd_161 hw) (wd_162 hw) (wd_6 hw) (wd_163 hw) (by decide) pd_30 rfl rfl rfl (Nat.le_of_ble_eq_true rfl) (Nat.le_of_ble_eq_true rfl) (Nat.le_of_ble_eq_true rfl) (Nat.le_of_ble_eq_true rfl) at_274 ?_
                rintro _ hp119 ⟨rfl, K119, V_bf⟩
                replace O := O.keep K119 (allS g_bf (all0))
                replace E_r := E_r.keep K119
                replace BR := BR.keep K119 (ninS ne_r_bf nin0) (ninS ne_t_bf nin0)
                replace hz : n0 ≤ hp119.size := Nat.le_trans hz K119.1
                replace hlo : lo ≤ hp119.size := Nat.le_trans hlo K119.1
                replace KK : Keep h hp119 [] := KK.trans K119 (allS (Or.inr s_bf) (all0))
                show GW_law l Z EL s₀ n0 (fun v _ => v = some (.int 1)) lo [] hp119 24 91 277 #[.val (.int p0), .val (.int p1), .val (.int p2), .val (.int p3), .val (.int (3 : Int32)), .val (.int u0), .val (.int u1), .val (.int u2), .val (.int m0), .val (.int m1), .val (.int m2), .val v0, .val v1, .val v2, .val (.ref ca), .val (.ref r), .val (.ref bf), .val (.int ((Int32.ofNat (((([] : List Int32) ++ e0) ++ ([9] : List Int32)) ++ e1).length) + (1 : Int32)))] [(.int (Int32.ofNat (((((([] : List Int32) ++ e0) ++ ([9] : List Int32)) ++ e1) ++ ([9] : List Int32)) ++ cel u2 m2 p3).length))]
                rw [← he2] at V_bf
                rw [← he2]
                have hok : OkL (((((([] : List Int32) ++ e0) ++ ([9] : List Int32)) ++ e1) ++ ([9] : List Int32)) ++ e2) := (OkL.app (OkL.app (OkL.app (OkL.app (OkL.app OkL.nil k_e0) OkL.nine) k_e1) OkL.nine) k_e2)
                have hPl : (((((([] : List Int32) ++ e0) ++ ([9] : List Int32)) ++ e1) ++ ([9] : List Int32)) ++ e2).length ≤ 8 := (by (try simp only [List.length_append, List.length_cons, List.length_nil]); omega)
                have hR : (jn 0 [e0, e1, e2]).map own_b = (((((([] : List Int32) ++ e0) ++ ([9] : List Int32)) ++ e1) ++ ([9] : List Int32)) ++ e2).map own_b := by simp [jn]
                rw [hR] at BR
                refine Go.istore (Ls' := #[.val (.int p0), .val (.int p1), .val (.int p2), .val (.int p3), .val (.int (3 : Int32)), .val (.int u0), .val (.int u1), .val (.int u2), .val (.int m0), .val (.int m1), .val (.int m2), .val v0, .val v1, .val v2, .val (.ref ca), .val (.ref r), .val (.ref bf), .val (.int (Int32.ofNat (((((([] : List Int32) ++ e0) ++ ([9] : List Int32)) ++ e1) ++ ([9] : List Int32)) ++ e2).length))]) at_277 rfl ?_
                refine Go.aload at_279 rfl rfl ?_
                refine Go.nullF at_281 ?_
                refine Go.aload at_284 rfl rfl ?_
                -- at pc 286: pc 286: invokevirtual .invokevirtual 31 stack [(.ref r)]
                refine Go.callV (I' := IW Z EL s₀ lo []) (hI := wQ (ws := []) (fun v h' q => by obtain ⟨rfl, rfl⟩ := q; exact Keep.refl _ _) all0) r [] [] (ct_slen l Z a0 hw n0 r t k ((((((([] : List Int32) ++ e0) ++ ([9] : List Int32)) ++ e1) ++ ([9] : List Int32)) ++ e2).map own_b) _ O z S_cs hcs BR) E_r (wd_101 hw) (wd_102 hw) (nf_sel (wd_104 hw)) (wd_104 hw) (wd_103 hw) (wd_10 hw) (wd_105 hw) (by decide) pd_8 rfl rfl rfl (Nat.le_of_ble_eq_true rfl) (Nat.le_of_ble_eq_true rfl) (Nat.le_of_ble_eq_true rfl) (Nat.le_of_ble_eq_true rfl) at_286 ?_
                rintro _ _ ⟨rfl, rfl⟩
                show GW_law l Z EL s₀ n0 (fun v _ => v = some (.int 1)) lo [] hp119 24 91 289 #[.val (.int p0), .val (.int p1), .val (.int p2), .val (.int p3), .val (.int (3 : Int32)), .val (.int u0), .val (.int u1), .val (.int u2), .val (.int m0), .val (.int m1), .val (.int m2), .val v0, .val v1, .val v2, .val (.ref ca), .val (.ref r), .val (.ref bf), .val (.int (Int32.ofNat (((((([] : List Int32) ++ e0) ++ ([9] : List Int32)) ++ e1) ++ ([9] : List Int32)) ++ e2).length))] [(.int (Int32.ofNat ((((((([] : List Int32) ++ e0) ++ ([9] : List Int32)) ++ e1) ++ ([9] : List Int32)) ++ e2).map own_b).length))]
                refine Go.iload at_289 rfl ?_
                -- at pc 291: pc 291: if_icmp .if_icmp .eq 5 stack [(.int (Int32.ofNat (((((([] : List Int32) ++ e0) ++ ([9] : List Int32)) ++ e1) ++ ([9] : List Int32)) ++ e2).length)), (.int (Int32.ofNat ((((((([] : List Int32) ++ e0) ++ ([9] : List Int32)) ++ e1) ++ ([9] : List Int32)) ++ e2).map own_b).length))]
                -- (Int32.ofNat ((((((([] : List Int32) ++ e0) ++ ([9] : List Int32)) ++ e1) ++ ([9] : List Int32)) ++ e2).map own_b).length) = (Int32.ofNat (((((([] : List Int32) ++ e0) ++ ([9] : List Int32)) ++ e1) ++ ([9] : List Int32)) ++ e2).length)
                refine Go.icT 296 at_291 (teq ((by first | (rw [List.length_map]; done) | rfl))).1 (by decide) (by decide) ?_
                refine Go.aload at_296 rfl rfl ?_
                refine Go.aload at_298 rfl rfl ?_
                refine Go.iload at_300 rfl ?_
                refine Go.iconst 0 at_302 rfl ?_
                -- at pc 303: pc 303: invokestatic .invokestatic 35 stack [(.int (0 : Int32)), (.int (Int32.ofNat (((((([] : List Int32) ++ e0) ++ ([9] : List Int32)) ++ e1) ++ ([9] : List Int32)) ++ e2).length)), (.ref bf), (.ref r)]
                refine Go.callS (I' := IW Z EL s₀ lo []) (hI := wQ (ws := []) (fun v h' q => by obtain ⟨rfl, rfl⟩ := q; exact Keep.refl _ _) all0) [(.ref r), (.ref bf), (.int (Int32.ofNat (((((([] : List Int32) ++ e0) ++ ([9] : List Int32)) ++ e1) ++ ([9] : List Int32)) ++ e2).length)), (.int (0 : Int32))] [] (ct_att l Z a0 hw n0 r t bf k k_bf (((((([] : List Int32) ++ e0) ++ ([9] : List Int32)) ++ e1) ++ ([9] : List Int32)) ++ e2) 0 _ O z S_cs hcs vf hvf S_f (by decide) hPl hok BR V_bf) (wd_112 hw) (wd_113 hw) (wd_6 hw) (wd_114 hw) (by decide) pd_29 rfl rfl rfl (Nat.le_of_ble_eq_true rfl) (Nat.le_of_ble_eq_true rfl) (Nat.le_of_ble_eq_true rfl) (Nat.le_of_ble_eq_true rfl) at_303 ?_
                rintro _ _ ⟨rfl, rfl⟩
                show GW_law l Z EL s₀ n0 (fun v _ => v = some (.int 1)) lo [] hp119 24 91 306 #[.val (.int p0), .val (.int p1), .val (.int p2), .val (.int p3), .val (.int (3 : Int32)), .val (.int u0), .val (.int u1), .val (.int u2), .val (.int m0), .val (.int m1), .val (.int m2), .val v0, .val v1, .val v2, .val (.ref ca), .val (.ref r), .val (.ref bf), .val (.int (Int32.ofNat (((((([] : List Int32) ++ e0) ++ ([9] : List Int32)) ++ e1) ++ ([9] : List Int32)) ++ e2).length))] [(.int (1 : Int32))]
                -- at pc 306: pc 306: ifCond .ifCond .eq 100 stack [(.int (1 : Int32))]
                -- not: (1 : Int32) = (0 : Int32)
                refine Go.ifF at_306 (feq (by decide)).1 ?_
                refine Go.aload at_309 rfl rfl ?_
                refine Go.aload at_311 rfl rfl ?_
                refine Go.iload at_313 rfl ?_
                refine Go.iconst 1 at_315 rfl ?_
                -- at pc 316: pc 316: invokestatic .invokestatic 35 stack [(.int (1 : Int32)), (.int (Int32.ofNat (((((([] : List Int32) ++ e0) ++ ([9] : List Int32)) ++ e1) ++ ([9] : List Int32)) ++ e2).length)), (.ref bf), (.ref r)]
                refine Go.callS (I' := IW Z EL s₀ lo []) (hI := wQ (ws := []) (fun v h' q => by obtain ⟨rfl, rfl⟩ := q; exact Keep.refl _ _) all0) [(.ref r), (.ref bf), (.int (Int32.ofNat (((((([] : List Int32) ++ e0) ++ ([9] : List Int32)) ++ e1) ++ ([9] : List Int32)) ++ e2).length)), (.int (1 : Int32))] [] (ct_att l Z a0 hw n0 r t bf k k_bf (((((([] : List Int32) ++ e0) ++ ([9] : List Int32)) ++ e1) ++ ([9] : List Int32)) ++ e2) 1 _ O z S_cs hcs vf hvf S_f (by decide) hPl hok BR V_bf) (wd_112 hw) (wd_113 hw) (wd_6 hw) (wd_114 hw) (by decide) pd_29 rfl rfl rfl (Nat.le_of_ble_eq_true rfl) (Nat.le_of_ble_eq_true rfl) (Nat.le_of_ble_eq_true rfl) (Nat.le_of_ble_eq_true rfl) at_316 ?_
                rintro _ _ ⟨rfl, rfl⟩
                show GW_law l Z EL s₀ n0 (fun v _ => v = some (.int 1)) lo [] hp119 24 91 319 #[.val (.int p0), .val (.int p1), .val (.int p2), .val (.int p3), .val (.int (3 : Int32)), .val (.int u0), .val (.int u1), .val (.int u2), .val (.int m0), .val (.int m1), .val (.int m2), .val v0, .val v1, .val v2, .val (.ref ca), .val (.ref r), .val (.ref bf), .val (.int (Int32.ofNat (((((([] : List Int32) ++ e0) ++ ([9] : List Int32)) ++ e1) ++ ([9] : List Int32)) ++ e2).length))] [(.int (1 : Int32))]
                -- at pc 319: pc 319: ifCond .ifCond .eq 87 stack [(.int (1 : Int32))]
                -- not: (1 : Int32) = (0 : Int32)
                refine Go.ifF at_319 (feq (by decide)).1 ?_
                refine Go.aload at_322 rfl rfl ?_
                refine Go.aload at_324 rfl rfl ?_
                refine Go.iload at_326 rfl ?_
                refine Go.iconst 2 at_328 rfl ?_
                -- at pc 329: pc 329: invokestatic .invokestatic 35 stack [(.int (2 : Int32)), (.int (Int32.ofNat (((((([] : List Int32) ++ e0) ++ ([9] : List Int32)) ++ e1) ++ ([9] : List Int32)) ++ e2).length)), (.ref bf), (.ref r)]
                refine Go.callS (I' := IW Z EL s₀ lo []) (hI := wQ (ws := []) (fun v h' q => by obtain ⟨rfl, rfl⟩ := q; exact Keep.refl _ _) all0) [(.ref r), (.ref bf), (.int (Int32.ofNat (((((([] : List Int32) ++ e0) ++ ([9] : List Int32)) ++ e1) ++ ([9] : List Int32)) ++ e2).length)), (.int (2 : Int32))] [] (ct_att l Z a0 hw n0 r t bf k k_bf (((((([] : List Int32) ++ e0) ++ ([9] : List Int32)) ++ e1) ++ ([9] : List Int32)) ++ e2) 2 _ O z S_cs hcs vf hvf S_f (by decide) hPl hok BR V_bf) (wd_112 hw) (wd_113 hw) (wd_6 hw) (wd_114 hw) (by decide) pd_29 rfl rfl rfl (Nat.le_of_ble_eq_true rfl) (Nat.le_of_ble_eq_true rfl) (Nat.le_of_ble_eq_true rfl) (Nat.le_of_ble_eq_true rfl) at_329 ?_
                rintro _ _ ⟨rfl, rfl⟩
                show GW_law l Z EL s₀ n0 (fun v _ => v = some (.int 1)) lo [] hp119 24 91 332 #[.val (.int p0), .val (.int p1), .val (.int p2), .val (.int p3), .val (.int (3 : Int32)), .val (.int u0), .val (.int u1), .val (.int u2), .val (.int m0), .val (.int m1), .val (.int m2), .val v0, .val v1, .val v2, .val (.ref ca), .val (.ref r), .val (.ref bf), .val (.int (Int32.ofNat (((((([] : List Int32) ++ e0) ++ ([9] : List Int32)) ++ e1) ++ ([9] : List Int32)) ++ e2).length))] [(.int (1 : Int32))]
                -- at pc 332: pc 332: ifCond .ifCond .eq 74 stack [(.int (1 : Int32))]
                -- not: (1 : Int32) = (0 : Int32)
                refine Go.ifF at_332 (feq (by decide)).1 ?_
                refine Go.aload at_335 rfl rfl ?_
                refine Go.aload at_337 rfl rfl ?_
                refine Go.iload at_339 rfl ?_
                refine Go.iconst 3 at_341 rfl ?_
                -- at pc 342: pc 342: invokestatic .invokestatic 35 stack [(.int (3 : Int32)), (.int (Int32.ofNat (((((([] : List Int32) ++ e0) ++ ([9] : List Int32)) ++ e1) ++ ([9] : List Int32)) ++ e2).length)), (.ref bf), (.ref r)]
                refine Go.callS (I' := IW Z EL s₀ lo []) (hI := wQ (ws := []) (fun v h' q => by obtain ⟨rfl, rfl⟩ := q; exact Keep.refl _ _) all0) [(.ref r), (.ref bf), (.int (Int32.ofNat (((((([] : List Int32) ++ e0) ++ ([9] : List Int32)) ++ e1) ++ ([9] : List Int32)) ++ e2).length)), (.int (3 : Int32))] [] (ct_att l Z a0 hw n0 r t bf k k_bf (((((([] : List Int32) ++ e0) ++ ([9] : List Int32)) ++ e1) ++ ([9] : List Int32)) ++ e2) 3 _ O z S_cs hcs vf hvf S_f (by decide) hPl hok BR V_bf) (wd_112 hw) (wd_113 hw) (wd_6 hw) (wd_114 hw) (by decide) pd_29 rfl rfl rfl (Nat.le_of_ble_eq_true rfl) (Nat.le_of_ble_eq_true rfl) (Nat.le_of_ble_eq_true rfl) (Nat.le_of_ble_eq_true rfl) at_342 ?_
                rintro _ _ ⟨rfl, rfl⟩
                show GW_law l Z EL s₀ n0 (fun v _ => v = some (.int 1)) lo [] hp119 24 91 345 #[.val (.int p0), .val (.int p1), .val (.int p2), .val (.int p3), .val (.int (3 : Int32)), .val (.int u0), .val (.int u1), .val (.int u2), .val (.int m0), .val (.int m1), .val (.int m2), .val v0, .val v1, .val v2, .val (.ref ca), .val (.ref r), .val (.ref bf), .val (.int (Int32.ofNat (((((([] : List Int32) ++ e0) ++ ([9] : List Int32)) ++ e1) ++ ([9] : List Int32)) ++ e2).length))] [(.int (1 : Int32))]
                -- at pc 345: pc 345: ifCond .ifCond .eq 61 stack [(.int (1 : Int32))]
                -- not: (1 : Int32) = (0 : Int32)
                refine Go.ifF at_345 (feq (by decide)).1 ?_
                refine Go.aload at_348 rfl rfl ?_
                refine Go.aload at_350 rfl rfl ?_
                refine Go.iload at_352 rfl ?_
                refine Go.iconst 4 at_354 rfl ?_
                -- at pc 355: pc 355: invokestatic .invokestatic 35 stack [(.int (4 : Int32)), (.int (Int32.ofNat (((((([] : List Int32) ++ e0) ++ ([9] : List Int32)) ++ e1) ++ ([9] : List Int32)) ++ e2).length)), (.ref bf), (.ref r)]
                refine Go.callS (I' := IW Z EL s₀ lo []) (hI := wQ (ws := []) (fun v h' q => by obtain ⟨rfl, rfl⟩ := q; exact Keep.refl _ _) all0) [(.ref r), (.ref bf), (.int (Int32.ofNat (((((([] : List Int32) ++ e0) ++ ([9] : List Int32)) ++ e1) ++ ([9] : List Int32)) ++ e2).length)), (.int (4 : Int32))] [] (ct_att l Z a0 hw n0 r t bf k k_bf (((((([] : List Int32) ++ e0) ++ ([9] : List Int32)) ++ e1) ++ ([9] : List Int32)) ++ e2) 4 _ O z S_cs hcs vf hvf S_f (by decide) hPl hok BR V_bf) (wd_112 hw) (wd_113 hw) (wd_6 hw) (wd_114 hw) (by decide) pd_29 rfl rfl rfl (Nat.le_of_ble_eq_true rfl) (Nat.le_of_ble_eq_true rfl) (Nat.le_of_ble_eq_true rfl) (Nat.le_of_ble_eq_true rfl) at_355 ?_
                rintro _ _ ⟨rfl, rfl⟩
                show GW_law l Z EL s₀ n0 (fun v _ => v = some (.int 1)) lo [] hp119 24 91 358 #[.val (.int p0), .val (.int p1), .val (.int p2), .val (.int p3), .val (.int (3 : Int32)), .val (.int u0), .val (.int u1), .val (.int u2), .val (.int m0), .val (.int m1), .val (.int m2), .val v0, .val v1, .val v2, .val (.ref ca), .val (.ref r), .val (.ref bf), .val (.int (Int32.ofNat (((((([] : List Int32) ++ e0) ++ ([9] : List Int32)) ++ e1) ++ ([9] : List Int32)) ++ e2).length))] [(.int (1 : Int32))]
                -- at pc 358: pc 358: ifCond .ifCond .eq 48 stack [(.int (1 : Int32))]
                -- not: (1 : Int32) = (0 : Int32)
                refine Go.ifF at_358 (feq (by decide)).1 ?_
                refine Go.aload at_361 rfl rfl ?_
                refine Go.aload at_363 rfl rfl ?_
                refine Go.iload at_365 rfl ?_
                refine Go.iconst 5 at_367 rfl ?_
                -- at pc 368: pc 368: invokestatic .invokestatic 35 stack [(.int (5 : Int32)), (.int (Int32.ofNat (((((([] : List Int32) ++ e0) ++ ([9] : List Int32)) ++ e1) ++ ([9] : List Int32)) ++ e2).length)), (.ref bf), (.ref r)]
                refine Go.callS (I' := IW Z EL s₀ lo []) (hI := wQ (ws := []) (fun v h' q => by obtain ⟨rfl, rfl⟩ := q; exact Keep.refl _ _) all0) [(.ref r), (.ref bf), (.int (Int32.ofNat (((((([] : List Int32) ++ e0) ++ ([9] : List Int32)) ++ e1) ++ ([9] : List Int32)) ++ e2).length)), (.int (5 : Int32))] [] (ct_att l Z a0 hw n0 r t bf k k_bf (((((([] : List Int32) ++ e0) ++ ([9] : List Int32)) ++ e1) ++ ([9] : List Int32)) ++ e2) 5 _ O z S_cs hcs vf hvf S_f (by decide) hPl hok BR V_bf) (wd_112 hw) (wd_113 hw) (wd_6 hw) (wd_114 hw) (by decide) pd_29 rfl rfl rfl (Nat.le_of_ble_eq_true rfl) (Nat.le_of_ble_eq_true rfl) (Nat.le_of_ble_eq_true rfl) (Nat.le_of_ble_eq_true rfl) at_368 ?_
                rintro _ _ ⟨rfl, rfl⟩
                show GW_law l Z EL s₀ n0 (fun v _ => v = some (.int 1)) lo [] hp119 24 91 371 #[.val (.int p0), .val (.int p1), .val (.int p2), .val (.int p3), .val (.int (3 : Int32)), .val (.int u0), .val (.int u1), .val (.int u2), .val (.int m0), .val (.int m1), .val (.int m2), .val v0, .val v1, .val v2, .val (.ref ca), .val (.ref r), .val (.ref bf), .val (.int (Int32.ofNat (((((([] : List Int32) ++ e0) ++ ([9] : List Int32)) ++ e1) ++ ([9] : List Int32)) ++ e2).length))] [(.int (1 : Int32))]
                -- at pc 371: pc 371: ifCond .ifCond .eq 35 stack [(.int (1 : Int32))]
                -- not: (1 : Int32) = (0 : Int32)
                refine Go.ifF at_371 (feq (by decide)).1 ?_
                refine Go.aload at_374 rfl rfl ?_
                refine Go.aload at_376 rfl rfl ?_
                refine Go.iload at_378 rfl ?_
                refine Go.bipush 6 at_380 rfl ?_
                -- at pc 382: pc 382: invokestatic .invokestatic 35 stack [(.int (6 : Int32)), (.int (Int32.ofNat (((((([] : List Int32) ++ e0) ++ ([9] : List Int32)) ++ e1) ++ ([9] : List Int32)) ++ e2).length)), (.ref bf), (.ref r)]
                refine Go.callS (I' := IW Z EL s₀ lo []) (hI := wQ (ws := []) (fun v h' q => by obtain ⟨rfl, rfl⟩ := q; exact Keep.refl _ _) all0) [(.ref r), (.ref bf), (.int (Int32.ofNat (((((([] : List Int32) ++ e0) ++ ([9] : List Int32)) ++ e1) ++ ([9] : List Int32)) ++ e2).length)), (.int (6 : Int32))] [] (ct_att l Z a0 hw n0 r t bf k k_bf (((((([] : List Int32) ++ e0) ++ ([9] : List Int32)) ++ e1) ++ ([9] : List Int32)) ++ e2) 6 _ O z S_cs hcs vf hvf S_f (by decide) hPl hok BR V_bf) (wd_112 hw) (wd_113 hw) (wd_6 hw) (wd_114 hw) (by decide) pd_29 rfl rfl rfl (Nat.le_of_ble_eq_true rfl) (Nat.le_of_ble_eq_true rfl) (Nat.le_of_ble_eq_true rfl) (Nat.le_of_ble_eq_true rfl) at_382 ?_
                rintro _ _ ⟨rfl, rfl⟩
                show GW_law l Z EL s₀ n0 (fun v _ => v = some (.int 1)) lo [] hp119 24 91 385 #[.val (.int p0), .val (.int p1), .val (.int p2), .val (.int p3), .val (.int (3 : Int32)), .val (.int u0), .val (.int u1), .val (.int u2), .val (.int m0), .val (.int m1), .val (.int m2), .val v0, .val v1, .val v2, .val (.ref ca), .val (.ref r), .val (.ref bf), .val (.int (Int32.ofNat (((((([] : List Int32) ++ e0) ++ ([9] : List Int32)) ++ e1) ++ ([9] : List Int32)) ++ e2).length))] [(.int (1 : Int32))]
                -- at pc 385: pc 385: ifCond .ifCond .eq 21 stack [(.int (1 : Int32))]
                -- not: (1 : Int32) = (0 : Int32)
                refine Go.ifF at_385 (feq (by decide)).1 ?_
                refine Go.aload at_388 rfl rfl ?_
                refine Go.aload at_390 rfl rfl ?_
                refine Go.iload at_392 rfl ?_
                refine Go.bipush 7 at_394 rfl ?_
                -- at pc 396: pc 396: invokestatic .invokestatic 35 stack [(.int (7 : Int32)), (.int (Int32.ofNat (((((([] : List Int32) ++ e0) ++ ([9] : List Int32)) ++ e1) ++ ([9] : List Int32)) ++ e2).length)), (.ref bf), (.ref r)]
                refine Go.callS (I' := IW Z EL s₀ lo []) (hI := wQ (ws := []) (fun v h' q => by obtain ⟨rfl, rfl⟩ := q; exact Keep.refl _ _) all0) [(.ref r), (.ref bf), (.int (Int32.ofNat (((((([] : List Int32) ++ e0) ++ ([9] : List Int32)) ++ e1) ++ ([9] : List Int32)) ++ e2).length)), (.int (7 : Int32))] [] (ct_att l Z a0 hw n0 r t bf k k_bf (((((([] : List Int32) ++ e0) ++ ([9] : List Int32)) ++ e1) ++ ([9] : List Int32)) ++ e2) 7 _ O z S_cs hcs vf hvf S_f (by decide) hPl hok BR V_bf) (wd_112 hw) (wd_113 hw) (wd_6 hw) (wd_114 hw) (by decide) pd_29 rfl rfl rfl (Nat.le_of_ble_eq_true rfl) (Nat.le_of_ble_eq_true rfl) (Nat.le_of_ble_eq_true rfl) (Nat.le_of_ble_eq_true rfl) at_396 ?_
                rintro _ _ ⟨rfl, rfl⟩
                show GW_law l Z EL s₀ n0 (fun v _ => v = some (.int 1)) lo [] hp119 24 91 399 #[.val (.int p0), .val (.int p1), .val (.int p2), .val (.int p3), .val (.int (3 : Int32)), .val (.int u0), .val (.int u1), .val (.int u2), .val (.int m0), .val (.int m1), .val (.int m2), .val v0, .val v1, .val v2, .val (.ref ca), .val (.ref r), .val (.ref bf), .val (.int (Int32.ofNat (((((([] : List Int32) ++ e0) ++ ([9] : List Int32)) ++ e1) ++ ([9] : List Int32)) ++ e2).length))] [(.int (1 : Int32))]
                -- at pc 399: pc 399: ifCond .ifCond .eq 7 stack [(.int (1 : Int32))]
                -- not: (1 : Int32) = (0 : Int32)
                refine Go.ifF at_399 (feq (by decide)).1 ?_
                refine Go.iconst 1 at_402 rfl ?_
                refine Go.goto 407 at_403 (by decide) (by decide) ?_
                -- at pc 407: pc 407: ireturn .ireturn stack [(.int (1 : Int32))]
                exact GW.nreturn .boolean hEL at_407 rfl (by simp) (by decide) (by decide) rfl
            by_cases h121 : u2 = (0 : Int32)
            · refine Go.ifT 128 at_121 (teq h121).1 (by decide) (by decide) ?_
              refine Go.iload at_128 rfl ?_
              refine Go.iloadN at_130 rfl ?_
              -- at pc 131: pc 131: invokestatic .invokestatic 13 stack [(.int p3), (.int m2)]
              refine GW.callS [] [] [(.int m2), (.int p3)] [] (ctw_cell l Z a0 hw n0 m2 p3 _ hz O z S_cs hcs) hEL all0 all0 (wd_4 hw) (wd_5 hw) (wd_6 hw) (wd_7 hw) (by decide) pd_31 rfl rfl rfl (Nat.le_of_ble_eq_true rfl) (Nat.le_of_ble_eq_true rfl) (Nat.le_of_ble_eq_true rfl) (Nat.le_of_ble_eq_true rfl) at_131 ?_
              rintro _ hp129 ⟨x2, t2, k2, rfl, K129, B2⟩ hgr129
              replace O := O.keep K129 (all0)
              replace hz : n0 ≤ hp129.size := Nat.le_trans hz K129.1
              replace hlo : lo ≤ hp129.size := Nat.le_trans hlo K129.1
              replace hlo : hp129.size ≤ hp129.size := Nat.le_refl _
              show GW_law l Z EL s₀ n0 (fun v _ => v = some (.int 1)) hp129.size [] hp129 18 36 134 #[.val (.int p0), .val (.int p1), .val (.int p2), .val (.int p3), .val (.int (p0 &&& (3 : Int32))), .val (.int u0), .val (.int u1), .val (.int u2), .val (.int m0), .val (.int m1), .val (.int m2), .val v0, .val v1, .unset, .unset, .unset, .unset, .unset] [(.ref x2)]
              exact j134 _ _ (.ref x2) rfl hlo hz O (C0.keep K129) (C1.keep K129) (Or.inr ⟨x2, t2, k2, rfl, by rw [cel, if_pos h121]; exact Byt.of B2⟩)
            · refine Go.ifF at_121 (feq h121).1 ?_
              refine Go.null at_124 ?_
              refine Go.goto 134 at_125 (by decide) (by decide) ?_
              exact (j134 _ _ .null rfl hlo hz O C0 C1 (Or.inl ⟨rfl, by rw [cel, if_neg h121]⟩)).more (by decide) (by decide)
          by_cases h104 : u1 = (0 : Int32)
          · refine Go.ifT 111 at_104 (teq h104).1 (by decide) (by decide) ?_
            refine Go.iload at_111 rfl ?_
            refine Go.iloadN at_113 rfl ?_
            -- at pc 114: pc 114: invokestatic .invokestatic 13 stack [(.int p2), (.int m1)]
            refine GW.callS [] [] [(.int m1), (.int p2)] [] (ctw_cell l Z a0 hw n0 m1 p2 _ hz O z S_cs hcs) hEL all0 all0 (wd_4 hw) (wd_5 hw) (wd_6 hw) (wd_7 hw) (by decide) pd_31 rfl rfl rfl (Nat.le_of_ble_eq_true rfl) (Nat.le_of_ble_eq_true rfl) (Nat.le_of_ble_eq_true rfl) (Nat.le_of_ble_eq_true rfl) at_114 ?_
            rintro _ hp130 ⟨x1, t1, k1, rfl, K130, B1⟩ hgr130
            replace O := O.keep K130 (all0)
            replace hz : n0 ≤ hp130.size := Nat.le_trans hz K130.1
            replace hlo : lo ≤ hp130.size := Nat.le_trans hlo K130.1
            replace hlo : hp130.size ≤ hp130.size := Nat.le_refl _
            show GW_law l Z EL s₀ n0 (fun v _ => v = some (.int 1)) hp130.size [] hp130 12 24 117 #[.val (.int p0), .val (.int p1), .val (.int p2), .val (.int p3), .val (.int (p0 &&& (3 : Int32))), .val (.int u0), .val (.int u1), .val (.int u2), .val (.int m0), .val (.int m1), .val (.int m2), .val v0, .unset, .unset, .unset, .unset, .unset, .unset] [(.ref x1)]
            exact j117 _ _ (.ref x1) rfl hlo hz O (C0.keep K130) (Or.inr ⟨x1, t1, k1, rfl, by rw [cel, if_pos h104]; exact Byt.of B1⟩)
          · refine Go.ifF at_104 (feq h104).1 ?_
            refine Go.null at_107 ?_
            refine Go.goto 117 at_108 (by decide) (by decide) ?_
            exact (j117 _ _ .null rfl hlo hz O C0 (Or.inl ⟨rfl, by rw [cel, if_neg h104]⟩)).more (by decide) (by decide)
        by_cases h87 : u0 = (0 : Int32)
        · refine Go.ifT 94 at_87 (teq h87).1 (by decide) (by decide) ?_
          refine Go.iload at_94 rfl ?_
          refine Go.iloadN at_96 rfl ?_
          -- at pc 97: pc 97: invokestatic .invokestatic 13 stack [(.int p1), (.int m0)]
          refine GW.callS [] [] [(.int m0), (.int p1)] [] (ctw_cell l Z a0 hw n0 m0 p1 _ hz O z S_cs hcs) hEL all0 all0 (wd_4 hw) (wd_5 hw) (wd_6 hw) (wd_7 hw) (by decide) pd_31 rfl rfl rfl (Nat.le_of_ble_eq_true rfl) (Nat.le_of_ble_eq_true rfl) (Nat.le_of_ble_eq_true rfl) (Nat.le_of_ble_eq_true rfl) at_97 ?_
          rintro _ hp131 ⟨x0, t0, k0, rfl, K131, B0⟩ hgr131
          replace O := O.keep K131 (all0)
          replace hz : n0 ≤ hp131.size := Nat.le_trans hz K131.1
          replace hlo : h0.size ≤ hp131.size := Nat.le_trans hlo K131.1
          replace hlo : hp131.size ≤ hp131.size := Nat.le_refl _
          show GW_law l Z EL s₀ n0 (fun v _ => v = some (.int 1)) hp131.size [] hp131 6 12 100 #[.val (.int p0), .val (.int p1), .val (.int p2), .val (.int p3), .val (.int (p0 &&& (3 : Int32))), .val (.int u0), .val (.int u1), .val (.int u2), .val (.int m0), .val (.int m1), .val (.int m2), .unset, .unset, .unset, .unset, .unset, .unset, .unset] [(.ref x0)]
          exact j100 _ _ (.ref x0) rfl hlo hz O (Or.inr ⟨x0, t0, k0, rfl, by rw [cel, if_pos h87]; exact Byt.of B0⟩)
        · refine Go.ifF at_87 (feq h87).1 ?_
          refine Go.null at_90 ?_
          refine Go.goto 100 at_91 (by decide) (by decide) ?_
          exact (j100 _ _ .null rfl hlo hz O (Or.inl ⟨rfl, by rw [cel, if_neg h87]⟩)).more (by decide) (by decide)
      by_cases h40 : (((p0.toUInt32 >>> ((4 : Int32) &&& 31).toUInt32).toInt32) &&& (1 : Int32)) = (0 : Int32)
      · refine Go.ifT 47 at_40 (teq h40).1 (by decide) (by decide) ?_
        refine Go.iconst 0 at_47 rfl ?_
        exact j48 _
      · refine Go.ifF at_40 (feq h40).1 ?_
        refine Go.iconst 1 at_43 rfl ?_
        refine Go.goto 48 at_44 (by decide) (by decide) ?_
        exact j48 _
    by_cases h25 : (((p0.toUInt32 >>> ((3 : Int32) &&& 31).toUInt32).toInt32) &&& (1 : Int32)) = (0 : Int32)
    · refine Go.ifT 32 at_25 (teq h25).1 (by decide) (by decide) ?_
      refine Go.iconst 0 at_32 rfl ?_
      exact j33 _
    · refine Go.ifF at_25 (feq h25).1 ?_
      refine Go.iconst 1 at_28 rfl ?_
      refine Go.goto 33 at_29 (by decide) (by decide) ?_
      exact j33 _
  by_cases h10 : (((p0.toUInt32 >>> ((2 : Int32) &&& 31).toUInt32).toInt32) &&& (1 : Int32)) = (0 : Int32)
  · refine Go.ifT 17 at_10 (teq h10).1 (by decide) (by decide) ?_
    refine Go.iconst 0 at_17 rfl ?_
    exact j18 _
  · refine Go.ifF at_10 (feq h10).1 ?_
    refine Go.iconst 1 at_13 rfl ?_
    refine Go.goto 18 at_14 (by decide) (by decide) ?_
    exact j18 _
set_option maxRecDepth 65536 in
set_option maxHeartbeats 40000000 in
theorem comes_1 {Post : Tables → Env → Array Value → State → Outcome → State → Prop} (hpost : ∀ tb e args s v u, (limb_1_1.after args s (.returned v) u = true ∧ limb_1_2.after args s (.returned v) u = true ∧ True) → ReturnedEndW s (.returned v) u (Jvm.fieldLocs frame_1_writes args s ++ Jvm.arrayLocs frame_1_arrays args s ++ Jvm.staticLocs frame_1_statics s) 40 1280 → Post tb e args s (.returned v) u) :
    ArmFor flags0 classFile x code maxLocals ret World_1 tables_1 room_1 Calls_1 rest_1 Pre_1 Post := by
  intro l hfl _ _ p e ha hc hk s m args below hf hA hF happ hP
  obtain ⟨hcalls, hrest, hpre⟩ := hP
  obtain ⟨-, -, -, hnamed, -, -, -, hat⟩ := (Spec.applies_iff hf).mp happ
  obtain ⟨hg, hn⟩ := and_e (Cond.before_iff.mp (show (Jvm.Cond.and given_1 narrow_1).before args s = true from hpre))
  obtain ⟨gg1, gg2⟩ := and_e hg
  obtain ⟨gg3, gg4⟩ := and_e gg2
  obtain ⟨gg5, gg6⟩ := and_e gg4
  obtain ⟨gg7, gg8⟩ := and_e gg6
  obtain ⟨w0, w1, w2, w3, rfl⟩ : ∃ w0 w1 w2 w3 : Value, args = #[w0, w1, w2, w3] := by
    have hs : args.size = 4 := by simpa [Cond.value, given_1] using gg1
    obtain ⟨L⟩ := args
    match L, hs with
    | [w0, w1, w2, w3], _ => exact ⟨w0, w1, w2, w3, rfl⟩
  have hw := fun d (hd : d ∈ tables_1) => atoms_spec (ws := Jvm.Cond.code x code maxLocals ret :: tables_1) hat d (List.mem_cons_of_mem _ hd)
  have hfit : Fit s := fun {y c} hc i hi => by
    obtain ⟨ha, rfl⟩ := Array.getElem?_eq_some_iff.mp hc
    have q := List.all_eq_true.mp ((Array.all_eq_true_iff_forall_mem.mp hF) _ (Array.getElem_mem ha)) i (List.mem_range.mpr hi)
    simpa [Array.getElem?_eq_getElem hi] using q
  obtain ⟨hsets, hown0⟩ := atoms_of _ (rest_1_c_eq ▸ (show rest_1_c.before _ s = true from hrest))
  have hr0 := Cond.before_iff.mp hown0
  have hcw : Jvm.Lit.compactW.before #[w0, w1, w2, w3] s = true := hsets _ (List.mem_of_getElem? (i := 2) rfl)
  have hCH : CHv s EL s.vm s.heap := CHv.start (ewEL hw) (fun q hq => hcalls.1 q hq) hcw (wd_23 hw) (wd_9 hw)
  obtain ⟨i0, ei0⟩ := is_v gg3
  obtain rfl : w0 = (.int i0) := Option.some.inj ei0
  obtain ⟨i1, ei1⟩ := is_v gg5
  obtain rfl : w1 = (.int i1) := Option.some.inj ei1
  obtain ⟨i2, ei2⟩ := is_v gg7
  obtain rfl : w2 = (.int i2) := Option.some.inj ei2
  obtain ⟨i3, ei3⟩ := is_v gg8
  obtain rfl : w3 = (.int i3) := Option.some.inj ei3
  have ev := is_v (Cond.before_iff.mp (hsets _ (List.mem_of_getElem? (i := 1) rfl)))
  obtain ⟨z, ev⟩ := ev
  have S0 := Sta.start ev (Or.inl (hsets _ (List.mem_of_getElem? (i := 0) rfl)))
  have nz := not_v (Cond.before_iff.mp (hsets _ (List.mem_of_getElem? (i := 2) rfl)))
  have nz' : ¬ z = 0 := gotF (Cond.eq_ints ev (Term.int_eval _)) nz
  obtain ⟨vf, evf, hvf⟩ := isR_v (Cond.before_iff.mp (hsets _ (List.mem_of_getElem? (i := 8) rfl)))
  have S1 := Sta.start evf (Or.inl (hsets _ (List.mem_of_getElem? (i := 7) rfl)))
  obtain ⟨n, o, h1, h2, h3, _, L, rfl, ⟨N, rfl⟩, -, hq⟩ := (ct_law l s _ hw s.heap.size i0 i1 i2 i3 s.heap (Nat.le_refl _) (Old.start s) z S0 nz' vf hvf S1) p e ha hc hk s m _ below hf ((Spec.applies_iff_loose hf).mp happ).1 ⟨rfl, State.Warmed39.refl s, rfl, hCH, all0⟩ trivial
  exact ⟨n, _, h1, h2, h3, hpost _ _ _ _ _ _ ⟨Cond.after_iff.mpr rfl, Cond.after_iff.mpr (eq_i res_at (Term.int_eval (1)) rfl), trivial⟩ ⟨hq.1, hq.2.1, hq.2.2.1, (hq.2.2.2.sift fun y hy => Or.inr (N y hy)).mono (by decide) (by decide)⟩⟩
theorem main_1_1 : Claimed_1_1 := comes_1 fun _ _ _ _ _ _ h hF => ⟨h.1, hF⟩
theorem main_1_2 : Claimed_1_2 := comes_1 fun _ _ _ _ _ _ h hF => ⟨h.2.1, hF⟩
end Jvm.Pilot.@@N@@
namespace Jvm.Pilot.@@N@@
open Jvm Jvm.ClassFile Sem Op Lib Jvm.Free Jvm.Stand Jvm.Pilot.@@N@@.Jvm.D
/-! MADE BY PROGRAM (witnessworld.py) out of the Statement's table words and the real class files: 28 classes; the members and pool entries that the words name. The judged class is class 1, her method 1. -/
namespace start1
open Jvm.ClassFile
def u (s : String) : CpInfo := .utf8 (stringToUtf16 s)
/-- a pool by its gaps: so many unusable entries, then the entry; so many at the end -/
def gap : Nat → List CpInfo → List CpInfo
  | 0, r => r
  | n + 1, r => .unusable :: gap n r
def poolList (es : List (Nat × CpInfo)) (last : Nat) : List CpInfo := es.foldr (fun e r => gap e.1 (e.2 :: r)) (gap last [])
def pool (es : List (Nat × CpInfo)) (last : Nat) : Array CpInfo := ⟨poolList es last⟩
def fileOf (pool : Array CpInfo) (this : Nat) (attrs : Array Attribute := #[]) (ms : Array MethodInfo := #[]) (fl : Nat := 33) (sup : Nat := 0) (ifs : Array Nat := #[]) (fds : Array FieldInfo := #[]) : ClassFile where
  minorVersion := 0
  majorVersion := 65
  constantPool := pool
  accessFlags := fl
  thisClass := this
  superClass := sup
  interfaces := ifs
  fields := fds
  methods := ms
  attributes := attrs
def plain (name : String) (sup : Option ClassId) : Class where
  name := name
  kind := .ordinary
  loader := none
  accessFlags := 33
  super := sup
  interfaces := #[]
  cf := none
  fields := #[]
  methods := #[]
  instanceTypes := #[]
  staticTypes := #[]
  resolved := #[]
  callSites := []
  init := .initialized
  statics := none
  mirror := none

def pool0 : Array CpInfo := pool [(5, u "<init>"), (0, u "()V"), (1, .class_ 10), (1, u "java/lang/Object")] 113

def k0c0 : Code := { maxStack := 0, maxLocals := 1, code := object_method_1_code, exceptionTable := #[], attributes := #[] }
def k0m0 : Method := { name := "<init>", desc := "()V", sig := { parameters := [], returnType := none }, accessFlags := 1, code := some k0c0 }
/-- java/lang/Object -/
def k0 : Class := { plain "java/lang/Object" none with
  accessFlags := 33
  interfaces := #[]
  cf := some (fileOf pool0 8 #[] #[{ accessFlags := 1, nameIndex := 5, descriptorIndex := 6, attributes := #[] }] 33 0 #[] #[])
  fields := #[]
  methods := #[k0m0]
  instanceTypes := #[]
  staticTypes := #[]
  resolved := Array.replicate 124 none
  statics := none }

def pool1 : Array CpInfo := pool [(2, .class_ 4), (1, u "java/lang/Object"), (0, u "<init>"), (0, u "()V"), (0, .methodref 8 9), (0, .class_ 10), (0, .nameAndType 11 12), (0, u "java/lang/Math"), (0, u "min"), (0, u "(II)I"), (0, .methodref 14 15), (0, .class_ 16), (0, .nameAndType 17 18), (0, u "com/example/triplecast/triplecast/rdf/SparqlTsvRowPinLaw"), (0, u "cell"), (0, u "(II)Ljava/lang/String;"), (0, .class_ 20), (0, u "java/lang/String"), (0, .methodref 22 23), (0, .class_ 24), (0, .nameAndType 25 26), (0, u "com/example/triplecast/triplecast/rdf/SparqlTsv"), (0, u "row"), (0, u "([Ljava/lang/String;)Ljava/lang/String;"), (0, .methodref 14 28), (0, .nameAndType 29 30), (0, u "put"), (0, u "([CIZII)I"), (0, .methodref 19 32), (0, .nameAndType 33 34), (0, u "length"), (0, u "()I"), (0, .methodref 14 36), (0, .nameAndType 37 38), (0, u "at"), (0, u "(Ljava/lang/String;[CII)Z"), (0, .methodref 19 40), (0, .nameAndType 5 41), (0, u "([C)V"), (0, .methodref 19 43), (0, .nameAndType 44 45), (0, u "valueOf"), (0, u "(C)Ljava/lang/String;"), (0, .methodref 19 47), (0, .nameAndType 48 49), (0, u "charAt"), (0, u "(I)C"), (2, u "law"), (0, u "(IIII)Z")] 7

def k1m0 : Method := { name := "<init>", desc := "()V", sig := { parameters := [], returnType := none }, accessFlags := 1, code := none }
def k1c1 : Code := { maxStack := 5, maxLocals := 18, code := code, exceptionTable := #[], attributes := #[] }
def k1m1 : Method := { name := "law", desc := "(IIII)Z", sig := { parameters := [.int, .int, .int, .int], returnType := some .boolean }, accessFlags := 9, code := some k1c1 }
def k1c2 : Code := { maxStack := 6, maxLocals := 4, code := method_3_code, exceptionTable := #[], attributes := #[] }
def k1m2 : Method := { name := "cell", desc := "(II)Ljava/lang/String;", sig := { parameters := [.int, .int], returnType := some (.object "java/lang/String") }, accessFlags := 10, code := some k1c2 }
def k1c3 : Code := { maxStack := 4, maxLocals := 5, code := method_4_code, exceptionTable := #[], attributes := #[] }
def k1m3 : Method := { name := "put", desc := "([CIZII)I", sig := { parameters := [(.array .char), .int, .boolean, .int, .int], returnType := some .int }, accessFlags := 10, code := some k1c3 }
def k1c4 : Code := { maxStack := 3, maxLocals := 4, code := method_5_code, exceptionTable := #[], attributes := #[] }
def k1m4 : Method := { name := "at", desc := "(Ljava/lang/String;[CII)Z", sig := { parameters := [(.object "java/lang/String"), (.array .char), .int, .int], returnType := some .boolean }, accessFlags := 10, code := some k1c4 }
/-- com/example/triplecast/triplecast/rdf/SparqlTsvRowPinLaw -/
def k1 : Class := { plain "com/example/triplecast/triplecast/rdf/SparqlTsvRowPinLaw" (some 0) with
  accessFlags := 49
  interfaces := #[]
  cf := some (fileOf pool1 14 #[] #[{ accessFlags := 1, nameIndex := 5, descriptorIndex := 6, attributes := #[] }, { accessFlags := 9, nameIndex := 52, descriptorIndex := 53, attributes := #[] }, { accessFlags := 10, nameIndex := 17, descriptorIndex := 18, attributes := #[] }, { accessFlags := 10, nameIndex := 29, descriptorIndex := 30, attributes := #[] }, { accessFlags := 10, nameIndex := 37, descriptorIndex := 38, attributes := #[] }] 49 2 #[] #[])
  fields := #[]
  methods := #[k1m0, k1m1, k1m2, k1m3, k1m4]
  instanceTypes := #[]
  staticTypes := #[]
  resolved := Array.replicate 61 none
  statics := none }

def pool2 : Array CpInfo := pool [(1, .class_ 2), (0, u "java/lang/Math"), (1, .class_ 6), (1, u "java/lang/Object"), (0, u "<init>"), (0, u "()V"), (89, .class_ 100), (1, u "java/lang/Math$RandomNumberGeneratorHolder"), (71, u "negativeZeroFloatBits"), (0, u "J"), (2, u "negativeZeroDoubleBits"), (24, u "min"), (43, u "$assertionsDisabled"), (0, u "Z"), (88, u "(II)I"), (2, u "twoToTheDoubleScaleDown"), (0, u "D"), (4, u "twoToTheDoubleScaleUp"), (9, u "E"), (3, u "PI"), (2, u "TAU"), (2, u "DEGREES_TO_RADIANS"), (0, u "RADIANS_TO_DEGREES")] 94

def k2m0 : Method := { name := "<init>", desc := "()V", sig := { parameters := [], returnType := none }, accessFlags := 2, code := none }
def k2c1 : Code := { maxStack := 2, maxLocals := 2, code := jdk_29_method_69_code, exceptionTable := #[], attributes := #[] }
def k2m1 : Method := { name := "min", desc := "(II)I", sig := { parameters := [.int, .int], returnType := some .int }, accessFlags := 9, code := some k2c1 }
/-- java/lang/Math -/
def k2 : Class := { plain "java/lang/Math" (some 0) with
  accessFlags := 49
  interfaces := #[]
  cf := some (fileOf pool2 1 #[.nestMembers #[98]] #[{ accessFlags := 2, nameIndex := 7, descriptorIndex := 8, attributes := #[] }, { accessFlags := 9, nameIndex := 201, descriptorIndex := 335, attributes := #[] }] 49 4 #[] #[{ accessFlags := 25, nameIndex := 354, descriptorIndex := 339, attributes := #[] }, { accessFlags := 25, nameIndex := 358, descriptorIndex := 339, attributes := #[] }, { accessFlags := 25, nameIndex := 361, descriptorIndex := 339, attributes := #[] }, { accessFlags := 26, nameIndex := 364, descriptorIndex := 339, attributes := #[] }, { accessFlags := 26, nameIndex := 365, descriptorIndex := 339, attributes := #[] }, { accessFlags := 26, nameIndex := 172, descriptorIndex := 173, attributes := #[] }, { accessFlags := 26, nameIndex := 176, descriptorIndex := 173, attributes := #[] }, { accessFlags := 8, nameIndex := 344, descriptorIndex := 339, attributes := #[] }, { accessFlags := 8, nameIndex := 338, descriptorIndex := 339, attributes := #[] }, { accessFlags := 4120, nameIndex := 245, descriptorIndex := 246, attributes := #[] }])
  fields := #[{ name := "E", type := .double, accessFlags := 25, slot := 0, constantValue := 0 }, { name := "PI", type := .double, accessFlags := 25, slot := 1, constantValue := 0 }, { name := "TAU", type := .double, accessFlags := 25, slot := 2, constantValue := 0 }, { name := "DEGREES_TO_RADIANS", type := .double, accessFlags := 26, slot := 3, constantValue := 0 }, { name := "RADIANS_TO_DEGREES", type := .double, accessFlags := 26, slot := 4, constantValue := 0 }, { name := "negativeZeroFloatBits", type := .long, accessFlags := 26, slot := 5, constantValue := 0 }, { name := "negativeZeroDoubleBits", type := .long, accessFlags := 26, slot := 6, constantValue := 0 }, { name := "twoToTheDoubleScaleUp", type := .double, accessFlags := 8, slot := 7, constantValue := 0 }, { name := "twoToTheDoubleScaleDown", type := .double, accessFlags := 8, slot := 8, constantValue := 0 }, { name := "$assertionsDisabled", type := .boolean, accessFlags := 4120, slot := 9, constantValue := 0 }]
  methods := #[k2m0, k2m1]
  instanceTypes := #[]
  staticTypes := #[.double, .double, .double, .double, .double, .long, .long, .double, .double, .boolean]
  resolved := Array.replicate 460 none
  statics := none }

def pool3 : Array CpInfo := pool [(1, .class_ 2), (0, u "java/io/Serializable"), (0, .class_ 4), (0, u "java/lang/Object")] 2

/-- java/io/Serializable -/
def k3 : Class := { plain "java/io/Serializable" (some 0) with
  accessFlags := 1537
  interfaces := #[]
  cf := some (fileOf pool3 1 #[] #[] 1537 3 #[] #[])
  fields := #[]
  methods := #[]
  instanceTypes := #[]
  staticTypes := #[]
  resolved := Array.replicate 7 none
  statics := none }

def pool4 : Array CpInfo := pool [(1, .class_ 2), (0, u "java/lang/Comparable"), (0, .class_ 4), (0, u "java/lang/Object")] 7

/-- java/lang/Comparable -/
def k4 : Class := { plain "java/lang/Comparable" (some 0) with
  accessFlags := 1537
  interfaces := #[]
  cf := some (fileOf pool4 1 #[] #[] 1537 3 #[] #[])
  fields := #[]
  methods := #[]
  instanceTypes := #[]
  staticTypes := #[]
  resolved := Array.replicate 12 none
  statics := none }

def pool5 : Array CpInfo := pool [(2, .class_ 4), (1, u "java/lang/CharSequence"), (42, .class_ 48), (0, u "java/lang/CharSequence$1CodePointIterator"), (10, .class_ 60), (0, u "java/lang/CharSequence$1CharIterator"), (5, .class_ 67), (0, u "java/lang/Object")] 63

/-- java/lang/CharSequence -/
def k5 : Class := { plain "java/lang/CharSequence" (some 0) with
  accessFlags := 1537
  interfaces := #[]
  cf := some (fileOf pool5 2 #[.nestMembers #[47, 59]] #[] 1537 66 #[] #[])
  fields := #[]
  methods := #[]
  instanceTypes := #[]
  staticTypes := #[]
  resolved := Array.replicate 131 none
  statics := none }

def pool6 : Array CpInfo := pool [(1, .class_ 2), (0, u "java/lang/constant/Constable"), (0, .class_ 4), (0, u "java/lang/Object")] 6

/-- java/lang/constant/Constable -/
def k6 : Class := { plain "java/lang/constant/Constable" (some 0) with
  accessFlags := 1537
  interfaces := #[]
  cf := some (fileOf pool6 1 #[] #[] 1537 3 #[] #[])
  fields := #[]
  methods := #[]
  instanceTypes := #[]
  staticTypes := #[]
  resolved := Array.replicate 11 none
  statics := none }

def pool7 : Array CpInfo := pool [(1, .class_ 2), (0, u "java/lang/constant/ConstantDesc"), (0, .class_ 4), (0, u "java/lang/Object")] 32

/-- java/lang/constant/ConstantDesc -/
def k7 : Class := { plain "java/lang/constant/ConstantDesc" (some 0) with
  accessFlags := 1537
  interfaces := #[]
  cf := some (fileOf pool7 1 #[] #[] 1537 3 #[] #[])
  fields := #[]
  methods := #[]
  instanceTypes := #[]
  staticTypes := #[]
  resolved := Array.replicate 37 none
  statics := none }

def pool8 : Array CpInfo := pool [(1, .methodref 2 3), (0, .class_ 4), (0, .nameAndType 5 6), (0, u "java/lang/Object"), (0, u "<init>"), (0, u "()V"), (0, .string 8), (0, u ""), (0, .fieldref 10 11), (0, .class_ 12), (0, .nameAndType 13 14), (0, u "java/lang/String"), (0, u "value"), (0, u "[B"), (0, .fieldref 10 16), (0, .nameAndType 17 18), (0, u "coder"), (0, u "B"), (2, u "hash"), (0, u "I"), (2, u "hashIsZero"), (0, u "Z"), (0, .methodref 10 28), (0, .nameAndType 5 29), (0, u "([CIILjava/lang/Void;)V"), (8, .fieldref 10 39), (0, .nameAndType 40 26), (0, u "COMPACT_STRINGS"), (1, .class_ 44), (1, u "java/lang/StringUTF16"), (0, u "compress"), (1, .methodref 42 48), (0, .nameAndType 49 50), (0, u "coderFromArrayLen"), (0, u "([BI)B"), (2, u "toBytes"), (0, .methodref 55 56), (0, .class_ 57), (0, .nameAndType 58 59), (0, u "java/util/Arrays"), (0, u "copyOfRange"), (0, u "([BII)[B"), (47, .class_ 109), (1, u "java/lang/StringLatin1"), (32, u "()Z"), (34, .methodref 42 178), (0, .nameAndType 45 179), (0, u "([CII)[B"), (13, .class_ 195), (1, u "java/lang/System"), (13, .methodref 10 210), (0, .nameAndType 5 211), (0, u "([BB)V"), (0, .methodref 193 213), (0, .nameAndType 214 215), (0, u "arraycopy"), (0, u "(Ljava/lang/Object;ILjava/lang/Object;II)V"), (118, u "()I"), (0, .methodref 10 336), (0, .nameAndType 17 337), (0, u "()B"), (2, u "()[B"), (22, u "([BI)C"), (5, u "(C)Z"), (21, u "(II)V"), (35, u "(I)C"), (61, .methodref 10 490), (0, .nameAndType 5 491), (0, u "(Ljava/lang/AbstractStringBuilder;Ljava/lang/Void;)V"), (0, .methodref 10 493), (0, .nameAndType 494 142), (0, u "isLatin1"), (0, .methodref 107 496), (0, .nameAndType 497 363), (0, u "charAt"), (3, u "checkIndex"), (4, .nameAndType 507 334), (0, u "length"), (24, u "getBytes"), (16, .methodref 550 506), (0, .class_ 551), (0, u "java/lang/AbstractStringBuilder"), (0, .methodref 550 553), (0, .nameAndType 554 340), (0, u "getValue"), (20, .class_ 576), (0, u "java/lang/CharSequence"), (22, u "CASE_INSENSITIVE_ORDER"), (0, u "Ljava/util/Comparator;"), (181, u "valueOf"), (0, u "(C)Ljava/lang/String;"), (37, u "([BIB)V"), (188, u "([C)V"), (4, .methodref 107 1016), (0, .nameAndType 1017 369), (0, u "canEncode"), (0, .methodref 107 1019), (0, .nameAndType 53 1020), (0, u "(C)[B"), (26, .methodref 550 493), (5, .fieldref 1054 1055), (0, .class_ 1056), (0, .nameAndType 1057 1058), (0, u "jdk/internal/util/Preconditions"), (0, u "SIOOBE_FORMATTER"), (0, u "Ljava/util/function/BiFunction;"), (0, .methodref 1054 1060), (0, .nameAndType 501 1061), (0, u "(IILjava/util/function/BiFunction;)I"), (39, u "serialPersistentFields"), (0, u "[Ljava/io/ObjectStreamField;"), (0, .class_ 1104), (0, u "java/lang/String$CaseInsensitiveComparator"), (1, .class_ 1107), (0, u "java/io/Serializable"), (0, .class_ 1109), (0, u "java/lang/Comparable"), (0, .class_ 1111), (0, u "java/lang/constant/Constable"), (0, .class_ 1113), (0, u "java/lang/constant/ConstantDesc"), (2, u "serialVersionUID"), (0, u "J"), (3, u "REPL"), (0, u "C"), (2, u "LATIN1"), (1, u "UTF16"), (105, u "(Ljava/lang/StringBuilder;)V")] 217

def k8m0 : Method := { name := "<init>", desc := "()V", sig := { parameters := [], returnType := none }, accessFlags := 1, code := none }
def k8c1 : Code := { maxStack := 5, maxLocals := 2, code := jdk_42_method_3_code, exceptionTable := #[], attributes := #[] }
def k8m1 : Method := { name := "<init>", desc := "([C)V", sig := { parameters := [(.array .char)], returnType := none }, accessFlags := 1, code := some k8c1 }
def k8c2 : Code := { maxStack := 3, maxLocals := 2, code := jdk_42_method_53_code, exceptionTable := #[], attributes := #[] }
def k8m2 : Method := { name := "<init>", desc := "(Ljava/lang/StringBuilder;)V", sig := { parameters := [(.object "java/lang/StringBuilder")], returnType := none }, accessFlags := 1, code := some k8c2 }
def k8c3 : Code := { maxStack := 2, maxLocals := 1, code := jdk_42_method_54_code, exceptionTable := #[], attributes := #[] }
def k8m3 : Method := { name := "length", desc := "()I", sig := { parameters := [], returnType := some .int }, accessFlags := 1, code := some k8c3 }
def k8c4 : Code := { maxStack := 2, maxLocals := 2, code := jdk_42_method_56_code, exceptionTable := #[], attributes := #[] }
def k8m4 : Method := { name := "charAt", desc := "(I)C", sig := { parameters := [.int], returnType := some .char }, accessFlags := 1, code := some k8c4 }
def k8c5 : Code := { maxStack := 4, maxLocals := 1, code := jdk_42_method_139_code, exceptionTable := #[], attributes := #[] }
def k8m5 : Method := { name := "valueOf", desc := "(C)Ljava/lang/String;", sig := { parameters := [.char], returnType := some (.object "java/lang/String") }, accessFlags := 9, code := some k8c5 }
def k8c6 : Code := { maxStack := 5, maxLocals := 4, code := jdk_42_method_147_code, exceptionTable := #[], attributes := #[] }
def k8m6 : Method := { name := "getBytes", desc := "([BIB)V", sig := { parameters := [(.array .byte), .int, .byte], returnType := none }, accessFlags := 0, code := some k8c6 }
def k8c7 : Code := { maxStack := 4, maxLocals := 6, code := jdk_42_method_149_code, exceptionTable := #[], attributes := #[] }
def k8m7 : Method := { name := "<init>", desc := "([CIILjava/lang/Void;)V", sig := { parameters := [(.array .char), .int, .int, (.object "java/lang/Void")], returnType := none }, accessFlags := 2, code := some k8c7 }
def k8c8 : Code := { maxStack := 5, maxLocals := 5, code := jdk_42_method_150_code, exceptionTable := #[], attributes := #[] }
def k8m8 : Method := { name := "<init>", desc := "(Ljava/lang/AbstractStringBuilder;Ljava/lang/Void;)V", sig := { parameters := [(.object "java/lang/AbstractStringBuilder"), (.object "java/lang/Void")], returnType := none }, accessFlags := 0, code := some k8c8 }
def k8c9 : Code := { maxStack := 2, maxLocals := 3, code := jdk_42_method_151_code, exceptionTable := #[], attributes := #[] }
def k8m9 : Method := { name := "<init>", desc := "([BB)V", sig := { parameters := [(.array .byte), .byte], returnType := none }, accessFlags := 0, code := some k8c9 }
def k8c10 : Code := { maxStack := 1, maxLocals := 1, code := jdk_42_method_152_code, exceptionTable := #[], attributes := #[] }
def k8m10 : Method := { name := "coder", desc := "()B", sig := { parameters := [], returnType := some .byte }, accessFlags := 0, code := some k8c10 }
def k8c11 : Code := { maxStack := 1, maxLocals := 1, code := jdk_42_method_154_code, exceptionTable := #[], attributes := #[] }
def k8m11 : Method := { name := "isLatin1", desc := "()Z", sig := { parameters := [], returnType := some .boolean }, accessFlags := 0, code := some k8c11 }
def k8c12 : Code := { maxStack := 3, maxLocals := 2, code := jdk_42_method_155_code, exceptionTable := #[], attributes := #[] }
def k8m12 : Method := { name := "checkIndex", desc := "(II)V", sig := { parameters := [.int, .int], returnType := none }, accessFlags := 8, code := some k8c12 }
/-- java/lang/String -/
def k8 : Class := { plain "java/lang/String" (some 0) with
  accessFlags := 49
  interfaces := #[3, 4, 5, 6, 7]
  cf := some (fileOf pool8 10 #[.nestMembers #[1103]] #[{ accessFlags := 1, nameIndex := 5, descriptorIndex := 6, attributes := #[] }, { accessFlags := 1, nameIndex := 5, descriptorIndex := 1010, attributes := #[] }, { accessFlags := 1, nameIndex := 5, descriptorIndex := 1233, attributes := #[] }, { accessFlags := 1, nameIndex := 507, descriptorIndex := 334, attributes := #[] }, { accessFlags := 1, nameIndex := 497, descriptorIndex := 427, attributes := #[] }, { accessFlags := 9, nameIndex := 782, descriptorIndex := 783, attributes := #[] }, { accessFlags := 0, nameIndex := 532, descriptorIndex := 821, attributes := #[] }, { accessFlags := 2, nameIndex := 5, descriptorIndex := 29, attributes := #[] }, { accessFlags := 0, nameIndex := 5, descriptorIndex := 491, attributes := #[] }, { accessFlags := 0, nameIndex := 5, descriptorIndex := 211, attributes := #[] }, { accessFlags := 0, nameIndex := 17, descriptorIndex := 337, attributes := #[] }, { accessFlags := 0, nameIndex := 494, descriptorIndex := 142, attributes := #[] }, { accessFlags := 8, nameIndex := 501, descriptorIndex := 391, attributes := #[] }] 49 2 #[1106, 1108, 575, 1110, 1112] #[{ accessFlags := 18, nameIndex := 13, descriptorIndex := 14, attributes := #[] }, { accessFlags := 18, nameIndex := 17, descriptorIndex := 18, attributes := #[] }, { accessFlags := 2, nameIndex := 21, descriptorIndex := 22, attributes := #[] }, { accessFlags := 2, nameIndex := 25, descriptorIndex := 26, attributes := #[] }, { accessFlags := 26, nameIndex := 1116, descriptorIndex := 1117, attributes := #[] }, { accessFlags := 24, nameIndex := 40, descriptorIndex := 26, attributes := #[] }, { accessFlags := 26, nameIndex := 1101, descriptorIndex := 1102, attributes := #[] }, { accessFlags := 26, nameIndex := 1121, descriptorIndex := 1122, attributes := #[] }, { accessFlags := 25, nameIndex := 599, descriptorIndex := 600, attributes := #[] }, { accessFlags := 24, nameIndex := 1125, descriptorIndex := 18, attributes := #[] }, { accessFlags := 24, nameIndex := 1127, descriptorIndex := 18, attributes := #[] }])
  fields := #[{ name := "value", type := (.array .byte), accessFlags := 18, slot := 0, constantValue := 0 }, { name := "coder", type := .byte, accessFlags := 18, slot := 1, constantValue := 0 }, { name := "hash", type := .int, accessFlags := 2, slot := 2, constantValue := 0 }, { name := "hashIsZero", type := .boolean, accessFlags := 2, slot := 3, constantValue := 0 }, { name := "serialVersionUID", type := .long, accessFlags := 26, slot := 0, constantValue := 0 }, { name := "COMPACT_STRINGS", type := .boolean, accessFlags := 24, slot := 1, constantValue := 0 }, { name := "serialPersistentFields", type := (.array (.object "java/io/ObjectStreamField")), accessFlags := 26, slot := 2, constantValue := 0 }, { name := "REPL", type := .char, accessFlags := 26, slot := 3, constantValue := 0 }, { name := "CASE_INSENSITIVE_ORDER", type := (.object "java/util/Comparator"), accessFlags := 25, slot := 4, constantValue := 0 }, { name := "LATIN1", type := .byte, accessFlags := 24, slot := 5, constantValue := 0 }, { name := "UTF16", type := .byte, accessFlags := 24, slot := 6, constantValue := 0 }]
  methods := #[k8m0, k8m1, k8m2, k8m3, k8m4, k8m5, k8m6, k8m7, k8m8, k8m9, k8m10, k8m11, k8m12]
  instanceTypes := #[(.array .byte), .byte, .int, .boolean]
  staticTypes := #[.long, .boolean, (.array (.object "java/io/ObjectStreamField")), .char, (.object "java/util/Comparator"), .byte, .byte]
  resolved := Array.replicate 1451 none
  statics := some 0 }

def pool9 : Array CpInfo := pool [(1, .class_ 2), (0, u "com/example/triplecast/triplecast/rdf/ResultsWriter"), (0, .class_ 4), (0, u "java/lang/Object")] 15

/-- com/example/triplecast/triplecast/rdf/ResultsWriter -/
def k9 : Class := { plain "com/example/triplecast/triplecast/rdf/ResultsWriter" (some 0) with
  accessFlags := 1537
  interfaces := #[]
  cf := some (fileOf pool9 1 #[] #[] 1537 3 #[] #[])
  fields := #[]
  methods := #[]
  instanceTypes := #[]
  staticTypes := #[]
  resolved := Array.replicate 20 none
  statics := none }

def pool10 : Array CpInfo := pool [(2, .class_ 4), (0, .nameAndType 5 6), (0, u "java/lang/Object"), (0, u "<init>"), (0, u "()V"), (1, .class_ 10), (1, u "com/example/triplecast/triplecast/rdf/SparqlTsv"), (0, u "out"), (0, u "Ljava/lang/Appendable;"), (30, .class_ 44), (0, u "java/lang/StringBuilder"), (0, .methodref 43 3), (0, .methodref 43 47), (0, .nameAndType 48 49), (0, u "append"), (0, u "(C)Ljava/lang/StringBuilder;"), (0, .methodref 43 51), (0, .nameAndType 48 52), (0, u "(Ljava/lang/String;)Ljava/lang/StringBuilder;"), (0, .methodref 43 54), (0, .nameAndType 55 56), (0, u "toString"), (0, u "()Ljava/lang/String;"), (14, u "row"), (0, u "([Ljava/lang/String;)Ljava/lang/String;"), (9, .class_ 83), (0, u "com/example/triplecast/triplecast/rdf/ResultsWriter")] 48

def k10c0 : Code := { maxStack := 3, maxLocals := 3, code := prog_28_method_3_code, exceptionTable := #[], attributes := #[] }
def k10m0 : Method := { name := "row", desc := "([Ljava/lang/String;)Ljava/lang/String;", sig := { parameters := [(.array (.object "java/lang/String"))], returnType := some (.object "java/lang/String") }, accessFlags := 137, code := some k10c0 }
/-- com/example/triplecast/triplecast/rdf/SparqlTsv -/
def k10 : Class := { plain "com/example/triplecast/triplecast/rdf/SparqlTsv" (some 0) with
  accessFlags := 49
  interfaces := #[9]
  cf := some (fileOf pool10 8 #[] #[{ accessFlags := 137, nameIndex := 71, descriptorIndex := 72, attributes := #[] }] 49 2 #[82] #[{ accessFlags := 18, nameIndex := 11, descriptorIndex := 12, attributes := #[] }])
  fields := #[{ name := "out", type := (.object "java/lang/Appendable"), accessFlags := 18, slot := 0, constantValue := 0 }]
  methods := #[k10m0]
  instanceTypes := #[(.object "java/lang/Appendable")]
  staticTypes := #[]
  resolved := Array.replicate 132 none
  statics := none }

def pool11 : Array CpInfo := pool [(1, .class_ 2), (0, u "java/lang/Appendable"), (0, .class_ 4), (0, u "java/lang/Object")] 9

/-- java/lang/Appendable -/
def k11 : Class := { plain "java/lang/Appendable" (some 0) with
  accessFlags := 1537
  interfaces := #[]
  cf := some (fileOf pool11 1 #[] #[] 1537 3 #[] #[])
  fields := #[]
  methods := #[]
  instanceTypes := #[]
  staticTypes := #[]
  resolved := Array.replicate 14 none
  statics := none }

def pool12 : Array CpInfo := pool [(1, .class_ 2), (0, u "java/lang/String"), (0, .methodref 4 5), (0, .class_ 6), (0, .nameAndType 7 8), (0, u "java/lang/Object"), (0, u "<init>"), (0, u "()V"), (1, .class_ 12), (1, u "java/lang/AbstractStringBuilder"), (0, u "EMPTYVALUE"), (0, u "[B"), (0, .fieldref 10 16), (0, .nameAndType 17 14), (0, u "value"), (0, .fieldref 1 19), (0, .nameAndType 20 21), (0, u "COMPACT_STRINGS"), (0, u "Z"), (0, .fieldref 10 23), (0, .nameAndType 24 25), (0, u "coder"), (0, u "B"), (6, .methodref 1 33), (0, .nameAndType 34 35), (0, u "length"), (0, u "()I"), (4, .methodref 1 41), (0, .nameAndType 24 42), (0, u "()B"), (2, u "append"), (0, u "(Ljava/lang/String;)Ljava/lang/AbstractStringBuilder;"), (1, .class_ 49), (0, u "java/lang/CharSequence"), (19, u "(Ljava/lang/String;)V"), (5, u "maybeLatin1"), (3, .fieldref 10 80), (0, .nameAndType 81 82), (0, u "count"), (0, u "I"), (0, .methodref 10 84), (0, .nameAndType 85 86), (0, u "isLatin1"), (0, u "()Z"), (1, .class_ 90), (1, u "java/lang/StringLatin1"), (9, .methodref 10 101), (0, .nameAndType 102 103), (0, u "ensureCapacityInternal"), (0, u "(I)V"), (87, .methodref 88 192), (0, .nameAndType 193 194), (0, u "canEncode"), (0, u "(C)Z"), (13, .methodref 10 209), (0, .nameAndType 210 211), (0, u "putStringAt"), (0, u "(ILjava/lang/String;)V"), (5, u "inflateIfNeededFor"), (2, .nameAndType 221 222), (0, u "getBytes"), (0, u "([BIB)V"), (69, u "(C)Ljava/lang/AbstractStringBuilder;"), (104, .methodref 10 398), (0, .nameAndType 217 69), (0, .methodref 1 220), (3, u "()[B"), (40, .class_ 445), (0, u "java/lang/Appendable"), (106, u "getValue")] 56

def k12m0 : Method := { name := "<init>", desc := "()V", sig := { parameters := [], returnType := none }, accessFlags := 0, code := none }
def k12c1 : Code := { maxStack := 2, maxLocals := 2, code := jdk_68_method_2_code, exceptionTable := #[], attributes := #[] }
def k12m1 : Method := { name := "<init>", desc := "(I)V", sig := { parameters := [.int], returnType := none }, accessFlags := 0, code := some k12c1 }
def k12c2 : Code := { maxStack := 1, maxLocals := 1, code := jdk_68_method_6_code, exceptionTable := #[], attributes := #[] }
def k12m2 : Method := { name := "length", desc := "()I", sig := { parameters := [], returnType := some .int }, accessFlags := 1, code := some k12c2 }
def k12c3 : Code := { maxStack := 4, maxLocals := 3, code := jdk_68_method_9_code, exceptionTable := #[], attributes := #[] }
def k12m3 : Method := { name := "ensureCapacityInternal", desc := "(I)V", sig := { parameters := [.int], returnType := none }, accessFlags := 2, code := some k12c3 }
def k12c4 : Code := { maxStack := 3, maxLocals := 3, code := jdk_68_method_22_code, exceptionTable := #[], attributes := #[] }
def k12m4 : Method := { name := "append", desc := "(Ljava/lang/String;)Ljava/lang/AbstractStringBuilder;", sig := { parameters := [(.object "java/lang/String")], returnType := some (.object "java/lang/AbstractStringBuilder") }, accessFlags := 1, code := some k12c4 }
def k12c5 : Code := { maxStack := 5, maxLocals := 2, code := jdk_68_method_31_code, exceptionTable := #[], attributes := #[] }
def k12m5 : Method := { name := "append", desc := "(C)Ljava/lang/AbstractStringBuilder;", sig := { parameters := [.char], returnType := some (.object "java/lang/AbstractStringBuilder") }, accessFlags := 1, code := some k12c5 }
def k12c6 : Code := { maxStack := 1, maxLocals := 1, code := jdk_68_method_64_code, exceptionTable := #[], attributes := #[] }
def k12m6 : Method := { name := "getValue", desc := "()[B", sig := { parameters := [], returnType := some (.array .byte) }, accessFlags := 16, code := some k12c6 }
def k12c7 : Code := { maxStack := 1, maxLocals := 1, code := jdk_68_method_68_code, exceptionTable := #[], attributes := #[] }
def k12m7 : Method := { name := "isLatin1", desc := "()Z", sig := { parameters := [], returnType := some .boolean }, accessFlags := 16, code := some k12c7 }
def k12c8 : Code := { maxStack := 2, maxLocals := 2, code := jdk_68_method_71_code, exceptionTable := #[], attributes := #[] }
def k12m8 : Method := { name := "inflateIfNeededFor", desc := "(Ljava/lang/String;)V", sig := { parameters := [(.object "java/lang/String")], returnType := none }, accessFlags := 2, code := some k12c8 }
def k12c9 : Code := { maxStack := 4, maxLocals := 3, code := jdk_68_method_73_code, exceptionTable := #[], attributes := #[] }
def k12m9 : Method := { name := "putStringAt", desc := "(ILjava/lang/String;)V", sig := { parameters := [.int, (.object "java/lang/String")], returnType := none }, accessFlags := 2, code := some k12c9 }
/-- java/lang/AbstractStringBuilder -/
def k12 : Class := { plain "java/lang/AbstractStringBuilder" (some 0) with
  accessFlags := 1056
  interfaces := #[11, 5]
  cf := some (fileOf pool12 10 #[] #[{ accessFlags := 0, nameIndex := 7, descriptorIndex := 8, attributes := #[] }, { accessFlags := 0, nameIndex := 7, descriptorIndex := 103, attributes := #[] }, { accessFlags := 1, nameIndex := 34, descriptorIndex := 35, attributes := #[] }, { accessFlags := 2, nameIndex := 102, descriptorIndex := 103, attributes := #[] }, { accessFlags := 1, nameIndex := 45, descriptorIndex := 46, attributes := #[] }, { accessFlags := 1, nameIndex := 45, descriptorIndex := 292, attributes := #[] }, { accessFlags := 16, nameIndex := 552, descriptorIndex := 403, attributes := #[] }, { accessFlags := 16, nameIndex := 85, descriptorIndex := 86, attributes := #[] }, { accessFlags := 2, nameIndex := 217, descriptorIndex := 69, attributes := #[] }, { accessFlags := 2, nameIndex := 210, descriptorIndex := 211, attributes := #[] }] 1056 4 #[444, 48] #[{ accessFlags := 0, nameIndex := 17, descriptorIndex := 14, attributes := #[] }, { accessFlags := 0, nameIndex := 24, descriptorIndex := 25, attributes := #[] }, { accessFlags := 0, nameIndex := 75, descriptorIndex := 21, attributes := #[] }, { accessFlags := 0, nameIndex := 81, descriptorIndex := 82, attributes := #[] }, { accessFlags := 26, nameIndex := 13, descriptorIndex := 14, attributes := #[] }])
  fields := #[{ name := "value", type := (.array .byte), accessFlags := 0, slot := 0, constantValue := 0 }, { name := "coder", type := .byte, accessFlags := 0, slot := 1, constantValue := 0 }, { name := "maybeLatin1", type := .boolean, accessFlags := 0, slot := 2, constantValue := 0 }, { name := "count", type := .int, accessFlags := 0, slot := 3, constantValue := 0 }, { name := "EMPTYVALUE", type := (.array .byte), accessFlags := 26, slot := 0, constantValue := 0 }]
  methods := #[k12m0, k12m1, k12m2, k12m3, k12m4, k12m5, k12m6, k12m7, k12m8, k12m9]
  instanceTypes := #[(.array .byte), .byte, .boolean, .int]
  staticTypes := #[(.array .byte)]
  resolved := Array.replicate 609 none
  statics := none }

def pool13 : Array CpInfo := pool [(1, .methodref 2 3), (0, .class_ 4), (0, .nameAndType 5 6), (0, u "java/lang/AbstractStringBuilder"), (0, u "<init>"), (0, u "(I)V"), (11, .class_ 20), (1, u "java/lang/String"), (3, .class_ 26), (1, u "java/lang/StringBuilder"), (0, u "append"), (0, u "(Ljava/lang/String;)Ljava/lang/StringBuilder;"), (0, .methodref 2 30), (0, .nameAndType 27 31), (0, u "(Ljava/lang/String;)Ljava/lang/AbstractStringBuilder;"), (18, .methodref 2 51), (0, .nameAndType 27 52), (0, u "(C)Ljava/lang/AbstractStringBuilder;"), (84, .methodref 18 138), (0, .nameAndType 5 139), (0, u "(Ljava/lang/StringBuilder;)V"), (5, u "()V"), (10, u "()I"), (129, u "(C)Ljava/lang/StringBuilder;"), (56, .methodref 2 344), (0, .nameAndType 345 156), (0, u "length"), (3, .class_ 350), (0, u "java/lang/Appendable"), (0, .class_ 352), (0, u "java/io/Serializable"), (0, .class_ 354), (0, u "java/lang/Comparable"), (0, .class_ 356), (0, u "java/lang/CharSequence"), (0, u "serialVersionUID"), (0, u "J"), (40, u "toString"), (0, u "()Ljava/lang/String;")] 21

def k13c0 : Code := { maxStack := 2, maxLocals := 1, code := jdk_67_method_1_code, exceptionTable := #[], attributes := #[] }
def k13m0 : Method := { name := "<init>", desc := "()V", sig := { parameters := [], returnType := none }, accessFlags := 1, code := some k13c0 }
def k13c1 : Code := { maxStack := 2, maxLocals := 2, code := jdk_67_method_7_code, exceptionTable := #[], attributes := #[] }
def k13m1 : Method := { name := "append", desc := "(Ljava/lang/String;)Ljava/lang/StringBuilder;", sig := { parameters := [(.object "java/lang/String")], returnType := some (.object "java/lang/StringBuilder") }, accessFlags := 1, code := some k13c1 }
def k13c2 : Code := { maxStack := 2, maxLocals := 2, code := jdk_67_method_14_code, exceptionTable := #[], attributes := #[] }
def k13m2 : Method := { name := "append", desc := "(C)Ljava/lang/StringBuilder;", sig := { parameters := [.char], returnType := some (.object "java/lang/StringBuilder") }, accessFlags := 1, code := some k13c2 }
def k13c3 : Code := { maxStack := 3, maxLocals := 1, code := jdk_67_method_42_code, exceptionTable := #[], attributes := #[] }
def k13m3 : Method := { name := "toString", desc := "()Ljava/lang/String;", sig := { parameters := [], returnType := some (.object "java/lang/String") }, accessFlags := 1, code := some k13c3 }
def k13c4 : Code := { maxStack := 1, maxLocals := 1, code := jdk_67_method_93_code, exceptionTable := #[], attributes := #[] }
def k13m4 : Method := { name := "length", desc := "()I", sig := { parameters := [], returnType := some .int }, accessFlags := 4161, code := some k13c4 }
/-- java/lang/StringBuilder -/
def k13 : Class := { plain "java/lang/StringBuilder" (some 12) with
  accessFlags := 49
  interfaces := #[11, 3, 4, 5]
  cf := some (fileOf pool13 24 #[] #[{ accessFlags := 1, nameIndex := 5, descriptorIndex := 145, attributes := #[] }, { accessFlags := 1, nameIndex := 27, descriptorIndex := 28, attributes := #[] }, { accessFlags := 1, nameIndex := 27, descriptorIndex := 286, attributes := #[] }, { accessFlags := 1, nameIndex := 399, descriptorIndex := 400, attributes := #[] }, { accessFlags := 4161, nameIndex := 345, descriptorIndex := 156, attributes := #[] }] 49 2 #[349, 351, 353, 355] #[{ accessFlags := 24, nameIndex := 357, descriptorIndex := 358, attributes := #[] }])
  fields := #[{ name := "serialVersionUID", type := .long, accessFlags := 24, slot := 0, constantValue := 0 }]
  methods := #[k13m0, k13m1, k13m2, k13m3, k13m4]
  instanceTypes := #[(.array .byte), .byte, .boolean, .int]
  staticTypes := #[.long]
  resolved := Array.replicate 422 none
  statics := none }

def pool14 : Array CpInfo := pool [(2, .class_ 4), (1, u "java/lang/Object"), (0, u "<init>"), (0, u "()V"), (7, .class_ 16), (1, u "java/util/Arrays"), (57, .class_ 76), (1, u "java/util/Arrays$NaturalOrder"), (36, .class_ 115), (1, u "java/util/Arrays$LegacyMergeSort"), (1, u "Z"), (21, u "copyOfRange"), (10, .methodref 151 152), (0, .class_ 153), (0, .nameAndType 154 155), (0, u "java/lang/System"), (0, u "arraycopy"), (0, u "(Ljava/lang/Object;ILjava/lang/Object;II)V"), (148, .methodref 305 306), (0, .class_ 307), (0, .nameAndType 308 309), (0, u "java/lang/Math"), (0, u "min"), (0, u "(II)I"), (29, .methodref 14 340), (0, .nameAndType 341 342), (0, u "copyOfRangeByte"), (0, u "([BII)[B"), (0, .methodref 14 344), (0, .nameAndType 345 346), (0, u "checkLength"), (0, u "(II)V"), (28, .class_ 376), (0, u "java/util/Arrays$ArrayList"), (68, u "$assertionsDisabled"), (269, u "MIN_ARRAY_SORT_GRAN"), (0, u "I"), (2, u "INSERTIONSORT_THRESHOLD"), (255, .class_ 976), (0, u "java/util/Arrays$ArrayItr")] 52

def k14m0 : Method := { name := "<init>", desc := "()V", sig := { parameters := [], returnType := none }, accessFlags := 2, code := none }
def k14c1 : Code := { maxStack := 4, maxLocals := 2, code := jdk_65_method_131_code, exceptionTable := #[], attributes := #[] }
def k14m1 : Method := { name := "checkLength", desc := "(II)V", sig := { parameters := [.int, .int], returnType := none }, accessFlags := 10, code := some k14c1 }
def k14c2 : Code := { maxStack := 3, maxLocals := 3, code := jdk_65_method_132_code, exceptionTable := #[], attributes := #[] }
def k14m2 : Method := { name := "copyOfRange", desc := "([BII)[B", sig := { parameters := [(.array .byte), .int, .int], returnType := some (.array .byte) }, accessFlags := 9, code := some k14c2 }
def k14c3 : Code := { maxStack := 6, maxLocals := 5, code := jdk_65_method_133_code, exceptionTable := #[], attributes := #[] }
def k14m3 : Method := { name := "copyOfRangeByte", desc := "([BII)[B", sig := { parameters := [(.array .byte), .int, .int], returnType := some (.array .byte) }, accessFlags := 10, code := some k14c3 }
/-- java/util/Arrays -/
def k14 : Class := { plain "java/util/Arrays" (some 0) with
  accessFlags := 49
  interfaces := #[]
  cf := some (fileOf pool14 14 #[.nestMembers #[975, 375, 113, 74]] #[{ accessFlags := 2, nameIndex := 5, descriptorIndex := 6, attributes := #[] }, { accessFlags := 10, nameIndex := 345, descriptorIndex := 346, attributes := #[] }, { accessFlags := 9, nameIndex := 139, descriptorIndex := 342, attributes := #[] }, { accessFlags := 10, nameIndex := 341, descriptorIndex := 342, attributes := #[] }] 49 2 #[] #[{ accessFlags := 26, nameIndex := 715, descriptorIndex := 716, attributes := #[] }, { accessFlags := 26, nameIndex := 719, descriptorIndex := 716, attributes := #[] }, { accessFlags := 4120, nameIndex := 445, descriptorIndex := 117, attributes := #[] }])
  fields := #[{ name := "MIN_ARRAY_SORT_GRAN", type := .int, accessFlags := 26, slot := 0, constantValue := 0 }, { name := "INSERTIONSORT_THRESHOLD", type := .int, accessFlags := 26, slot := 1, constantValue := 0 }, { name := "$assertionsDisabled", type := .boolean, accessFlags := 4120, slot := 2, constantValue := 0 }]
  methods := #[k14m0, k14m1, k14m2, k14m3]
  instanceTypes := #[]
  staticTypes := #[.int, .int, .boolean]
  resolved := Array.replicate 1029 none
  statics := none }

def pool15 : Array CpInfo := pool [(2, .class_ 4), (1, u "java/lang/Object"), (0, u "<init>"), (0, u "()V"), (1, .class_ 10), (1, u "java/lang/System"), (0, u "allowSecurityManager"), (0, u "I"), (16, u "cons"), (0, u "Ljava/io/Console;"), (77, .class_ 110), (1, u "java/lang/System$CallersHolder"), (43, u "initialErrStream"), (0, u "Ljava/io/PrintStream;"), (19, u "security"), (0, u "Ljava/lang/SecurityManager;"), (31, .class_ 209), (0, u "java/lang/System$1"), (7, u "props"), (0, u "Ljava/util/Properties;"), (2, u "lineSeparator"), (0, u "Ljava/lang/String;"), (96, .class_ 321), (1, u "java/lang/System$LoggerFinder"), (5, .class_ 328), (0, u "java/lang/System$Logger"), (67, u "err"), (2, u "out"), (91, u "notSupportedJnuEncoding"), (15, u "in"), (17, u "initialIn"), (0, u "Ljava/io/InputStream;"), (35, u "bootLayer"), (0, u "Ljava/lang/ModuleLayer;"), (99, .class_ 664), (0, u "java/lang/System$2"), (9, u "NEVER"), (2, u "MAYBE"), (49, u "arraycopy"), (0, u "(Ljava/lang/Object;ILjava/lang/Object;II)V"), (72, .class_ 802), (0, u "java/lang/System$Logger$Level")] 31

def k15m0 : Method := { name := "<init>", desc := "()V", sig := { parameters := [], returnType := none }, accessFlags := 2, code := none }
def k15m1 : Method := { name := "arraycopy", desc := "(Ljava/lang/Object;ILjava/lang/Object;II)V", sig := { parameters := [(.object "java/lang/Object"), .int, (.object "java/lang/Object"), .int, .int], returnType := none }, accessFlags := 265, code := none }
/-- java/lang/System -/
def k15 : Class := { plain "java/lang/System" (some 0) with
  accessFlags := 49
  interfaces := #[]
  cf := some (fileOf pool15 8 #[.nestMembers #[319, 327, 801, 108, 663, 208]] #[{ accessFlags := 2, nameIndex := 5, descriptorIndex := 6, attributes := #[] }, { accessFlags := 265, nameIndex := 727, descriptorIndex := 728, attributes := #[] }] 49 2 #[] #[{ accessFlags := 25, nameIndex := 507, descriptorIndex := 526, attributes := #[] }, { accessFlags := 25, nameIndex := 399, descriptorIndex := 155, attributes := #[] }, { accessFlags := 25, nameIndex := 396, descriptorIndex := 155, attributes := #[] }, { accessFlags := 10, nameIndex := 525, descriptorIndex := 526, attributes := #[] }, { accessFlags := 26, nameIndex := 674, descriptorIndex := 12, attributes := #[] }, { accessFlags := 26, nameIndex := 677, descriptorIndex := 12, attributes := #[] }, { accessFlags := 10, nameIndex := 11, descriptorIndex := 12, attributes := #[] }, { accessFlags := 74, nameIndex := 175, descriptorIndex := 176, attributes := #[] }, { accessFlags := 10, nameIndex := 491, descriptorIndex := 222, attributes := #[] }, { accessFlags := 74, nameIndex := 29, descriptorIndex := 30, attributes := #[] }, { accessFlags := 74, nameIndex := 154, descriptorIndex := 155, attributes := #[] }, { accessFlags := 10, nameIndex := 217, descriptorIndex := 218, attributes := #[] }, { accessFlags := 10, nameIndex := 221, descriptorIndex := 222, attributes := #[] }, { accessFlags := 8, nameIndex := 562, descriptorIndex := 563, attributes := #[] }])
  fields := #[{ name := "in", type := (.object "java/io/InputStream"), accessFlags := 25, slot := 0, constantValue := 0 }, { name := "out", type := (.object "java/io/PrintStream"), accessFlags := 25, slot := 1, constantValue := 0 }, { name := "err", type := (.object "java/io/PrintStream"), accessFlags := 25, slot := 2, constantValue := 0 }, { name := "initialIn", type := (.object "java/io/InputStream"), accessFlags := 10, slot := 3, constantValue := 0 }, { name := "NEVER", type := .int, accessFlags := 26, slot := 4, constantValue := 0 }, { name := "MAYBE", type := .int, accessFlags := 26, slot := 5, constantValue := 0 }, { name := "allowSecurityManager", type := .int, accessFlags := 10, slot := 6, constantValue := 0 }, { name := "security", type := (.object "java/lang/SecurityManager"), accessFlags := 74, slot := 7, constantValue := 0 }, { name := "notSupportedJnuEncoding", type := (.object "java/lang/String"), accessFlags := 10, slot := 8, constantValue := 0 }, { name := "cons", type := (.object "java/io/Console"), accessFlags := 74, slot := 9, constantValue := 0 }, { name := "initialErrStream", type := (.object "java/io/PrintStream"), accessFlags := 74, slot := 10, constantValue := 0 }, { name := "props", type := (.object "java/util/Properties"), accessFlags := 10, slot := 11, constantValue := 0 }, { name := "lineSeparator", type := (.object "java/lang/String"), accessFlags := 10, slot := 12, constantValue := 0 }, { name := "bootLayer", type := (.object "java/lang/ModuleLayer"), accessFlags := 8, slot := 13, constantValue := 0 }]
  methods := #[k15m0, k15m1]
  instanceTypes := #[]
  staticTypes := #[(.object "java/io/InputStream"), (.object "java/io/PrintStream"), (.object "java/io/PrintStream"), (.object "java/io/InputStream"), .int, .int, .int, (.object "java/lang/SecurityManager"), (.object "java/lang/String"), (.object "java/io/Console"), (.object "java/io/PrintStream"), (.object "java/util/Properties"), (.object "java/lang/String"), (.object "java/lang/ModuleLayer")]
  resolved := Array.replicate 834 none
  statics := none }

def pool16 : Array CpInfo := pool [(1, .class_ 2), (0, u "java/lang/String"), (1, .class_ 6), (1, u "java/lang/Object"), (0, u "<init>"), (0, u "()V"), (0, .methodref 1 10), (0, .nameAndType 11 12), (0, u "checkIndex"), (0, u "(II)V"), (1, .class_ 16), (1, u "java/lang/StringLatin1"), (36, u "([BI)C"), (36, u "canEncode"), (14, u "(C)Z"), (15, u "$assertionsDisabled"), (0, u "Z"), (98, .class_ 223), (1, u "java/lang/StringLatin1$LinesSpliterator"), (28, u "charAt"), (127, u "toBytes"), (1, u "(C)[B"), (7, .class_ 391), (0, u "java/lang/StringLatin1$CharsSpliterator")] 3

def k16m0 : Method := { name := "<init>", desc := "()V", sig := { parameters := [], returnType := none }, accessFlags := 0, code := none }
def k16c1 : Code := { maxStack := 2, maxLocals := 2, code := jdk_43_method_2_code, exceptionTable := #[], attributes := #[] }
def k16m1 : Method := { name := "charAt", desc := "([BI)C", sig := { parameters := [(.array .byte), .int], returnType := some .char }, accessFlags := 9, code := some k16c1 }
def k16c2 : Code := { maxStack := 2, maxLocals := 1, code := jdk_43_method_3_code, exceptionTable := #[], attributes := #[] }
def k16m2 : Method := { name := "canEncode", desc := "(C)Z", sig := { parameters := [.char], returnType := some .boolean }, accessFlags := 9, code := some k16c2 }
def k16c3 : Code := { maxStack := 4, maxLocals := 1, code := jdk_43_method_46_code, exceptionTable := #[], attributes := #[] }
def k16m3 : Method := { name := "toBytes", desc := "(C)[B", sig := { parameters := [.char], returnType := some (.array .byte) }, accessFlags := 9, code := some k16c3 }
/-- java/lang/StringLatin1 -/
def k16 : Class := { plain "java/lang/StringLatin1" (some 0) with
  accessFlags := 48
  interfaces := #[]
  cf := some (fileOf pool16 14 #[.nestMembers #[390, 221]] #[{ accessFlags := 0, nameIndex := 7, descriptorIndex := 8, attributes := #[] }, { accessFlags := 9, nameIndex := 252, descriptorIndex := 53, attributes := #[] }, { accessFlags := 9, nameIndex := 90, descriptorIndex := 105, attributes := #[] }, { accessFlags := 9, nameIndex := 380, descriptorIndex := 382, attributes := #[] }] 48 4 #[] #[{ accessFlags := 4120, nameIndex := 121, descriptorIndex := 122, attributes := #[] }])
  fields := #[{ name := "$assertionsDisabled", type := .boolean, accessFlags := 4120, slot := 0, constantValue := 0 }]
  methods := #[k16m0, k16m1, k16m2, k16m3]
  instanceTypes := #[]
  staticTypes := #[.boolean]
  resolved := Array.replicate 395 none
  statics := none }

def pool17 : Array CpInfo := pool [(2, .class_ 4), (1, u "java/lang/Object"), (0, u "<init>"), (0, u "()V"), (17, .class_ 26), (1, u "jdk/internal/util/Preconditions"), (6, u "checkIndex"), (21, .class_ 56), (0, u "jdk/internal/util/Preconditions$4"), (57, .class_ 115), (0, u "jdk/internal/util/Preconditions$1"), (7, u "SIOOBE_FORMATTER"), (0, u "Ljava/util/function/BiFunction;"), (0, .class_ 126), (0, u "jdk/internal/util/Preconditions$2"), (3, u "AIOOBE_FORMATTER"), (0, .class_ 132), (0, u "jdk/internal/util/Preconditions$3"), (3, u "IOOBE_FORMATTER"), (41, u "(IILjava/util/function/BiFunction;)I")] 15

def k17m0 : Method := { name := "<init>", desc := "()V", sig := { parameters := [], returnType := none }, accessFlags := 1, code := none }
def k17c1 : Code := { maxStack := 3, maxLocals := 3, code := jdk_41_method_11_code, exceptionTable := #[], attributes := #[] }
def k17m1 : Method := { name := "checkIndex", desc := "(IILjava/util/function/BiFunction;)I", sig := { parameters := [.int, .int, (.object "java/util/function/BiFunction")], returnType := some .int }, accessFlags := 9, code := some k17c1 }
/-- jdk/internal/util/Preconditions -/
def k17 : Class := { plain "jdk/internal/util/Preconditions" (some 0) with
  accessFlags := 33
  interfaces := #[]
  cf := some (fileOf pool17 24 #[.nestMembers #[55, 131, 125, 114]] #[{ accessFlags := 1, nameIndex := 5, descriptorIndex := 6, attributes := #[] }, { accessFlags := 9, nameIndex := 33, descriptorIndex := 178, attributes := #[] }] 33 2 #[] #[{ accessFlags := 25, nameIndex := 123, descriptorIndex := 124, attributes := #[] }, { accessFlags := 25, nameIndex := 130, descriptorIndex := 124, attributes := #[] }, { accessFlags := 25, nameIndex := 136, descriptorIndex := 124, attributes := #[] }])
  fields := #[{ name := "SIOOBE_FORMATTER", type := (.object "java/util/function/BiFunction"), accessFlags := 25, slot := 0, constantValue := 0 }, { name := "AIOOBE_FORMATTER", type := (.object "java/util/function/BiFunction"), accessFlags := 25, slot := 1, constantValue := 0 }, { name := "IOOBE_FORMATTER", type := (.object "java/util/function/BiFunction"), accessFlags := 25, slot := 2, constantValue := 0 }]
  methods := #[k17m0, k17m1]
  instanceTypes := #[]
  staticTypes := #[(.object "java/util/function/BiFunction"), (.object "java/util/function/BiFunction"), (.object "java/util/function/BiFunction")]
  resolved := Array.replicate 194 none
  statics := some 1 }

def pool18 : Array CpInfo := pool [(6, .class_ 8), (1, u "java/lang/Object"), (0, u "<init>"), (0, u "()V"), (1, .class_ 14), (1, u "java/lang/StringUTF16"), (31, u "$assertionsDisabled"), (0, u "Z"), (13, u "HI_BYTE_SHIFT"), (0, u "I"), (2, u "LO_BYTE_SHIFT"), (49, .methodref 12 116), (0, .nameAndType 117 118), (0, u "compress"), (0, u "([CI[BII)I"), (3, u "([CII)[B"), (138, u "coderFromArrayLen"), (0, u "([BI)B"), (106, .class_ 371), (1, u "java/lang/StringUTF16$LinesSpliterator"), (58, u "MAX_LENGTH"), (196, .class_ 628), (0, u "java/lang/StringUTF16$CodePointsSpliterator"), (0, .class_ 630), (0, u "java/lang/StringUTF16$CharsSpliterator")] 4

def k18m0 : Method := { name := "<init>", desc := "()V", sig := { parameters := [], returnType := none }, accessFlags := 0, code := none }
def k18c1 : Code := { maxStack := 2, maxLocals := 2, code := jdk_52_method_15_code, exceptionTable := #[], attributes := #[] }
def k18m1 : Method := { name := "coderFromArrayLen", desc := "([BI)B", sig := { parameters := [(.array .byte), .int], returnType := some .byte }, accessFlags := 8, code := some k18c1 }
def k18c2 : Code := { maxStack := 5, maxLocals := 6, code := jdk_52_method_16_code, exceptionTable := #[], attributes := #[] }
def k18m2 : Method := { name := "compress", desc := "([CII)[B", sig := { parameters := [(.array .char), .int, .int], returnType := some (.array .byte) }, accessFlags := 9, code := some k18c2 }
def k18c3 : Code := { maxStack := 3, maxLocals := 7, code := jdk_52_method_21_code, exceptionTable := #[], attributes := #[] }
def k18m3 : Method := { name := "compress", desc := "([CI[BII)I", sig := { parameters := [(.array .char), .int, (.array .byte), .int, .int], returnType := some .int }, accessFlags := 9, code := some k18c3 }
/-- java/lang/StringUTF16 -/
def k18 : Class := { plain "java/lang/StringUTF16" (some 0) with
  accessFlags := 48
  interfaces := #[]
  cf := some (fileOf pool18 12 #[.nestMembers #[627, 629, 369]] #[{ accessFlags := 0, nameIndex := 9, descriptorIndex := 10, attributes := #[] }, { accessFlags := 8, nameIndex := 261, descriptorIndex := 262, attributes := #[] }, { accessFlags := 9, nameIndex := 117, descriptorIndex := 122, attributes := #[] }, { accessFlags := 9, nameIndex := 117, descriptorIndex := 118, attributes := #[] }] 48 6 #[] #[{ accessFlags := 26, nameIndex := 61, descriptorIndex := 62, attributes := #[] }, { accessFlags := 26, nameIndex := 65, descriptorIndex := 62, attributes := #[] }, { accessFlags := 24, nameIndex := 430, descriptorIndex := 62, attributes := #[] }, { accessFlags := 4120, nameIndex := 46, descriptorIndex := 47, attributes := #[] }])
  fields := #[{ name := "HI_BYTE_SHIFT", type := .int, accessFlags := 26, slot := 0, constantValue := 0 }, { name := "LO_BYTE_SHIFT", type := .int, accessFlags := 26, slot := 1, constantValue := 0 }, { name := "MAX_LENGTH", type := .int, accessFlags := 24, slot := 2, constantValue := 0 }, { name := "$assertionsDisabled", type := .boolean, accessFlags := 4120, slot := 3, constantValue := 0 }]
  methods := #[k18m0, k18m1, k18m2, k18m3]
  instanceTypes := #[]
  staticTypes := #[.int, .int, .int, .boolean]
  resolved := Array.replicate 635 none
  statics := none }

def pool19 : Array CpInfo := pool [(9, u "<init>"), (6, .class_ 18), (1, u "java/lang/Object"), (0, u "()V"), (1, .class_ 23), (1, u "jdk/internal/util/ArraysSupport"), (0, u "LOG2_ARRAY_LONG_INDEX_SCALE"), (0, u "I"), (2, u "U"), (0, u "Ljdk/internal/misc/Unsafe;"), (8, u "BIG_ENDIAN"), (0, u "Z"), (8, u "LOG2_BYTE_BIT_SIZE"), (4, u "LOG2_ARRAY_INT_INDEX_SCALE"), (54, u "JLA"), (0, u "Ljdk/internal/access/JavaLangAccess;"), (11, u "LOG2_ARRAY_BOOLEAN_INDEX_SCALE"), (9, u "LOG2_ARRAY_BYTE_INDEX_SCALE"), (5, u "LOG2_ARRAY_CHAR_INDEX_SCALE"), (5, u "LOG2_ARRAY_SHORT_INDEX_SCALE"), (18, u "LOG2_ARRAY_FLOAT_INDEX_SCALE"), (24, u "LOG2_ARRAY_DOUBLE_INDEX_SCALE"), (89, u "T_BOOLEAN"), (2, u "T_CHAR"), (1, u "T_FLOAT"), (1, u "T_DOUBLE"), (1, u "T_BYTE"), (1, u "T_SHORT"), (1, u "T_INT"), (1, u "T_LONG"), (1, u "SOFT_MAX_ARRAY_LENGTH")] 83

def k19m0 : Method := { name := "<init>", desc := "()V", sig := { parameters := [], returnType := none }, accessFlags := 2, code := none }
/-- jdk/internal/util/ArraysSupport -/
def k19 : Class := { plain "jdk/internal/util/ArraysSupport" (some 0) with
  accessFlags := 33
  interfaces := #[]
  cf := some (fileOf pool19 21 #[] #[{ accessFlags := 2, nameIndex := 9, descriptorIndex := 19, attributes := #[] }] 33 16 #[] #[{ accessFlags := 24, nameIndex := 28, descriptorIndex := 29, attributes := #[] }, { accessFlags := 26, nameIndex := 38, descriptorIndex := 39, attributes := #[] }, { accessFlags := 25, nameIndex := 121, descriptorIndex := 25, attributes := #[] }, { accessFlags := 25, nameIndex := 131, descriptorIndex := 25, attributes := #[] }, { accessFlags := 25, nameIndex := 137, descriptorIndex := 25, attributes := #[] }, { accessFlags := 25, nameIndex := 143, descriptorIndex := 25, attributes := #[] }, { accessFlags := 25, nameIndex := 53, descriptorIndex := 25, attributes := #[] }, { accessFlags := 25, nameIndex := 24, descriptorIndex := 25, attributes := #[] }, { accessFlags := 25, nameIndex := 162, descriptorIndex := 25, attributes := #[] }, { accessFlags := 25, nameIndex := 187, descriptorIndex := 25, attributes := #[] }, { accessFlags := 26, nameIndex := 48, descriptorIndex := 25, attributes := #[] }, { accessFlags := 25, nameIndex := 277, descriptorIndex := 25, attributes := #[] }, { accessFlags := 25, nameIndex := 280, descriptorIndex := 25, attributes := #[] }, { accessFlags := 25, nameIndex := 282, descriptorIndex := 25, attributes := #[] }, { accessFlags := 25, nameIndex := 284, descriptorIndex := 25, attributes := #[] }, { accessFlags := 25, nameIndex := 286, descriptorIndex := 25, attributes := #[] }, { accessFlags := 25, nameIndex := 288, descriptorIndex := 25, attributes := #[] }, { accessFlags := 25, nameIndex := 290, descriptorIndex := 25, attributes := #[] }, { accessFlags := 25, nameIndex := 292, descriptorIndex := 25, attributes := #[] }, { accessFlags := 26, nameIndex := 108, descriptorIndex := 109, attributes := #[] }, { accessFlags := 25, nameIndex := 294, descriptorIndex := 25, attributes := #[] }])
  fields := #[{ name := "U", type := (.object "jdk/internal/misc/Unsafe"), accessFlags := 24, slot := 0, constantValue := 0 }, { name := "BIG_ENDIAN", type := .boolean, accessFlags := 26, slot := 1, constantValue := 0 }, { name := "LOG2_ARRAY_BOOLEAN_INDEX_SCALE", type := .int, accessFlags := 25, slot := 2, constantValue := 0 }, { name := "LOG2_ARRAY_BYTE_INDEX_SCALE", type := .int, accessFlags := 25, slot := 3, constantValue := 0 }, { name := "LOG2_ARRAY_CHAR_INDEX_SCALE", type := .int, accessFlags := 25, slot := 4, constantValue := 0 }, { name := "LOG2_ARRAY_SHORT_INDEX_SCALE", type := .int, accessFlags := 25, slot := 5, constantValue := 0 }, { name := "LOG2_ARRAY_INT_INDEX_SCALE", type := .int, accessFlags := 25, slot := 6, constantValue := 0 }, { name := "LOG2_ARRAY_LONG_INDEX_SCALE", type := .int, accessFlags := 25, slot := 7, constantValue := 0 }, { name := "LOG2_ARRAY_FLOAT_INDEX_SCALE", type := .int, accessFlags := 25, slot := 8, constantValue := 0 }, { name := "LOG2_ARRAY_DOUBLE_INDEX_SCALE", type := .int, accessFlags := 25, slot := 9, constantValue := 0 }, { name := "LOG2_BYTE_BIT_SIZE", type := .int, accessFlags := 26, slot := 10, constantValue := 0 }, { name := "T_BOOLEAN", type := .int, accessFlags := 25, slot := 11, constantValue := 0 }, { name := "T_CHAR", type := .int, accessFlags := 25, slot := 12, constantValue := 0 }, { name := "T_FLOAT", type := .int, accessFlags := 25, slot := 13, constantValue := 0 }, { name := "T_DOUBLE", type := .int, accessFlags := 25, slot := 14, constantValue := 0 }, { name := "T_BYTE", type := .int, accessFlags := 25, slot := 15, constantValue := 0 }, { name := "T_SHORT", type := .int, accessFlags := 25, slot := 16, constantValue := 0 }, { name := "T_INT", type := .int, accessFlags := 25, slot := 17, constantValue := 0 }, { name := "T_LONG", type := .int, accessFlags := 25, slot := 18, constantValue := 0 }, { name := "JLA", type := (.object "jdk/internal/access/JavaLangAccess"), accessFlags := 26, slot := 19, constantValue := 0 }, { name := "SOFT_MAX_ARRAY_LENGTH", type := .int, accessFlags := 25, slot := 20, constantValue := 0 }]
  methods := #[k19m0]
  instanceTypes := #[]
  staticTypes := #[(.object "jdk/internal/misc/Unsafe"), .boolean, .int, .int, .int, .int, .int, .int, .int, .int, .int, .int, .int, .int, .int, .int, .int, .int, .int, (.object "jdk/internal/access/JavaLangAccess"), .int]
  resolved := Array.replicate 378 none
  statics := none }

def pool20 : Array CpInfo := pool [(1, u "java/lang/Cloneable"), (0, .class_ 1), (0, u "java/lang/Object"), (0, .class_ 3)] 3

/-- java/lang/Cloneable -/
def k20 : Class := { plain "java/lang/Cloneable" (some 0) with
  accessFlags := 1537
  interfaces := #[]
  cf := some (fileOf pool20 2 #[] #[] 1537 4 #[] #[])
  fields := #[]
  methods := #[]
  instanceTypes := #[]
  staticTypes := #[]
  resolved := Array.replicate 8 none
  statics := none }

/-- the primitive byte -/
def k21 : Class := { plain "byte" none with kind := .primitive 'B', accessFlags := 0x411 }
/-- [B -/
def k22 : Class := { plain "[B" (some 0) with kind := .array 21 .byte, interfaces := #[20, 3], accessFlags := 1041 }

/-- the primitive char -/
def k23 : Class := { plain "char" none with kind := .primitive 'C', accessFlags := 0x411 }
/-- [C -/
def k24 : Class := { plain "[C" (some 0) with kind := .array 23 .char, interfaces := #[20, 3], accessFlags := 1041 }

/-- the primitive int -/
def k25 : Class := { plain "int" none with kind := .primitive 'I', accessFlags := 0x411 }
/-- [I -/
def k26 : Class := { plain "[I" (some 0) with kind := .array 25 .int, interfaces := #[20, 3], accessFlags := 1041 }

/-- [Ljava/lang/String; -/
def k27 : Class := { plain "[Ljava/lang/String;" (some 0) with kind := .array 8 (.object "java/lang/String"), interfaces := #[20, 3], accessFlags := 1041 }

def heap : Heap := #[{ cls := 8, slots := #[.long 0, .int 1, .null, .int 0, .null, .int 0, .int 0], vm := .statics 8 },
  { cls := 17, slots := #[.null, .null, .null], vm := .statics 17 }]
def classes : Array Class := #[k0, k1, k2, k3, k4, k5, k6, k7, k8, k9, k10, k11, k12, k13, k14, k15, k16, k17, k18, k19, k20, k21, k22, k23, k24, k25, k26, k27]
def interned : List (Array UInt16 × Addr) := []
def slotsUsed : Nat := 10
def theMethod : MethodId := ⟨1, 1⟩
def args0 : Array Value := #[.int 3, .int 65, .int 66, .int 67]
def aboutOver (below : List Frame) : State where
  vm := { classes := classes, interned := interned.toArray }
  heap := heap
  slotsUsed := slotsUsed
  threads := #[{ frames := .invoking theMethod args0 :: below }]
def below0 : List Frame := [.native { method := ⟨0, 0⟩, args := #[] }]
def about1 : State := aboutOver below0
def p0 : Program := .bare "" "" ""
def e0 : Env := launch0.env 0 0 0
theorem w_frames : about1.frames = Frame.invoking theMethod args0 :: below0 := rfl
set_option maxRecDepth 65536 in
theorem w_args : argsFit about1.vm theMethod args0 = true := by decide +kernel
set_option maxRecDepth 65536 in
theorem w_heap : heapFits about1 = true := by decide +kernel
set_option maxRecDepth 65536 in
theorem w_runnable : about1.curStatus? = some .runnable := by decide +kernel
set_option maxRecDepth 65536 in
theorem w_alone : about1.alone = true := by decide +kernel
set_option maxRecDepth 65536 in
theorem w_named : about1.methodNamed? x = some theMethod := by decide +kernel
set_option maxRecDepth 65536 in
theorem w_hears : about1.hears theMethod below0 = true := by decide +kernel
set_option maxRecDepth 65536 in
theorem w_ripe : about1.ripe theMethod args0 below0 = true := by decide +kernel
theorem w_running : about1.status = .running := rfl
set_option maxRecDepth 65536 in
theorem w_room : about1.hasRoom e0.platform room_1 = true :=
  launch0.hasRoom_least _ room_1 (by decide +kernel) (by decide +kernel) (by decide +kernel) (by decide +kernel) (by decide +kernel) (by decide +kernel)
theorem allAtoms_all (ts : List Jvm.Cond) (a : Array Jvm.Value) (st : Jvm.State) : (allAtoms ts).before a st = ts.all (fun c => c.before a st) := by
  induction ts with
  | nil => rfl
  | cons c t ih =>
    show (Jvm.Cond.and c (allAtoms t)).before a st = _
    rw [Jvm.Cond.before_and, ih, List.all_cons]
def words1 : List Jvm.Cond := Jvm.Cond.code x code maxLocals ret :: tables_1
/-- a 'code' word, met by the world's own term for the bytes: nothing is compared byte by byte -/
theorem code_word {y : MethodName} {bytes : ByteArray} {mx : Nat} {rt : Option FieldType} {a : Array Value} {s : State} {m : MethodId} {meth : Method} {c : Code} (h1 : s.methodNamed? y = some m) (h2 : s.vm.method? m = some meth) (h3 : meth.code = some c) (h4 : c.code = bytes)
    (h5 : (c.maxLocals == mx && c.exceptionTable.isEmpty && decide (c.maxStack ≤ mostOperands) && decide (meth.sig.returnType = rt) && !meth.locks && decide (parseMethodDescriptor y.desc = some meth.sig)) = true) : (Jvm.Cond.code y bytes mx rt).before a s = true := by
  simp only [Bool.and_eq_true, beq_iff_eq, Bool.not_eq_true', decide_eq_true_eq] at h5
  obtain ⟨⟨⟨⟨⟨g1, g2⟩, g3⟩, g4⟩, g5⟩, g6⟩ := h5
  simp [Cond.before, Cond.holds, Cond.value, h1, h2, h3, h4, g1, g2, g3, g4, g5, g6]
def isCode : Jvm.Cond → Bool
  | .code _ _ _ _ => true
  | _ => false
theorem all_split {L : List Jvm.Cond} {P : Jvm.Cond → Bool} (h1 : L.all (fun c => isCode c || P c) = true) (h2 : ∀ c ∈ L.filter isCode, P c = true) : L.all P = true := by
  refine List.all_eq_true.mpr fun c hc => ?_
  have h := List.all_eq_true.mp h1 c hc
  rcases Bool.eq_false_or_eq_true (isCode c) with hi | hi
  · exact h2 c (List.mem_filter.mpr ⟨hc, hi⟩)
  · simpa [hi] using h
set_option maxRecDepth 65536 in
theorem w_c0 : (Jvm.Cond.code x code maxLocals ret).before args0 about1 = true := code_word (m := ⟨1, 1⟩) (meth := k1m1) (c := k1c1) (by decide +kernel) rfl rfl rfl (by decide +kernel)
set_option maxRecDepth 65536 in
theorem w_c1 : (Jvm.Cond.code ({ cls := "java/lang/Math", name := "min", desc := "(II)I" } : Jvm.MethodName) jdk_29_method_69_code (2 : Nat) (Option.some Jvm.ClassFile.FieldType.int)).before args0 about1 = true := code_word (m := ⟨2, 1⟩) (meth := k2m1) (c := k2c1) (by decide +kernel) rfl rfl rfl (by decide +kernel)
set_option maxRecDepth 65536 in
theorem w_c2 : (Jvm.Cond.code ({ cls := "com/example/triplecast/triplecast/rdf/SparqlTsvRowPinLaw", name := "cell", desc := "(II)Ljava/lang/String;" } : Jvm.MethodName) method_3_code (4 : Nat) (Option.some (Jvm.ClassFile.FieldType.object "java/lang/String"))).before args0 about1 = true := code_word (m := ⟨1, 2⟩) (meth := k1m2) (c := k1c2) (by decide +kernel) rfl rfl rfl (by decide +kernel)
set_option maxRecDepth 65536 in
theorem w_c3 : (Jvm.Cond.code ({ cls := "java/lang/String", name := "<init>", desc := "([C)V" } : Jvm.MethodName) jdk_42_method_3_code (2 : Nat) (Option.none : Option Jvm.ClassFile.FieldType)).before args0 about1 = true := code_word (m := ⟨8, 1⟩) (meth := k8m1) (c := k8c1) (by decide +kernel) rfl rfl rfl (by decide +kernel)
set_option maxRecDepth 65536 in
theorem w_c4 : (Jvm.Cond.code ({ cls := "java/lang/String", name := "<init>", desc := "([CIILjava/lang/Void;)V" } : Jvm.MethodName) jdk_42_method_149_code (6 : Nat) (Option.none : Option Jvm.ClassFile.FieldType)).before args0 about1 = true := code_word (m := ⟨8, 7⟩) (meth := k8m7) (c := k8c7) (by decide +kernel) rfl rfl rfl (by decide +kernel)
set_option maxRecDepth 65536 in
theorem w_c5 : (Jvm.Cond.code ({ cls := "java/lang/Object", name := "<init>", desc := "()V" } : Jvm.MethodName) object_method_1_code (1 : Nat) (Option.none : Option Jvm.ClassFile.FieldType)).before args0 about1 = true := code_word (m := ⟨0, 0⟩) (meth := k0m0) (c := k0c0) (by decide +kernel) rfl rfl rfl (by decide +kernel)
set_option maxRecDepth 65536 in
theorem w_c6 : (Jvm.Cond.code ({ cls := "com/example/triplecast/triplecast/rdf/SparqlTsv", name := "row", desc := "([Ljava/lang/String;)Ljava/lang/String;" } : Jvm.MethodName) prog_28_method_3_code (3 : Nat) (Option.some (Jvm.ClassFile.FieldType.object "java/lang/String"))).before args0 about1 = true := code_word (m := ⟨10, 0⟩) (meth := k10m0) (c := k10c0) (by decide +kernel) rfl rfl rfl (by decide +kernel)
set_option maxRecDepth 65536 in
theorem w_c7 : (Jvm.Cond.code ({ cls := "java/lang/StringBuilder", name := "<init>", desc := "()V" } : Jvm.MethodName) jdk_67_method_1_code (1 : Nat) (Option.none : Option Jvm.ClassFile.FieldType)).before args0 about1 = true := code_word (m := ⟨13, 0⟩) (meth := k13m0) (c := k13c0) (by decide +kernel) rfl rfl rfl (by decide +kernel)
set_option maxRecDepth 65536 in
theorem w_c8 : (Jvm.Cond.code ({ cls := "java/lang/AbstractStringBuilder", name := "<init>", desc := "(I)V" } : Jvm.MethodName) jdk_68_method_2_code (2 : Nat) (Option.none : Option Jvm.ClassFile.FieldType)).before args0 about1 = true := code_word (m := ⟨12, 1⟩) (meth := k12m1) (c := k12c1) (by decide +kernel) rfl rfl rfl (by decide +kernel)
set_option maxRecDepth 65536 in
theorem w_c9 : (Jvm.Cond.code ({ cls := "java/lang/StringBuilder", name := "toString", desc := "()Ljava/lang/String;" } : Jvm.MethodName) jdk_67_method_42_code (1 : Nat) (Option.some (Jvm.ClassFile.FieldType.object "java/lang/String"))).before args0 about1 = true := code_word (m := ⟨13, 3⟩) (meth := k13m3) (c := k13c3) (by decide +kernel) rfl rfl rfl (by decide +kernel)
set_option maxRecDepth 65536 in
theorem w_c10 : (Jvm.Cond.code ({ cls := "java/lang/String", name := "<init>", desc := "(Ljava/lang/StringBuilder;)V" } : Jvm.MethodName) jdk_42_method_53_code (2 : Nat) (Option.none : Option Jvm.ClassFile.FieldType)).before args0 about1 = true := code_word (m := ⟨8, 2⟩) (meth := k8m2) (c := k8c2) (by decide +kernel) rfl rfl rfl (by decide +kernel)
set_option maxRecDepth 65536 in
theorem w_c11 : (Jvm.Cond.code ({ cls := "java/lang/String", name := "<init>", desc := "(Ljava/lang/AbstractStringBuilder;Ljava/lang/Void;)V" } : Jvm.MethodName) jdk_42_method_150_code (5 : Nat) (Option.none : Option Jvm.ClassFile.FieldType)).before args0 about1 = true := code_word (m := ⟨8, 8⟩) (meth := k8m8) (c := k8c8) (by decide +kernel) rfl rfl rfl (by decide +kernel)
set_option maxRecDepth 65536 in
theorem w_c12 : (Jvm.Cond.code ({ cls := "java/lang/AbstractStringBuilder", name := "getValue", desc := "()[B" } : Jvm.MethodName) jdk_68_method_64_code (1 : Nat) (Option.some (Jvm.ClassFile.FieldType.array Jvm.ClassFile.FieldType.byte))).before args0 about1 = true := code_word (m := ⟨12, 6⟩) (meth := k12m6) (c := k12c6) (by decide +kernel) rfl rfl rfl (by decide +kernel)
set_option maxRecDepth 65536 in
theorem w_c13 : (Jvm.Cond.code ({ cls := "java/lang/StringBuilder", name := "length", desc := "()I" } : Jvm.MethodName) jdk_67_method_93_code (1 : Nat) (Option.some Jvm.ClassFile.FieldType.int)).before args0 about1 = true := code_word (m := ⟨13, 4⟩) (meth := k13m4) (c := k13c4) (by decide +kernel) rfl rfl rfl (by decide +kernel)
set_option maxRecDepth 65536 in
theorem w_c14 : (Jvm.Cond.code ({ cls := "java/lang/AbstractStringBuilder", name := "length", desc := "()I" } : Jvm.MethodName) jdk_68_method_6_code (1 : Nat) (Option.some Jvm.ClassFile.FieldType.int)).before args0 about1 = true := code_word (m := ⟨12, 2⟩) (meth := k12m2) (c := k12c2) (by decide +kernel) rfl rfl rfl (by decide +kernel)
set_option maxRecDepth 65536 in
theorem w_c15 : (Jvm.Cond.code ({ cls := "java/lang/AbstractStringBuilder", name := "isLatin1", desc := "()Z" } : Jvm.MethodName) jdk_68_method_68_code (1 : Nat) (Option.some Jvm.ClassFile.FieldType.boolean)).before args0 about1 = true := code_word (m := ⟨12, 7⟩) (meth := k12m7) (c := k12c7) (by decide +kernel) rfl rfl rfl (by decide +kernel)
set_option maxRecDepth 65536 in
theorem w_c16 : (Jvm.Cond.code ({ cls := "java/util/Arrays", name := "copyOfRange", desc := "([BII)[B" } : Jvm.MethodName) jdk_65_method_132_code (3 : Nat) (Option.some (Jvm.ClassFile.FieldType.array Jvm.ClassFile.FieldType.byte))).before args0 about1 = true := code_word (m := ⟨14, 2⟩) (meth := k14m2) (c := k14c2) (by decide +kernel) rfl rfl rfl (by decide +kernel)
set_option maxRecDepth 65536 in
theorem w_c17 : (Jvm.Cond.code ({ cls := "java/util/Arrays", name := "copyOfRangeByte", desc := "([BII)[B" } : Jvm.MethodName) jdk_65_method_133_code (5 : Nat) (Option.some (Jvm.ClassFile.FieldType.array Jvm.ClassFile.FieldType.byte))).before args0 about1 = true := code_word (m := ⟨14, 3⟩) (meth := k14m3) (c := k14c3) (by decide +kernel) rfl rfl rfl (by decide +kernel)
set_option maxRecDepth 65536 in
theorem w_c18 : (Jvm.Cond.code ({ cls := "java/util/Arrays", name := "checkLength", desc := "(II)V" } : Jvm.MethodName) jdk_65_method_131_code (2 : Nat) (Option.none : Option Jvm.ClassFile.FieldType)).before args0 about1 = true := code_word (m := ⟨14, 1⟩) (meth := k14m1) (c := k14c1) (by decide +kernel) rfl rfl rfl (by decide +kernel)
set_option maxRecDepth 65536 in
theorem w_c19 : (Jvm.Cond.code ({ cls := "java/lang/String", name := "length", desc := "()I" } : Jvm.MethodName) jdk_42_method_54_code (1 : Nat) (Option.some Jvm.ClassFile.FieldType.int)).before args0 about1 = true := code_word (m := ⟨8, 3⟩) (meth := k8m3) (c := k8c3) (by decide +kernel) rfl rfl rfl (by decide +kernel)
set_option maxRecDepth 65536 in
theorem w_c20 : (Jvm.Cond.code ({ cls := "java/lang/String", name := "coder", desc := "()B" } : Jvm.MethodName) jdk_42_method_152_code (1 : Nat) (Option.some Jvm.ClassFile.FieldType.byte)).before args0 about1 = true := code_word (m := ⟨8, 10⟩) (meth := k8m10) (c := k8c10) (by decide +kernel) rfl rfl rfl (by decide +kernel)
set_option maxRecDepth 65536 in
theorem w_c21 : (Jvm.Cond.code ({ cls := "com/example/triplecast/triplecast/rdf/SparqlTsvRowPinLaw", name := "at", desc := "(Ljava/lang/String;[CII)Z" } : Jvm.MethodName) method_5_code (4 : Nat) (Option.some Jvm.ClassFile.FieldType.boolean)).before args0 about1 = true := code_word (m := ⟨1, 4⟩) (meth := k1m4) (c := k1c4) (by decide +kernel) rfl rfl rfl (by decide +kernel)
set_option maxRecDepth 65536 in
theorem w_c22 : (Jvm.Cond.code ({ cls := "java/lang/StringBuilder", name := "append", desc := "(C)Ljava/lang/StringBuilder;" } : Jvm.MethodName) jdk_67_method_14_code (2 : Nat) (Option.some (Jvm.ClassFile.FieldType.object "java/lang/StringBuilder"))).before args0 about1 = true := code_word (m := ⟨13, 2⟩) (meth := k13m2) (c := k13c2) (by decide +kernel) rfl rfl rfl (by decide +kernel)
set_option maxRecDepth 65536 in
theorem w_c23 : (Jvm.Cond.code ({ cls := "java/lang/AbstractStringBuilder", name := "append", desc := "(C)Ljava/lang/AbstractStringBuilder;" } : Jvm.MethodName) jdk_68_method_31_code (2 : Nat) (Option.some (Jvm.ClassFile.FieldType.object "java/lang/AbstractStringBuilder"))).before args0 about1 = true := code_word (m := ⟨12, 5⟩) (meth := k12m5) (c := k12c5) (by decide +kernel) rfl rfl rfl (by decide +kernel)
set_option maxRecDepth 65536 in
theorem w_c24 : (Jvm.Cond.code ({ cls := "java/lang/AbstractStringBuilder", name := "ensureCapacityInternal", desc := "(I)V" } : Jvm.MethodName) jdk_68_method_9_code (3 : Nat) (Option.none : Option Jvm.ClassFile.FieldType)).before args0 about1 = true := code_word (m := ⟨12, 3⟩) (meth := k12m3) (c := k12c3) (by decide +kernel) rfl rfl rfl (by decide +kernel)
set_option maxRecDepth 65536 in
theorem w_c25 : (Jvm.Cond.code ({ cls := "java/lang/StringLatin1", name := "canEncode", desc := "(C)Z" } : Jvm.MethodName) jdk_43_method_3_code (1 : Nat) (Option.some Jvm.ClassFile.FieldType.boolean)).before args0 about1 = true := code_word (m := ⟨16, 2⟩) (meth := k16m2) (c := k16c2) (by decide +kernel) rfl rfl rfl (by decide +kernel)
set_option maxRecDepth 65536 in
theorem w_c26 : (Jvm.Cond.code ({ cls := "java/lang/StringBuilder", name := "append", desc := "(Ljava/lang/String;)Ljava/lang/StringBuilder;" } : Jvm.MethodName) jdk_67_method_7_code (2 : Nat) (Option.some (Jvm.ClassFile.FieldType.object "java/lang/StringBuilder"))).before args0 about1 = true := code_word (m := ⟨13, 1⟩) (meth := k13m1) (c := k13c1) (by decide +kernel) rfl rfl rfl (by decide +kernel)
set_option maxRecDepth 65536 in
theorem w_c27 : (Jvm.Cond.code ({ cls := "java/lang/AbstractStringBuilder", name := "append", desc := "(Ljava/lang/String;)Ljava/lang/AbstractStringBuilder;" } : Jvm.MethodName) jdk_68_method_22_code (3 : Nat) (Option.some (Jvm.ClassFile.FieldType.object "java/lang/AbstractStringBuilder"))).before args0 about1 = true := code_word (m := ⟨12, 4⟩) (meth := k12m4) (c := k12c4) (by decide +kernel) rfl rfl rfl (by decide +kernel)
set_option maxRecDepth 65536 in
theorem w_c28 : (Jvm.Cond.code ({ cls := "java/lang/AbstractStringBuilder", name := "putStringAt", desc := "(ILjava/lang/String;)V" } : Jvm.MethodName) jdk_68_method_73_code (3 : Nat) (Option.none : Option Jvm.ClassFile.FieldType)).before args0 about1 = true := code_word (m := ⟨12, 9⟩) (meth := k12m9) (c := k12c9) (by decide +kernel) rfl rfl rfl (by decide +kernel)
set_option maxRecDepth 65536 in
theorem w_c29 : (Jvm.Cond.code ({ cls := "java/lang/AbstractStringBuilder", name := "inflateIfNeededFor", desc := "(Ljava/lang/String;)V" } : Jvm.MethodName) jdk_68_method_71_code (2 : Nat) (Option.none : Option Jvm.ClassFile.FieldType)).before args0 about1 = true := code_word (m := ⟨12, 8⟩) (meth := k12m8) (c := k12c8) (by decide +kernel) rfl rfl rfl (by decide +kernel)
set_option maxRecDepth 65536 in
theorem w_c30 : (Jvm.Cond.code ({ cls := "java/lang/String", name := "getBytes", desc := "([BIB)V" } : Jvm.MethodName) jdk_42_method_147_code (4 : Nat) (Option.none : Option Jvm.ClassFile.FieldType)).before args0 about1 = true := code_word (m := ⟨8, 6⟩) (meth := k8m6) (c := k8c6) (by decide +kernel) rfl rfl rfl (by decide +kernel)
set_option maxRecDepth 65536 in
theorem w_c31 : (Jvm.Cond.code ({ cls := "com/example/triplecast/triplecast/rdf/SparqlTsvRowPinLaw", name := "put", desc := "([CIZII)I" } : Jvm.MethodName) method_4_code (5 : Nat) (Option.some Jvm.ClassFile.FieldType.int)).before args0 about1 = true := code_word (m := ⟨1, 3⟩) (meth := k1m3) (c := k1c3) (by decide +kernel) rfl rfl rfl (by decide +kernel)
set_option maxRecDepth 65536 in
theorem w_c32 : (Jvm.Cond.code ({ cls := "java/lang/String", name := "charAt", desc := "(I)C" } : Jvm.MethodName) jdk_42_method_56_code (2 : Nat) (Option.some Jvm.ClassFile.FieldType.char)).before args0 about1 = true := code_word (m := ⟨8, 4⟩) (meth := k8m4) (c := k8c4) (by decide +kernel) rfl rfl rfl (by decide +kernel)
set_option maxRecDepth 65536 in
theorem w_c33 : (Jvm.Cond.code ({ cls := "java/lang/String", name := "isLatin1", desc := "()Z" } : Jvm.MethodName) jdk_42_method_154_code (1 : Nat) (Option.some Jvm.ClassFile.FieldType.boolean)).before args0 about1 = true := code_word (m := ⟨8, 11⟩) (meth := k8m11) (c := k8c11) (by decide +kernel) rfl rfl rfl (by decide +kernel)
set_option maxRecDepth 65536 in
theorem w_c34 : (Jvm.Cond.code ({ cls := "java/lang/StringLatin1", name := "charAt", desc := "([BI)C" } : Jvm.MethodName) jdk_43_method_2_code (2 : Nat) (Option.some Jvm.ClassFile.FieldType.char)).before args0 about1 = true := code_word (m := ⟨16, 1⟩) (meth := k16m1) (c := k16c1) (by decide +kernel) rfl rfl rfl (by decide +kernel)
set_option maxRecDepth 65536 in
theorem w_c35 : (Jvm.Cond.code ({ cls := "java/lang/String", name := "checkIndex", desc := "(II)V" } : Jvm.MethodName) jdk_42_method_155_code (2 : Nat) (Option.none : Option Jvm.ClassFile.FieldType)).before args0 about1 = true := code_word (m := ⟨8, 12⟩) (meth := k8m12) (c := k8c12) (by decide +kernel) rfl rfl rfl (by decide +kernel)
set_option maxRecDepth 65536 in
theorem w_c36 : (Jvm.Cond.code ({ cls := "jdk/internal/util/Preconditions", name := "checkIndex", desc := "(IILjava/util/function/BiFunction;)I" } : Jvm.MethodName) jdk_41_method_11_code (3 : Nat) (Option.some Jvm.ClassFile.FieldType.int)).before args0 about1 = true := code_word (m := ⟨17, 1⟩) (meth := k17m1) (c := k17c1) (by decide +kernel) rfl rfl rfl (by decide +kernel)
set_option maxRecDepth 65536 in
theorem w_c37 : (Jvm.Cond.code ({ cls := "java/lang/String", name := "valueOf", desc := "(C)Ljava/lang/String;" } : Jvm.MethodName) jdk_42_method_139_code (1 : Nat) (Option.some (Jvm.ClassFile.FieldType.object "java/lang/String"))).before args0 about1 = true := code_word (m := ⟨8, 5⟩) (meth := k8m5) (c := k8c5) (by decide +kernel) rfl rfl rfl (by decide +kernel)
set_option maxRecDepth 65536 in
theorem w_c38 : (Jvm.Cond.code ({ cls := "java/lang/StringLatin1", name := "toBytes", desc := "(C)[B" } : Jvm.MethodName) jdk_43_method_46_code (1 : Nat) (Option.some (Jvm.ClassFile.FieldType.array Jvm.ClassFile.FieldType.byte))).before args0 about1 = true := code_word (m := ⟨16, 3⟩) (meth := k16m3) (c := k16c3) (by decide +kernel) rfl rfl rfl (by decide +kernel)
set_option maxRecDepth 65536 in
theorem w_c39 : (Jvm.Cond.code ({ cls := "java/lang/String", name := "<init>", desc := "([BB)V" } : Jvm.MethodName) jdk_42_method_151_code (3 : Nat) (Option.none : Option Jvm.ClassFile.FieldType)).before args0 about1 = true := code_word (m := ⟨8, 9⟩) (meth := k8m9) (c := k8c9) (by decide +kernel) rfl rfl rfl (by decide +kernel)
set_option maxRecDepth 65536 in
theorem w_c40 : (Jvm.Cond.code ({ cls := "java/lang/StringUTF16", name := "compress", desc := "([CII)[B" } : Jvm.MethodName) jdk_52_method_16_code (6 : Nat) (Option.some (Jvm.ClassFile.FieldType.array Jvm.ClassFile.FieldType.byte))).before args0 about1 = true := code_word (m := ⟨18, 2⟩) (meth := k18m2) (c := k18c2) (by decide +kernel) rfl rfl rfl (by decide +kernel)
set_option maxRecDepth 65536 in
theorem w_c41 : (Jvm.Cond.code ({ cls := "java/lang/StringUTF16", name := "compress", desc := "([CI[BII)I" } : Jvm.MethodName) jdk_52_method_21_code (7 : Nat) (Option.some Jvm.ClassFile.FieldType.int)).before args0 about1 = true := code_word (m := ⟨18, 3⟩) (meth := k18m3) (c := k18c3) (by decide +kernel) rfl rfl rfl (by decide +kernel)
set_option maxRecDepth 65536 in
theorem w_c42 : (Jvm.Cond.code ({ cls := "java/lang/StringUTF16", name := "coderFromArrayLen", desc := "([BI)B" } : Jvm.MethodName) jdk_52_method_15_code (2 : Nat) (Option.some Jvm.ClassFile.FieldType.byte)).before args0 about1 = true := code_word (m := ⟨18, 1⟩) (meth := k18m1) (c := k18c1) (by decide +kernel) rfl rfl rfl (by decide +kernel)
def codes1 : List Jvm.Cond := [Jvm.Cond.code x code maxLocals ret, Jvm.Cond.code ({ cls := "java/lang/Math", name := "min", desc := "(II)I" } : Jvm.MethodName) jdk_29_method_69_code (2 : Nat) (Option.some Jvm.ClassFile.FieldType.int), Jvm.Cond.code ({ cls := "com/example/triplecast/triplecast/rdf/SparqlTsvRowPinLaw", name := "cell", desc := "(II)Ljava/lang/String;" } : Jvm.MethodName) method_3_code (4 : Nat) (Option.some (Jvm.ClassFile.FieldType.object "java/lang/String")), Jvm.Cond.code ({ cls := "java/lang/String", name := "<init>", desc := "([C)V" } : Jvm.MethodName) jdk_42_method_3_code (2 : Nat) (Option.none : Option Jvm.ClassFile.FieldType), Jvm.Cond.code ({ cls := "java/lang/String", name := "<init>", desc := "([CIILjava/lang/Void;)V" } : Jvm.MethodName) jdk_42_method_149_code (6 : Nat) (Option.none : Option Jvm.ClassFile.FieldType), Jvm.Cond.code ({ cls := "java/lang/Object", name := "<init>", desc := "()V" } : Jvm.MethodName) object_method_1_code (1 : Nat) (Option.none : Option Jvm.ClassFile.FieldType), Jvm.Cond.code ({ cls := "com/example/triplecast/triplecast/rdf/SparqlTsv", name := "row", desc := "([Ljava/lang/String;)Ljava/lang/String;" } : Jvm.MethodName) prog_28_method_3_code (3 : Nat) (Option.some (Jvm.ClassFile.FieldType.object "java/lang/String")), Jvm.Cond.code ({ cls := "java/lang/StringBuilder", name := "<init>", desc := "()V" } : Jvm.MethodName) jdk_67_method_1_code (1 : Nat) (Option.none : Option Jvm.ClassFile.FieldType), Jvm.Cond.code ({ cls := "java/lang/AbstractStringBuilder", name := "<init>", desc := "(I)V" } : Jvm.MethodName) jdk_68_method_2_code (2 : Nat) (Option.none : Option Jvm.ClassFile.FieldType), Jvm.Cond.code ({ cls := "java/lang/StringBuilder", name := "toString", desc := "()Ljava/lang/String;" } : Jvm.MethodName) jdk_67_method_42_code (1 : Nat) (Option.some (Jvm.ClassFile.FieldType.object "java/lang/String")), Jvm.Cond.code ({ cls := "java/lang/String", name := "<init>", desc := "(Ljava/lang/StringBuilder;)V" } : Jvm.MethodName) jdk_42_method_53_code (2 : Nat) (Option.none : Option Jvm.ClassFile.FieldType), Jvm.Cond.code ({ cls := "java/lang/String", name := "<init>", desc := "(Ljava/lang/AbstractStringBuilder;Ljava/lang/Void;)V" } : Jvm.MethodName) jdk_42_method_150_code (5 : Nat) (Option.none : Option Jvm.ClassFile.FieldType), Jvm.Cond.code ({ cls := "java/lang/AbstractStringBuilder", name := "getValue", desc := "()[B" } : Jvm.MethodName) jdk_68_method_64_code (1 : Nat) (Option.some (Jvm.ClassFile.FieldType.array Jvm.ClassFile.FieldType.byte)), Jvm.Cond.code ({ cls := "java/lang/StringBuilder", name := "length", desc := "()I" } : Jvm.MethodName) jdk_67_method_93_code (1 : Nat) (Option.some Jvm.ClassFile.FieldType.int), Jvm.Cond.code ({ cls := "java/lang/AbstractStringBuilder", name := "length", desc := "()I" } : Jvm.MethodName) jdk_68_method_6_code (1 : Nat) (Option.some Jvm.ClassFile.FieldType.int), Jvm.Cond.code ({ cls := "java/lang/AbstractStringBuilder", name := "isLatin1", desc := "()Z" } : Jvm.MethodName) jdk_68_method_68_code (1 : Nat) (Option.some Jvm.ClassFile.FieldType.boolean), Jvm.Cond.code ({ cls := "java/util/Arrays", name := "copyOfRange", desc := "([BII)[B" } : Jvm.MethodName) jdk_65_method_132_code (3 : Nat) (Option.some (Jvm.ClassFile.FieldType.array Jvm.ClassFile.FieldType.byte)), Jvm.Cond.code ({ cls := "java/util/Arrays", name := "copyOfRangeByte", desc := "([BII)[B" } : Jvm.MethodName) jdk_65_method_133_code (5 : Nat) (Option.some (Jvm.ClassFile.FieldType.array Jvm.ClassFile.FieldType.byte)), Jvm.Cond.code ({ cls := "java/util/Arrays", name := "checkLength", desc := "(II)V" } : Jvm.MethodName) jdk_65_method_131_code (2 : Nat) (Option.none : Option Jvm.ClassFile.FieldType), Jvm.Cond.code ({ cls := "java/lang/String", name := "length", desc := "()I" } : Jvm.MethodName) jdk_42_method_54_code (1 : Nat) (Option.some Jvm.ClassFile.FieldType.int), Jvm.Cond.code ({ cls := "java/lang/String", name := "coder", desc := "()B" } : Jvm.MethodName) jdk_42_method_152_code (1 : Nat) (Option.some Jvm.ClassFile.FieldType.byte), Jvm.Cond.code ({ cls := "com/example/triplecast/triplecast/rdf/SparqlTsvRowPinLaw", name := "at", desc := "(Ljava/lang/String;[CII)Z" } : Jvm.MethodName) method_5_code (4 : Nat) (Option.some Jvm.ClassFile.FieldType.boolean), Jvm.Cond.code ({ cls := "java/lang/StringBuilder", name := "append", desc := "(C)Ljava/lang/StringBuilder;" } : Jvm.MethodName) jdk_67_method_14_code (2 : Nat) (Option.some (Jvm.ClassFile.FieldType.object "java/lang/StringBuilder")), Jvm.Cond.code ({ cls := "java/lang/AbstractStringBuilder", name := "append", desc := "(C)Ljava/lang/AbstractStringBuilder;" } : Jvm.MethodName) jdk_68_method_31_code (2 : Nat) (Option.some (Jvm.ClassFile.FieldType.object "java/lang/AbstractStringBuilder")), Jvm.Cond.code ({ cls := "java/lang/AbstractStringBuilder", name := "ensureCapacityInternal", desc := "(I)V" } : Jvm.MethodName) jdk_68_method_9_code (3 : Nat) (Option.none : Option Jvm.ClassFile.FieldType), Jvm.Cond.code ({ cls := "java/lang/StringLatin1", name := "canEncode", desc := "(C)Z" } : Jvm.MethodName) jdk_43_method_3_code (1 : Nat) (Option.some Jvm.ClassFile.FieldType.boolean), Jvm.Cond.code ({ cls := "java/lang/StringBuilder", name := "append", desc := "(Ljava/lang/String;)Ljava/lang/StringBuilder;" } : Jvm.MethodName) jdk_67_method_7_code (2 : Nat) (Option.some (Jvm.ClassFile.FieldType.object "java/lang/StringBuilder")), Jvm.Cond.code ({ cls := "java/lang/AbstractStringBuilder", name := "append", desc := "(Ljava/lang/String;)Ljava/lang/AbstractStringBuilder;" } : Jvm.MethodName) jdk_68_method_22_code (3 : Nat) (Option.some (Jvm.ClassFile.FieldType.object "java/lang/AbstractStringBuilder")), Jvm.Cond.code ({ cls := "java/lang/AbstractStringBuilder", name := "putStringAt", desc := "(ILjava/lang/String;)V" } : Jvm.MethodName) jdk_68_method_73_code (3 : Nat) (Option.none : Option Jvm.ClassFile.FieldType), Jvm.Cond.code ({ cls := "java/lang/AbstractStringBuilder", name := "inflateIfNeededFor", desc := "(Ljava/lang/String;)V" } : Jvm.MethodName) jdk_68_method_71_code (2 : Nat) (Option.none : Option Jvm.ClassFile.FieldType), Jvm.Cond.code ({ cls := "java/lang/String", name := "getBytes", desc := "([BIB)V" } : Jvm.MethodName) jdk_42_method_147_code (4 : Nat) (Option.none : Option Jvm.ClassFile.FieldType), Jvm.Cond.code ({ cls := "com/example/triplecast/triplecast/rdf/SparqlTsvRowPinLaw", name := "put", desc := "([CIZII)I" } : Jvm.MethodName) method_4_code (5 : Nat) (Option.some Jvm.ClassFile.FieldType.int), Jvm.Cond.code ({ cls := "java/lang/String", name := "charAt", desc := "(I)C" } : Jvm.MethodName) jdk_42_method_56_code (2 : Nat) (Option.some Jvm.ClassFile.FieldType.char), Jvm.Cond.code ({ cls := "java/lang/String", name := "isLatin1", desc := "()Z" } : Jvm.MethodName) jdk_42_method_154_code (1 : Nat) (Option.some Jvm.ClassFile.FieldType.boolean), Jvm.Cond.code ({ cls := "java/lang/StringLatin1", name := "charAt", desc := "([BI)C" } : Jvm.MethodName) jdk_43_method_2_code (2 : Nat) (Option.some Jvm.ClassFile.FieldType.char), Jvm.Cond.code ({ cls := "java/lang/String", name := "checkIndex", desc := "(II)V" } : Jvm.MethodName) jdk_42_method_155_code (2 : Nat) (Option.none : Option Jvm.ClassFile.FieldType), Jvm.Cond.code ({ cls := "jdk/internal/util/Preconditions", name := "checkIndex", desc := "(IILjava/util/function/BiFunction;)I" } : Jvm.MethodName) jdk_41_method_11_code (3 : Nat) (Option.some Jvm.ClassFile.FieldType.int), Jvm.Cond.code ({ cls := "java/lang/String", name := "valueOf", desc := "(C)Ljava/lang/String;" } : Jvm.MethodName) jdk_42_method_139_code (1 : Nat) (Option.some (Jvm.ClassFile.FieldType.object "java/lang/String")), Jvm.Cond.code ({ cls := "java/lang/StringLatin1", name := "toBytes", desc := "(C)[B" } : Jvm.MethodName) jdk_43_method_46_code (1 : Nat) (Option.some (Jvm.ClassFile.FieldType.array Jvm.ClassFile.FieldType.byte)), Jvm.Cond.code ({ cls := "java/lang/String", name := "<init>", desc := "([BB)V" } : Jvm.MethodName) jdk_42_method_151_code (3 : Nat) (Option.none : Option Jvm.ClassFile.FieldType), Jvm.Cond.code ({ cls := "java/lang/StringUTF16", name := "compress", desc := "([CII)[B" } : Jvm.MethodName) jdk_52_method_16_code (6 : Nat) (Option.some (Jvm.ClassFile.FieldType.array Jvm.ClassFile.FieldType.byte)), Jvm.Cond.code ({ cls := "java/lang/StringUTF16", name := "compress", desc := "([CI[BII)I" } : Jvm.MethodName) jdk_52_method_21_code (7 : Nat) (Option.some Jvm.ClassFile.FieldType.int), Jvm.Cond.code ({ cls := "java/lang/StringUTF16", name := "coderFromArrayLen", desc := "([BI)B" } : Jvm.MethodName) jdk_52_method_15_code (2 : Nat) (Option.some Jvm.ClassFile.FieldType.byte)]
set_option maxRecDepth 65536 in
theorem codes_eq : words1.filter isCode = codes1 := rfl
theorem w_codes : ∀ c ∈ words1.filter isCode, c.before args0 about1 = true := by
  rw [codes_eq]
  intro c hc
  simp only [codes1, List.mem_cons, List.not_mem_nil, or_false] at hc
  rcases hc with rfl | rfl | rfl | rfl | rfl | rfl | rfl | rfl | rfl | rfl | rfl | rfl | rfl | rfl | rfl | rfl | rfl | rfl | rfl | rfl | rfl | rfl | rfl | rfl | rfl | rfl | rfl | rfl | rfl | rfl | rfl | rfl | rfl | rfl | rfl | rfl | rfl | rfl | rfl | rfl | rfl | rfl | rfl
  · exact w_c0
  · exact w_c1
  · exact w_c2
  · exact w_c3
  · exact w_c4
  · exact w_c5
  · exact w_c6
  · exact w_c7
  · exact w_c8
  · exact w_c9
  · exact w_c10
  · exact w_c11
  · exact w_c12
  · exact w_c13
  · exact w_c14
  · exact w_c15
  · exact w_c16
  · exact w_c17
  · exact w_c18
  · exact w_c19
  · exact w_c20
  · exact w_c21
  · exact w_c22
  · exact w_c23
  · exact w_c24
  · exact w_c25
  · exact w_c26
  · exact w_c27
  · exact w_c28
  · exact w_c29
  · exact w_c30
  · exact w_c31
  · exact w_c32
  · exact w_c33
  · exact w_c34
  · exact w_c35
  · exact w_c36
  · exact w_c37
  · exact w_c38
  · exact w_c39
  · exact w_c40
  · exact w_c41
  · exact w_c42
set_option maxRecDepth 65536 in
theorem w_t1 : (words1.take 24).all (fun c => isCode c || c.before args0 about1) = true := by decide +kernel
set_option maxRecDepth 65536 in
theorem w_t2 : ((words1.drop 24).take 24).all (fun c => isCode c || c.before args0 about1) = true := by decide +kernel
set_option maxRecDepth 65536 in
theorem w_t3 : (((words1.drop 24).drop 24).take 24).all (fun c => isCode c || c.before args0 about1) = true := by decide +kernel
set_option maxRecDepth 65536 in
theorem w_t4 : ((((words1.drop 24).drop 24).drop 24).take 24).all (fun c => isCode c || c.before args0 about1) = true := by decide +kernel
set_option maxRecDepth 65536 in
theorem w_t5 : (((((words1.drop 24).drop 24).drop 24).drop 24).take 24).all (fun c => isCode c || c.before args0 about1) = true := by decide +kernel
set_option maxRecDepth 65536 in
theorem w_t6 : ((((((words1.drop 24).drop 24).drop 24).drop 24).drop 24).take 24).all (fun c => isCode c || c.before args0 about1) = true := by decide +kernel
set_option maxRecDepth 65536 in
theorem w_t7 : (((((((words1.drop 24).drop 24).drop 24).drop 24).drop 24).drop 24).take 24).all (fun c => isCode c || c.before args0 about1) = true := by decide +kernel
set_option maxRecDepth 65536 in
theorem w_t8 : ((((((((words1.drop 24).drop 24).drop 24).drop 24).drop 24).drop 24).drop 24).take 24).all (fun c => isCode c || c.before args0 about1) = true := by decide +kernel
set_option maxRecDepth 65536 in
theorem w_t9 : ((((((((words1.drop 24).drop 24).drop 24).drop 24).drop 24).drop 24).drop 24).drop 24).all (fun c => isCode c || c.before args0 about1) = true := by decide +kernel
theorem w_tables : (allAtoms (Jvm.Cond.code x code maxLocals ret :: tables_1)).before args0 about1 = true := by
  rw [allAtoms_all]
  show words1.all (fun c => c.before args0 about1) = true
  refine all_split ?_ w_codes
  rw [← List.take_append_drop 24 words1, List.all_append, w_t1, ← List.take_append_drop 24 (words1.drop 24), List.all_append, w_t2, ← List.take_append_drop 24 ((words1.drop 24).drop 24), List.all_append, w_t3, ← List.take_append_drop 24 (((words1.drop 24).drop 24).drop 24), List.all_append, w_t4, ← List.take_append_drop 24 ((((words1.drop 24).drop 24).drop 24).drop 24), List.all_append, w_t5, ← List.take_append_drop 24 (((((words1.drop 24).drop 24).drop 24).drop 24).drop 24), List.all_append, w_t6, ← List.take_append_drop 24 ((((((words1.drop 24).drop 24).drop 24).drop 24).drop 24).drop 24), List.all_append, w_t7, ← List.take_append_drop 24 (((((((words1.drop 24).drop 24).drop 24).drop 24).drop 24).drop 24).drop 24), List.all_append, w_t8, w_t9]
  rfl
set_option maxRecDepth 65536 in
theorem w_rest : rest_1_c.before args0 about1 = true := by decide +kernel
set_option maxRecDepth 65536 in
theorem w_case : (Jvm.Cond.and given_1 narrow_1).before args0 about1 = true := by decide +kernel
set_option maxRecDepth 65536 in
theorem w_consts : constsHeld consts_1 about1 := Jvm.Lit.constsHeldB_iff.mp (by decide +kernel)
theorem w_applies : (headSpec (Jvm.Cond.code x code maxLocals ret :: tables_1) room_1).applies x e0.platform about1 = true :=
  (Spec.applies_iff w_frames).mpr ⟨w_running, w_runnable, w_alone, w_named, w_hears, w_ripe, w_room, w_tables⟩
theorem atStart : AtStart classFile x code maxLocals ret World_1 tables_1 room_1 Calls_1 rest_1 Pre_1 launch0 p0 e0 about1 theMethod args0 below0 :=
  ⟨lists_1, trivial, launch0.admits_env _ _ _, launch0.least_env, fairChoices_fair.cas, fairChoices_fair.clock, w_frames, w_args, w_heap, w_applies, ⟨w_consts, trivial⟩, w_rest, w_case⟩
end start1
theorem witness_1 : WitnessClaimed_1 := ⟨start1.p0, start1.e0, start1.about1, start1.theMethod, start1.args0, start1.below0, start1.atStart⟩
end Jvm.Pilot.@@N@@
