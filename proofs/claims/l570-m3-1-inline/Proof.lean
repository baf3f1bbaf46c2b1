import JvmDerived
import JvmDerived.Pilot.@@N@@Statement
import JvmDerived.Pilot.@@N@@Code
set_option linter.unusedVariables false
set_option linter.unusedSimpArgs false
namespace Jvm.Own
open Jvm Jvm.ClassFile Sem Op Lib Jvm.Free Jvm.Stand Jvm.LawKit Jvm.RoadKit Bundle
/-- from pc, with these locals and this stack, over the heap h, the body runs to its return, and Q holds of what it returns and of the heap it leaves -/
def Go (l : Launch) (Z : State) (n0 : Nat) (R : Room) (own nm : String) (code : ByteArray) (mL : Nat) (ret : Option FieldType) (I : State → Heap → Prop) (F : State → Option Value → State → List Loc → Prop)
    (h : Heap) (cells slots pc : Nat) (Ls : Array Slot) (st : List Value) : Prop :=
  ∀ (p : Program) (e : Env) (s : State) (m : MethodId) (args : Array Value) (below : List Frame) (meth : Method) (c : Code) (T : State) (locs : List Loc),
    p.tables.exec = Jvm.exec → Z.Warmed39 s.vm → s.vm.findClass own = some m.cls → meth.name = nm → c.code = code → c.maxLocals = mL → meth.sig.returnType = ret → meth.locks = false →
    Stand p l e R s m args below meth c T locs cells slots → Fr n0 locs → T.heap = h → I s h →
    ∃ s₂ v L, Steps p.tables e below (T.setTop (mkF m pc Ls st)) s₂ ∧ s₂.status = .running ∧ Ended s₂ below (.returned v) ∧ F s v s₂ L
/-- nothing is asked beside -/
abbrev IN : State → Heap → Prop := fun _ _ => True
/-- the end of a walk that interns nothing -/
def FN (n0 : Nat) (R : Room) (Q : Option Value → Heap → Prop) : State → Option Value → State → List Loc → Prop := fun s v s₂ L => Fr n0 L ∧ Q v s₂.heap ∧ FrameEnd s (.returned v) s₂ L R.cells R.slots
/-- a body's contract: called with as' over the heap h0 it returns, and Q holds -/
def Ct (l : Launch) (Z : State) (n0 : Nat) (own nm ds : String) (ws : List Cond) (code : ByteArray) (mL : Nat) (ret : Option FieldType) (rm : Room) (as' : Array Value) (h0 : Heap) (Q : Option Value → Heap → Prop) : Prop :=
  MetFree l (⟨own, nm, ds⟩ : MethodName) (head1 (Cond.code (⟨own, nm, ds⟩ : MethodName) code mL ret :: ws) rm) (fun a U => a = as' ∧ Z.Warmed39 U.vm ∧ U.heap = h0) (fun _ _ _ _ _ => True)
    (fun _ U o U' => ∃ v L, o = .returned v ∧ (Fr n0 L ∧ Q v U'.heap) ∧ FrameEnd U o U' L rm.cells rm.slots)
theorem cat_ref {v : Value} (h : v.isRef = true) : v.category = 1 := by cases v <;> simp_all [Value.isRef, Value.category]
theorem fits_ref' {v : Value} {C : String} (h : v.isRef = true) : fits (.object C) v = true := by cases v <;> simp_all [Value.isRef, fits]
theorem st_at {Ls Ls' : Array Slot} {k : Nat} {v : Value} {o : Slot} (hold : Ls[k]? = some o) (ho : One o) (hv : v.category = 1) (e : Ls.setIfInBounds k (.val v) = Ls') : storeLocals Ls k v = some Ls' := by rw [XS.store1 hold ho hv, e]
/-- null, or an object of just that class -/
def Nul (Z : State) (h : Heap) (v : Value) (C : String) : Prop := v = .null ∨ ∃ a, v = .ref a ∧ Exa Z h a C
theorem Nul.keep {Z : State} {h h' : Heap} {v : Value} {C : String} {ws : List Addr} (F : Nul Z h v C) (K : Keep h h' ws) : Nul Z h' v C := F.imp id fun ⟨a, e, E⟩ => ⟨a, e, E.keep K⟩
theorem Nul.isRef {Z : State} {h : Heap} {v : Value} {C : String} (F : Nul Z h v C) : v.isRef = true := by rcases F with rfl | ⟨a, rfl, -⟩ <;> rfl
theorem Nul.ins {Z : State} {h : Heap} {v : Value} {C : String} (F : Nul Z h v C) : v = .null ∨ ∃ a, v = .ref a ∧ Ins Z h a C true := F.imp id fun ⟨a, e, E⟩ => ⟨a, e, Ins.self E⟩
/-- a private method of a class that can be made selects itself -/
theorem sel_priv {Z : State} {a0 : Array Value} {y : MethodName} {n : Nat} (wi : (Cond.instantiable y.cls n).before a0 Z = true) (wm : (Cond.instanceMethod y).before a0 Z = true) (wp : (Cond.privateMethod y).before a0 Z = true) (hy : y.cls ≠ "java/lang/invoke/MethodHandle" ∧ y.cls ≠ "java/lang/invoke/VarHandle") : (Cond.selects y.cls y y).before a0 Z = true := by
  obtain ⟨mk, meth, hnamed, hmeth, -, -⟩ := Cond.instanceMethod_spec wm
  obtain ⟨c, k, hc, hk, -, hi, -, -⟩ := Cond.instantiable_spec wi
  have hfound := State.methodFound?_of_named hnamed hy
  have hc' := findClass_of_methodNamed hnamed
  cases hc.symm.trans hc'
  have hsel : selectMethod {} Z.vm mk.cls mk = .method mk := selectMethod_private hmeth (Cond.privateMethod_at wp mk meth hnamed hmeth)
  have hni : k.isInterface = false := by simp only [Bool.or_eq_false_iff] at hi; exact hi.1
  simp [Cond.before, Cond.holds, Cond.value, hc', hfound, hnamed, hsel, hk, hni]
/-- a call that is paid: by whatever theorem -/
def Pays (l : Launch) (Z : State) (n0 : Nat) (R : Room) (y : MethodName) (len W : Nat) (as' : Array Value) (h : Heap) (kc ks : Nat) (Q : Option Value → Heap → Prop) : Prop :=
  ∀ (p : Program) (e : Env) (below : List Frame) (s : State) (args : Array Value), Z.Warmed39 s.vm →
    Back l R p e below s args y len W (fun A a => a = as' ∧ A.U.heap = h ∧ A.cells + kc ≤ R.cells ∧ A.slots + ks ≤ R.slots) (fun A _ v B => ∃ L, (Fr n0 L ∧ Q v B.U.heap) ∧ B.locs = A.locs ++ L ∧ B.cells = A.cells + kc ∧ B.slots = A.slots + ks)
theorem nI {h : Heap} {ws : List Addr} : ∀ (s : State) (h' : Heap), Keep h h' ws → IN s h → IN s h' := fun _ _ _ _ => trivial
theorem nE {h : Heap} : ∀ (s : State) (h' : Heap), Ext h h' → h.size < h'.size → IN s h → IN s h' := fun _ _ _ _ _ => trivial
theorem nQ {h : Heap} {Q : Option Value → Heap → Prop} : ∀ (v : Option Value) (s : State) (h' : Heap), Q v h' → IN s h → IN s h' := fun _ _ _ _ _ => trivial
section Go
variable {l : Launch} {Z : State} {n0 : Nat} {R : Room} {own nm : String} {code : ByteArray} {mL : Nat} {ret : Option FieldType} {Q : Option Value → Heap → Prop} {I I' : State → Heap → Prop} {F : State → Option Value → State → List Loc → Prop} {h : Heap} {cells slots pc : Nat} {Ls : Array Slot} {st rest : List Value} {a0 : Array Value}
theorem Ct.of_go {ds : String} {ws : List Cond} {rm : Room} {as' : Array Value} {h0 : Heap} (hp : plainFor (⟨own, nm, ds⟩ : MethodName) = true) (hef : ∀ m, entryFrame m as' mL = mkF m 0 Ls []) (hg : Go l Z n0 rm own nm code mL ret IN (FN n0 rm Q) h0 0 0 0 Ls []) : Ct l Z n0 own nm ds ws code mL ret rm as' h0 Q := by
  refine MetFree.of_bodySF hp hisR ?_
  intro p e s m args below meth c s₁ Bd hml hP hK
  obtain ⟨rfl, hZ, hh⟩ := hP
  have hown : s.vm.findClass own = some m.cls := findClass_of_methodNamed Bd.named
  have hnm := (name_of_methodNamed Bd.named Bd.method).1
  have X0 : Stand p l e rm s m args below meth c s₁ [] 0 0 := Stand.of_body Bd
  have e0 : s₁.heap = h0 := by rw [← hh, Bd.state]; rfl
  obtain ⟨s₂, v, L, h1, h2, h3, h4, h5, h6⟩ := hg p e s m args below meth c s₁ [] Bd.exec hZ hown hnm Bd.bytes hml Bd.returns Bd.notSynchronized X0 (Fr.nil n0) e0 trivial
  exact ⟨s₂, _, castTop (hef m) h1, h2, h3, v, L, rfl, ⟨h4, h5⟩, h6⟩
theorem Ct.mono {ds : String} {ws : List Cond} {rm : Room} {as' : Array Value} {h0 : Heap} {Q' : Option Value → Heap → Prop} (C : Ct l Z n0 own nm ds ws code mL ret rm as' h0 Q) (hq : ∀ v h, Q v h → Q' v h) : Ct l Z n0 own nm ds ws code mL ret rm as' h0 Q' := by
  intro p e ha hc hk s m args below hf happ hP hK
  obtain ⟨n, o, h1, h2, h3, v, L, h4, ⟨h5, h6⟩, h7⟩ := C p e ha hc hk s m args below hf happ hP hK
  exact ⟨n, o, h1, h2, h3, v, L, h4, ⟨h5, hq _ _ h6⟩, h7⟩
theorem Go.more {cells' slots' : Nat} (hg : Go l Z n0 R own nm code mL ret I F h cells' slots' pc Ls st) (hc : cells ≤ cells') (hs : slots ≤ slots') : Go l Z n0 R own nm code mL ret I F h cells slots pc Ls st := by
  intro p e s m args below meth c T locs hx hZ ho hn hc' hm hr hk X N eT hJ
  exact hg p e s m args below meth c T locs hx hZ ho hn hc' hm hr hk (X.more hc hs) N eT hJ
theorem Go.castL {Ls' : Array Slot} (q : Ls = Ls') (hg : Go l Z n0 R own nm code mL ret I F h cells slots pc Ls' st) : Go l Z n0 R own nm code mL ret I F h cells slots pc Ls st := q ▸ hg
/-- a step that leaves the heap as it is -/
theorem Go.pure {pc' : Nat} {Ls' : Array Slot} {st' : List Value}
    (H : ∀ {p : Program} {e : Env} {s : State} {m : MethodId} {args : Array Value} {below : List Frame} {meth : Method} {c : Code} {T : State} {locs : List Loc} {target : State}, p.tables.exec = Jvm.exec → Z.Warmed39 s.vm → s.vm.findClass own = some m.cls → c.code = code →
      Stand p l e R s m args below meth c T locs cells slots → T.heap = h → Steps p.tables e below (T.setTop (mkF m pc' Ls' st')) target → Steps p.tables e below (T.setTop (mkF m pc Ls st)) target)
    (hr : Go l Z n0 R own nm code mL ret I F h cells slots pc' Ls' st') : Go l Z n0 R own nm code mL ret I F h cells slots pc Ls st := by
  intro p e s m args below meth c T locs hx hZ ho hn hc hm hr' hk X N eT hJ
  obtain ⟨s₂, v, L, h1, r⟩ := hr p e s m args below meth c T locs hx hZ ho hn hc hm hr' hk X N eT hJ
  exact ⟨s₂, v, L, H hx hZ ho hc X eT h1, r⟩
/-- a step over the tables that leaves the heap as it is -/
theorem Go.warm {pc' : Nat} {Ls' : Array Slot} {st' : List Value}
    (H : ∀ {p : Program} {e : Env} {s : State} {m : MethodId} {args : Array Value} {below : List Frame} {meth : Method} {c : Code} {T : State} {locs : List Loc}, p.tables.exec = Jvm.exec → Z.Warmed39 s.vm → s.vm.findClass own = some m.cls → c.code = code → c.maxLocals = mL →
      Stand p l e R s m args below meth c T locs cells slots → T.heap = h → ∃ T', Stand p l e R s m args below meth c T' locs cells slots ∧ T'.heap = h ∧ ∀ target, Steps p.tables e below (T'.setTop (mkF m pc' Ls' st')) target → Steps p.tables e below (T.setTop (mkF m pc Ls st)) target)
    (hr : Go l Z n0 R own nm code mL ret I F h cells slots pc' Ls' st') : Go l Z n0 R own nm code mL ret I F h cells slots pc Ls st := by
  intro p e s m args below meth c T locs hx hZ ho hn hc hm hr' hk X N eT hJ
  obtain ⟨T', X', e', stp⟩ := H hx hZ ho hc hm X eT
  obtain ⟨s₂, v, L, h1, r⟩ := hr p e s m args below meth c T' locs hx hZ ho hn hc hm hr' hk X' N e' hJ
  exact ⟨s₂, v, L, stp _ h1, r⟩
/-! plain steps -/
theorem Go.iloadN {k : Fin 4} {v : Int32} (hd : decode code pc = .ok (.iload_n k, 1)) (hl : Ls[k.val]? = some (.val (.int v))) (hr : Go l Z n0 R own nm code mL ret I F h cells slots (pc + 1) Ls (.int v :: st)) : Go l Z n0 R own nm code mL ret I F h cells slots pc Ls st := Go.pure (fun hx _ _ hc X _ k => XS.iloadN X.here hx rfl (hb hc hd) hl k) hr
theorem Go.iload {k : Nat} {v : Int32} (hd : decode code pc = .ok (.iload k, 2)) (hl : Ls[k]? = some (.val (.int v))) (hr : Go l Z n0 R own nm code mL ret I F h cells slots (pc + 2) Ls (.int v :: st)) : Go l Z n0 R own nm code mL ret I F h cells slots pc Ls st := Go.pure (fun hx _ _ hc X _ k => XS.iload X.here hx rfl (hb hc hd) hl k) hr
theorem Go.lloadN {k : Fin 4} {v : Int64} (hd : decode code pc = .ok (.lload_n k, 1)) (hl : Ls[k.val]? = some (.val (.long v))) (hr : Go l Z n0 R own nm code mL ret I F h cells slots (pc + 1) Ls (.long v :: st)) : Go l Z n0 R own nm code mL ret I F h cells slots pc Ls st := Go.pure (fun hx _ _ hc X _ k => XT.lloadN X.here hx rfl (hb hc hd) hl k) hr
theorem Go.lload {k : Nat} {v : Int64} (hd : decode code pc = .ok (.lload k, 2)) (hl : Ls[k]? = some (.val (.long v))) (hr : Go l Z n0 R own nm code mL ret I F h cells slots (pc + 2) Ls (.long v :: st)) : Go l Z n0 R own nm code mL ret I F h cells slots pc Ls st := Go.pure (fun hx _ _ hc X _ k => XT.lload X.here hx rfl (hb hc hd) hl k) hr
theorem Go.aloadN {k : Fin 4} {v : Value} (hd : decode code pc = .ok (.aload_n k, 1)) (hl : Ls[k.val]? = some (.val v)) (hv : v.isRef = true) (hr : Go l Z n0 R own nm code mL ret I F h cells slots (pc + 1) Ls (v :: st)) : Go l Z n0 R own nm code mL ret I F h cells slots pc Ls st := Go.pure (fun hx _ _ hc X _ k => XS.aloadN X.here hx rfl (hb hc hd) hl hv k) hr
theorem Go.aload {k : Nat} {v : Value} (hd : decode code pc = .ok (.aload k, 2)) (hl : Ls[k]? = some (.val v)) (hv : v.isRef = true) (hr : Go l Z n0 R own nm code mL ret I F h cells slots (pc + 2) Ls (v :: st)) : Go l Z n0 R own nm code mL ret I F h cells slots pc Ls st := Go.pure (fun hx _ _ hc X _ k => XS.aload X.here hx rfl (hb hc hd) hl hv k) hr
theorem Go.istoreN {k : Fin 4} {x : Int32} {Ls' : Array Slot} (hd : decode code pc = .ok (.istore_n k, 1)) (hl : storeLocals Ls k.val (.int x) = some Ls') (hr : Go l Z n0 R own nm code mL ret I F h cells slots (pc + 1) Ls' st) : Go l Z n0 R own nm code mL ret I F h cells slots pc Ls (.int x :: st) := Go.pure (fun hx _ _ hc X _ k => XS.istoreN X.here hx rfl (hb hc hd) rfl hl k) hr
theorem Go.istore {k : Nat} {x : Int32} {Ls' : Array Slot} (hd : decode code pc = .ok (.istore k, 2)) (hl : storeLocals Ls k (.int x) = some Ls') (hr : Go l Z n0 R own nm code mL ret I F h cells slots (pc + 2) Ls' st) : Go l Z n0 R own nm code mL ret I F h cells slots pc Ls (.int x :: st) := Go.pure (fun hx _ _ hc X _ k => XS.istore X.here hx rfl (hb hc hd) rfl hl k) hr
theorem Go.lstoreN {k : Fin 4} {x : Int64} {Ls' : Array Slot} (hd : decode code pc = .ok (.lstore_n k, 1)) (hl : storeLocals Ls k.val (.long x) = some Ls') (hr : Go l Z n0 R own nm code mL ret I F h cells slots (pc + 1) Ls' st) : Go l Z n0 R own nm code mL ret I F h cells slots pc Ls (.long x :: st) := Go.pure (fun hx _ _ hc X _ k => XT.lstoreN X.here hx rfl (hb hc hd) rfl hl k) hr
theorem Go.lstore {k : Nat} {x : Int64} {Ls' : Array Slot} (hd : decode code pc = .ok (.lstore k, 2)) (hl : storeLocals Ls k (.long x) = some Ls') (hr : Go l Z n0 R own nm code mL ret I F h cells slots (pc + 2) Ls' st) : Go l Z n0 R own nm code mL ret I F h cells slots pc Ls (.long x :: st) := Go.pure (fun hx _ _ hc X _ k => XT.lstore X.here hx rfl (hb hc hd) rfl hl k) hr
theorem Go.astoreN {k : Fin 4} {x : Value} {Ls' : Array Slot} (hd : decode code pc = .ok (.astore_n k, 1)) (hv : x.isRef = true) (hl : storeLocals Ls k.val x = some Ls') (hr : Go l Z n0 R own nm code mL ret I F h cells slots (pc + 1) Ls' st) : Go l Z n0 R own nm code mL ret I F h cells slots pc Ls (x :: st) := Go.pure (fun hx _ _ hc X _ k => XS.astoreN X.here hx rfl (hb hc hd) rfl hv hl k) hr
theorem Go.astore {k : Nat} {x : Value} {Ls' : Array Slot} (hd : decode code pc = .ok (.astore k, 2)) (hv : x.isRef = true) (hl : storeLocals Ls k x = some Ls') (hr : Go l Z n0 R own nm code mL ret I F h cells slots (pc + 2) Ls' st) : Go l Z n0 R own nm code mL ret I F h cells slots pc Ls (x :: st) := Go.pure (fun hx _ _ hc X _ k => XS.astore X.here hx rfl (hb hc hd) rfl hv hl k) hr
theorem Go.iconst {i : Int} (z : Int32) (hd : decode code pc = .ok (.iconst i, 1)) (hz : Int32.ofInt i = z) (hr : Go l Z n0 R own nm code mL ret I F h cells slots (pc + 1) Ls (.int z :: st)) : Go l Z n0 R own nm code mL ret I F h cells slots pc Ls st := by subst hz; exact Go.pure (fun hx _ _ hc X _ k => XS.iconst X.here hx rfl (hb hc hd) k) hr
theorem Go.bipush {i : Int} (z : Int32) (hd : decode code pc = .ok (.bipush i, 2)) (hz : (Int8.ofInt i).toInt32 = z) (hr : Go l Z n0 R own nm code mL ret I F h cells slots (pc + 2) Ls (.int z :: st)) : Go l Z n0 R own nm code mL ret I F h cells slots pc Ls st := by subst hz; exact Go.pure (fun hx _ _ hc X _ k => XS.bipush X.here hx rfl (hb hc hd) k) hr
theorem Go.sipush {i : Int} (z : Int32) (hd : decode code pc = .ok (.sipush i, 3)) (hz : (Int16.ofInt i).toInt32 = z) (hr : Go l Z n0 R own nm code mL ret I F h cells slots (pc + 3) Ls (.int z :: st)) : Go l Z n0 R own nm code mL ret I F h cells slots pc Ls st := by subst hz; exact Go.pure (fun hx _ _ hc X _ k => XS.sipush X.here hx rfl (hb hc hd) k) hr
theorem Go.null (hd : decode code pc = .ok (.aconst_null, 1)) (hr : Go l Z n0 R own nm code mL ret I F h cells slots (pc + 1) Ls (.null :: st)) : Go l Z n0 R own nm code mL ret I F h cells slots pc Ls st := Go.pure (fun hx _ _ hc X _ k => XS.aconstNull X.here hx rfl (hb hc hd) k) hr
theorem Go.iadd {x y : Int32} (hd : decode code pc = .ok (.iadd, 1)) (hr : Go l Z n0 R own nm code mL ret I F h cells slots (pc + 1) Ls (.int (x + y) :: st)) : Go l Z n0 R own nm code mL ret I F h cells slots pc Ls (.int y :: .int x :: st) := Go.pure (fun hx _ _ hc X _ k => XS.iadd X.here hx rfl (hb hc hd) rfl k) hr
theorem Go.isub {x y : Int32} (hd : decode code pc = .ok (.isub, 1)) (hr : Go l Z n0 R own nm code mL ret I F h cells slots (pc + 1) Ls (.int (x - y) :: st)) : Go l Z n0 R own nm code mL ret I F h cells slots pc Ls (.int y :: .int x :: st) := Go.pure (fun hx _ _ hc X _ k => XS.isub X.here hx rfl (hb hc hd) rfl k) hr
theorem Go.imul {x y : Int32} (hd : decode code pc = .ok (.imul, 1)) (hr : Go l Z n0 R own nm code mL ret I F h cells slots (pc + 1) Ls (.int (x * y) :: st)) : Go l Z n0 R own nm code mL ret I F h cells slots pc Ls (.int y :: .int x :: st) := Go.pure (fun hx _ _ hc X _ k => XS.imul X.here hx rfl (hb hc hd) rfl k) hr
theorem Go.idiv {x y : Int32} (hd : decode code pc = .ok (.idiv, 1)) (hy : y ≠ 0) (hr : Go l Z n0 R own nm code mL ret I F h cells slots (pc + 1) Ls (.int (x / y) :: st)) : Go l Z n0 R own nm code mL ret I F h cells slots pc Ls (.int y :: .int x :: st) := Go.pure (fun hx _ _ hc X _ k => XS.idiv X.here hx rfl (hb hc hd) rfl hy k) hr
theorem Go.irem {x y : Int32} (hd : decode code pc = .ok (.irem, 1)) (hy : y ≠ 0) (hr : Go l Z n0 R own nm code mL ret I F h cells slots (pc + 1) Ls (.int (x % y) :: st)) : Go l Z n0 R own nm code mL ret I F h cells slots pc Ls (.int y :: .int x :: st) := Go.pure (fun hx _ _ hc X _ k => iremM X hx (g := mkF _ pc Ls _) rfl (hb hc hd) rfl hy k) hr
theorem Go.ineg {x : Int32} (hd : decode code pc = .ok (.ineg, 1)) (hr : Go l Z n0 R own nm code mL ret I F h cells slots (pc + 1) Ls (.int (-x) :: st)) : Go l Z n0 R own nm code mL ret I F h cells slots pc Ls (.int x :: st) := Go.pure (fun hx _ _ hc X _ k => XS.ineg X.here hx rfl (hb hc hd) rfl k) hr
theorem Go.iand {x y : Int32} (hd : decode code pc = .ok (.iand, 1)) (hr : Go l Z n0 R own nm code mL ret I F h cells slots (pc + 1) Ls (.int (x &&& y) :: st)) : Go l Z n0 R own nm code mL ret I F h cells slots pc Ls (.int y :: .int x :: st) := Go.pure (fun hx _ _ hc X _ k => XS.iand X.here hx rfl (hb hc hd) rfl k) hr
theorem Go.ior {x y : Int32} (hd : decode code pc = .ok (.ior, 1)) (hr : Go l Z n0 R own nm code mL ret I F h cells slots (pc + 1) Ls (.int (x ||| y) :: st)) : Go l Z n0 R own nm code mL ret I F h cells slots pc Ls (.int y :: .int x :: st) := Go.pure (fun hx _ _ hc X _ k => XT.ior X.here hx rfl (hb hc hd) rfl k) hr
theorem Go.ixor {x y : Int32} (hd : decode code pc = .ok (.ixor, 1)) (hr : Go l Z n0 R own nm code mL ret I F h cells slots (pc + 1) Ls (.int (x ^^^ y) :: st)) : Go l Z n0 R own nm code mL ret I F h cells slots pc Ls (.int y :: .int x :: st) := Go.pure (fun hx _ _ hc X _ k => XT.ixor X.here hx rfl (hb hc hd) rfl k) hr
theorem Go.ishl {x y : Int32} (hd : decode code pc = .ok (.ishl, 1)) (hr : Go l Z n0 R own nm code mL ret I F h cells slots (pc + 1) Ls (.int (x <<< (y &&& 31)) :: st)) : Go l Z n0 R own nm code mL ret I F h cells slots pc Ls (.int y :: .int x :: st) := Go.pure (fun hx _ _ hc X _ k => XT.ishl X.here hx rfl (hb hc hd) rfl k) hr
theorem Go.ishr {x y : Int32} (hd : decode code pc = .ok (.ishr, 1)) (hr : Go l Z n0 R own nm code mL ret I F h cells slots (pc + 1) Ls (.int (x >>> (y &&& 31)) :: st)) : Go l Z n0 R own nm code mL ret I F h cells slots pc Ls (.int y :: .int x :: st) := Go.pure (fun hx _ _ hc X _ k => XT.ishr X.here hx rfl (hb hc hd) rfl k) hr
theorem Go.iushr {x y : Int32} (hd : decode code pc = .ok (.iushr, 1)) (hr : Go l Z n0 R own nm code mL ret I F h cells slots (pc + 1) Ls (.int ((x.toUInt32 >>> (y &&& 31).toUInt32).toInt32) :: st)) : Go l Z n0 R own nm code mL ret I F h cells slots pc Ls (.int y :: .int x :: st) := Go.pure (fun hx _ _ hc X _ k => XT.iushr X.here hx rfl (hb hc hd) rfl k) hr
theorem Go.i2c {x : Int32} (hd : decode code pc = .ok (.i2c, 1)) (hr : Go l Z n0 R own nm code mL ret I F h cells slots (pc + 1) Ls (.int x.toUInt32.toUInt16.toUInt32.toInt32 :: st)) : Go l Z n0 R own nm code mL ret I F h cells slots pc Ls (.int x :: st) := Go.pure (fun hx _ _ hc X _ k => XT.i2c X.here hx rfl (hb hc hd) rfl k) hr
theorem Go.i2b {x : Int32} (hd : decode code pc = .ok (.i2b, 1)) (hr : Go l Z n0 R own nm code mL ret I F h cells slots (pc + 1) Ls (.int x.toInt8.toInt32 :: st)) : Go l Z n0 R own nm code mL ret I F h cells slots pc Ls (.int x :: st) := Go.pure (fun hx _ _ hc X _ k => XT.i2b X.here hx rfl (hb hc hd) rfl k) hr
theorem Go.i2s {x : Int32} (hd : decode code pc = .ok (.i2s, 1)) (hr : Go l Z n0 R own nm code mL ret I F h cells slots (pc + 1) Ls (.int x.toInt16.toInt32 :: st)) : Go l Z n0 R own nm code mL ret I F h cells slots pc Ls (.int x :: st) := Go.pure (fun hx _ _ hc X _ k => XT.i2s X.here hx rfl (hb hc hd) rfl k) hr
theorem Go.iinc {k : Nat} {cst : Int} {x : Int32} {Ls' : Array Slot} (z : Int32) (hz : Int32.ofInt cst = z) (hd : decode code pc = .ok (.iinc k cst, 3)) (hl : Ls[k]? = some (.val (.int x))) (hl' : storeLocals Ls k (.int (x + z)) = some Ls') (hr : Go l Z n0 R own nm code mL ret I F h cells slots (pc + 3) Ls' st) : Go l Z n0 R own nm code mL ret I F h cells slots pc Ls st := by subst hz; exact Go.pure (fun hx _ _ hc X _ k => XS.iinc X.here hx rfl (hb hc hd) hl hl' k) hr
theorem Go.dup {x : Value} (hd : decode code pc = .ok (.dup, 1)) (hc : x.category = 1) (hr : Go l Z n0 R own nm code mL ret I F h cells slots (pc + 1) Ls (x :: x :: st)) : Go l Z n0 R own nm code mL ret I F h cells slots pc Ls (x :: st) := Go.pure (fun hx _ _ hc' X _ k => XS.dup X.here hx rfl (hb hc' hd) rfl hc k) hr
theorem Go.pop {x : Value} (hd : decode code pc = .ok (.pop, 1)) (hc : x.category = 1) (hr : Go l Z n0 R own nm code mL ret I F h cells slots (pc + 1) Ls st) : Go l Z n0 R own nm code mL ret I F h cells slots pc Ls (x :: st) := Go.pure (fun hx _ _ hc' X _ k => XT.pop X.here hx rfl (hb hc' hd) rfl hc k) hr
theorem Go.dupX1 {x y : Value} (hd : decode code pc = .ok (.dup_x1, 1)) (hc : x.category = 1) (hc2 : y.category = 1) (hr : Go l Z n0 R own nm code mL ret I F h cells slots (pc + 1) Ls (x :: y :: x :: st)) : Go l Z n0 R own nm code mL ret I F h cells slots pc Ls (x :: y :: st) := Go.pure (fun hx _ _ hc' X _ k => XT.dupX1 X.here hx rfl (hb hc' hd) rfl hc hc2 k) hr
theorem Go.dup2 {x y : Value} (hd : decode code pc = .ok (.dup2, 1)) (hc : x.category = 1) (hc2 : y.category = 1) (hr : Go l Z n0 R own nm code mL ret I F h cells slots (pc + 1) Ls (x :: y :: x :: y :: st)) : Go l Z n0 R own nm code mL ret I F h cells slots pc Ls (x :: y :: st) := Go.pure (fun hx _ _ hc' X _ k => XT.dup2 X.here hx rfl (hb hc' hd) rfl hc hc2 k) hr
/-! branches -/
theorem Go.goto {o : Int} (pc' : Nat) (hd : decode code pc = .ok (.goto o, 3)) (ho : 0 ≤ (pc : Int) + o) (hp : ((pc : Int) + o).toNat = pc') (hr : Go l Z n0 R own nm code mL ret I F h cells slots pc' Ls st) : Go l Z n0 R own nm code mL ret I F h cells slots pc Ls st := Go.pure (fun hx _ _ hc X _ k => XS.goto X.here hx rfl (pc0 := pc) rfl (hb hc hd) ho hp k) hr
theorem Go.ifT {cd : ClassFile.Cond} {x : Int32} {o : Int} (pc' : Nat) (hd : decode code pc = .ok (.ifCond cd o, 3)) (hc : if_icmp.holds cd x 0 = true) (ho : 0 ≤ (pc : Int) + o) (hp : ((pc : Int) + o).toNat = pc') (hr : Go l Z n0 R own nm code mL ret I F h cells slots pc' Ls st) : Go l Z n0 R own nm code mL ret I F h cells slots pc Ls (.int x :: st) := Go.pure (fun hx _ _ hc' X _ k => XS.ifYes X.here hx rfl (pc0 := pc) rfl (hb hc' hd) rfl ((if0 _ _).trans hc) ho hp k) hr
theorem Go.ifF {cd : ClassFile.Cond} {x : Int32} {o : Int} (hd : decode code pc = .ok (.ifCond cd o, 3)) (hc : if_icmp.holds cd x 0 = false) (hr : Go l Z n0 R own nm code mL ret I F h cells slots (pc + 3) Ls st) : Go l Z n0 R own nm code mL ret I F h cells slots pc Ls (.int x :: st) := Go.pure (fun hx _ _ hc' X _ k => XS.ifNo X.here hx rfl (hb hc' hd) rfl ((if0 _ _).trans hc) k) hr
theorem Go.icT {cd : ClassFile.Cond} {x y : Int32} {o : Int} (pc' : Nat) (hd : decode code pc = .ok (.if_icmp cd o, 3)) (hc : if_icmp.holds cd x y = true) (ho : 0 ≤ (pc : Int) + o) (hp : ((pc : Int) + o).toNat = pc') (hr : Go l Z n0 R own nm code mL ret I F h cells slots pc' Ls st) : Go l Z n0 R own nm code mL ret I F h cells slots pc Ls (.int y :: .int x :: st) := Go.pure (fun hx _ _ hc' X _ k => XS.icmpYes X.here hx rfl (pc0 := pc) rfl (hb hc' hd) rfl hc ho hp k) hr
theorem Go.icF {cd : ClassFile.Cond} {x y : Int32} {o : Int} (hd : decode code pc = .ok (.if_icmp cd o, 3)) (hc : if_icmp.holds cd x y = false) (hr : Go l Z n0 R own nm code mL ret I F h cells slots (pc + 3) Ls st) : Go l Z n0 R own nm code mL ret I F h cells slots pc Ls (.int y :: .int x :: st) := Go.pure (fun hx _ _ hc' X _ k => XS.icmpNo X.here hx rfl (hb hc' hd) rfl hc k) hr
theorem Go.nullT {o : Int} (pc' : Nat) (hd : decode code pc = .ok (.ifnull o, 3)) (ho : 0 ≤ (pc : Int) + o) (hp : ((pc : Int) + o).toNat = pc') (hr : Go l Z n0 R own nm code mL ret I F h cells slots pc' Ls st) : Go l Z n0 R own nm code mL ret I F h cells slots pc Ls (.null :: st) := Go.pure (fun hx _ _ hc' X _ k => XS.ifnullYes X.here hx rfl (pc0 := pc) rfl (hb hc' hd) rfl ho hp k) hr
theorem Go.nullF {o : Int} {b : Addr} (hd : decode code pc = .ok (.ifnull o, 3)) (hr : Go l Z n0 R own nm code mL ret I F h cells slots (pc + 3) Ls st) : Go l Z n0 R own nm code mL ret I F h cells slots pc Ls (.ref b :: st) := Go.pure (fun hx _ _ hc' X _ k => XS.ifnullNo X.here hx rfl (hb hc' hd) rfl k) hr
theorem Go.nnT {o : Int} {b : Addr} (pc' : Nat) (hd : decode code pc = .ok (.ifnonnull o, 3)) (ho : 0 ≤ (pc : Int) + o) (hp : ((pc : Int) + o).toNat = pc') (hr : Go l Z n0 R own nm code mL ret I F h cells slots pc' Ls st) : Go l Z n0 R own nm code mL ret I F h cells slots pc Ls (.ref b :: st) := Go.pure (fun hx _ _ hc' X _ k => XT.ifnonnullYes X.here hx rfl (pc0 := pc) rfl (hb hc' hd) rfl ho hp k) hr
theorem Go.nnF {o : Int} (hd : decode code pc = .ok (.ifnonnull o, 3)) (hr : Go l Z n0 R own nm code mL ret I F h cells slots (pc + 3) Ls st) : Go l Z n0 R own nm code mL ret I F h cells slots pc Ls (.null :: st) := Go.pure (fun hx _ _ hc' X _ k => XT.ifnonnullNo X.here hx rfl (hb hc' hd) rfl k) hr
theorem Go.acmp {cd : ACond} {x y : Value} {o : Int} (pc' : Nat) (same : Bool) (hd : decode code pc = .ok (.if_acmp cd o, 3)) (h1 : x.isRef = true) (h2 : y.isRef = true) (hq : decide (x = y) = same) (ho : 0 ≤ (pc : Int) + o) (hp : pc' = if acV cd same = true then ((pc : Int) + o).toNat else pc + 3) (hr : Go l Z n0 R own nm code mL ret I F h cells slots pc' Ls st) : Go l Z n0 R own nm code mL ret I F h cells slots pc Ls (y :: x :: st) :=
  Go.pure (fun hx _ _ hc' X _ k => Jvm.RoadKit.acmp (g := mkF _ pc Ls _) X hx rfl h1 h2 (pc0 := pc) (same := same) rfl (hb hc' hd) rfl hq ho hp k) hr
/-! constants of the pool -/
theorem Go.ldc {index : Nat} {v : Int32} (w : (Cond.constant own index v).before a0 Z = true) (hd : decode code pc = .ok (.ldc index, 2)) (hr : Go l Z n0 R own nm code mL ret I F h cells slots (pc + 2) Ls (.int v :: st)) : Go l Z n0 R own nm code mL ret I F h cells slots pc Ls st := Go.pure (fun hx hZ ho hc X _ k => X.ldcInt hx ho (mvT hZ w) (g := mkF _ pc Ls st) rfl (hb hc hd) _ k) hr
theorem Go.ldcw {index : Nat} {v : Int32} (w : (Cond.constant own index v).before a0 Z = true) (hd : decode code pc = .ok (.ldc_w index, 3)) (hr : Go l Z n0 R own nm code mL ret I F h cells slots (pc + 3) Ls (.int v :: st)) : Go l Z n0 R own nm code mL ret I F h cells slots pc Ls st := Go.pure (fun hx hZ ho hc X _ k => X.ldcwInt hx ho (mvT hZ w) (g := mkF _ pc Ls st) rfl (hb hc hd) _ k) hr
/-! fields -/
theorem Go.getF {R0 O n d : String} {index : Nat} {a : Addr} {v : Value} (w : (Cond.fieldLink own index R0 n d).before a0 Z = true) (via : Via Z R0 O n d) (FF : Fld Z h a O n d v) (hd : decode code pc = .ok (.getfield index, 3)) (hr : Go l Z n0 R own nm code mL ret I F h cells slots (pc + 3) Ls (v :: st)) : Go l Z n0 R own nm code mL ret I F h cells slots pc Ls (.ref a :: st) :=
  Go.warm (fun hx hZ ho hc _ X eT => Jvm.RoadKit.getF X hx hZ ho (host := "") (Or.inl w) via eT FF (g := mkF _ pc Ls _) rfl rfl (hb hc hd)) hr
theorem Go.getFN {R0 O n d host : String} {index : Nat} {a : Addr} {v : Value} (w : (Cond.fieldLinkNest own index R0 n d host).before a0 Z = true) (via : Via Z R0 O n d) (FF : Fld Z h a O n d v) (hd : decode code pc = .ok (.getfield index, 3)) (hr : Go l Z n0 R own nm code mL ret I F h cells slots (pc + 3) Ls (v :: st)) : Go l Z n0 R own nm code mL ret I F h cells slots pc Ls (.ref a :: st) :=
  Go.warm (fun hx hZ ho hc _ X eT => Jvm.RoadKit.getF X hx hZ ho (Or.inr w) via eT FF (g := mkF _ pc Ls _) rfl rfl (hb hc hd)) hr
theorem Go.getS {R0 O n d : String} {index : Nat} {v : Value} (w : (Cond.fieldLink own index R0 n d).before a0 Z = true) (via : Via Z R0 O n d) (FF : Sta Z h O n d v) (hd : decode code pc = .ok (.getstatic index, 3)) (hr : Go l Z n0 R own nm code mL ret I F h cells slots (pc + 3) Ls (v :: st)) : Go l Z n0 R own nm code mL ret I F h cells slots pc Ls st :=
  Go.warm (fun hx hZ ho hc _ X eT => Jvm.RoadKit.getS2 X hx hZ ho (host := "") (Or.inl w) via eT FF (g := mkF _ pc Ls st) rfl (hb hc hd)) hr
theorem Go.putF {R0 O n d C : String} {index kk : Nat} {ty : FieldType} {a : Addr} {v old : Value} (w : (Cond.fieldLink own index R0 n d).before a0 Z = true) (via : Via Z R0 O n d) (FF : Fld Z h a O n d old) (E : Exa Z h a C) (L : (Cond.lays C O n d).before a0 Z = true ∨ ((Cond.laysFinal C O n d).before a0 Z = true ∧ own = O ∧ nm = "<init>")) (wi : (Cond.instantiable C kk).before a0 Z = true)
    (hty : parseFieldDescriptor d = some ty) (hnw : narrow ty v = v) (hf : fits ty v = true) (q : n0 ≤ a) (hd : decode code pc = .ok (.putfield index, 3)) (hI : ∀ (s : State) (h' : Heap), Keep h h' [a] → I s h → I' s h') (hr : ∀ h', Wr h h' a (Jvm.RoadKit.slotOf Z O n d) v → Go l Z n0 R own nm code mL ret I' F h' cells slots (pc + 3) Ls st) : Go l Z n0 R own nm code mL ret I F h cells slots pc Ls (v :: .ref a :: st) := by
  intro p e s m args below meth c T locs hx hZ ho hn hc hm hr' hk X N eT hJ
  obtain ⟨T', h', X', e', W', stp⟩ := Jvm.RoadKit.putF X hx hZ ho (host := "") (Or.inl w) via eT FF E (L.imp id fun z => ⟨z.1, z.2.1, hn.trans z.2.2⟩) wi hty hnw hf (g := mkF m pc Ls (v :: .ref a :: st)) rfl rfl (hb hc hd)
  obtain ⟨s₂, v, L, h1, r⟩ := hr h' W' p e s m args below meth c T' _ hx hZ ho hn hc hm hr' hk X' (Fr.snoc X' N q) e' (hI s h' (Keep.of_wr W') hJ)
  exact ⟨s₂, v, L, stp _ h1, r⟩
/-- a field of a narrow kind -/
theorem Go.putFN {R0 O n d C : String} {index kk : Nat} {ty : FieldType} {a : Addr} {v v' old : Value} (w : (Cond.fieldLink own index R0 n d).before a0 Z = true) (via : Via Z R0 O n d) (FF : Fld Z h a O n d old) (E : Exa Z h a C) (L : (Cond.lays C O n d).before a0 Z = true ∨ ((Cond.laysFinal C O n d).before a0 Z = true ∧ own = O ∧ nm = "<init>")) (wi : (Cond.instantiable C kk).before a0 Z = true)
    (hty : parseFieldDescriptor d = some ty) (hnw : narrow ty v = v') (hf : fits ty v' = true) (q : n0 ≤ a) (hd : decode code pc = .ok (.putfield index, 3)) (hI : ∀ (s : State) (h' : Heap), Keep h h' [a] → I s h → I' s h') (hr : ∀ h', Wr h h' a (Jvm.RoadKit.slotOf Z O n d) v' → Go l Z n0 R own nm code mL ret I' F h' cells slots (pc + 3) Ls st) : Go l Z n0 R own nm code mL ret I F h cells slots pc Ls (v :: .ref a :: st) := by
  intro p e s m args below meth c T locs hx hZ ho hn hc hm hr' hk X N eT hJ
  obtain ⟨T', h', X', e', W', stp⟩ := Jvm.RoadKit.putFN X hx hZ ho w via eT FF E (L.imp id fun z => ⟨z.1, z.2.1, hn.trans z.2.2⟩) wi hty hnw hf (g := mkF m pc Ls (v :: .ref a :: st)) rfl rfl (hb hc hd)
  obtain ⟨s₂, v, L, h1, r⟩ := hr h' W' p e s m args below meth c T' _ hx hZ ho hn hc hm hr' hk X' (Fr.snoc X' N q) e' (hI s h' (Keep.of_wr W') hJ)
  exact ⟨s₂, v, L, stp _ h1, r⟩
/-! making -/
theorem Go.new {C : String} {index n : Nat} (w : (Cond.classLink own index C).before a0 Z = true) (wi : (Cond.instantiable C n).before a0 Z = true) (wz : (Cond.initialized C).before a0 Z = true) (hd : decode code pc = .ok (.new index, 3)) (hc1 : cells + 1 ≤ R.cells) (hl : slots + n ≤ R.slots)
    (hI : ∀ (s : State) (h' : Heap), Ext h h' → h.size < h'.size → I s h → I' s h') (hr : ∀ (h' : Heap) (b : Addr), b = h.size → Ext h h' → Exa Z h' b C → (∀ {O nm d : String} {ty : FieldType}, Laid Z a0 C O nm d → parseFieldDescriptor d = some ty → Fld Z h' b O nm d (defaultValue ty)) → Go l Z n0 R own nm code mL ret I' F h' (cells + 1) (slots + n) (pc + 3) Ls (.ref b :: st)) : Go l Z n0 R own nm code mL ret I F h cells slots pc Ls st := by
  intro p e s m args below meth c T locs hx hZ ho hn hc hm hr' hk X N eT hJ
  obtain ⟨T', h', X', e', E', A', D', -, stp⟩ := newO X hx hZ ho w wi wz eT (g := mkF m pc Ls st) rfl (hb hc hd) hc1 hl
  obtain ⟨s₂, v, L, h1, r⟩ := hr h' _ rfl E' A' D' p e s m args below meth c T' _ hx hZ ho hn hc hm hr' hk X' N e' (hI s h' E' A'.lt hJ)
  exact ⟨s₂, v, L, stp _ h1, r⟩
theorem Go.newP {aty : ArrayType} (ty : FieldType) {n : Int32} (w : (Cond.arrayClass ty).before a0 Z = true) (hty : newarray.typeOf aty = ty) (hd : decode code pc = .ok (.newarray aty, 2)) (hn0 : ¬ n < 0) (cap : Nat) (hcap : n.toNatClampNeg ≤ cap) (hb0 : cap * 8 ≤ 536870912) (hc1 : cells + 1 ≤ R.cells) (hl : slots + cap ≤ R.slots)
    (hI : ∀ (s : State) (h' : Heap), Ext h h' → h.size < h'.size → I s h → I' s h') (hr : ∀ (h' : Heap) (b : Addr) (k : ClassId), b = h.size → Ext h h' → Arv Z h' b k ty n [] (defaultValue ty) → Go l Z n0 R own nm code mL ret I' F h' (cells + 1) (slots + cap) (pc + 2) Ls (.ref b :: st)) : Go l Z n0 R own nm code mL ret I F h cells slots pc Ls (.int n :: st) := by
  subst hty
  intro p e s m args below meth c T locs hx hZ ho hn hc hm hr' hk X N eT hJ
  obtain ⟨T', h', k, X', e', E', A', stp⟩ := Jvm.RoadKit.newP X hx hZ w eT (g := mkF m pc Ls (.int n :: st)) rfl (hb hc hd) rfl hn0 hcap hb0 hc1 hl
  obtain ⟨s₂, v, L, h1, r⟩ := hr h' _ k rfl E' (Arv.new A' hn0) p e s m args below meth c T' _ hx hZ ho hn hc hm hr' hk X' N e' (hI s h' E' A'.lt hJ)
  exact ⟨s₂, v, L, stp _ h1, r⟩
theorem Go.newR {C : String} {index : Nat} {n : Int32} (w : (Cond.classLink own index C).before a0 Z = true) (w2 : (Cond.arrayOver (.object C)).before a0 Z = true) (hd : decode code pc = .ok (.anewarray index, 3)) (hn0 : ¬ n < 0) (cap : Nat) (hcap : n.toNatClampNeg ≤ cap) (hb0 : cap * 8 ≤ 536870912) (hc1 : cells + 1 ≤ R.cells) (hl : slots + cap ≤ R.slots)
    (hI : ∀ (s : State) (h' : Heap), Ext h h' → h.size < h'.size → I s h → I' s h') (hr : ∀ (h' : Heap) (b : Addr) (k : ClassId), b = h.size → Ext h h' → Arv Z h' b k (.object C) n [] .null → Ovr Z k C → Go l Z n0 R own nm code mL ret I' F h' (cells + 1) (slots + cap) (pc + 3) Ls (.ref b :: st)) : Go l Z n0 R own nm code mL ret I F h cells slots pc Ls (.int n :: st) := by
  intro p e s m args below meth c T locs hx hZ ho hn hc hm hr' hk X N eT hJ
  obtain ⟨T', h', k, X', e', E', A', O', stp⟩ := Jvm.RoadKit.newR X hx hZ ho w w2 eT (g := mkF m pc Ls (.int n :: st)) rfl (hb hc hd) rfl hn0 hcap hb0 hc1 hl
  obtain ⟨s₂, v, L, h1, r⟩ := hr h' _ k rfl E' (Arv.new A' hn0) O' p e s m args below meth c T' _ hx hZ ho hn hc hm hr' hk X' N e' (hI s h' E' A'.lt hJ)
  exact ⟨s₂, v, L, stp _ h1, r⟩
theorem Go.newPE {aty : ArrayType} (ty : FieldType) (ad : String) {n : Int32} (w : (Cond.arrayClass ty).before a0 Z = true) (hty : newarray.typeOf aty = ty) (had : "[" ++ ty.toString = ad) (hd : decode code pc = .ok (.newarray aty, 2)) (hn0 : ¬ n < 0) (cap : Nat) (hcap : n.toNatClampNeg ≤ cap) (hb0 : cap * 8 ≤ 536870912) (hc1 : cells + 1 ≤ R.cells) (hl : slots + cap ≤ R.slots)
    (hI : ∀ (s : State) (h' : Heap), Ext h h' → h.size < h'.size → I s h → I' s h') (hr : ∀ (h' : Heap) (b : Addr) (k : ClassId), b = h.size → Ext h h' → Arv Z h' b k ty n [] (defaultValue ty) → Exa Z h' b ad → Go l Z n0 R own nm code mL ret I' F h' (cells + 1) (slots + cap) (pc + 2) Ls (.ref b :: st)) : Go l Z n0 R own nm code mL ret I F h cells slots pc Ls (.int n :: st) := by
  subst hty
  intro p e s m args below meth c T locs hx hZ ho hn hc hm hr' hk X N eT hJ
  obtain ⟨T', h', k, X', e', E', A', X2, stp⟩ := Jvm.RoadKit.newPE X hx hZ w eT (g := mkF m pc Ls (.int n :: st)) rfl (hb hc hd) rfl hn0 hcap hb0 hc1 hl had
  obtain ⟨s₂, v, L, h1, r⟩ := hr h' _ k rfl E' (Arv.new A' hn0) X2 p e s m args below meth c T' _ hx hZ ho hn hc hm hr' hk X' N e' (hI s h' E' A'.lt hJ)
  exact ⟨s₂, v, L, stp _ h1, r⟩
theorem Go.newRA {C : String} {ty : FieldType} {index : Nat} {n : Int32} (w : (Cond.classLink own index C).before a0 Z = true) (w2 : (Cond.arrayOver (.array ty)).before a0 Z = true) (hC : (FieldType.array ty).toString = C) (hd : decode code pc = .ok (.anewarray index, 3)) (hn0 : ¬ n < 0) (cap : Nat) (hcap : n.toNatClampNeg ≤ cap) (hb0 : cap * 8 ≤ 536870912) (hc1 : cells + 1 ≤ R.cells) (hl : slots + cap ≤ R.slots)
    (hI : ∀ (s : State) (h' : Heap), Ext h h' → h.size < h'.size → I s h → I' s h') (hr : ∀ (h' : Heap) (b : Addr) (k : ClassId), b = h.size → Ext h h' → Arv Z h' b k (.array ty) n [] .null → OvrA Z k ty C → Go l Z n0 R own nm code mL ret I' F h' (cells + 1) (slots + cap) (pc + 3) Ls (.ref b :: st)) : Go l Z n0 R own nm code mL ret I F h cells slots pc Ls (.int n :: st) := by
  intro p e s m args below meth c T locs hx hZ ho hn hc hm hr' hk X N eT hJ
  obtain ⟨T', h', k, X', e', E', A', -, O', stp⟩ := Jvm.RoadKit.newRA X hx hZ ho hC w w2 eT (g := mkF m pc Ls (.int n :: st)) rfl (hb hc hd) rfl hn0 hcap hb0 hc1 hl rfl
  obtain ⟨s₂, v, L, h1, r⟩ := hr h' _ k rfl E' (Arv.new A' hn0) O' p e s m args below meth c T' _ hx hZ ho hn hc hm hr' hk X' N e' (hI s h' E' A'.lt hJ)
  exact ⟨s₂, v, L, stp _ h1, r⟩
theorem Go.initO {idx : Nat} {a : Addr} (w1 : (Cond.methodLink own idx Lib.objectInit).before a0 Z = true) (w2 : (Cond.instanceMethod Lib.objectInit).before a0 Z = true) (w3 : (Cond.code Lib.objectInit ⟨#[0xb1]⟩ 1 none).before a0 Z = true) (hd : decode code pc = .ok (.invokespecial idx, 3)) (hsz : Ls.size = mL) (hf : 1 ≤ R.frames) (hl : (st.map fun v => v.category).sum + 12 ≤ R.locals)
    (hr : Go l Z n0 R own nm code mL ret I F h cells slots (pc + 3) Ls st) : Go l Z n0 R own nm code mL ret I F h cells slots pc Ls (.ref a :: st) :=
  Go.warm (fun {p e s m args below meth c T locs} hx hZ ho hc hm X eT => Jvm.RoadKit.initO X hx hZ ho w1 w2 w3 eT (g := mkF m pc Ls (.ref a :: st)) rfl (hsz.trans hm.symm) rfl (hb hc hd) hf (W := (st.map fun v => v.category).sum) (by show 2 * 0 + _ ≤ _; omega) hl) hr
/-! arrays -/
theorem Arv.read {Z : State} {h : Heap} {a : Addr} {k : ClassId} {ty : FieldType} {z j : Int32} {vs : List Value} {dv v : Value} (V : Arv Z h a k ty z vs dv) (q : ¬ j < 0 ∧ j < z) (u : vs.getD j.toNatClampNeg dv = v) : ∃ c : Cell, Arr Z h a c ty ∧ ¬ (j < 0 ∨ c.slots.size ≤ j.toNatClampNeg) ∧ c.slots[j.toNatClampNeg]? = some v := by
  obtain ⟨c, A, q1, S, q3, H, G⟩ := V
  have hin := inb_of S q
  exact ⟨c, A, hin, H.at hin u⟩
theorem Arv.write {Z : State} {h h' : Heap} {a : Addr} {k : ClassId} {ty : FieldType} {z j : Int32} {vs : List Value} {dv v : Value} (V : Arv Z h a k ty z vs dv) (hv : fits ty v = true) (W : Wr h h' a j.toNatClampNeg v) (i : Nat) (hj : j.toNatClampNeg = i) (hi : i < vs.length) : Arv Z h' a k ty z (vs.set i v) dv := by
  obtain ⟨c, A, q1, S, q3, H, G⟩ := V
  exact Arv.set A q1 S q3 H G hv W i hj hi
theorem Go.arraylength {a : Addr} {k : ClassId} {ty : FieldType} {z : Int32} {vs : List Value} {dv : Value} (V : Arv Z h a k ty z vs dv) (hd : decode code pc = .ok (.arraylength, 1)) (hr : Go l Z n0 R own nm code mL ret I F h cells slots (pc + 1) Ls (.int z :: st)) : Go l Z n0 R own nm code mL ret I F h cells slots pc Ls (.ref a :: st) := by
  obtain ⟨c, A, q1, S, q3, H, G⟩ := V
  exact Go.pure (fun hx hZ ho hc X eT k => X.arraylength hx (by rw [eT]; exact A.1) (State.isArrayOf_alike hZ.alike A.2.1) (g := mkF _ pc Ls _) rfl rfl (hb hc hd) _ (by rw [len_of S q3]; exact k)) hr
theorem Go.caload {a : Addr} {k : ClassId} {z j : Int32} {vs : List Value} {dv : Value} (v : Value) (V : Arv Z h a k .char z vs dv) (q : ¬ j < 0 ∧ j < z) (u : vs.getD j.toNatClampNeg dv = v) (hd : decode code pc = .ok (.caload, 1)) (hr : Go l Z n0 R own nm code mL ret I F h cells slots (pc + 1) Ls (v :: st)) : Go l Z n0 R own nm code mL ret I F h cells slots pc Ls (.int j :: .ref a :: st) := by
  obtain ⟨c, A, hin, hat⟩ := Arv.read V q u
  exact Go.pure (fun hx hZ ho hc X eT k => X.caload hx (by rw [eT]; exact A.1) (State.isArrayOf_alike hZ.alike A.2.1) A.2.2 hin hat (g := mkF _ pc Ls _) rfl rfl (hb hc hd) _ k) hr
theorem Go.iaload {a : Addr} {k : ClassId} {z j : Int32} {vs : List Value} {dv : Value} (v : Value) (V : Arv Z h a k .int z vs dv) (q : ¬ j < 0 ∧ j < z) (u : vs.getD j.toNatClampNeg dv = v) (hd : decode code pc = .ok (.iaload, 1)) (hr : Go l Z n0 R own nm code mL ret I F h cells slots (pc + 1) Ls (v :: st)) : Go l Z n0 R own nm code mL ret I F h cells slots pc Ls (.int j :: .ref a :: st) := by
  obtain ⟨c, A, hin, hat⟩ := Arv.read V q u
  exact Go.pure (fun hx hZ ho hc X eT k => X.iaload hx (by rw [eT]; exact A.1) (State.isArrayOf_alike hZ.alike A.2.1) A.2.2 hin hat (g := mkF _ pc Ls _) rfl rfl (hb hc hd) _ k) hr
theorem Go.baload {a : Addr} {k : ClassId} {z j : Int32} {vs : List Value} {dv : Value} (v : Value) (V : Arv Z h a k .byte z vs dv) (q : ¬ j < 0 ∧ j < z) (u : vs.getD j.toNatClampNeg dv = v) (hd : decode code pc = .ok (.baload, 1)) (hr : Go l Z n0 R own nm code mL ret I F h cells slots (pc + 1) Ls (v :: st)) : Go l Z n0 R own nm code mL ret I F h cells slots pc Ls (.int j :: .ref a :: st) := by
  obtain ⟨c, A, hin, hat⟩ := Arv.read V q u
  exact Go.pure (fun hx hZ ho hc X eT k => X.baloadBytes hx (by rw [eT]; exact A.1) (State.isArrayOf_alike hZ.alike A.2.1) A.2.2 hin hat (g := mkF _ pc Ls _) rfl rfl (hb hc hd) _ k) hr
theorem Go.aaload {a : Addr} {k : ClassId} {ty : FieldType} {z j : Int32} {vs : List Value} {dv : Value} (v : Value) (V : Arv Z h a k ty z vs dv) (hty : ty.isReference = true) (q : ¬ j < 0 ∧ j < z) (u : vs.getD j.toNatClampNeg dv = v) (hd : decode code pc = .ok (.aaload, 1)) (hr : Go l Z n0 R own nm code mL ret I F h cells slots (pc + 1) Ls (v :: st)) : Go l Z n0 R own nm code mL ret I F h cells slots pc Ls (.int j :: .ref a :: st) := by
  obtain ⟨c, A, hin, hat⟩ := Arv.read V q u
  exact Go.pure (fun hx hZ ho hc X eT k => X.aaload hx (by rw [eT]; exact A.1) (State.isArrayOf_alike hZ.alike A.2.1) hty A.2.2 hin hat (g := mkF _ pc Ls _) rfl rfl (hb hc hd) _ k) hr
theorem Go.aaloadC {a : Addr} {c0 : Cell} {ty : FieldType} {j : Int32} (v : Value) (A : Arr Z h a c0 ty) (hty : ty.isReference = true) (hin : ¬ (j < 0 ∨ c0.slots.size ≤ j.toNatClampNeg)) (hat : c0.slots[j.toNatClampNeg]? = some v) (hd : decode code pc = .ok (.aaload, 1)) (hr : Go l Z n0 R own nm code mL ret I F h cells slots (pc + 1) Ls (v :: st)) : Go l Z n0 R own nm code mL ret I F h cells slots pc Ls (.int j :: .ref a :: st) :=
  Go.pure (fun hx hZ ho hc X eT k => X.aaload hx (by rw [eT]; exact A.1) (State.isArrayOf_alike hZ.alike A.2.1) hty A.2.2 hin hat (g := mkF _ pc Ls _) rfl rfl (hb hc hd) _ k) hr
theorem Go.castore {a : Addr} {k : ClassId} {z j x : Int32} {vs : List Value} {dv : Value} (V : Arv Z h a k .char z vs dv) (q : ¬ j < 0 ∧ j < z) (g : n0 ≤ a) (i : Nat) (hj : j.toNatClampNeg = i) (hi : i < vs.length) (hd : decode code pc = .ok (.castore, 1)) (hI : ∀ (s : State) (h' : Heap), Keep h h' [a] → I s h → I' s h') (hr : ∀ h', Keep h h' [a] → Arv Z h' a k .char z (vs.set i (.int (nar .char x))) dv → Go l Z n0 R own nm code mL ret I' F h' cells slots (pc + 1) Ls st) : Go l Z n0 R own nm code mL ret I F h cells slots pc Ls (.int x :: .int j :: .ref a :: st) := by
  have V0 := V
  obtain ⟨c0, A, q1, S, q3, H, G⟩ := V0
  intro p e s m args below meth c T locs hx hZ ho hn hc hm hr' hk X N eT hJ
  obtain ⟨T', h', X', e', W', stp⟩ := stC X hx hZ eT A (inb_of S q) (g := mkF m pc Ls (.int x :: .int j :: .ref a :: st)) rfl rfl (hb hc hd)
  obtain ⟨s₂, v, L, h1, r⟩ := hr h' (Keep.of_wr W') (Arv.write V (fits_nar_char _) W' i hj hi) p e s m args below meth c T' _ hx hZ ho hn hc hm hr' hk X' (Fr.snoc X' N g) e' (hI s h' (Keep.of_wr W') hJ)
  exact ⟨s₂, v, L, stp _ h1, r⟩
theorem Go.bastore {a : Addr} {k : ClassId} {z j x : Int32} {vs : List Value} {dv : Value} (V : Arv Z h a k .byte z vs dv) (q : ¬ j < 0 ∧ j < z) (g : n0 ≤ a) (i : Nat) (hj : j.toNatClampNeg = i) (hi : i < vs.length) (hd : decode code pc = .ok (.bastore, 1)) (hI : ∀ (s : State) (h' : Heap), Keep h h' [a] → I s h → I' s h') (hr : ∀ h', Keep h h' [a] → Arv Z h' a k .byte z (vs.set i (.int (nar .byte x))) dv → Go l Z n0 R own nm code mL ret I' F h' cells slots (pc + 1) Ls st) : Go l Z n0 R own nm code mL ret I F h cells slots pc Ls (.int x :: .int j :: .ref a :: st) := by
  have V0 := V
  obtain ⟨c0, A, q1, S, q3, H, G⟩ := V0
  intro p e s m args below meth c T locs hx hZ ho hn hc hm hr' hk X N eT hJ
  obtain ⟨T', h', X', e', W', stp⟩ := stB X hx hZ eT A (inb_of S q) (g := mkF m pc Ls (.int x :: .int j :: .ref a :: st)) rfl rfl (hb hc hd)
  obtain ⟨s₂, v, L, h1, r⟩ := hr h' (Keep.of_wr W') (Arv.write V (fits_nar_byte _) W' i hj hi) p e s m args below meth c T' _ hx hZ ho hn hc hm hr' hk X' (Fr.snoc X' N g) e' (hI s h' (Keep.of_wr W') hJ)
  exact ⟨s₂, v, L, stp _ h1, r⟩
theorem Go.iastore {a : Addr} {k : ClassId} {z j x : Int32} {vs : List Value} {dv : Value} (V : Arv Z h a k .int z vs dv) (q : ¬ j < 0 ∧ j < z) (g : n0 ≤ a) (i : Nat) (hj : j.toNatClampNeg = i) (hi : i < vs.length) (hd : decode code pc = .ok (.iastore, 1)) (hI : ∀ (s : State) (h' : Heap), Keep h h' [a] → I s h → I' s h') (hr : ∀ h', Keep h h' [a] → Arv Z h' a k .int z (vs.set i (.int x)) dv → Go l Z n0 R own nm code mL ret I' F h' cells slots (pc + 1) Ls st) : Go l Z n0 R own nm code mL ret I F h cells slots pc Ls (.int x :: .int j :: .ref a :: st) := by
  have V0 := V
  obtain ⟨c0, A, q1, S, q3, H, G⟩ := V0
  intro p e s m args below meth c T locs hx hZ ho hn hc hm hr' hk X N eT hJ
  obtain ⟨T', h', X', e', W', stp⟩ := stI X hx hZ eT A (inb_of S q) (g := mkF m pc Ls (.int x :: .int j :: .ref a :: st)) rfl rfl (hb hc hd)
  obtain ⟨s₂, v, L, h1, r⟩ := hr h' (Keep.of_wr W') (Arv.write V rfl W' i hj hi) p e s m args below meth c T' _ hx hZ ho hn hc hm hr' hk X' (Fr.snoc X' N g) e' (hI s h' (Keep.of_wr W') hJ)
  exact ⟨s₂, v, L, stp _ h1, r⟩
theorem Go.aastore {a : Addr} {k : ClassId} {ty : FieldType} {z j : Int32} {x : Value} {vs : List Value} {dv : Value} (V : Arv Z h a k ty z vs dv) (hty : ty.isReference = true) (hx' : fits ty x = true) (FF : ∀ c : Cell, Arr Z h a c ty → c.cls = k → Sto Z h a x) (q : ¬ j < 0 ∧ j < z) (g : n0 ≤ a) (i : Nat) (hj : j.toNatClampNeg = i) (hi : i < vs.length) (hd : decode code pc = .ok (.aastore, 1)) (hI : ∀ (s : State) (h' : Heap), Keep h h' [a] → I s h → I' s h') (hr : ∀ h', Keep h h' [a] → Arv Z h' a k ty z (vs.set i x) dv → Go l Z n0 R own nm code mL ret I' F h' cells slots (pc + 1) Ls st) : Go l Z n0 R own nm code mL ret I F h cells slots pc Ls (x :: .int j :: .ref a :: st) := by
  have V0 := V
  obtain ⟨c0, A, q1, S, q3, H, G⟩ := V0
  intro p e s m args below meth c T locs hx hZ ho hn hc hm hr' hk X N eT hJ
  obtain ⟨T', h', X', e', W', stp⟩ := stR X hx hZ eT A (inb_of S q) hty (FF c0 A q1) (g := mkF m pc Ls (x :: .int j :: .ref a :: st)) rfl rfl (hb hc hd)
  obtain ⟨s₂, v, L, h1, r⟩ := hr h' (Keep.of_wr W') (Arv.write V hx' W' i hj hi) p e s m args below meth c T' _ hx hZ ho hn hc hm hr' hk X' (Fr.snoc X' N g) e' (hI s h' (Keep.of_wr W') hJ)
  exact ⟨s₂, v, L, stp _ h1, r⟩
/-! casts -/
theorem Go.castY {K : String} {index : Nat} {a : Addr} (w : (Cond.classLink own index K).before a0 Z = true) (FF : Ins Z h a K true) (hd : decode code pc = .ok (.checkcast index, 3)) (hr : Go l Z n0 R own nm code mL ret I F h cells slots (pc + 3) Ls (.ref a :: st)) : Go l Z n0 R own nm code mL ret I F h cells slots pc Ls (.ref a :: st) :=
  Go.warm (fun hx hZ ho hc _ X eT => Jvm.RoadKit.castY X hx hZ ho w eT FF (g := mkF _ pc Ls (.ref a :: st)) rfl rfl (hb hc hd)) hr
theorem Go.castNull {index : Nat} (hd : decode code pc = .ok (.checkcast index, 3)) (hr : Go l Z n0 R own nm code mL ret I F h cells slots (pc + 3) Ls (.null :: st)) : Go l Z n0 R own nm code mL ret I F h cells slots pc Ls (.null :: st) :=
  Go.pure (fun hx _ _ hc X _ k => X.checkcastNull hx (g := mkF _ pc Ls (.null :: st)) rfl rfl (hb hc hd) _ k) hr
theorem Go.castV {K : String} {index : Nat} {v : Value} (w : (Cond.classLink own index K).before a0 Z = true) (FF : v = .null ∨ ∃ a, v = .ref a ∧ Ins Z h a K true) (hd : decode code pc = .ok (.checkcast index, 3)) (hr : Go l Z n0 R own nm code mL ret I F h cells slots (pc + 3) Ls (v :: st)) : Go l Z n0 R own nm code mL ret I F h cells slots pc Ls (v :: st) := by
  rcases FF with rfl | ⟨a, rfl, I0⟩
  · exact Go.castNull hd hr
  · exact Go.castY w I0 hd hr
theorem Go.instY {K : String} {index : Nat} {a : Addr} (w : (Cond.classLink own index K).before a0 Z = true) (FF : Ins Z h a K true) (hd : decode code pc = .ok (.instanceof index, 3)) (hr : Go l Z n0 R own nm code mL ret I F h cells slots (pc + 3) Ls (.int 1 :: st)) : Go l Z n0 R own nm code mL ret I F h cells slots pc Ls (.ref a :: st) :=
  Go.warm (fun hx hZ ho hc _ X eT => Jvm.RoadKit.instY X hx hZ ho w eT FF (g := mkF _ pc Ls (.ref a :: st)) rfl rfl (hb hc hd)) hr
/-! returns -/
theorem Go.return_ (hd : decode code pc = .ok (.return_, 1)) (hret : ret = none) (hc1 : cells ≤ R.cells) (hs1 : slots ≤ R.slots) (hQ : Q none h) : Go l Z n0 R own nm code mL ret I (FN n0 R Q) h cells slots pc Ls [] := by
  intro p e s m args below meth c T locs hx hZ ho hn hc hm hr' hk X N eT hJ
  obtain ⟨fs, hr, hrun, hended, hW, hsame⟩ := X.leave (v := none) (fun _ => rfl) hk
  exact ⟨_, none, locs, X.returnOut hx (hr'.trans hret) (hb hc hd) hr, hrun, hended, N, (by show Q _ T.heap; rw [eT]; exact hQ), ⟨_, rfl⟩, hW, hsame.mono hc1 hs1⟩
theorem Go.areturn {v : Value} {t : FieldType} (hd : decode code pc = .ok (.areturn, 1)) (hret : ret = some t) (ht : t.isReference = true) (hv : v.isRef = true) (hc1 : cells ≤ R.cells) (hs1 : slots ≤ R.slots) (hQ : Q (some v) h) : Go l Z n0 R own nm code mL ret I (FN n0 R Q) h cells slots pc Ls (v :: st) := by
  intro p e s m args below meth c T locs hx hZ ho hn hc hm hr' hk X N eT hJ
  obtain ⟨fs, hr, hrun, hended, hW, hsame⟩ := X.leave (v := some v) (fun h => by rw [hr', hret] at h; cases h) hk
  have hnw : narrow t v = v := by cases t <;> first | rfl | (cases ht; done)
  exact ⟨_, some v, locs, retOut X hx (hr'.trans hret) hnw (Or.inr (Or.inr (Or.inr (Or.inr ⟨rfl, ht, hv⟩)))) (hb hc hd) hr, hrun, hended, N, (by show Q _ T.heap; rw [eT]; exact hQ), ⟨_, rfl⟩, hW, hsame.mono hc1 hs1⟩
theorem Go.ireturn {z : Int32} (hd : decode code pc = .ok (.ireturn, 1)) (hret : ret = some .int) (hc1 : cells ≤ R.cells) (hs1 : slots ≤ R.slots) (hQ : Q (some (.int z)) h) : Go l Z n0 R own nm code mL ret I (FN n0 R Q) h cells slots pc Ls (.int z :: st) := by
  intro p e s m args below meth c T locs hx hZ ho hn hc hm hr' hk X N eT hJ
  obtain ⟨fs, hr, hrun, hended, hW, hsame⟩ := X.leave (v := some (.int z)) (fun h => by rw [hr', hret] at h; cases h) hk
  exact ⟨_, some (.int z), locs, retOut X hx (hr'.trans hret) rfl (Or.inl ⟨rfl, Or.inl rfl, z, rfl⟩) (hb hc hd) hr, hrun, hended, N, (by show Q _ T.heap; rw [eT]; exact hQ), ⟨_, rfl⟩, hW, hsame.mono hc1 hs1⟩
/-- a boolean, byte, char or short -/
theorem Go.nreturn {z : Int32} (t : FieldType) (hd : decode code pc = .ok (.ireturn, 1)) (hret : ret = some t) (ht : t = .boolean ∨ t = .byte ∨ t = .char ∨ t = .short) (hc1 : cells ≤ R.cells) (hs1 : slots ≤ R.slots) (hQ : Q (some (.int (nar t z))) h) : Go l Z n0 R own nm code mL ret I (FN n0 R Q) h cells slots pc Ls (.int z :: st) := by
  intro p e s m args below meth c T locs hx hZ ho hn hc hm hr' hk X N eT hJ
  obtain ⟨fs, hr, hrun, hended, hW, hsame⟩ := X.leave (v := some (.int (nar t z))) (fun h => by rw [hr', hret] at h; cases h) hk
  exact ⟨_, some (.int (nar t z)), locs, retN X hx (hr'.trans hret) ht (hb hc hd) hr, hrun, hended, N, (by show Q _ T.heap; rw [eT]; exact hQ), ⟨_, rfl⟩, hW, hsame.mono hc1 hs1⟩
/-! calls, each by the callee's contract -/
theorem Go.callS {o' n' d' : String} {bytes : ByteArray} {mL' index : Nat} {rt : Option FieldType} {rm : Room} (as' rest : List Value) {Q' : Option Value → Heap → Prop} {ps : List FieldType} {r : Option FieldType}
    (hC : Ct l Z n0 o' n' d' [] bytes mL' rt rm as'.toArray h Q') (w1 : (Cond.methodLink own index (⟨o', n', d'⟩ : MethodName)).before a0 Z = true) (w2 : (Cond.static (⟨o', n', d'⟩ : MethodName)).before a0 Z = true) (w3 : (Cond.initialized o').before a0 Z = true) (w4 : (Cond.code (⟨o', n', d'⟩ : MethodName) bytes mL' rt).before a0 Z = true)
    (hy : o' ≠ "java/lang/invoke/MethodHandle" ∧ o' ≠ "java/lang/invoke/VarHandle") (hpd : parseMethodDescriptor d' = some ⟨ps, r⟩) (hlen : as'.length = ps.length) (hst : st = as'.reverse ++ rest) (hsz : Ls.size = mL) (hf : rm.frames + 1 ≤ R.frames) (hlo : (rest.map fun v => v.category).sum + (mL' + 11) + rm.locals ≤ R.locals) (hc1 : cells + rm.cells ≤ R.cells) (hs1 : slots + rm.slots ≤ R.slots)
    (hd : decode code pc = .ok (.invokestatic index, 3)) (hI : ∀ (v : Option Value) (s : State) (h' : Heap), Q' v h' → I s h → I' s h') (hr : ∀ v h', Q' v h' → Go l Z n0 R own nm code mL ret I' F h' (cells + rm.cells) (slots + rm.slots) (pc + 3) Ls (v.toList ++ rest)) : Go l Z n0 R own nm code mL ret I F h cells slots pc Ls st := by
  intro p e s m args below meth c T locs hx hZ ho hn hc hm hr' hk X N eT hJ
  obtain ⟨v, _, ⟨T', L', k', n''⟩, -, X', ⟨Lc, ⟨N', hQ'⟩, l1, l2, l3⟩, stp⟩ := Jvm.LawKit.callS X hx (y := (⟨o', n', d'⟩ : MethodName)) ho (mvT hZ w1) (mvT hZ w2) (mvT hZ w3) (mvT hZ w4) hy (backOf (Q := fun v h L => Fr n0 L ∧ Q' v h) (W := (rest.map fun v => v.category).sum) hC hZ w4 w3 hf hlo) (g := mkF m pc Ls st) rfl (hsz.trans hm.symm) (argsL := as') (rest := rest) (lenOf hpd hlen) hst (by show 2 * 0 + _ ≤ _; omega) (hb hc hd) (fun _ _ => ⟨rfl, eT, hc1, hs1⟩)
  dsimp only [Pt.U, Pt.locs, Pt.cells, Pt.slots] at X' l1 l2 l3 stp hQ'
  subst l1 l2 l3
  obtain ⟨s₂, v2, L, h1, r⟩ := hr v T'.heap hQ' p e s m args below meth c T' _ hx hZ ho hn hc hm hr' hk X' (Fr.app N N') rfl (hI v s T'.heap hQ' hJ)
  exact ⟨s₂, v2, L, stp _ h1, r⟩
/-- a constructor -/
theorem Go.callI {o' d' : String} {bytes : ByteArray} {mL' index : Nat} {rm : Room} (a : Addr) (as' rest : List Value) {Q' : Option Value → Heap → Prop} {ps : List FieldType} {r : Option FieldType}
    (hC : Ct l Z n0 o' "<init>" d' [] bytes mL' none rm (.ref a :: as').toArray h Q') (w1 : (Cond.methodLink own index (⟨o', "<init>", d'⟩ : MethodName)).before a0 Z = true) (w2 : (Cond.instanceMethod (⟨o', "<init>", d'⟩ : MethodName)).before a0 Z = true) (w3 : (Cond.initialized o').before a0 Z = true) (w4 : (Cond.code (⟨o', "<init>", d'⟩ : MethodName) bytes mL' none).before a0 Z = true)
    (hy : o' ≠ "java/lang/invoke/MethodHandle" ∧ o' ≠ "java/lang/invoke/VarHandle") (hpd : parseMethodDescriptor d' = some ⟨ps, r⟩) (hlen : as'.length = ps.length) (hst : st = as'.reverse ++ .ref a :: rest) (hsz : Ls.size = mL) (hf : rm.frames + 1 ≤ R.frames) (hlo : (rest.map fun v => v.category).sum + (mL' + 11) + rm.locals ≤ R.locals) (hc1 : cells + rm.cells ≤ R.cells) (hs1 : slots + rm.slots ≤ R.slots)
    (hd : decode code pc = .ok (.invokespecial index, 3)) (hI : ∀ (v : Option Value) (s : State) (h' : Heap), Q' v h' → I s h → I' s h') (hr : ∀ v h', Q' v h' → Go l Z n0 R own nm code mL ret I' F h' (cells + rm.cells) (slots + rm.slots) (pc + 3) Ls (v.toList ++ rest)) : Go l Z n0 R own nm code mL ret I F h cells slots pc Ls st := by
  intro p e s m args below meth c T locs hx hZ ho hn hc hm hr' hk X N eT hJ
  obtain ⟨v, _, ⟨T', L', k', n''⟩, -, X', ⟨Lc, ⟨N', hQ'⟩, l1, l2, l3⟩, stp⟩ := X.specialBack hx (y := (⟨o', "<init>", d'⟩ : MethodName)) rfl ho (mvT hZ w1) (mvT hZ w2) (mvT hZ w4) hy (backOf (Q := fun v h L => Fr n0 L ∧ Q' v h) (W := (rest.map fun v => v.category).sum) hC hZ w4 w3 hf hlo) (g := mkF m pc Ls st) rfl (hsz.trans hm.symm) (Steps.refl _) (a := a) (argsL := as') (rest := rest) (lenOf hpd hlen) hst (by show 2 * 0 + _ ≤ _; omega) (hb hc hd) (fun _ _ => ⟨rfl, eT, hc1, hs1⟩)
  dsimp only [Pt.U, Pt.locs, Pt.cells, Pt.slots] at X' l1 l2 l3 stp hQ'
  subst l1 l2 l3
  obtain ⟨s₂, v2, L, h1, r⟩ := hr v T'.heap hQ' p e s m args below meth c T' _ hx hZ ho hn hc hm hr' hk X' (Fr.app N N') rfl (hI v s T'.heap hQ' hJ)
  exact ⟨s₂, v2, L, stp.trans h1, r⟩
/-- an instance method that the class which the link names declares -/
theorem Go.callV {o' n' d' C oz : String} {bytes : ByteArray} {mL' index : Nat} {rt : Option FieldType} {rm : Room} (a : Addr) (as' rest : List Value) {Q' : Option Value → Heap → Prop} {ps : List FieldType} {r : Option FieldType}
    (hC : Ct l Z n0 oz n' d' [] bytes mL' rt rm (.ref a :: as').toArray h Q') (E : Exa Z h a C) (w1 : (Cond.methodLink own index (⟨o', n', d'⟩ : MethodName)).before a0 Z = true) (w2 : (Cond.declares (⟨o', n', d'⟩ : MethodName)).before a0 Z = true) (nf : ∀ s : State, Z.Warmed39 s.vm → NotFace s (⟨o', n', d'⟩ : MethodName)) (w3 : (Cond.selects C (⟨o', n', d'⟩ : MethodName) (⟨oz, n', d'⟩ : MethodName)).before a0 Z = true) (w4 : (Cond.instanceMethod (⟨oz, n', d'⟩ : MethodName)).before a0 Z = true) (w5 : (Cond.initialized oz).before a0 Z = true) (w6 : (Cond.code (⟨oz, n', d'⟩ : MethodName) bytes mL' rt).before a0 Z = true)
    (hy : o' ≠ "java/lang/invoke/MethodHandle" ∧ o' ≠ "java/lang/invoke/VarHandle") (hpd : parseMethodDescriptor d' = some ⟨ps, r⟩) (hlen : as'.length = ps.length) (hst : st = as'.reverse ++ .ref a :: rest) (hsz : Ls.size = mL) (hf : rm.frames + 1 ≤ R.frames) (hlo : (rest.map fun v => v.category).sum + (mL' + 11) + rm.locals ≤ R.locals) (hc1 : cells + rm.cells ≤ R.cells) (hs1 : slots + rm.slots ≤ R.slots)
    (hd : decode code pc = .ok (.invokevirtual index, 3)) (hI : ∀ (v : Option Value) (s : State) (h' : Heap), Q' v h' → I s h → I' s h') (hr : ∀ v h', Q' v h' → Go l Z n0 R own nm code mL ret I' F h' (cells + rm.cells) (slots + rm.slots) (pc + 3) Ls (v.toList ++ rest)) : Go l Z n0 R own nm code mL ret I F h cells slots pc Ls st := by
  intro p e s m args below meth c T locs hx hZ ho hn hc hm hr' hk X N eT hJ
  obtain ⟨cq, kq, qa, qb, qc⟩ := isOf hZ eT E
  obtain ⟨v, _, ⟨T', L', k', n''⟩, -, X', ⟨Lc, ⟨N', hQ'⟩, l1, l2, l3⟩, stp⟩ := X.virtualBack hx (y := (⟨o', n', d'⟩ : MethodName)) (z := (⟨oz, n', d'⟩ : MethodName)) ho (mvT hZ w1) (mvT hZ w2) (nf s hZ) (mvT hZ w3) (mvT hZ w4) hy (backOf (Q := fun v h L => Fr n0 L ∧ Q' v h) (W := (rest.map fun v => v.category).sum) hC hZ w6 w5 hf hlo) qa qc (g := mkF m pc Ls st) rfl (hsz.trans hm.symm) (Steps.refl _) (argsL := as') (rest := rest) (lenOf hpd hlen) hst (by show 2 * 0 + _ ≤ _; omega) (hb hc hd) (fun _ _ => ⟨rfl, eT, hc1, hs1⟩)
  dsimp only [Pt.U, Pt.locs, Pt.cells, Pt.slots] at X' l1 l2 l3 stp hQ'
  subst l1 l2 l3
  obtain ⟨s₂, v2, L, h1, r⟩ := hr v T'.heap hQ' p e s m args below meth c T' _ hx hZ ho hn hc hm hr' hk X' (Fr.app N N') rfl (hI v s T'.heap hQ' hJ)
  exact ⟨s₂, v2, L, stp.trans h1, r⟩
theorem nf_sel {C o' n' d' : String} (w3 : (Cond.selects C (⟨o', n', d'⟩ : MethodName) (⟨o', n', d'⟩ : MethodName)).before a0 Z = true) : ∀ s : State, Z.Warmed39 s.vm → NotFace s (⟨o', n', d'⟩ : MethodName) := fun s hZ => notFace_of_selects (args := #[]) (mvT hZ w3)
theorem nf_sup {o' n' d' S : String} (w : (Cond.superclass o' S).before a0 Z = true) : ∀ s : State, Z.Warmed39 s.vm → NotFace s (⟨o', n', d'⟩ : MethodName) := fun s hZ => nf_super (args := #[]) (mvT hZ w)
/-- an instance method that a superclass of the class which the link names declares -/
theorem Go.callU {o' ow n' d' C oz : String} {bytes : ByteArray} {mL' index : Nat} {rt : Option FieldType} {rm : Room} (a : Addr) (as' rest : List Value) {Q' : Option Value → Heap → Prop} {ps : List FieldType} {r : Option FieldType}
    (hC : Ct l Z n0 oz n' d' [] bytes mL' rt rm (.ref a :: as').toArray h Q') (E : Exa Z h a C) (w1 : (Cond.methodLink own index (⟨o', n', d'⟩ : MethodName)).before a0 Z = true) (w2 : (Cond.sameMethod o' ow n' d').before a0 Z = true) (w2' : (Cond.declares (⟨ow, n', d'⟩ : MethodName)).before a0 Z = true) (w3 : (Cond.selects C (⟨o', n', d'⟩ : MethodName) (⟨oz, n', d'⟩ : MethodName)).before a0 Z = true) (w4 : (Cond.instanceMethod (⟨oz, n', d'⟩ : MethodName)).before a0 Z = true) (w5 : (Cond.initialized oz).before a0 Z = true) (w6 : (Cond.code (⟨oz, n', d'⟩ : MethodName) bytes mL' rt).before a0 Z = true)
    (hy : ow ≠ "java/lang/invoke/MethodHandle" ∧ ow ≠ "java/lang/invoke/VarHandle") (hpd : parseMethodDescriptor d' = some ⟨ps, r⟩) (hlen : as'.length = ps.length) (hst : st = as'.reverse ++ .ref a :: rest) (hsz : Ls.size = mL) (hf : rm.frames + 1 ≤ R.frames) (hlo : (rest.map fun v => v.category).sum + (mL' + 11) + rm.locals ≤ R.locals) (hc1 : cells + rm.cells ≤ R.cells) (hs1 : slots + rm.slots ≤ R.slots)
    (hd : decode code pc = .ok (.invokevirtual index, 3)) (hI : ∀ (v : Option Value) (s : State) (h' : Heap), Q' v h' → I s h → I' s h') (hr : ∀ v h', Q' v h' → Go l Z n0 R own nm code mL ret I' F h' (cells + rm.cells) (slots + rm.slots) (pc + 3) Ls (v.toList ++ rest)) : Go l Z n0 R own nm code mL ret I F h cells slots pc Ls st := by
  intro p e s m args below meth c T locs hx hZ ho hn hc hm hr' hk X N eT hJ
  obtain ⟨cq, kq, qa, qb, qc⟩ := isOf hZ eT E
  obtain ⟨v, _, ⟨T', L', k', n''⟩, -, X', ⟨Lc, ⟨N', hQ'⟩, l1, l2, l3⟩, stp⟩ := X.virtualBackUp hx (x := (⟨o', n', d'⟩ : MethodName)) (y := (⟨oz, n', d'⟩ : MethodName)) ho (mvT hZ w1) (mvT hZ w2) (mvT hZ w2') hy (mvT hZ w3) (mvT hZ w4) (backOf (Q := fun v h L => Fr n0 L ∧ Q' v h) (W := (rest.map fun v => v.category).sum) hC hZ w6 w5 hf hlo) qa qc (g := mkF m pc Ls st) rfl (hsz.trans hm.symm) (Steps.refl _) (argsL := as') (rest := rest) (lenOf hpd hlen) hst (by show 2 * 0 + _ ≤ _; omega) (hb hc hd) (fun _ _ => ⟨rfl, eT, hc1, hs1⟩)
  dsimp only [Pt.U, Pt.locs, Pt.cells, Pt.slots] at X' l1 l2 l3 stp hQ'
  subst l1 l2 l3
  obtain ⟨s₂, v2, L, h1, r⟩ := hr v T'.heap hQ' p e s m args below meth c T' _ hx hZ ho hn hc hm hr' hk X' (Fr.app N N') rfl (hI v s T'.heap hQ' hJ)
  exact ⟨s₂, v2, L, stp.trans h1, r⟩
/-- a private instance method, by invokevirtual -/
theorem Go.callP {o' n' d' : String} {bytes : ByteArray} {mL' index : Nat} {rt : Option FieldType} {rm : Room} (a : Addr) (as' rest : List Value) {Q' : Option Value → Heap → Prop} {ps : List FieldType} {r : Option FieldType} {C : String}
    (hC : Ct l Z n0 o' n' d' [] bytes mL' rt rm (.ref a :: as').toArray h Q') (E : Exa Z h a C) (w1 : (Cond.methodLink own index (⟨o', n', d'⟩ : MethodName)).before a0 Z = true) (w2 : (Cond.instanceMethod (⟨o', n', d'⟩ : MethodName)).before a0 Z = true) (w3 : (Cond.selects o' (⟨o', n', d'⟩ : MethodName) (⟨o', n', d'⟩ : MethodName)).before a0 Z = true) (w4 : (Cond.privateMethod (⟨o', n', d'⟩ : MethodName)).before a0 Z = true) (w5 : (Cond.initialized o').before a0 Z = true) (w6 : (Cond.code (⟨o', n', d'⟩ : MethodName) bytes mL' rt).before a0 Z = true)
    (hy : o' ≠ "java/lang/invoke/MethodHandle" ∧ o' ≠ "java/lang/invoke/VarHandle") (hpd : parseMethodDescriptor d' = some ⟨ps, r⟩) (hlen : as'.length = ps.length) (hst : st = as'.reverse ++ .ref a :: rest) (hsz : Ls.size = mL) (hf : rm.frames + 1 ≤ R.frames) (hlo : (rest.map fun v => v.category).sum + (mL' + 11) + rm.locals ≤ R.locals) (hc1 : cells + rm.cells ≤ R.cells) (hs1 : slots + rm.slots ≤ R.slots)
    (hd : decode code pc = .ok (.invokevirtual index, 3)) (hI : ∀ (v : Option Value) (s : State) (h' : Heap), Q' v h' → I s h → I' s h') (hr : ∀ v h', Q' v h' → Go l Z n0 R own nm code mL ret I' F h' (cells + rm.cells) (slots + rm.slots) (pc + 3) Ls (v.toList ++ rest)) : Go l Z n0 R own nm code mL ret I F h cells slots pc Ls st := by
  intro p e s m args below meth c T locs hx hZ ho hn hc hm hr' hk X N eT hJ
  obtain ⟨cq, qa, qb⟩ := E.cell
  obtain ⟨v, _, ⟨T', L', k', n''⟩, -, X', ⟨Lc, ⟨N', hQ'⟩, l1, l2, l3⟩, stp⟩ := X.privateBack hx (y := (⟨o', n', d'⟩ : MethodName)) ho (mvT hZ w1) (mvT hZ w2) (mvT hZ w3) (Cond.privateMethod_at (mvP hZ w4 (args := #[]))) (mvT hZ w6) hy (backOf (Q := fun v h L => Fr n0 L ∧ Q' v h) (W := (rest.map fun v => v.category).sum) hC hZ w6 w5 hf hlo) (g := mkF m pc Ls st) rfl (hsz.trans hm.symm) (Steps.refl _) (a := a) (by rw [eT]; exact qa) qb (argsL := as') (rest := rest) (lenOf hpd hlen) hst (by show 2 * 0 + _ ≤ _; omega) (hb hc hd) (fun _ _ => ⟨rfl, eT, hc1, hs1⟩)
  dsimp only [Pt.U, Pt.locs, Pt.cells, Pt.slots] at X' l1 l2 l3 stp hQ'
  subst l1 l2 l3
  obtain ⟨s₂, v2, L, h1, r⟩ := hr v T'.heap hQ' p e s m args below meth c T' _ hx hZ ho hn hc hm hr' hk X' (Fr.app N N') rfl (hI v s T'.heap hQ' hJ)
  exact ⟨s₂, v2, L, stp.trans h1, r⟩
/-- an interface's method -/
theorem Go.callF {o' n' d' C oz : String} {bytes : ByteArray} {mL' index count : Nat} {rt : Option FieldType} {rm : Room} (a : Addr) (as' rest : List Value) {Q' : Option Value → Heap → Prop} {ps : List FieldType} {r : Option FieldType}
    (hC : Ct l Z n0 oz n' d' [] bytes mL' rt rm (.ref a :: as').toArray h Q') (E : Exa Z h a C) (w1 : (Cond.methodLink own index (⟨o', n', d'⟩ : MethodName)).before a0 Z = true) (w2 : (Cond.declares (⟨o', n', d'⟩ : MethodName)).before a0 Z = true) (w2' : (Cond.interfaceMethod o' o' n' d').before a0 Z = true) (w3 : (Cond.selects C (⟨o', n', d'⟩ : MethodName) (⟨oz, n', d'⟩ : MethodName)).before a0 Z = true) (w4 : (Cond.instanceMethod (⟨oz, n', d'⟩ : MethodName)).before a0 Z = true) (w4' : (Cond.publicMethod (⟨oz, n', d'⟩ : MethodName)).before a0 Z = true) (w4'' : (Cond.unhidden C n' d').before a0 Z = true) (wc : (Cond.castable C o').before a0 Z = true) (w5 : (Cond.initialized oz).before a0 Z = true) (w6 : (Cond.code (⟨oz, n', d'⟩ : MethodName) bytes mL' rt).before a0 Z = true)
    (hy : o' ≠ "java/lang/invoke/MethodHandle" ∧ o' ≠ "java/lang/invoke/VarHandle") (hpd : parseMethodDescriptor d' = some ⟨ps, r⟩) (hlen : as'.length = ps.length) (hst : st = as'.reverse ++ .ref a :: rest) (hsz : Ls.size = mL) (hf : rm.frames + 1 ≤ R.frames) (hlo : (rest.map fun v => v.category).sum + (mL' + 11) + rm.locals ≤ R.locals) (hc1 : cells + rm.cells ≤ R.cells) (hs1 : slots + rm.slots ≤ R.slots)
    (hd : decode code pc = .ok (.invokeinterface index count, 5)) (hI : ∀ (v : Option Value) (s : State) (h' : Heap), Q' v h' → I s h → I' s h') (hr : ∀ v h', Q' v h' → Go l Z n0 R own nm code mL ret I' F h' (cells + rm.cells) (slots + rm.slots) (pc + 5) Ls (v.toList ++ rest)) : Go l Z n0 R own nm code mL ret I F h cells slots pc Ls st := by
  intro p e s m args below meth c T locs hx hZ ho hn hc hm hr' hk X N eT hJ
  obtain ⟨cq, kq, qa, qb, qc⟩ := isOf hZ eT E
  obtain ⟨v, _, ⟨T', L', k', n''⟩, -, X', ⟨Lc, ⟨N', hQ'⟩, l1, l2, l3⟩, stp⟩ := X.interfaceBack hx (xi := (⟨o', n', d'⟩ : MethodName)) (y := (⟨oz, n', d'⟩ : MethodName)) ho (mvT hZ w1) (mvT hZ w2) (mvT hZ w2' (by simp [Cond.onTables, Cond.keepsFace, Cond.keeps, Cond.steady, Cond.faceAtom, hy.1, hy.2])) (mvT hZ w3) (mvT hZ w4) (mvT hZ w4') (mvT hZ w4'') (mvT hZ wc) hy (backOf (Q := fun v h L => Fr n0 L ∧ Q' v h) (W := (rest.map fun v => v.category).sum) hC hZ w6 w5 hf hlo) qa qb qc (g := mkF m pc Ls st) rfl (hsz.trans hm.symm) (Steps.refl _) (argsL := as') (rest := rest) (lenOf hpd hlen) hst (by show 2 * 0 + _ ≤ _; omega) (hb hc hd) (fun _ _ => ⟨rfl, eT, hc1, hs1⟩)
  dsimp only [Pt.U, Pt.locs, Pt.cells, Pt.slots] at X' l1 l2 l3 stp hQ'
  subst l1 l2 l3
  obtain ⟨s₂, v2, L, h1, r⟩ := hr v T'.heap hQ' p e s m args below meth c T' _ hx hZ ho hn hc hm hr' hk X' (Fr.app N N') rfl (hI v s T'.heap hQ' hJ)
  exact ⟨s₂, v2, L, stp.trans h1, r⟩
/-! calls that are paid otherwise -/
theorem Go.callIP {o' d' : String} {bytes : ByteArray} {mL' index : Nat} {kc ks W : Nat} (a : Addr) (as' rest : List Value) {Q' : Option Value → Heap → Prop} {ps : List FieldType} {r : Option FieldType}
    (hC : Pays l Z n0 R (⟨o', "<init>", d'⟩ : MethodName) 3 W (.ref a :: as').toArray h kc ks Q') (w1 : (Cond.methodLink own index (⟨o', "<init>", d'⟩ : MethodName)).before a0 Z = true) (w2 : (Cond.instanceMethod (⟨o', "<init>", d'⟩ : MethodName)).before a0 Z = true) (w3 : (Cond.initialized o').before a0 Z = true) (w4 : (Cond.code (⟨o', "<init>", d'⟩ : MethodName) bytes mL' none).before a0 Z = true)
    (hy : o' ≠ "java/lang/invoke/MethodHandle" ∧ o' ≠ "java/lang/invoke/VarHandle") (hpd : parseMethodDescriptor d' = some ⟨ps, r⟩) (hlen : as'.length = ps.length) (hst : st = as'.reverse ++ .ref a :: rest) (hsz : Ls.size = mL) (hW : (rest.map fun v => v.category).sum ≤ W) (hc1 : cells + kc ≤ R.cells) (hs1 : slots + ks ≤ R.slots)
    (hd : decode code pc = .ok (.invokespecial index, 3)) (hI : ∀ (v : Option Value) (s : State) (h' : Heap), Q' v h' → I s h → I' s h') (hr : ∀ v h', Q' v h' → Go l Z n0 R own nm code mL ret I' F h' (cells + kc) (slots + ks) (pc + 3) Ls (v.toList ++ rest)) : Go l Z n0 R own nm code mL ret I F h cells slots pc Ls st := by
  intro p e s m args below meth c T locs hx hZ ho hn hc hm hr' hk X N eT hJ
  obtain ⟨v, _, ⟨T', L', k', n''⟩, -, X', ⟨Lc, ⟨N', hQ'⟩, l1, l2, l3⟩, stp⟩ := X.specialBack hx (y := (⟨o', "<init>", d'⟩ : MethodName)) rfl ho (mvT hZ w1) (mvT hZ w2) (mvT hZ w4) hy (hC p e below s args hZ) (g := mkF m pc Ls st) rfl (hsz.trans hm.symm) (Steps.refl _) (a := a) (argsL := as') (rest := rest) (lenOf hpd hlen) hst (by show 2 * 0 + _ ≤ _; omega) (hb hc hd) (fun _ _ => ⟨rfl, eT, hc1, hs1⟩)
  dsimp only [Pt.U, Pt.locs, Pt.cells, Pt.slots] at X' l1 l2 l3 stp hQ'
  subst l1 l2 l3
  obtain ⟨s₂, v2, L, h1, r⟩ := hr v T'.heap hQ' p e s m args below meth c T' _ hx hZ ho hn hc hm hr' hk X' (Fr.app N N') rfl (hI v s T'.heap hQ' hJ)
  exact ⟨s₂, v2, L, stp.trans h1, r⟩
theorem Go.callVP {o' n' d' C oz : String} {bytes : ByteArray} {mL' index : Nat} {rt : Option FieldType} {kc ks W : Nat} (a : Addr) (as' rest : List Value) {Q' : Option Value → Heap → Prop} {ps : List FieldType} {r : Option FieldType}
    (hC : Pays l Z n0 R (⟨oz, n', d'⟩ : MethodName) 3 W (.ref a :: as').toArray h kc ks Q') (E : Exa Z h a C) (w1 : (Cond.methodLink own index (⟨o', n', d'⟩ : MethodName)).before a0 Z = true) (w2 : (Cond.declares (⟨o', n', d'⟩ : MethodName)).before a0 Z = true) (nf : ∀ s : State, Z.Warmed39 s.vm → NotFace s (⟨o', n', d'⟩ : MethodName)) (w3 : (Cond.selects C (⟨o', n', d'⟩ : MethodName) (⟨oz, n', d'⟩ : MethodName)).before a0 Z = true) (w4 : (Cond.instanceMethod (⟨oz, n', d'⟩ : MethodName)).before a0 Z = true) (w5 : (Cond.initialized oz).before a0 Z = true) (w6 : (Cond.code (⟨oz, n', d'⟩ : MethodName) bytes mL' rt).before a0 Z = true)
    (hy : o' ≠ "java/lang/invoke/MethodHandle" ∧ o' ≠ "java/lang/invoke/VarHandle") (hpd : parseMethodDescriptor d' = some ⟨ps, r⟩) (hlen : as'.length = ps.length) (hst : st = as'.reverse ++ .ref a :: rest) (hsz : Ls.size = mL) (hW : (rest.map fun v => v.category).sum ≤ W) (hc1 : cells + kc ≤ R.cells) (hs1 : slots + ks ≤ R.slots)
    (hd : decode code pc = .ok (.invokevirtual index, 3)) (hI : ∀ (v : Option Value) (s : State) (h' : Heap), Q' v h' → I s h → I' s h') (hr : ∀ v h', Q' v h' → Go l Z n0 R own nm code mL ret I' F h' (cells + kc) (slots + ks) (pc + 3) Ls (v.toList ++ rest)) : Go l Z n0 R own nm code mL ret I F h cells slots pc Ls st := by
  intro p e s m args below meth c T locs hx hZ ho hn hc hm hr' hk X N eT hJ
  obtain ⟨cq, kq, qa, qb, qc⟩ := isOf hZ eT E
  obtain ⟨v, _, ⟨T', L', k', n''⟩, -, X', ⟨Lc, ⟨N', hQ'⟩, l1, l2, l3⟩, stp⟩ := X.virtualBack hx (y := (⟨o', n', d'⟩ : MethodName)) (z := (⟨oz, n', d'⟩ : MethodName)) ho (mvT hZ w1) (mvT hZ w2) (nf s hZ) (mvT hZ w3) (mvT hZ w4) hy (hC p e below s args hZ) qa qc (g := mkF m pc Ls st) rfl (hsz.trans hm.symm) (Steps.refl _) (argsL := as') (rest := rest) (lenOf hpd hlen) hst (by show 2 * 0 + _ ≤ _; omega) (hb hc hd) (fun _ _ => ⟨rfl, eT, hc1, hs1⟩)
  dsimp only [Pt.U, Pt.locs, Pt.cells, Pt.slots] at X' l1 l2 l3 stp hQ'
  subst l1 l2 l3
  obtain ⟨s₂, v2, L, h1, r⟩ := hr v T'.heap hQ' p e s m args below meth c T' _ hx hZ ho hn hc hm hr' hk X' (Fr.app N N') rfl (hI v s T'.heap hQ' hJ)
  exact ⟨s₂, v2, L, stp.trans h1, r⟩
theorem Go.callSP {o' n' d' : String} {bytes : ByteArray} {mL' index : Nat} {rt : Option FieldType} {kc ks W : Nat} (as' rest : List Value) {Q' : Option Value → Heap → Prop} {ps : List FieldType} {r : Option FieldType}
    (hC : Pays l Z n0 R (⟨o', n', d'⟩ : MethodName) 3 W as'.toArray h kc ks Q') (w1 : (Cond.methodLink own index (⟨o', n', d'⟩ : MethodName)).before a0 Z = true) (w2 : (Cond.static (⟨o', n', d'⟩ : MethodName)).before a0 Z = true) (w3 : (Cond.initialized o').before a0 Z = true) (w4 : (Cond.code (⟨o', n', d'⟩ : MethodName) bytes mL' rt).before a0 Z = true)
    (hy : o' ≠ "java/lang/invoke/MethodHandle" ∧ o' ≠ "java/lang/invoke/VarHandle") (hpd : parseMethodDescriptor d' = some ⟨ps, r⟩) (hlen : as'.length = ps.length) (hst : st = as'.reverse ++ rest) (hsz : Ls.size = mL) (hW : (rest.map fun v => v.category).sum ≤ W) (hc1 : cells + kc ≤ R.cells) (hs1 : slots + ks ≤ R.slots)
    (hd : decode code pc = .ok (.invokestatic index, 3)) (hI : ∀ (v : Option Value) (s : State) (h' : Heap), Q' v h' → I s h → I' s h') (hr : ∀ v h', Q' v h' → Go l Z n0 R own nm code mL ret I' F h' (cells + kc) (slots + ks) (pc + 3) Ls (v.toList ++ rest)) : Go l Z n0 R own nm code mL ret I F h cells slots pc Ls st := by
  intro p e s m args below meth c T locs hx hZ ho hn hc hm hr' hk X N eT hJ
  obtain ⟨v, _, ⟨T', L', k', n''⟩, -, X', ⟨Lc, ⟨N', hQ'⟩, l1, l2, l3⟩, stp⟩ := Jvm.LawKit.callS X hx (y := (⟨o', n', d'⟩ : MethodName)) ho (mvT hZ w1) (mvT hZ w2) (mvT hZ w3) (mvT hZ w4) hy (hC p e below s args hZ) (g := mkF m pc Ls st) rfl (hsz.trans hm.symm) (argsL := as') (rest := rest) (lenOf hpd hlen) hst (by show 2 * 0 + _ ≤ _; omega) (hb hc hd) (fun _ _ => ⟨rfl, eT, hc1, hs1⟩)
  dsimp only [Pt.U, Pt.locs, Pt.cells, Pt.slots] at X' l1 l2 l3 stp hQ'
  subst l1 l2 l3
  obtain ⟨s₂, v2, L, h1, r⟩ := hr v T'.heap hQ' p e s m args below meth c T' _ hx hZ ho hn hc hm hr' hk X' (Fr.app N N') rfl (hI v s T'.heap hQ' hJ)
  exact ⟨s₂, v2, L, stp _ h1, r⟩
end Go
end Jvm.Own
namespace Jvm.Own
open Jvm Jvm.ClassFile Sem Op Lib Jvm.Free Jvm.Stand Jvm.LawKit Jvm.RoadKit Bundle
/-- a class that is there and is no interface -/
def Ord (Z : State) (C : String) : Prop := ∃ c k, Z.vm.findClass C = some c ∧ Z.vm.classes[c]? = some k ∧ k.isInterface = false
theorem Ord.sel {Z : State} {a0 : Array Value} {C : String} {x y : MethodName} (w : (Cond.selects C x y).before a0 Z = true) : Ord Z y.cls := by
  obtain ⟨c, r, mm, h1, h2, h3, h4, k, h5, h6⟩ := Cond.selects_spec w
  exact ⟨mm.cls, k, findClass_of_methodNamed h3, h5, h6⟩
theorem Ord.nf {Z : State} {o' n' d' : String} (F : Ord Z o') : ∀ s : State, Z.Warmed39 s.vm → NotFace s (⟨o', n', d'⟩ : MethodName) := by
  intro s hZ r0 h0
  obtain ⟨c, k, h1, h2, h3⟩ := F
  have q := findClass_of_methodNamed h0
  rw [hZ.alike.findClass] at q
  cases h1.symm.trans q
  obtain ⟨k', q1, q2⟩ := hZ.alike.2.2 _ _ h2
  exact ⟨k', q1, by rw [q2]; exact h3⟩
theorem sel_priv2 {Z : State} {a0 : Array Value} {y : MethodName} (F : Ord Z y.cls) (wm : (Cond.instanceMethod y).before a0 Z = true) (wp : (Cond.privateMethod y).before a0 Z = true) (hy : y.cls ≠ "java/lang/invoke/MethodHandle" ∧ y.cls ≠ "java/lang/invoke/VarHandle") : (Cond.selects y.cls y y).before a0 Z = true := by
  obtain ⟨mk, meth, hnamed, hmeth, -, -⟩ := Cond.instanceMethod_spec wm
  obtain ⟨c, k, hc, hk, hni⟩ := F
  have hfound := State.methodFound?_of_named hnamed hy
  have hc' := findClass_of_methodNamed hnamed
  cases hc.symm.trans hc'
  have hsel : selectMethod {} Z.vm mk.cls mk = .method mk := selectMethod_private hmeth (Cond.privateMethod_at wp mk meth hnamed hmeth)
  simp [Cond.before, Cond.holds, Cond.value, hc', hfound, hnamed, hsel, hk, hni]
theorem same_self {Z : State} {a0 : Array Value} {y : MethodName} (F : Ord Z y.cls) (wm : (Cond.instanceMethod y).before a0 Z = true) (hy : y.cls ≠ "java/lang/invoke/MethodHandle" ∧ y.cls ≠ "java/lang/invoke/VarHandle") : (Cond.sameMethod y.cls y.cls y.name y.desc).before a0 Z = true := by
  obtain ⟨mk, meth, hnamed, hmeth, -, -⟩ := Cond.instanceMethod_spec wm
  obtain ⟨c, k, hc, hk, hni⟩ := F
  have hfound := State.methodFound?_of_named hnamed hy
  have hc' := findClass_of_methodNamed hnamed
  cases hc.symm.trans hc'
  simp [Cond.before, Cond.holds, Cond.value, hc', hfound, hnamed, hk, hni]
section Go
variable {l : Launch} {Z : State} {n0 : Nat} {R : Room} {own nm : String} {code : ByteArray} {mL : Nat} {ret : Option FieldType} {Q : Option Value → Heap → Prop} {I I' : State → Heap → Prop} {F : State → Option Value → State → List Loc → Prop} {h : Heap} {cells slots pc : Nat} {Ls : Array Slot} {st rest : List Value} {a0 : Array Value}
/-- invokespecial: a method of the direct superclass -/
theorem Go.callSup {o' n' d' C : String} {bytes : ByteArray} {mL' index : Nat} {rt : Option FieldType} {rm : Room} (a : Addr) (as' rest : List Value) {Q' : Option Value → Heap → Prop} {ps : List FieldType} {r : Option FieldType}
    (hC : Ct l Z n0 o' n' d' [] bytes mL' rt rm (.ref a :: as').toArray h Q') (E : Exa Z h a C) (FO : Ord Z o') (w1 : (Cond.methodLink own index (⟨o', n', d'⟩ : MethodName)).before a0 Z = true) (w2 : (Cond.instanceMethod (⟨o', n', d'⟩ : MethodName)).before a0 Z = true) (w4 : (Cond.superclass own o').before a0 Z = true) (w5 : (Cond.initialized o').before a0 Z = true) (w6 : (Cond.code (⟨o', n', d'⟩ : MethodName) bytes mL' rt).before a0 Z = true) (hni : n' ≠ "<init>")
    (hy : o' ≠ "java/lang/invoke/MethodHandle" ∧ o' ≠ "java/lang/invoke/VarHandle") (hpd : parseMethodDescriptor d' = some ⟨ps, r⟩) (hlen : as'.length = ps.length) (hst : st = as'.reverse ++ .ref a :: rest) (hsz : Ls.size = mL) (hf : rm.frames + 1 ≤ R.frames) (hlo : (rest.map fun v => v.category).sum + (mL' + 11) + rm.locals ≤ R.locals) (hc1 : cells + rm.cells ≤ R.cells) (hs1 : slots + rm.slots ≤ R.slots)
    (hd : decode code pc = .ok (.invokespecial index, 3)) (hI : ∀ (v : Option Value) (s : State) (h' : Heap), Q' v h' → I s h → I' s h') (hr : ∀ v h', Q' v h' → Go l Z n0 R own nm code mL ret I' F h' (cells + rm.cells) (slots + rm.slots) (pc + 3) Ls (v.toList ++ rest)) : Go l Z n0 R own nm code mL ret I F h cells slots pc Ls st := by
  intro p e s m args below meth c T locs hx hZ ho hn hc hm hr' hk X N eT hJ
  obtain ⟨v, _, ⟨T', L', k', n''⟩, -, X', ⟨Lc, ⟨N', hQ'⟩, l1, l2, l3⟩, stp⟩ := Jvm.RoadKit.superBack X hx hZ (K := C) (y := (⟨o', n', d'⟩ : MethodName)) ho w1 (same_self (y := (⟨o', n', d'⟩ : MethodName)) FO w2 hy) w2 w4 hni (backOf (Q := fun v h L => Fr n0 L ∧ Q' v h) (W := (rest.map fun v => v.category).sum) hC hZ w6 w5 hf hlo) eT (Ins.self E) (g := mkF m pc Ls st) rfl (hsz.trans hm.symm) w6 (argsL := as') (rest := rest) (lenOf hpd hlen) hst (by show 2 * 0 + _ ≤ _; omega) (hb hc hd) (fun _ _ => ⟨rfl, eT, hc1, hs1⟩)
  dsimp only [Pt.U, Pt.locs, Pt.cells, Pt.slots] at X' l1 l2 l3 stp hQ'
  subst l1 l2 l3
  obtain ⟨s₂, v2, L, h1, r⟩ := hr v T'.heap hQ' p e s m args below meth c T' _ hx hZ ho hn hc hm hr' hk X' (Fr.app N N') rfl (hI v s T'.heap hQ' hJ)
  exact ⟨s₂, v2, L, stp.trans h1, r⟩
/-- System.arraycopy between arrays of one primitive type -/
theorem Go.copyB {index : Nat} {a b : Addr} {k k' : ClassId} {ty : FieldType} {z z' sp dp nn : Int32} {vs vd : List Value} {dv dd : Value} (us : List Value) (A : Arv Z h a k ty z vs dv) (B : Arv Z h b k' ty z' vd dd) (hty : refKind ty = false)
    (w1 : (Cond.methodLink own index (⟨"java/lang/System", "arraycopy", "(Ljava/lang/Object;ILjava/lang/Object;II)V"⟩ : MethodName)).before a0 Z = true) (w2 : (Cond.native (⟨"java/lang/System", "arraycopy", "(Ljava/lang/Object;ILjava/lang/Object;II)V"⟩ : MethodName)).before a0 Z = true) (w3 : (Cond.static (⟨"java/lang/System", "arraycopy", "(Ljava/lang/Object;ILjava/lang/Object;II)V"⟩ : MethodName)).before a0 Z = true) (w4 : (Cond.initialized "java/lang/System").before a0 Z = true)
    (h1 : ¬ sp < 0) (h2 : ¬ dp < 0) (h3 : ¬ nn < 0) (h4 : sp.toNatClampNeg + nn.toNatClampNeg ≤ z.toNatClampNeg) (h5 : dp.toNatClampNeg + nn.toNatClampNeg ≤ z'.toNatClampNeg) (hus : us = (List.range nn.toNatClampNeg).map fun i => vs.getD (sp.toNatClampNeg + i) dv) (hl : dp.toNatClampNeg + nn.toNatClampNeg ≤ vd.length) (ge : n0 ≤ b)
    (hd : decode code pc = .ok (.invokestatic index, 3)) (hsz : Ls.size = mL) (hf : 1 ≤ R.frames) (hlo : (rest.map fun v => v.category).sum + (nativeFrameWords "java/lang/System" "arraycopy" 5 + 11) ≤ R.locals)
    (hI : ∀ (s : State) (h' : Heap), Keep h h' [b] → I s h → I' s h') (hr : ∀ h', Keep h h' [b] → Arv Z h' b k' ty z' (vd.take dp.toNatClampNeg ++ us ++ vd.drop (dp.toNatClampNeg + nn.toNatClampNeg)) dd → Go l Z n0 R own nm code mL ret I' F h' cells slots (pc + 3) Ls rest) : Go l Z n0 R own nm code mL ret I F h cells slots pc Ls (.int nn :: .int dp :: .ref b :: .int sp :: .ref a :: rest) := by
  intro p e s m args below meth c T locs hx hZ ho hn hc hm hr' hk X N eT hJ
  obtain ⟨T', h', L', X', e', N', K', V', stp⟩ := Jvm.RoadKit.cpA X hx hZ ho w1 w2 w3 w4 eT A B (us := us) (Or.inl ⟨rfl, hty⟩) h1 h2 h3 h4 h5 hus hl N ge (g := mkF m pc Ls (.int nn :: .int dp :: .ref b :: .int sp :: .ref a :: rest)) rfl (hsz.trans hm.symm) (rest := rest) rfl (hb hc hd) hf (W := (rest.map fun v => v.category).sum) (by show 2 * 0 + _ ≤ _; omega) hlo
  obtain ⟨s₂, v2, L, g1, r⟩ := hr h' K' V' p e s m args below meth c T' _ hx hZ ho hn hc hm hr' hk X' N' e' (hI s h' K' hJ)
  exact ⟨s₂, v2, L, stp _ g1, r⟩
end Go
end Jvm.Own
namespace Jvm.Own
open Jvm Jvm.ClassFile Sem Op Lib Jvm.Free Jvm.Stand Jvm.LawKit Jvm.RoadKit Bundle
/-- what a walk bears that may load String constants: the tables since the start s₀, the constants of EL held, and every place from lo on, and those of Sf, no constant's -/
def IW (Z : State) (EL : List (String × Nat)) (s₀ : State) (lo : Nat) (Sf : List Addr) : State → Heap → Prop := fun s h =>
  ∃ (vm0 : Vm) (k0 : Nat), s = s₀.setVm vm0 ∧ Z.Warmed39 vm0 ∧ s₀.Since vm0 k0 ∧ k0 ≤ h.size ∧ CHr Z EL s₀.vm s₀.heap vm0 h ∧ ∀ x, (lo ≤ x ∨ x ∈ Sf) → Safe Z EL vm0 h x
/-- the end of such a walk -/
def FW (Z : State) (EL : List (String × Nat)) (s₀ : State) (n0 : Nat) (R : Room) (Q : Option Value → Heap → Prop) : State → Option Value → State → List Loc → Prop := fun _ v s₂ L =>
  Fr n0 L ∧ Q v s₂.heap ∧ CHr Z EL s₀.vm s₀.heap s₂.vm s₂.heap ∧ ReturnedEndW s₀ (.returned v) s₂ L R.cells R.slots
/-- a body's contract, where it may load constants; it may write the places of Sf -/
def CtW (l : Launch) (Z : State) (EL : List (String × Nat)) (n0 : Nat) (own nm ds : String) (ws : List Cond) (code : ByteArray) (mL : Nat) (ret : Option FieldType) (rm : Room) (as' : Array Value) (h0 : Heap) (Sf : List Addr) (Q : Option Value → Heap → Prop) : Prop :=
  MetFree l (⟨own, nm, ds⟩ : MethodName) (head1 (Cond.code (⟨own, nm, ds⟩ : MethodName) code mL ret :: ws) rm) (fun a U => a = as' ∧ Z.Warmed39 U.vm ∧ U.heap = h0 ∧ CHv Z EL U.vm h0 ∧ ∀ x ∈ Sf, Safe Z EL U.vm h0 x) (fun _ _ _ _ _ => True)
    (fun _ U o U' => ∃ v L, o = .returned v ∧ (Fr n0 L ∧ Q v U'.heap) ∧ CHr Z EL U.vm U.heap U'.vm U'.heap ∧ ReturnedEndW U o U' L rm.cells rm.slots)
/-- this place may be written: it is no constant's -/
def Sb (Z : State) (h : Heap) (lo : Nat) (Sf : List Addr) (x : Addr) : Prop := (lo ≤ x ∨ x ∈ Sf) ∨ (∃ C, Exa Z h x C ∧ C ≠ "java/lang/String" ∧ C ≠ "[B") ∨ ∃ k ty z vs dv, Arv Z h x k ty z vs dv ∧ ty ≠ .byte
section Wide
variable {l : Launch} {Z s₀ : State} {EL : List (String × Nat)} {n0 lo : Nat} {Sf : List Addr} {R : Room} {own nm : String} {code : ByteArray} {mL : Nat} {ret : Option FieldType} {Q : Option Value → Heap → Prop} {F : State → Option Value → State → List Loc → Prop} {h : Heap} {cells slots pc : Nat} {Ls : Array Slot} {st rest : List Value} {a0 : Array Value}
theorem Sb.safe {vm0 : Vm} {x : Addr} (hal : Z.vm.Alike vm0) (hS : ∀ x, (lo ≤ x ∨ x ∈ Sf) → Safe Z EL vm0 h x) (S : Sb Z h lo Sf x) : Safe Z EL vm0 h x := by
  rcases S with q | ⟨C, E, h1, h2⟩ | ⟨k, ty, z, vs, dv, V, ht⟩
  · exact hS x q
  · exact Safe.exa hal E h1 h2
  · exact Safe.arv hal V ht
theorem Sb.up {x : Addr} (q : lo ≤ x) : Sb Z h lo Sf x := Or.inl (Or.inl q)
theorem Sb.mem {x : Addr} (q : x ∈ Sf) : Sb Z h lo Sf x := Or.inl (Or.inr q)
theorem Sb.exa {x : Addr} {C : String} (E : Exa Z h x C) (h1 : C ≠ "java/lang/String") (h2 : C ≠ "[B") : Sb Z h lo Sf x := Or.inr (Or.inl ⟨C, E, h1, h2⟩)
theorem Sb.arv {x : Addr} {k : ClassId} {ty : FieldType} {z : Int32} {vs : List Value} {dv : Value} (V : Arv Z h x k ty z vs dv) (ht : ty ≠ .byte) : Sb Z h lo Sf x := Or.inr (Or.inr ⟨k, ty, z, vs, dv, V, ht⟩)
theorem IW.keep {ws : List Addr} {s : State} {h' : Heap} (K : Keep h h' ws) (hs : ∀ x ∈ ws, Sb Z h lo Sf x) (J : IW Z EL s₀ lo Sf s h) : IW Z EL s₀ lo Sf s h' := by
  obtain ⟨vm0, k0, e, hZ, hS, hk, hC, hSf⟩ := J
  have hs' : ∀ x ∈ ws, Safe Z EL vm0 h x := fun x q => (hs x q).safe hZ.alike hSf
  exact ⟨vm0, k0, e, hZ, hS, Nat.le_trans hk K.1, hC.trans (CHr.keep K hs' hC.1), fun x q => Safe.keep K hs' hC.1 (hSf x q)⟩
theorem wI {a : Addr} (hs : Sb Z h lo Sf a) : ∀ (s : State) (h' : Heap), Keep h h' [a] → IW Z EL s₀ lo Sf s h → IW Z EL s₀ lo Sf s h' := fun _ _ K J => J.keep K (allS hs all0)
theorem wE : ∀ (s : State) (h' : Heap), Ext h h' → h.size < h'.size → IW Z EL s₀ lo Sf s h → IW Z EL s₀ lo Sf s h' := fun _ _ E _ J => J.keep ((Keep.refl h []).ext E) all0
theorem wQ {Q' : Option Value → Heap → Prop} {ws : List Addr} (hK : ∀ v h', Q' v h' → Keep h h' ws) (hs : ∀ x ∈ ws, Sb Z h lo Sf x) : ∀ (v : Option Value) (s : State) (h' : Heap), Q' v h' → IW Z EL s₀ lo Sf s h → IW Z EL s₀ lo Sf s h' := fun v _ h' q J => J.keep (hK v h' q) hs
theorem CtW.of_go {ds : String} {ws : List Cond} {rm : Room} {as' : Array Value} {h0 : Heap} (hp : plainFor (⟨own, nm, ds⟩ : MethodName) = true) (hef : ∀ m, entryFrame m as' mL = mkF m 0 Ls []) (hg : ∀ s₀ : State, Go l Z n0 rm own nm code mL ret (IW Z EL s₀ h0.size Sf) (FW Z EL s₀ n0 rm Q) h0 0 0 0 Ls []) : CtW l Z EL n0 own nm ds ws code mL ret rm as' h0 Sf Q := by
  refine MetFree.of_bodySF hp hisR ?_
  intro p e s m args below meth c s₁ Bd hml hP hK
  obtain ⟨rfl, hZ, hh, hC, hSf⟩ := hP
  have hown : s.vm.findClass own = some m.cls := findClass_of_methodNamed Bd.named
  have hnm := (name_of_methodNamed Bd.named Bd.method).1
  have X0 : Stand p l e rm s m args below meth c s₁ [] 0 0 := Stand.of_body Bd
  have e0 : s₁.heap = h0 := by rw [← hh, Bd.state]; rfl
  have hJ : IW Z EL s h0.size Sf s h0 := ⟨s.vm, h0.size, rfl, hZ, State.WarmedH.since (State.WarmedH.refl s) _, Nat.le_refl _, by rw [hh]; exact CHr.refl hC, fun x q => q.elim Safe.new (hSf x)⟩
  obtain ⟨s₂, v, L, h1, h2, h3, h4, h5, h6, h7⟩ := hg s p e s m args below meth c s₁ [] Bd.exec hZ hown hnm Bd.bytes hml Bd.returns Bd.notSynchronized X0 (Fr.nil n0) e0 hJ
  exact ⟨s₂, _, castTop (hef m) h1, h2, h3, v, L, rfl, ⟨h4, h5⟩, h6, h7⟩
theorem CtW.mono {ds : String} {ws : List Cond} {rm : Room} {as' : Array Value} {h0 : Heap} {Q' : Option Value → Heap → Prop} (C : CtW l Z EL n0 own nm ds ws code mL ret rm as' h0 Sf Q) (hq : ∀ v h, Q v h → Q' v h) : CtW l Z EL n0 own nm ds ws code mL ret rm as' h0 Sf Q' := by
  intro p e ha hc hk s m args below hf happ hP hK
  obtain ⟨n, o, h1, h2, h3, v, L, h4, ⟨h5, h6⟩, h7⟩ := C p e ha hc hk s m args below hf happ hP hK
  exact ⟨n, o, h1, h2, h3, v, L, h4, ⟨h5, hq _ _ h6⟩, h7⟩
/-! ends -/
theorem wEnd {p : Program} {e : Env} {m : MethodId} {args : Array Value} {below : List Frame} {meth : Method} {c : Code} {s T : State} {locs : List Loc} {v : Option Value} {fs : List Frame} (hEL : EW Z a0 EL) (hx : Fr n0 locs) (X : Stand p l e R s m args below meth c T locs cells slots) (eT : T.heap = h) (J : IW Z EL s₀ lo Sf s h) (hW : s.WarmedH (T.setFrames fs).vm) (hsame : s.sameButNew ({ T.setFrames fs with vm := s.vm } : State) locs cells slots) (hc1 : cells ≤ R.cells) (hs1 : slots ≤ R.slots) (hQ : Q v h) :
    FW Z EL s₀ n0 R Q s v (T.setFrames fs) locs := by
  obtain ⟨vm0, k0, rfl, hZ, hS, hk, hC, hSf⟩ := J
  have A := CHv.at X hZ hEL hC.1
  refine ⟨hx, by show Q v T.heap; rw [eT]; exact hQ, ?_, ?_⟩
  · show CHr Z EL s₀.vm s₀.heap T.vm T.heap
    rw [eT]; exact hC.trans A
  · have h2 : (s₀.setVm vm0).Since (T.setFrames fs).vm h.size := hW.since _
    have h3 := hS.trans h2 hk
    refine ⟨⟨_, rfl⟩, h3.1, ?_, State.sameButNew.mono (s := s₀) (hsame.setVm s₀.vm) hc1 hs1⟩
    intro j q hj hq
    have := h3.2 j q hj hq
    rw [← eT] at this
    exact this
theorem GW.return_ (hEL : EW Z a0 EL) (hd : decode code pc = .ok (.return_, 1)) (hret : ret = none) (hc1 : cells ≤ R.cells) (hs1 : slots ≤ R.slots) (hQ : Q none h) : Go l Z n0 R own nm code mL ret (IW Z EL s₀ lo Sf) (FW Z EL s₀ n0 R Q) h cells slots pc Ls [] := by
  intro p e s m args below meth c T locs hx hZ ho hn hc hm hr' hk X N eT hJ
  obtain ⟨fs, hr, hrun, hended, hW, hsame⟩ := X.leave (v := none) (fun _ => rfl) hk
  exact ⟨_, none, locs, X.returnOut hx (hr'.trans hret) (hb hc hd) hr, hrun, hended, wEnd hEL N X eT hJ hW hsame hc1 hs1 hQ⟩
theorem GW.areturn {v : Value} {t : FieldType} (hEL : EW Z a0 EL) (hd : decode code pc = .ok (.areturn, 1)) (hret : ret = some t) (ht : t.isReference = true) (hv : v.isRef = true) (hc1 : cells ≤ R.cells) (hs1 : slots ≤ R.slots) (hQ : Q (some v) h) : Go l Z n0 R own nm code mL ret (IW Z EL s₀ lo Sf) (FW Z EL s₀ n0 R Q) h cells slots pc Ls (v :: st) := by
  intro p e s m args below meth c T locs hx hZ ho hn hc hm hr' hk X N eT hJ
  obtain ⟨fs, hr, hrun, hended, hW, hsame⟩ := X.leave (v := some v) (fun h => by rw [hr', hret] at h; cases h) hk
  have hnw : narrow t v = v := by cases t <;> first | rfl | (cases ht; done)
  exact ⟨_, some v, locs, retOut X hx (hr'.trans hret) hnw (Or.inr (Or.inr (Or.inr (Or.inr ⟨rfl, ht, hv⟩)))) (hb hc hd) hr, hrun, hended, wEnd hEL N X eT hJ hW hsame hc1 hs1 hQ⟩
theorem GW.ireturn {z : Int32} (hEL : EW Z a0 EL) (hd : decode code pc = .ok (.ireturn, 1)) (hret : ret = some .int) (hc1 : cells ≤ R.cells) (hs1 : slots ≤ R.slots) (hQ : Q (some (.int z)) h) : Go l Z n0 R own nm code mL ret (IW Z EL s₀ lo Sf) (FW Z EL s₀ n0 R Q) h cells slots pc Ls (.int z :: st) := by
  intro p e s m args below meth c T locs hx hZ ho hn hc hm hr' hk X N eT hJ
  obtain ⟨fs, hr, hrun, hended, hW, hsame⟩ := X.leave (v := some (.int z)) (fun h => by rw [hr', hret] at h; cases h) hk
  exact ⟨_, some (.int z), locs, retOut X hx (hr'.trans hret) rfl (Or.inl ⟨rfl, Or.inl rfl, z, rfl⟩) (hb hc hd) hr, hrun, hended, wEnd hEL N X eT hJ hW hsame hc1 hs1 hQ⟩
theorem GW.nreturn {z : Int32} (t : FieldType) (hEL : EW Z a0 EL) (hd : decode code pc = .ok (.ireturn, 1)) (hret : ret = some t) (ht : t = .boolean ∨ t = .byte ∨ t = .char ∨ t = .short) (hc1 : cells ≤ R.cells) (hs1 : slots ≤ R.slots) (hQ : Q (some (.int (nar t z))) h) : Go l Z n0 R own nm code mL ret (IW Z EL s₀ lo Sf) (FW Z EL s₀ n0 R Q) h cells slots pc Ls (.int z :: st) := by
  intro p e s m args below meth c T locs hx hZ ho hn hc hm hr' hk X N eT hJ
  obtain ⟨fs, hr, hrun, hended, hW, hsame⟩ := X.leave (v := some (.int (nar t z))) (fun h => by rw [hr', hret] at h; cases h) hk
  exact ⟨_, some (.int (nar t z)), locs, retN X hx (hr'.trans hret) ht (hb hc hd) hr, hrun, hended, wEnd hEL N X eT hJ hW hsame hc1 hs1 hQ⟩
/-! a constant, read -/
theorem GW.ldc {text : String} {index : Nat} (Sf' : List Addr) {vs : List Value} {z : Int32} (hEL : EW Z a0 EL) (wS : ∀ a ∈ Bundle.stringAtoms, a.before a0 Z = true) (w : (Cond.stringLink own index text).before a0 Z = true) (hmem : (own, index) ∈ EL) (ht : (∀ c ∈ text.toList, c.toNat < 256) ∧ text.toList.map (fun c => Value.int (Jvm.Lit.byteI c.toNat.toUInt16)) = vs) (hz : ¬ z < 0) (hl : z.toNatClampNeg = vs.length)
    (hd : decode code pc = .ok (.ldc index, 2)) {n : Nat} (hn0 : 4 * text.toList.length ≤ n) (hbig : n ≤ 536870912) (hc1 : cells + 2 ≤ R.cells) (hs1 : slots + (n + 4) ≤ R.slots) (hSf : ∀ x ∈ Sf', (lo ≤ x ∨ x ∈ Sf) ∧ x < h.size)
    (hr : ∀ (h' : Heap) (a b : Addr) (k : ClassId), Ext h h' → Exa Z h' a "java/lang/String" → Fld Z h' a "java/lang/String" "coder" "B" (.int 0) → Fld Z h' a "java/lang/String" "value" "[B" (.ref b) → Arv Z h' b k .byte z vs (.int 0) → (∀ x ∈ Sf', x ≠ a ∧ x ≠ b) → (∀ (x : Addr) (C : String), Exa Z h' x C → C ≠ "java/lang/String" → C ≠ "[B" → x ≠ a ∧ x ≠ b) → Go l Z n0 R own nm code mL ret (IW Z EL s₀ h'.size Sf') (FW Z EL s₀ n0 R Q) h' (cells + 2) (slots + (n + 4)) (pc + 2) Ls (.ref a :: st)) :
    Go l Z n0 R own nm code mL ret (IW Z EL s₀ lo Sf) (FW Z EL s₀ n0 R Q) h cells slots pc Ls st := by
  intro p e s m args below meth c T locs hx hZ ho hn hc hm hr' hk X N eT hJ
  obtain ⟨vm0, k0, rfl, hZ0, hS, hkk, hC, hSfe⟩ := hJ
  obtain ⟨a, T', h', k1, b, k, X', e', E', hS', hk1, hZ', ho', x1, x2, x3, x4, -, -, hC', -, hne, stp⟩ := ldcCH (s := s₀) X hx hZ0 ho w wS eT hS hkk hEL hmem hC.1 ht hz hl (g := mkF m pc Ls st) rfl (hb hc hd) hn0 hbig hc1 hs1
  have sf : ∀ x ∈ Sf', Safe Z EL T'.vm h' x := fun x q => hC'.safe (hSf x q).2 (hSfe x (hSf x q).1)
  have J' : IW Z EL s₀ h'.size Sf' (s₀.setVm T'.vm) h' := ⟨T'.vm, k1, rfl, hZ', hS', hk1, hC.trans hC', fun x q => q.elim Safe.new (sf x)⟩
  obtain ⟨s₂, v, L, h1, r⟩ := hr h' a b k E' x1 x2 x3 x4 (fun x q => hne x (sf x q)) (fun x C EX c1 c2 => hne x (Safe.exa hZ'.alike EX c1 c2)) p e (s₀.setVm T'.vm) m args below meth c T' _ hx hZ' ho' hn hc hm hr' hk X' N e' J'
  exact ⟨s₂, v, L, stp _ h1, r⟩
/-! calls of bodies that may load constants -/
theorem backW {p : Program} {e : Env} {below : List Frame} {args : Array Value} {vm0 : Vm} {o' n' d' : String} {bytes : ByteArray} {maxL : Nat} {rt : Option FieldType} {rm : Room} {len W : Nat} {as' : Array Value} {Q' : Option Value → Heap → Prop}
    (hM : CtW l Z EL n0 o' n' d' [] bytes maxL rt rm as' h Sf Q')
    (hZ : Z.Warmed39 vm0) (wc : (Cond.code (⟨o', n', d'⟩ : MethodName) bytes maxL rt).before a0 Z = true) (wz : (Cond.initialized o').before a0 Z = true) (hf : rm.frames + 1 ≤ R.frames) (hl : W + (maxL + 11) + rm.locals ≤ R.locals) (hEL : EW Z a0 EL) (H : CHv Z EL vm0 h) (hSf : ∀ x ∈ Sf, x < h.size ∧ Safe Z EL vm0 h x) :
    BackS l R p e below (s₀.setVm vm0) args (⟨o', n', d'⟩ : MethodName) len W (fun A a => a = as' ∧ A.U.heap = h ∧ A.cells + rm.cells ≤ R.cells ∧ A.slots + rm.slots ≤ R.slots)
      (fun A _ v B => ∃ L, (Fr n0 L ∧ Q' v B.U.heap) ∧ B.locs = A.locs ++ L ∧ B.cells = A.cells + rm.cells ∧ B.slots = A.slots + rm.slots ∧ CHr Z EL vm0 h B.U.vm B.U.heap) :=
  BackS.of_freeW (bytes := bytes) (maxL := maxL) (ret := rt) (E := fun _ first o t L k n => k = rm.cells ∧ n = rm.slots ∧ (∃ v, o = .returned v ∧ (Fr n0 L ∧ Q' v t.heap)) ∧ CHr Z EL first.vm first.heap t.vm t.heap) hM hf hl
    (fun m meth c A a Y hp => have hU : Z.Warmed39 A.U.vm := wtrans (s := s₀.setVm vm0) hZ Y.warmed
      ⟨by show (Cond.and _ .tt).before a A.U = true; rw [Cond.before_and, mv hU wc]; rfl, mv hU wc, mv hU wz, hp.2.2.1, hp.2.2.2⟩)
    (fun m meth c A a g mk Y hp => ⟨hp.1, wtrans (s := s₀.setVm vm0) hZ Y.warmed, hp.2.1, (CHv.at Y hZ hEL H).1, fun x q => (CHv.at Y hZ hEL H).safe (hSf x q).1 (hSf x q).2⟩) (fun _ _ _ _ _ _ _ _ _ => trivial)
    (fun _ _ _ _ ⟨v, L, h1, h2, h3, h4⟩ => ⟨L, _, _, h4, rfl, rfl, ⟨v, h1, h2⟩, h3⟩)
    (fun m meth c A a g mk v t L k n Y hp _ _ ⟨e1, e2, ⟨v', e3, e4⟩, e5⟩ => by
      cases e3; subst e1 e2
      refine ⟨L, e4, rfl, rfl, rfl, (CHv.at Y hZ hEL H).trans ?_⟩
      rw [← hp.2.1]; exact e5)
/-- behind such a call -/
theorem afterW {p : Program} {e : Env} {m : MethodId} {args : Array Value} {below : List Frame} {meth : Method} {c : Code} {vm0 : Vm} {k0 : Nat} {T' : State} {locs : List Loc} (Sf' : List Addr) (hZ0 : Z.Warmed39 vm0) (hS : s₀.Since vm0 k0) (hkk : k0 ≤ h.size) (hC : CHr Z EL s₀.vm s₀.heap vm0 h) (hSfe : ∀ x, (lo ≤ x ∨ x ∈ Sf) → Safe Z EL vm0 h x) (hSf : ∀ x ∈ Sf', (lo ≤ x ∨ x ∈ Sf) ∧ x < h.size) (ho : (s₀.setVm vm0).vm.findClass own = some m.cls)
    (X' : Stand p l e R ((s₀.setVm vm0).setVm T'.vm) m args below meth c T' locs cells slots) (h2 : (s₀.setVm vm0).Since T'.vm T'.heap.size) (hg : h.size ≤ T'.heap.size) (hC' : CHr Z EL vm0 h T'.vm T'.heap) :
    Stand p l e R (s₀.setVm T'.vm) m args below meth c T' locs cells slots ∧ Z.Warmed39 (s₀.setVm T'.vm).vm ∧ (s₀.setVm T'.vm).vm.findClass own = some m.cls ∧ IW Z EL s₀ T'.heap.size Sf' (s₀.setVm T'.vm) T'.heap := by
  obtain ⟨r1, r2, r3, r4⟩ := rebS (Z := Z) hS hkk X' h2 hg hZ0 ho
  exact ⟨r1, r3, r4, T'.vm, T'.heap.size, rfl, r3, r2, Nat.le_refl _, hC.trans hC', fun x q => q.elim Safe.new fun q => hC'.safe (hSf x q).2 (hSfe x (hSf x q).1)⟩
theorem GW.callS {o' n' d' : String} {bytes : ByteArray} {mL' index : Nat} {rt : Option FieldType} {rm : Room} (Sf' Sc : List Addr) (as' rest : List Value) {Q' : Option Value → Heap → Prop} {ps : List FieldType} {r : Option FieldType}
    (hC : CtW l Z EL n0 o' n' d' [] bytes mL' rt rm as'.toArray h Sc Q') (hEL : EW Z a0 EL) (hSc : ∀ x ∈ Sc, (lo ≤ x ∨ x ∈ Sf) ∧ x < h.size) (hSf : ∀ x ∈ Sf', (lo ≤ x ∨ x ∈ Sf) ∧ x < h.size) (w1 : (Cond.methodLink own index (⟨o', n', d'⟩ : MethodName)).before a0 Z = true) (w2 : (Cond.static (⟨o', n', d'⟩ : MethodName)).before a0 Z = true) (w3 : (Cond.initialized o').before a0 Z = true) (w4 : (Cond.code (⟨o', n', d'⟩ : MethodName) bytes mL' rt).before a0 Z = true)
    (hy : o' ≠ "java/lang/invoke/MethodHandle" ∧ o' ≠ "java/lang/invoke/VarHandle") (hpd : parseMethodDescriptor d' = some ⟨ps, r⟩) (hlen : as'.length = ps.length) (hst : st = as'.reverse ++ rest) (hsz : Ls.size = mL) (hf : rm.frames + 1 ≤ R.frames) (hlo : (rest.map fun v => v.category).sum + (mL' + 11) + rm.locals ≤ R.locals) (hc1 : cells + rm.cells ≤ R.cells) (hs1 : slots + rm.slots ≤ R.slots)
    (hd : decode code pc = .ok (.invokestatic index, 3)) (hr : ∀ v h', Q' v h' → h.size ≤ h'.size → Go l Z n0 R own nm code mL ret (IW Z EL s₀ h'.size Sf') (FW Z EL s₀ n0 R Q) h' (cells + rm.cells) (slots + rm.slots) (pc + 3) Ls (v.toList ++ rest)) : Go l Z n0 R own nm code mL ret (IW Z EL s₀ lo Sf) (FW Z EL s₀ n0 R Q) h cells slots pc Ls st := by
  intro p e s m args below meth c T locs hx hZ ho hn hc hm hr' hk X N eT hJ
  obtain ⟨vm0, k0, rfl, hZ0, hS, hkk, hCC, hSfe⟩ := hJ
  obtain ⟨v, _, ⟨T', L', k', n''⟩, -, X', hS2, hg2, ⟨Lc, ⟨N', hQ'⟩, l1, l2, l3, hC'⟩, stp⟩ := Jvm.RoadKit.callSS X hx (y := (⟨o', n', d'⟩ : MethodName)) ho (mvT hZ w1) (mvT hZ w2) (mvT hZ w3) (mvT hZ w4) hy (backW (W := (rest.map fun v => v.category).sum) hC hZ0 w4 w3 hf hlo hEL hCC.1 (fun x q => ⟨(hSc x q).2, hSfe x (hSc x q).1⟩)) (g := mkF m pc Ls st) rfl (hsz.trans hm.symm) (argsL := as') (rest := rest) (lenOf hpd hlen) hst (by show 2 * 0 + _ ≤ _; omega) (hb hc hd) (fun _ _ => ⟨rfl, eT, hc1, hs1⟩)
  dsimp only [Pt.U, Pt.locs, Pt.cells, Pt.slots] at X' l1 l2 l3 stp hQ' hS2 hg2 hC'
  subst l1 l2 l3
  rw [eT] at hg2
  obtain ⟨r1, r2, r3, J'⟩ := afterW Sf' hZ0 hS hkk hCC hSfe hSf ho X' hS2 hg2 hC'
  obtain ⟨s₂, v2, L, h1, r⟩ := hr v T'.heap hQ' hg2 p e _ m args below meth c T' _ hx r2 r3 hn hc hm hr' hk r1 (Fr.app N N') rfl J'
  exact ⟨s₂, v2, L, stp.trans h1, r⟩
theorem GW.callI {o' d' : String} {bytes : ByteArray} {mL' index : Nat} {rm : Room} (Sf' Sc : List Addr) (a : Addr) (as' rest : List Value) {Q' : Option Value → Heap → Prop} {ps : List FieldType} {r : Option FieldType}
    (hC : CtW l Z EL n0 o' "<init>" d' [] bytes mL' none rm (.ref a :: as').toArray h Sc Q') (hEL : EW Z a0 EL) (hSc : ∀ x ∈ Sc, (lo ≤ x ∨ x ∈ Sf) ∧ x < h.size) (hSf : ∀ x ∈ Sf', (lo ≤ x ∨ x ∈ Sf) ∧ x < h.size) (w1 : (Cond.methodLink own index (⟨o', "<init>", d'⟩ : MethodName)).before a0 Z = true) (w2 : (Cond.instanceMethod (⟨o', "<init>", d'⟩ : MethodName)).before a0 Z = true) (w3 : (Cond.initialized o').before a0 Z = true) (w4 : (Cond.code (⟨o', "<init>", d'⟩ : MethodName) bytes mL' none).before a0 Z = true)
    (hy : o' ≠ "java/lang/invoke/MethodHandle" ∧ o' ≠ "java/lang/invoke/VarHandle") (hpd : parseMethodDescriptor d' = some ⟨ps, r⟩) (hlen : as'.length = ps.length) (hst : st = as'.reverse ++ .ref a :: rest) (hsz : Ls.size = mL) (hf : rm.frames + 1 ≤ R.frames) (hlo : (rest.map fun v => v.category).sum + (mL' + 11) + rm.locals ≤ R.locals) (hc1 : cells + rm.cells ≤ R.cells) (hs1 : slots + rm.slots ≤ R.slots)
    (hd : decode code pc = .ok (.invokespecial index, 3)) (hr : ∀ v h', Q' v h' → h.size ≤ h'.size → Go l Z n0 R own nm code mL ret (IW Z EL s₀ h'.size Sf') (FW Z EL s₀ n0 R Q) h' (cells + rm.cells) (slots + rm.slots) (pc + 3) Ls (v.toList ++ rest)) : Go l Z n0 R own nm code mL ret (IW Z EL s₀ lo Sf) (FW Z EL s₀ n0 R Q) h cells slots pc Ls st := by
  intro p e s m args below meth c T locs hx hZ ho hn hc hm hr' hk X N eT hJ
  obtain ⟨vm0, k0, rfl, hZ0, hS, hkk, hCC, hSfe⟩ := hJ
  obtain ⟨v, _, ⟨T', L', k', n''⟩, -, X', hS2, hg2, ⟨Lc, ⟨N', hQ'⟩, l1, l2, l3, hC'⟩, stp⟩ := X.specialBackS hx (y := (⟨o', "<init>", d'⟩ : MethodName)) rfl ho (mvT hZ w1) (mvT hZ w2) (mvT hZ w4) hy (backW (W := (rest.map fun v => v.category).sum) hC hZ0 w4 w3 hf hlo hEL hCC.1 (fun x q => ⟨(hSc x q).2, hSfe x (hSc x q).1⟩)) (g := mkF m pc Ls st) rfl (hsz.trans hm.symm) (Steps.refl _) (a := a) (argsL := as') (rest := rest) (lenOf hpd hlen) hst (by show 2 * 0 + _ ≤ _; omega) (hb hc hd) (fun _ _ => ⟨rfl, eT, hc1, hs1⟩)
  dsimp only [Pt.U, Pt.locs, Pt.cells, Pt.slots] at X' l1 l2 l3 stp hQ' hS2 hg2 hC'
  subst l1 l2 l3
  rw [eT] at hg2
  obtain ⟨r1, r2, r3, J'⟩ := afterW Sf' hZ0 hS hkk hCC hSfe hSf ho X' hS2 hg2 hC'
  obtain ⟨s₂, v2, L, h1, r⟩ := hr v T'.heap hQ' hg2 p e _ m args below meth c T' _ hx r2 r3 hn hc hm hr' hk r1 (Fr.app N N') rfl J'
  exact ⟨s₂, v2, L, stp.trans h1, r⟩
theorem GW.callV {o' n' d' C oz : String} {bytes : ByteArray} {mL' index : Nat} {rt : Option FieldType} {rm : Room} (Sf' Sc : List Addr) (a : Addr) (as' rest : List Value) {Q' : Option Value → Heap → Prop} {ps : List FieldType} {r : Option FieldType}
    (hC : CtW l Z EL n0 oz n' d' [] bytes mL' rt rm (.ref a :: as').toArray h Sc Q') (E : Exa Z h a C) (hEL : EW Z a0 EL) (hSc : ∀ x ∈ Sc, (lo ≤ x ∨ x ∈ Sf) ∧ x < h.size) (hSf : ∀ x ∈ Sf', (lo ≤ x ∨ x ∈ Sf) ∧ x < h.size) (w1 : (Cond.methodLink own index (⟨o', n', d'⟩ : MethodName)).before a0 Z = true) (w2 : (Cond.declares (⟨o', n', d'⟩ : MethodName)).before a0 Z = true) (nf : ∀ s : State, Z.Warmed39 s.vm → NotFace s (⟨o', n', d'⟩ : MethodName)) (w3 : (Cond.selects C (⟨o', n', d'⟩ : MethodName) (⟨oz, n', d'⟩ : MethodName)).before a0 Z = true) (w4 : (Cond.instanceMethod (⟨oz, n', d'⟩ : MethodName)).before a0 Z = true) (w5 : (Cond.initialized oz).before a0 Z = true) (w6 : (Cond.code (⟨oz, n', d'⟩ : MethodName) bytes mL' rt).before a0 Z = true)
    (hy : o' ≠ "java/lang/invoke/MethodHandle" ∧ o' ≠ "java/lang/invoke/VarHandle") (hpd : parseMethodDescriptor d' = some ⟨ps, r⟩) (hlen : as'.length = ps.length) (hst : st = as'.reverse ++ .ref a :: rest) (hsz : Ls.size = mL) (hf : rm.frames + 1 ≤ R.frames) (hlo : (rest.map fun v => v.category).sum + (mL' + 11) + rm.locals ≤ R.locals) (hc1 : cells + rm.cells ≤ R.cells) (hs1 : slots + rm.slots ≤ R.slots)
    (hd : decode code pc = .ok (.invokevirtual index, 3)) (hr : ∀ v h', Q' v h' → h.size ≤ h'.size → Go l Z n0 R own nm code mL ret (IW Z EL s₀ h'.size Sf') (FW Z EL s₀ n0 R Q) h' (cells + rm.cells) (slots + rm.slots) (pc + 3) Ls (v.toList ++ rest)) : Go l Z n0 R own nm code mL ret (IW Z EL s₀ lo Sf) (FW Z EL s₀ n0 R Q) h cells slots pc Ls st := by
  intro p e s m args below meth c T locs hx hZ ho hn hc hm hr' hk X N eT hJ
  obtain ⟨vm0, k0, rfl, hZ0, hS, hkk, hCC, hSfe⟩ := hJ
  obtain ⟨cq, kq, qa, qb, qc⟩ := isOf hZ eT E
  obtain ⟨v, _, ⟨T', L', k', n''⟩, -, X', hS2, hg2, ⟨Lc, ⟨N', hQ'⟩, l1, l2, l3, hC'⟩, stp⟩ := X.virtualBackS hx (y := (⟨o', n', d'⟩ : MethodName)) (z := (⟨oz, n', d'⟩ : MethodName)) ho (mvT hZ w1) (mvT hZ w2) (nf _ hZ) (mvT hZ w3) (mvT hZ w4) hy (backW (W := (rest.map fun v => v.category).sum) hC hZ0 w6 w5 hf hlo hEL hCC.1 (fun x q => ⟨(hSc x q).2, hSfe x (hSc x q).1⟩)) qa qc (g := mkF m pc Ls st) rfl (hsz.trans hm.symm) (Steps.refl _) (argsL := as') (rest := rest) (lenOf hpd hlen) hst (by show 2 * 0 + _ ≤ _; omega) (hb hc hd) (fun _ _ => ⟨rfl, eT, hc1, hs1⟩)
  dsimp only [Pt.U, Pt.locs, Pt.cells, Pt.slots] at X' l1 l2 l3 stp hQ' hS2 hg2 hC'
  subst l1 l2 l3
  rw [eT] at hg2
  obtain ⟨r1, r2, r3, J'⟩ := afterW Sf' hZ0 hS hkk hCC hSfe hSf ho X' hS2 hg2 hC'
  obtain ⟨s₂, v2, L, h1, r⟩ := hr v T'.heap hQ' hg2 p e _ m args below meth c T' _ hx r2 r3 hn hc hm hr' hk r1 (Fr.app N N') rfl J'
  exact ⟨s₂, v2, L, stp.trans h1, r⟩
end Wide
end Jvm.Own
/- laws to paste: Road.backV (cut by pick.py; bodies as the Statement names them) -/
namespace Jvm.Pilot.@@N@@
namespace StrChars
open Jvm Sem ClassFile Op Lib Jvm.Stand Jvm.Free.XT Jvm.Free.ALB Jvm.Free.JM Jvm.Free
open Jvm.Lib.Cold (StaticIs)
/-- a char array whose places are chars -/
def Ch (a : Addr) (A : Cell) (U : State) : Prop := Arr .char a A U ∧ Typed .char A
theorem Ch.mv {a : Addr} {A : Cell} {U U' : State} (h : Ch a A U) (hal : U.vm.Alike U'.vm) (hh : U'.heap = U.heap) : Ch a A U' := ⟨h.1.mv hal hh, h.2⟩
theorem Ch.keep {a : Addr} {A : Cell} {U U' : State} (h : Ch a A U) (hal : U.vm.Alike U'.vm) (hk : U'.heap[a]? = some A) : Ch a A U' := ⟨h.1.keep hal hk, h.2⟩
/-- what place i of a char[]'s cell holds -/
def cv (A : Cell) (i : Nat) : Int32 := match A.slots[i]? with | some (.int x) => x | _ => 0
theorem Ch.get {a : Addr} {A : Cell} {U : State} (h : Ch a A U) {i : Nat} (hi : i < A.slots.size) : A.slots[i]? = some (.int (cv A i)) := by
  have e := Array.getElem?_eq_getElem hi
  have f := h.2 i _ e
  unfold cv; rw [e]
  generalize A.slots[i] = v at f
  cases v <;> simp [fits] at f ⊢
/-- the byte that i2b leaves of a char -/
def lo8 (x : Int32) : Int32 := x.toInt8.toInt32
theorem fits_lo8 (y : Int32) : fits .byte (.int (lo8 y)) = true := by
  have h1 := y.toInt8.le_toInt
  have h2 := y.toInt8.toInt_lt
  simp only [lo8, fits, Bool.and_eq_true, decide_eq_true_eq, Int32.le_iff_toInt_le, Int8.toInt_toInt32, show (-128 : Int32).toInt = -128 from by decide, show (127 : Int32).toInt = 127 from by decide]
  omega
/-- A' is A but that each place j of lo .. hi - 1 holds f j -/
def Laid (A A' : Cell) (lo hi : Nat) (f : Nat → Value) : Prop := A'.cls = A.cls ∧ A'.vm = A.vm ∧ A'.slots.size = A.slots.size ∧ ∀ i, A'.slots[i]? = if lo ≤ i ∧ i < hi then some (f i) else A.slots[i]?
theorem Laid.zero (A : Cell) (lo : Nat) (f : Nat → Value) : Laid A A lo (lo + 0) f := ⟨rfl, rfl, rfl, fun i => by rw [if_neg (by omega)]⟩
theorem Laid.step {A Ak : Cell} {lo k : Nat} {f : Nat → Value} {v : Value} (h : Laid A Ak lo k f) (hlo : lo ≤ k) (hk : k < Ak.slots.size) (hv : v = f k) : Laid A (Ak.setSlot k v) lo (k + 1) f := by
  refine ⟨h.1, h.2.1, by simpa [Cell.setSlot] using h.2.2.1, fun i => ?_⟩
  by_cases e : k = i
  · subst e; rw [Cell.slots_setSlot_self v hk, if_pos (by omega), hv]
  · rw [Cell.slots_setSlot_ne v e, h.2.2.2 i]
    by_cases q : lo ≤ i ∧ i < k
    · rw [if_pos q, if_pos (by omega)]
    · rw [if_neg q, if_neg (by omega)]
def U16 : String := "java/lang/StringUTF16"
namespace Cmp5
def yN : MethodName := ⟨"java/lang/StringUTF16", "compress", "([CI[BII)I"⟩
abbrev yB : ByteArray := jdk_52_method_21_code
theorem d0 : decode yB 0 = .ok (.iconst 0, 1) := by decide +kernel
theorem d1 : decode yB 1 = .ok (.istore 5, 2) := by decide +kernel
theorem d3 : decode yB 3 = .ok (.iload 5, 2) := by decide +kernel
theorem d5 : decode yB 5 = .ok (.iload 4, 2) := by decide +kernel
theorem d7 : decode yB 7 = .ok (.if_icmp (.ge) 37, 3) := by decide +kernel
theorem d10 : decode yB 10 = .ok (.aload_n 0, 1) := by decide +kernel
theorem d11 : decode yB 11 = .ok (.iload_n 1, 1) := by decide +kernel
theorem d12 : decode yB 12 = .ok (.caload, 1) := by decide +kernel
theorem d13 : decode yB 13 = .ok (.istore 6, 2) := by decide +kernel
theorem d15 : decode yB 15 = .ok (.iload 6, 2) := by decide +kernel
theorem d17 : decode yB 17 = .ok (.sipush 255, 3) := by decide +kernel
theorem d20 : decode yB 20 = .ok (.if_icmp (.le) 6, 3) := by decide +kernel
theorem d26 : decode yB 26 = .ok (.aload_n 2, 1) := by decide +kernel
theorem d27 : decode yB 27 = .ok (.iload_n 3, 1) := by decide +kernel
theorem d28 : decode yB 28 = .ok (.iload 6, 2) := by decide +kernel
theorem d30 : decode yB 30 = .ok (.i2b, 1) := by decide +kernel
theorem d31 : decode yB 31 = .ok (.bastore, 1) := by decide +kernel
theorem d32 : decode yB 32 = .ok (.iinc 1 1, 3) := by decide +kernel
theorem d35 : decode yB 35 = .ok (.iinc 3 1, 3) := by decide +kernel
theorem d38 : decode yB 38 = .ok (.iinc 5 1, 3) := by decide +kernel
theorem d41 : decode yB 41 = .ok (.goto (-38), 3) := by decide +kernel
theorem d44 : decode yB 44 = .ok (.iload 4, 2) := by decide +kernel
theorem d46 : decode yB 46 = .ok (.ireturn, 1) := by decide +kernel
def site : List Cond := []
def tab : Cond := tabOf yN yB 7 (some .int) site
def P (b : Addr) (A : Cell) (d : Addr) (B : Cell) (o q len : Nat) (args : Array Value) (s : State) : Prop := args = #[.ref b, .int (Int32.ofNat o), .ref d, .int (Int32.ofNat q), .int (Int32.ofNat len)] ∧ Ch b A s ∧ Arr .byte d B s ∧ b ≠ d ∧ o + len ≤ A.slots.size ∧ q + len ≤ B.slots.size ∧ ∀ i, i < len → ¬ 255 < cv A (o + i)
def E (b : Addr) (A : Cell) (d : Addr) (B : Cell) (o q len : Nat) (r : Option Value) (s u : State) : Prop := r = some (.int (Int32.ofNat len)) ∧ ∃ B', Put d B' s u ∧ Laid B B' q (q + len) (fun j => Value.int (lo8 (cv A (o + (j - q)))))
/-- no char of the range above 255: len; the places written hold each char's low byte -/
theorem law (l : Launch) (b : Addr) (A : Cell) (d : Addr) (B : Cell) (o q len : Nat) : Law l yN 5 5 0 0 yB 7 (some .int) site (P b A d B o q len) (E b A d B o q len) (copyLocs d q len) 0 0 := by
  refine Law.of_walk (plainFor_of_name (by decide +kernel)) (by decide +kernel) (by decide +kernel) (by decide) (fun _ _ h => by rw [h.1]; rfl) (fun _ U U' hal hh h => ⟨h.1, h.2.1.mv hal hh, h.2.2.1.mv hal hh, h.2.2.2⟩) (fun r U U' V V' h1 hal h2 h => ⟨h.1, h.2.elim fun B' q => ⟨B', q.1.mv h1 h2, q.2⟩⟩) ?_
  intro p e s m args below meth c s₁ X0 hexec hbytes hml hret hlk hnm hown hh0 W hP
  obtain ⟨rfl, hA, hB, hne, l1, l2, hp⟩ := hP
  have c1 : Steps p.tables e below (s₁.setTop (entryFrame m #[.ref b, .int (Int32.ofNat o), .ref d, .int (Int32.ofNat q), .int (Int32.ofNat len)] 7)) (s₁.setTop (mkF m 0 #[.val (.ref b), .val (.int (Int32.ofNat o)), .val (.ref d), .val (.int (Int32.ofNat q)), .val (.int (Int32.ofNat len)), .unset, .unset] [])) := entry rfl
  have hA0 := hA.1.mv X0.warmed.alike hh0
  have hB0 := hB.mv X0.warmed.alike hh0
  have a31 := hA.1.2.2.2
  have c2 : Steps p.tables e below (s₁.setTop (entryFrame m #[.ref b, .int (Int32.ofNat o), .ref d, .int (Int32.ofNat q), .int (Int32.ofNat len)] 7)) (s₁.setTop (mkF m 3 #[.val (.ref b), .val (.int (Int32.ofNat o)), .val (.ref d), .val (.int (Int32.ofNat q)), .val (.int (Int32.ofNat len)), .val (.int 0), .unset] [])) := c1.trans (by
    refine iconstV X0.here hexec rfl 0 (hb hbytes d0) (by decide) ?_
    refine XS.istore X0.here hexec rfl (hb hbytes d1) rfl rfl ?_
    exact Steps.refl _)
  have loop : ∀ (r i : Nat), i + r = len → ∀ (z : Slot), (z = .unset ∨ ∃ w, z = .val w ∧ w.category = 1) → ∀ (Tl : State) (Bk : Cell), Stand p l e { frames := 0, locals := 0, cells := 0, slots := 0 } s m #[.ref b, .int (Int32.ofNat o), .ref d, .int (Int32.ofNat q), .int (Int32.ofNat len)] below meth c Tl ([] ++ copyLocs d q i) 0 0 → Put d Bk s₁ Tl → Laid B Bk q (q + i) (fun j => Value.int (lo8 (cv A (o + (j - q))))) →
      Steps p.tables e below (s₁.setTop (entryFrame m #[.ref b, .int (Int32.ofNat o), .ref d, .int (Int32.ofNat q), .int (Int32.ofNat len)] 7)) (Tl.setTop (mkF m 3 #[.val (.ref b), .val (.int (Int32.ofNat (o + i))), .val (.ref d), .val (.int (Int32.ofNat (q + i))), .val (.int (Int32.ofNat len)), .val (.int (Int32.ofNat i)), z] [])) → ∃ (T' : State) (B' : Cell) (z' : Slot), Stand p l e { frames := 0, locals := 0, cells := 0, slots := 0 } s m #[.ref b, .int (Int32.ofNat o), .ref d, .int (Int32.ofNat q), .int (Int32.ofNat len)] below meth c T' ([] ++ copyLocs d q len) 0 0 ∧ Put d B' s₁ T' ∧ Laid B B' q (q + len) (fun j => Value.int (lo8 (cv A (o + (j - q))))) ∧
      Steps p.tables e below (s₁.setTop (entryFrame m #[.ref b, .int (Int32.ofNat o), .ref d, .int (Int32.ofNat q), .int (Int32.ofNat len)] 7)) (T'.setTop (mkF m 3 #[.val (.ref b), .val (.int (Int32.ofNat (o + len))), .val (.ref d), .val (.int (Int32.ofNat (q + len))), .val (.int (Int32.ofNat len)), .val (.int (Int32.ofNat len)), z'] [])) := by
    intro r
    induction r with
    | zero =>
      intro i hi z hz Tl Bk Xl pl fl cl
      have hil : i = len := by omega
      rw [hil] at Xl fl cl
      exact ⟨Tl, Bk, z, Xl, pl, fl, cl⟩
    | succ r ih =>
      intro i hi z hz Tl Bk Xl pl fl cl
      have all := X0.warmed.alike.symm.trans Xl.warmed.alike
      have hAl := hA0.keep all (pl.other hne hA0.1)
      have hBk := hB0.like all pl.1 fl.1 fl.2.1 fl.2.2.1
      have hlt : q + i < Bk.slots.size := by rw [fl.2.2.1]; omega
      have c3 : Steps p.tables e below (s₁.setTop (entryFrame m #[.ref b, .int (Int32.ofNat o), .ref d, .int (Int32.ofNat q), .int (Int32.ofNat len)] 7)) (Tl.setTop (mkF m 12 #[.val (.ref b), .val (.int (Int32.ofNat (o + i))), .val (.ref d), .val (.int (Int32.ofNat (q + i))), .val (.int (Int32.ofNat len)), .val (.int (Int32.ofNat i)), z] [.int (Int32.ofNat (o + i)), .ref b])) := cl.trans (by
        refine XS.iload Xl.here hexec rfl (hb hbytes d3) rfl ?_
        refine XS.iload Xl.here hexec rfl (hb hbytes d5) rfl ?_
        refine XS.icmpNo Xl.here hexec rfl (hb hbytes d7) rfl (ii_ge_f (lt32 (by omega) (by omega))) ?_
        refine XS.aloadN Xl.here hexec rfl (hb hbytes d10) rfl rfl ?_
        refine XS.iloadN Xl.here hexec rfl (hb hbytes d11) rfl ?_
        exact Steps.refl _)
      have c4 : Steps p.tables e below (s₁.setTop (entryFrame m #[.ref b, .int (Int32.ofNat o), .ref d, .int (Int32.ofNat q), .int (Int32.ofNat len)] 7)) (Tl.setTop (mkF m 13 #[.val (.ref b), .val (.int (Int32.ofNat (o + i))), .val (.ref d), .val (.int (Int32.ofNat (q + i))), .val (.int (Int32.ofNat len)), .val (.int (Int32.ofNat i)), z] [.int (cv A (o + i))])) := c3.trans (by
        refine Xl.aget hexec hAl rfl (hA.get (i := o + i) (by omega)) rfl rfl (hb hbytes d12) ?_
        exact Steps.refl _)
      have c5 : Steps p.tables e below (s₁.setTop (entryFrame m #[.ref b, .int (Int32.ofNat o), .ref d, .int (Int32.ofNat q), .int (Int32.ofNat len)] 7)) (Tl.setTop (mkF m 15 #[.val (.ref b), .val (.int (Int32.ofNat (o + i))), .val (.ref d), .val (.int (Int32.ofNat (q + i))), .val (.int (Int32.ofNat len)), .val (.int (Int32.ofNat i)), .val (.int (cv A (o + i)))] [])) := c4.trans (by
        refine XS.istoreS Xl.here hexec rfl (hb hbytes d13) rfl rfl hz ?_
        exact Steps.refl _)
      have c6 : Steps p.tables e below (s₁.setTop (entryFrame m #[.ref b, .int (Int32.ofNat o), .ref d, .int (Int32.ofNat q), .int (Int32.ofNat len)] 7)) (Tl.setTop (mkF m 31 #[.val (.ref b), .val (.int (Int32.ofNat (o + i))), .val (.ref d), .val (.int (Int32.ofNat (q + i))), .val (.int (Int32.ofNat len)), .val (.int (Int32.ofNat i)), .val (.int (cv A (o + i)))] [.int (lo8 (cv A (o + i))), .int (Int32.ofNat (q + i)), .ref d])) := c5.trans (by
        refine XS.iload Xl.here hexec rfl (hb hbytes d15) rfl ?_
        refine sipushV Xl.here hexec rfl 255 (hb hbytes d17) (by decide) ?_
        refine XS.icmpYes Xl.here hexec rfl (pc0 := 20) rfl (hb hbytes d20) rfl (ii_le_t (hp i (by omega))) (by decide) rfl ?_
        refine XS.aloadN Xl.here hexec rfl (hb hbytes d26) rfl rfl ?_
        refine XS.iloadN Xl.here hexec rfl (hb hbytes d27) rfl ?_
        refine XS.iload Xl.here hexec rfl (hb hbytes d28) rfl ?_
        refine i2b Xl.here hexec rfl (hb hbytes d30) rfl ?_
        exact Steps.refl _)
      obtain ⟨T7, X7, p7, st7⟩ := Xl.aput hexec hBk rfl hlt rfl (fits_lo8 (cv A (o + i))) (g := (mkF m 31 #[.val (.ref b), .val (.int (Int32.ofNat (o + i))), .val (.ref d), .val (.int (Int32.ofNat (q + i))), .val (.int (Int32.ofNat len)), .val (.int (Int32.ofNat i)), .val (.int (cv A (o + i)))] [.int (lo8 (cv A (o + i))), .int (Int32.ofNat (q + i)), .ref d])) rfl (rest := []) rfl (hb hbytes d31)
      have c8 : Steps p.tables e below (s₁.setTop (entryFrame m #[.ref b, .int (Int32.ofNat o), .ref d, .int (Int32.ofNat q), .int (Int32.ofNat len)] 7)) (T7.setTop (mkF m 32 #[.val (.ref b), .val (.int (Int32.ofNat (o + i))), .val (.ref d), .val (.int (Int32.ofNat (q + i))), .val (.int (Int32.ofNat len)), .val (.int (Int32.ofNat i)), .val (.int (cv A (o + i)))] [])) := c6.trans (st7 _ (Steps.refl _))
      have c9 : Steps p.tables e below (s₁.setTop (entryFrame m #[.ref b, .int (Int32.ofNat o), .ref d, .int (Int32.ofNat q), .int (Int32.ofNat len)] 7)) (T7.setTop (mkF m 3 #[.val (.ref b), .val (.int (Int32.ofNat (o + i) + 1)), .val (.ref d), .val (.int (Int32.ofNat (q + i) + 1)), .val (.int (Int32.ofNat len)), .val (.int (Int32.ofNat i + 1)), .val (.int (cv A (o + i)))] [])) := c8.trans (by
        refine iincV X7.here hexec rfl 1 (hb hbytes d32) (by decide) rfl rfl ?_
        refine iincV X7.here hexec rfl 1 (hb hbytes d35) (by decide) rfl rfl ?_
        refine iincV X7.here hexec rfl 1 (hb hbytes d38) (by decide) rfl rfl ?_
        refine XS.goto X7.here hexec rfl (pc0 := 41) rfl (hb hbytes d41) (by decide) rfl ?_
        exact Steps.refl _)
      have c10 : Steps p.tables e below (s₁.setTop (entryFrame m #[.ref b, .int (Int32.ofNat o), .ref d, .int (Int32.ofNat q), .int (Int32.ofNat len)] 7)) (T7.setTop (mkF m 3 #[.val (.ref b), .val (.int (Int32.ofNat (o + (i + 1)))), .val (.ref d), .val (.int (Int32.ofNat (q + (i + 1)))), .val (.int (Int32.ofNat len)), .val (.int (Int32.ofNat (i + 1))), .val (.int (cv A (o + i)))] [])) := by
        have := c9
        rw [succ32, succ32, succ32] at this
        exact this
      exact ih (i + 1) (by omega) _ (Or.inr ⟨_, rfl, rfl⟩) T7 _ (by rw [copyLocs_step, ← List.append_assoc]; exact X7) (pl.trans p7) (fl.step (by omega) hlt (by simp)) c10
  obtain ⟨T9, B9, z9, X9, p9, f9, g9⟩ := loop len 0 (by omega) .unset (Or.inl rfl) s₁ B (by simpa [copyLocs] using X0) ⟨hB0.1, fun _ _ => rfl, rfl⟩ (Laid.zero _ _ _) c2
  have c11 : Steps p.tables e below (s₁.setTop (entryFrame m #[.ref b, .int (Int32.ofNat o), .ref d, .int (Int32.ofNat q), .int (Int32.ofNat len)] 7)) (T9.setTop (mkF m 46 #[.val (.ref b), .val (.int (Int32.ofNat (o + len))), .val (.ref d), .val (.int (Int32.ofNat (q + len))), .val (.int (Int32.ofNat len)), .val (.int (Int32.ofNat len)), z9] [.int (Int32.ofNat len)])) := g9.trans (by
    refine XS.iload X9.here hexec rfl (hb hbytes d3) rfl ?_
    refine XS.iload X9.here hexec rfl (hb hbytes d5) rfl ?_
    refine XS.icmpYes X9.here hexec rfl (pc0 := 7) rfl (hb hbytes d7) rfl (ii_ge_t (nlt32 (by omega) (Nat.le_refl _))) (by decide) rfl ?_
    refine XS.iload X9.here hexec rfl (hb hbytes d44) rfl ?_
    exact Steps.refl _)
  exact ⟨T9, some (.int (Int32.ofNat len)), _, _, _, X9, by simp, rfl, rfl, (fun h => by cases h), ⟨rfl, B9, p9.from hh0, f9⟩, fun fs hl => c11.trans (X9.ireturnOut hexec hret rfl (Or.inl rfl) (hb hbytes d46) hl)⟩
end Cmp5
namespace Cmp3
def yN : MethodName := ⟨"java/lang/StringUTF16", "compress", "([CII)[B"⟩
abbrev yB : ByteArray := jdk_52_method_16_code
theorem d0 : decode yB 0 = .ok (.iload_n 2, 1) := by decide +kernel
theorem d1 : decode yB 1 = .ok (.newarray .byte, 2) := by decide +kernel
theorem d3 : decode yB 3 = .ok (.astore_n 3, 1) := by decide +kernel
theorem d4 : decode yB 4 = .ok (.aload_n 0, 1) := by decide +kernel
theorem d5 : decode yB 5 = .ok (.iload_n 1, 1) := by decide +kernel
theorem d6 : decode yB 6 = .ok (.aload_n 3, 1) := by decide +kernel
theorem d7 : decode yB 7 = .ok (.iconst 0, 1) := by decide +kernel
theorem d8 : decode yB 8 = .ok (.iload_n 2, 1) := by decide +kernel
theorem d9 : decode yB 9 = .ok (.invokestatic 115, 3) := by decide +kernel
theorem d12 : decode yB 12 = .ok (.istore 4, 2) := by decide +kernel
theorem d14 : decode yB 14 = .ok (.iload 4, 2) := by decide +kernel
theorem d16 : decode yB 16 = .ok (.iload_n 2, 1) := by decide +kernel
theorem d17 : decode yB 17 = .ok (.if_icmp (.eq) 40, 3) := by decide +kernel
theorem d57 : decode yB 57 = .ok (.aload_n 3, 1) := by decide +kernel
theorem d58 : decode yB 58 = .ok (.areturn, 1) := by decide +kernel
def site : List Cond := [.arrayClass .byte, Cmp5.tab] ++ staticW U16 115 Cmp5.yN
def tab : Cond := tabOf yN yB 6 (some (.array .byte)) site
def P (b : Addr) (A : Cell) (o len : Nat) (args : Array Value) (s : State) : Prop := args = #[.ref b, .int (Int32.ofNat o), .int (Int32.ofNat len)] ∧ Ch b A s ∧ o + len ≤ A.slots.size ∧ len ≤ 536870912 ∧ ∀ i, i < len → ¬ 255 < cv A (o + i)
def E (b : Addr) (A : Cell) (o len : Nat) (r : Option Value) (s u : State) : Prop := NewArr .byte "[B" len (fun j => .int (lo8 (cv A (o + j)))) r s u ∧ u.heap.size = s.heap.size + 1
/-- no char of the range above 255: a new byte[] of their low bytes -/
theorem law (l : Launch) (b : Addr) (A : Cell) (o len : Nat) : Law l yN 3 3 1 18 yB 6 (some (.array .byte)) site (P b A o len) (E b A o len) [] 1 len := by
  refine Law.of_walk (plainFor_of_name (by decide +kernel)) (by decide +kernel) (by decide +kernel) (by decide) (fun _ _ h => by rw [h.1]; rfl) (fun _ U U' hal hh h => ⟨h.1, h.2.1.mv hal hh, h.2.2⟩) (fun r U U' V V' h1 hal h2 h => ⟨NewArr.mv r U U' V V' h1 hal h2 h.1, by rw [h1, h2]; exact h.2⟩) ?_
  intro p e s m args below meth c s₁ X0 hexec hbytes hml hret hlk hnm hown hh0 W hP
  obtain ⟨rfl, hA, l1, l2, hp⟩ := hP
  have a31 := hA.1.2.2.2
  have c1 : Steps p.tables e below (s₁.setTop (entryFrame m #[.ref b, .int (Int32.ofNat o), .int (Int32.ofNat len)] 6)) (s₁.setTop (mkF m 0 #[.val (.ref b), .val (.int (Int32.ofNat o)), .val (.int (Int32.ofNat len)), .unset, .unset, .unset] [])) := entry rfl
  have c2 : Steps p.tables e below (s₁.setTop (entryFrame m #[.ref b, .int (Int32.ofNat o), .int (Int32.ofNat len)] 6)) (s₁.setTop (mkF m 1 #[.val (.ref b), .val (.int (Int32.ofNat o)), .val (.int (Int32.ofNat len)), .unset, .unset, .unset] [.int (Int32.ofNat len)])) := c1.trans (by
    refine XS.iloadN X0.here hexec rfl (hb hbytes d0) rfl ?_
    exact Steps.refl _)
  obtain ⟨T3, B3, X3, ba3, bs3, bv3, bh3, bf3, st3⟩ := X0.anew hexec (atype := .byte) (wk W (.arrayClass .byte)) rfl (by show len * 1 ≤ _; omega) (by omega) (g := (mkF m 1 #[.val (.ref b), .val (.int (Int32.ofNat o)), .val (.int (Int32.ofNat len)), .unset, .unset, .unset] [.int (Int32.ofNat len)])) rfl (hb hbytes d1) (rest := []) rfl (Nat.le_refl _) (by show 0 + len ≤ len; omega)
  rw [hh0] at ba3 st3
  have kp3 : XT.Kept s T3 := (XT.Kept.of_eq hh0).push bh3
  have hA3 := hA.keep X3.warmed.alike (kp3 _ _ hA.1.1)
  have hne : b ≠ s.heap.size := hA.1.ne
  have c4 : Steps p.tables e below (s₁.setTop (entryFrame m #[.ref b, .int (Int32.ofNat o), .int (Int32.ofNat len)] 6)) (T3.setTop (mkF m 3 #[.val (.ref b), .val (.int (Int32.ofNat o)), .val (.int (Int32.ofNat len)), .unset, .unset, .unset] [.ref s.heap.size])) := c2.trans (st3 _ (Steps.refl _))
  have c5 : Steps p.tables e below (s₁.setTop (entryFrame m #[.ref b, .int (Int32.ofNat o), .int (Int32.ofNat len)] 6)) (T3.setTop (mkF m 9 #[.val (.ref b), .val (.int (Int32.ofNat o)), .val (.int (Int32.ofNat len)), .val (.ref s.heap.size), .unset, .unset] [.int (Int32.ofNat len), .int 0, .ref s.heap.size, .int (Int32.ofNat o), .ref b])) := c4.trans (by
    refine XS.astoreN X3.here hexec rfl (hb hbytes d3) rfl rfl rfl ?_
    refine XS.aloadN X3.here hexec rfl (hb hbytes d4) rfl rfl ?_
    refine XS.iloadN X3.here hexec rfl (hb hbytes d5) rfl ?_
    refine XS.aloadN X3.here hexec rfl (hb hbytes d6) rfl rfl ?_
    refine iconstV X3.here hexec rfl 0 (hb hbytes d7) (by decide) ?_
    refine XS.iloadN X3.here hexec rfl (hb hbytes d8) rfl ?_
    exact Steps.refl _)
  obtain ⟨v6, T6, X6, E6, g6⟩ := X3.callS hexec (Cmp5.law l b A s.heap.size B3 o 0 len) hown (wks W (staticW U16 115 Cmp5.yN)) (wk W Cmp5.tab) (W := 0) (Nat.le_of_ble_eq_true rfl) (Nat.le_of_ble_eq_true rfl) (Nat.le_refl _) (by show 0 + len + 0 ≤ len; omega) (g := (mkF m 9 #[.val (.ref b), .val (.int (Int32.ofNat o)), .val (.int (Int32.ofNat len)), .val (.ref s.heap.size), .unset, .unset] [.int (Int32.ofNat len), .int (Int32.ofNat 0), .ref s.heap.size, .int (Int32.ofNat o), .ref b])) rfl (by rw [hml]; rfl) c5 (argsL := [.ref b, .int (Int32.ofNat o), .ref s.heap.size, .int (Int32.ofNat 0), .int (Int32.ofNat len)]) (rest := []) rfl rfl (by show 2 * 0 + 0 ≤ _; decide) (hb hbytes d9) (⟨rfl, hA3, ba3, hne, l1, by rw [bs3]; simp, hp⟩)
  obtain ⟨rfl, B6, p6, f6⟩ := E6
  have c7 : Steps p.tables e below (s₁.setTop (entryFrame m #[.ref b, .int (Int32.ofNat o), .int (Int32.ofNat len)] 6)) (T6.setTop (mkF m 12 #[.val (.ref b), .val (.int (Int32.ofNat o)), .val (.int (Int32.ofNat len)), .val (.ref s.heap.size), .unset, .unset] [.int (Int32.ofNat len)])) := g6
  have c8 : Steps p.tables e below (s₁.setTop (entryFrame m #[.ref b, .int (Int32.ofNat o), .int (Int32.ofNat len)] 6)) (T6.setTop (mkF m 58 #[.val (.ref b), .val (.int (Int32.ofNat o)), .val (.int (Int32.ofNat len)), .val (.ref s.heap.size), .val (.int (Int32.ofNat len)), .unset] [.ref s.heap.size])) := c7.trans (by
    refine XS.istore X6.here hexec rfl (hb hbytes d12) rfl rfl ?_
    refine XS.iload X6.here hexec rfl (hb hbytes d14) rfl ?_
    refine XS.iloadN X6.here hexec rfl (hb hbytes d16) rfl ?_
    refine XS.icmpYes X6.here hexec rfl (pc0 := 17) rfl (hb hbytes d17) rfl (ii_eq_t rfl) (by decide) rfl ?_
    refine XS.aloadN X6.here hexec rfl (hb hbytes d57) rfl rfl ?_
    exact Steps.refl _)
  have X8 := X6.wide (L' := []) (cells' := 1) (slots' := len) (fun x hx hlt => by
    simp only [List.nil_append, copyLocs, List.mem_map, List.mem_range] at hx
    obtain ⟨i, -, rfl⟩ := hx
    exact absurd hlt (Nat.lt_irrefl _)) (Nat.le_refl _) (by omega)
  exact ⟨T6, some (.ref s.heap.size), _, _, _, X8, rfl, rfl, rfl, (fun h => by cases h), ⟨⟨rfl, B6, ba3.like (X3.warmed.alike.symm.trans X6.warmed.alike) p6.1 f6.1 f6.2.1 f6.2.2.1, f6.2.1.trans bv3, by rw [X6.warmed.alike.findClass, f6.1]; exact bf3, by rw [f6.2.2.1, bs3]; simp, fun j hj => by rw [f6.2.2.2 j, if_pos (by omega)]; rfl, kp3.put p6 (Nat.le_refl _)⟩, by rw [p6.2.2, bh3, hh0]; simp⟩, fun fs hl => c8.trans (X8.areturnOut hexec rfl hret rfl (hb hbytes d58) hl)⟩
end Cmp3
namespace CodL
def yN : MethodName := ⟨"java/lang/StringUTF16", "coderFromArrayLen", "([BI)B"⟩
abbrev yB : ByteArray := jdk_52_method_15_code
theorem d0 : decode yB 0 = .ok (.iload_n 1, 1) := by decide +kernel
theorem d1 : decode yB 1 = .ok (.aload_n 0, 1) := by decide +kernel
theorem d2 : decode yB 2 = .ok (.arraylength, 1) := by decide +kernel
theorem d3 : decode yB 3 = .ok (.isub, 1) := by decide +kernel
theorem d4 : decode yB 4 = .ok (.bipush 31, 2) := by decide +kernel
theorem d6 : decode yB 6 = .ok (.iushr, 1) := by decide +kernel
theorem d7 : decode yB 7 = .ok (.i2b, 1) := by decide +kernel
theorem d8 : decode yB 8 = .ok (.ireturn, 1) := by decide +kernel
def site : List Cond := []
def tab : Cond := tabOf yN yB 2 (some .byte) site
def P (d : Addr) (B : Cell) (args : Array Value) (s : State) : Prop := args = #[.ref d, .int (Int32.ofNat B.slots.size)] ∧ Arr .byte d B s
def E (r : Option Value) (s u : State) : Prop := XT.PureE (some (.int 0)) r s u
/-- an array as long as the number of chars: LATIN1 -/
theorem law (l : Launch) (d : Addr) (B : Cell) : Law l yN 2 2 0 0 yB 2 (some .byte) site (P d B) E [] 0 0 := by
  refine Law.of_walk (plainFor_of_name (by decide +kernel)) (by decide +kernel) (by decide +kernel) (by decide) (fun _ _ h => by rw [h.1]; rfl) (fun _ U U' hal hh h => ⟨h.1, h.2.mv hal hh⟩) (fun r U U' V V' h1 hal h2 h => XT.PureE.mv r U U' V V' h1 hal h2 h) ?_
  intro p e s m args below meth c s₁ X0 hexec hbytes hml hret hlk hnm hown hh0 W hP
  obtain ⟨rfl, hB⟩ := hP
  have hB0 := hB.mv X0.warmed.alike hh0
  have c1 : Steps p.tables e below (s₁.setTop (entryFrame m #[.ref d, .int (Int32.ofNat B.slots.size)] 2)) (s₁.setTop (mkF m 0 #[.val (.ref d), .val (.int (Int32.ofNat B.slots.size))] [])) := entry rfl
  have c2 : Steps p.tables e below (s₁.setTop (entryFrame m #[.ref d, .int (Int32.ofNat B.slots.size)] 2)) (s₁.setTop (mkF m 2 #[.val (.ref d), .val (.int (Int32.ofNat B.slots.size))] [.ref d, .int (Int32.ofNat B.slots.size)])) := c1.trans (by
    refine XS.iloadN X0.here hexec rfl (hb hbytes d0) rfl ?_
    refine XS.aloadN X0.here hexec rfl (hb hbytes d1) rfl rfl ?_
    exact Steps.refl _)
  have c3 : Steps p.tables e below (s₁.setTop (entryFrame m #[.ref d, .int (Int32.ofNat B.slots.size)] 2)) (s₁.setTop (mkF m 8 #[.val (.ref d), .val (.int (Int32.ofNat B.slots.size))] [.int (lo8 (ushr (Int32.ofNat B.slots.size - Int32.ofNat B.slots.size) 31))])) := c2.trans (by
    refine X0.alen hexec hB0 rfl rfl (hb hbytes d2) ?_
    refine XS.isub X0.here hexec rfl (hb hbytes d3) rfl ?_
    refine bipushV X0.here hexec rfl 31 (hb hbytes d4) (by decide) ?_
    refine iushr X0.here hexec rfl (hb hbytes d6) rfl ?_
    refine i2b X0.here hexec rfl (hb hbytes d7) rfl ?_
    exact Steps.refl _)
  have e0 : lo8 (ushr (Int32.ofNat B.slots.size - Int32.ofNat B.slots.size) 31) = 0 := by rw [Int32.sub_self]; decide
  rw [e0] at c3
  exact ⟨s₁, some (.int 0), _, _, _, X0, rfl, rfl, rfl, (fun h => by cases h), ⟨rfl, hh0⟩, fun fs hl => c3.trans (X0.ireturnOut hexec hret rfl (Or.inr (Or.inr (Or.inl rfl))) (hb hbytes d8) hl)⟩
end CodL
/-- the String at a is Latin-1 over a new byte[] (the heap's one new cell): the low bytes of the len chars of A from o on; every cell but a is kept -/
def Got (a : Addr) (D : Cell) (fV fC : Field) (A : Cell) (o len : Nat) (r : Option Value) (s u : State) : Prop := r = none ∧ ∃ D' V : Cell, Blank "java/lang/String" a D' u ∧ Same D D' [fV.slot, fC.slot] ∧ D'.slots[fV.slot]? = some (.ref s.heap.size) ∧ D'.slots[fC.slot]? = some (.int 0) ∧ Arr .byte s.heap.size V u ∧ V.vm = .none ∧ u.vm.findClass "[B" = some V.cls ∧ V.slots.size = len ∧ (∀ j, j < len → V.slots[j]? = some (.int (lo8 (cv A (o + j))))) ∧ (∀ (y : Addr) (c : Cell), y ≠ a → s.heap[y]? = some c → u.heap[y]? = some c) ∧ u.heap.size = s.heap.size + 1
theorem Got.mv {a : Addr} {D A : Cell} {fV fC : Field} {o len : Nat} : ∀ r (U U' V V' : State), U'.heap = U.heap → V.vm.Alike V'.vm → V'.heap = V.heap → Got a D fV fC A o len r U V → Got a D fV fC A o len r U' V' :=
  fun r U U' V V' h1 hal h2 ⟨e0, D', X, a1, a2, a3, a4, a5, a6, a7, a8, a9, a10, a11⟩ => ⟨e0, D', X, a1.mv hal h2, a2, by rw [h1]; exact a3, a4, by rw [h1]; exact a5.mv hal h2, a6, by rw [hal.findClass]; exact a7, a8, a9, by rw [h1, h2]; exact a10, by rw [h1, h2]; exact a11⟩
namespace New4
def yN : MethodName := ⟨"java/lang/String", "<init>", "([CIILjava/lang/Void;)V"⟩
abbrev yB : ByteArray := jdk_42_method_149_code
theorem d0 : decode yB 0 = .ok (.aload_n 0, 1) := by decide +kernel
theorem d1 : decode yB 1 = .ok (.invokespecial 1, 3) := by decide +kernel
theorem d4 : decode yB 4 = .ok (.iload_n 3, 1) := by decide +kernel
theorem d5 : decode yB 5 = .ok (.ifCond (.ne) 22, 3) := by decide +kernel
theorem d27 : decode yB 27 = .ok (.getstatic 38, 3) := by decide +kernel
theorem d30 : decode yB 30 = .ok (.ifCond (.eq) 28, 3) := by decide +kernel
theorem d33 : decode yB 33 = .ok (.aload_n 1, 1) := by decide +kernel
theorem d34 : decode yB 34 = .ok (.iload_n 2, 1) := by decide +kernel
theorem d35 : decode yB 35 = .ok (.iload_n 3, 1) := by decide +kernel
theorem d36 : decode yB 36 = .ok (.invokestatic 177, 3) := by decide +kernel
theorem d39 : decode yB 39 = .ok (.astore 5, 2) := by decide +kernel
theorem d41 : decode yB 41 = .ok (.aload_n 0, 1) := by decide +kernel
theorem d42 : decode yB 42 = .ok (.aload 5, 2) := by decide +kernel
theorem d44 : decode yB 44 = .ok (.iload_n 3, 1) := by decide +kernel
theorem d45 : decode yB 45 = .ok (.invokestatic 47, 3) := by decide +kernel
theorem d48 : decode yB 48 = .ok (.putfield 15, 3) := by decide +kernel
theorem d51 : decode yB 51 = .ok (.aload_n 0, 1) := by decide +kernel
theorem d52 : decode yB 52 = .ok (.aload 5, 2) := by decide +kernel
theorem d54 : decode yB 54 = .ok (.putfield 9, 3) := by decide +kernel
theorem d57 : decode yB 57 = .ok (.return_, 1) := by decide +kernel
def site : List Cond := [.fieldLink "java/lang/String" 38 "java/lang/String" "COMPACT_STRINGS" "Z", Cmp3.tab, CodL.tab, .laysFinal "java/lang/String" "java/lang/String" "value" "[B", .fieldLink "java/lang/String" 9 "java/lang/String" "value" "[B", .laysFinal "java/lang/String" "java/lang/String" "coder" "B", .fieldLink "java/lang/String" 15 "java/lang/String" "coder" "B"] ++ objW "java/lang/String" 1 ++ staticW "java/lang/String" 177 Cmp3.yN ++ staticW "java/lang/String" 47 CodL.yN
def tab : Cond := tabOf yN yB 6 none site
def P (a : Addr) (D : Cell) (fV fC : Field) (b : Addr) (A : Cell) (z : Int32) (o len : Nat) (args : Array Value) (s : State) : Prop := args = #[.ref a, .ref b, .int (Int32.ofNat o), .int (Int32.ofNat len), .null] ∧ Blank "java/lang/String" a D s ∧ Found "java/lang/String" "value" "[B" fV s ∧ Found "java/lang/String" "coder" "B" fC s ∧ Ch b A s ∧ StaticIs s "java/lang/String" "COMPACT_STRINGS" "Z" (.int z) ∧ ¬ z = 0 ∧ 0 < len ∧ o + len ≤ A.slots.size ∧ len ≤ 536870912 ∧ ∀ i, i < len → ¬ 255 < cv A (o + i)
def E (a : Addr) (D : Cell) (fV fC : Field) (A : Cell) (o len : Nat) (r : Option Value) (s u : State) : Prop := Got a D fV fC A o len r s u
/-- len > 0, no char of the range above 255: a Latin-1 String of their low bytes -/
theorem law (l : Launch) (a : Addr) (D : Cell) (fV fC : Field) (b : Addr) (A : Cell) (z : Int32) (o len : Nat) : Law l yN 5 4 2 35 yB 6 none site (P a D fV fC b A z o len) (E a D fV fC A o len) [⟨a, fC.slot⟩, ⟨a, fV.slot⟩] 1 len := by
  refine Law.of_walk (plainFor_of_name (by decide +kernel)) (by decide +kernel) (by decide +kernel) (by decide) (fun _ _ h => by rw [h.1]; rfl) (fun _ U U' hal hh h => ⟨h.1, h.2.1.mv hal hh, h.2.2.1.al hal, h.2.2.2.1.al hal, h.2.2.2.2.1.mv hal hh, h.2.2.2.2.2.1.there hal hh, h.2.2.2.2.2.2⟩) (fun r U U' V V' h1 hal h2 h => Got.mv r U U' V V' h1 hal h2 h) ?_
  intro p e s m args below meth c s₁ X0 hexec hbytes hml hret hlk hnm hown hh0 W hP
  obtain ⟨rfl, hB, f1, f2, hA, s1, hz, l0, l1, l2, hp⟩ := hP
  have a31 := hA.1.2.2.2
  have c1 : Steps p.tables e below (s₁.setTop (entryFrame m #[.ref a, .ref b, .int (Int32.ofNat o), .int (Int32.ofNat len), .null] 6)) (s₁.setTop (mkF m 0 #[.val (.ref a), .val (.ref b), .val (.int (Int32.ofNat o)), .val (.int (Int32.ofNat len)), .val .null, .unset] [])) := entry rfl
  have c2 : Steps p.tables e below (s₁.setTop (entryFrame m #[.ref a, .ref b, .int (Int32.ofNat o), .int (Int32.ofNat len), .null] 6)) (s₁.setTop (mkF m 1 #[.val (.ref a), .val (.ref b), .val (.int (Int32.ofNat o)), .val (.int (Int32.ofNat len)), .val .null, .unset] [.ref a])) := c1.trans (by
    refine XS.aloadN X0.here hexec rfl (hb hbytes d0) rfl rfl ?_
    exact Steps.refl _)
  obtain ⟨T3, X3, q3, st3⟩ := X0.oinit hexec hown (wks W (objW "java/lang/String" 1)) (g := (mkF m 1 #[.val (.ref a), .val (.ref b), .val (.int (Int32.ofNat o)), .val (.int (Int32.ofNat len)), .val .null, .unset] [.ref a])) rfl (by rw [hml]; rfl) (rest := []) rfl (hb hbytes d1) (W := 0) (by show 2 * 0 + 0 ≤ _; decide) (Nat.le_of_ble_eq_true rfl) (Nat.le_of_ble_eq_true rfl)
  have hh3 := q3.trans hh0
  have c4 : Steps p.tables e below (s₁.setTop (entryFrame m #[.ref a, .ref b, .int (Int32.ofNat o), .int (Int32.ofNat len), .null] 6)) (T3.setTop (mkF m 27 #[.val (.ref a), .val (.ref b), .val (.int (Int32.ofNat o)), .val (.int (Int32.ofNat len)), .val .null, .unset] [])) := (c2.trans (st3 _ (Steps.refl _))).trans (by
    refine XS.iloadN X3.here hexec rfl (hb hbytes d4) rfl ?_
    refine XS.ifYes X3.here hexec rfl (pc0 := 5) rfl (hb hbytes d5) rfl (i0_ne_t (nz32 (by omega) l0)) (by decide) rfl ?_
    exact Steps.refl _)
  obtain ⟨T5, X5, q5, st5⟩ := X3.sget hexec hown (wk W (.fieldLink "java/lang/String" 38 "java/lang/String" "COMPACT_STRINGS" "Z")) s1 (fun _ _ h => by rw [hh3]; exact h) (g := (mkF m 27 #[.val (.ref a), .val (.ref b), .val (.int (Int32.ofNat o)), .val (.int (Int32.ofNat len)), .val .null, .unset] [])) rfl (hb hbytes d27)
  have hh5 := q5.trans hh3
  have c6 : Steps p.tables e below (s₁.setTop (entryFrame m #[.ref a, .ref b, .int (Int32.ofNat o), .int (Int32.ofNat len), .null] 6)) (T5.setTop (mkF m 30 #[.val (.ref a), .val (.ref b), .val (.int (Int32.ofNat o)), .val (.int (Int32.ofNat len)), .val .null, .unset] [.int z])) := c4.trans (st5 _ (Steps.refl _))
  have c7 : Steps p.tables e below (s₁.setTop (entryFrame m #[.ref a, .ref b, .int (Int32.ofNat o), .int (Int32.ofNat len), .null] 6)) (T5.setTop (mkF m 36 #[.val (.ref a), .val (.ref b), .val (.int (Int32.ofNat o)), .val (.int (Int32.ofNat len)), .val .null, .unset] [.int (Int32.ofNat len), .int (Int32.ofNat o), .ref b])) := c6.trans (by
    refine XS.ifNo X5.here hexec rfl (hb hbytes d30) rfl (i0_eq_f hz) ?_
    refine XS.aloadN X5.here hexec rfl (hb hbytes d33) rfl rfl ?_
    refine XS.iloadN X5.here hexec rfl (hb hbytes d34) rfl ?_
    refine XS.iloadN X5.here hexec rfl (hb hbytes d35) rfl ?_
    exact Steps.refl _)
  obtain ⟨v8, T8, X8, E8, g8⟩ := X5.callS hexec (Cmp3.law l b A o len) hown (wks W (staticW "java/lang/String" 177 Cmp3.yN)) (wk W Cmp3.tab) (W := 0) (Nat.le_of_ble_eq_true rfl) (Nat.le_of_ble_eq_true rfl) (Nat.le_refl _) (by show 0 + len ≤ len; omega) (g := (mkF m 36 #[.val (.ref a), .val (.ref b), .val (.int (Int32.ofNat o)), .val (.int (Int32.ofNat len)), .val .null, .unset] [.int (Int32.ofNat len), .int (Int32.ofNat o), .ref b])) rfl (by rw [hml]; rfl) c7 (argsL := [.ref b, .int (Int32.ofNat o), .int (Int32.ofNat len)]) (rest := []) rfl rfl (by show 2 * 0 + 0 ≤ _; decide) (hb hbytes d36) (⟨rfl, hA.mv X5.warmed.alike hh5, l1, l2, hp⟩)
  obtain ⟨e8, z8⟩ := E8
  obtain ⟨rfl, N, n1, n2, n3, n4, n5, n6⟩ := NewArr.mv _ T5 s _ _ hh5.symm (Vm.Alike.refl _) rfl e8
  rw [hh5] at z8
  have hB1 := hB.keep X8.warmed.alike (n6 _ _ hB.1)
  have hne : s.heap.size ≠ a := (Nat.ne_of_lt (Array.getElem?_eq_some_iff.mp hB.1).1).symm
  have c9 : Steps p.tables e below (s₁.setTop (entryFrame m #[.ref a, .ref b, .int (Int32.ofNat o), .int (Int32.ofNat len), .null] 6)) (T8.setTop (mkF m 39 #[.val (.ref a), .val (.ref b), .val (.int (Int32.ofNat o)), .val (.int (Int32.ofNat len)), .val .null, .unset] [.ref s.heap.size])) := g8
  have c10 : Steps p.tables e below (s₁.setTop (entryFrame m #[.ref a, .ref b, .int (Int32.ofNat o), .int (Int32.ofNat len), .null] 6)) (T8.setTop (mkF m 45 #[.val (.ref a), .val (.ref b), .val (.int (Int32.ofNat o)), .val (.int (Int32.ofNat len)), .val .null, .val (.ref s.heap.size)] [.int (Int32.ofNat N.slots.size), .ref s.heap.size, .ref a])) := by
    have hc : Steps p.tables e below (s₁.setTop (entryFrame m #[.ref a, .ref b, .int (Int32.ofNat o), .int (Int32.ofNat len), .null] 6)) (T8.setTop (mkF m 45 #[.val (.ref a), .val (.ref b), .val (.int (Int32.ofNat o)), .val (.int (Int32.ofNat len)), .val .null, .val (.ref s.heap.size)] [.int (Int32.ofNat len), .ref s.heap.size, .ref a])) := c9.trans (by
      refine XS.astore X8.here hexec rfl (hb hbytes d39) rfl rfl rfl ?_
      refine XS.aloadN X8.here hexec rfl (hb hbytes d41) rfl rfl ?_
      refine XS.aload X8.here hexec rfl (hb hbytes d42) rfl rfl ?_
      refine XS.iloadN X8.here hexec rfl (hb hbytes d44) rfl ?_
      exact Steps.refl _)
    rw [n4]; exact hc
  obtain ⟨v11, T11, X11, E11, g11⟩ := X8.callS hexec (CodL.law l s.heap.size N) hown (wks W (staticW "java/lang/String" 47 CodL.yN)) (wk W CodL.tab) (W := 1) (Nat.le_of_ble_eq_true rfl) (Nat.le_of_ble_eq_true rfl) (Nat.le_refl _) (by show 0 + len + 0 ≤ len; omega) (g := (mkF m 45 #[.val (.ref a), .val (.ref b), .val (.int (Int32.ofNat o)), .val (.int (Int32.ofNat len)), .val .null, .val (.ref s.heap.size)] [.int (Int32.ofNat N.slots.size), .ref s.heap.size, .ref a])) rfl (by rw [hml]; rfl) c10 (argsL := [.ref s.heap.size, .int (Int32.ofNat N.slots.size)]) (rest := [.ref a]) rfl rfl (by show 2 * 0 + (1 + 0) ≤ _; decide) (hb hbytes d45) (⟨rfl, n1⟩)
  obtain ⟨rfl, q11⟩ := E11
  have hB11 := hB1.mv (X8.warmed.alike.symm.trans X11.warmed.alike) q11
  have c12 : Steps p.tables e below (s₁.setTop (entryFrame m #[.ref a, .ref b, .int (Int32.ofNat o), .int (Int32.ofNat len), .null] 6)) (T11.setTop (mkF m 48 #[.val (.ref a), .val (.ref b), .val (.int (Int32.ofNat o)), .val (.int (Int32.ofNat len)), .val .null, .val (.ref s.heap.size)] [.int 0, .ref a])) := g11
  obtain ⟨T13, X13, p13, bl13, sl13, st13⟩ := X11.finit hexec hown (wk W (.fieldLink "java/lang/String" 15 "java/lang/String" "coder" "B")) (Or.inr ⟨_, (wk W (.laysFinal "java/lang/String" "java/lang/String" "coder" "B"))⟩) (Or.inl ⟨rfl, hnm⟩) f2 (Or.inl rfl) hB11 (t := .byte) (by decide +kernel) rfl (g := (mkF m 48 #[.val (.ref a), .val (.ref b), .val (.int (Int32.ofNat o)), .val (.int (Int32.ofNat len)), .val .null, .val (.ref s.heap.size)] [.int 0, .ref a])) rfl (rest := []) rfl (hb hbytes d48)
  have c14 : Steps p.tables e below (s₁.setTop (entryFrame m #[.ref a, .ref b, .int (Int32.ofNat o), .int (Int32.ofNat len), .null] 6)) (T13.setTop (mkF m 54 #[.val (.ref a), .val (.ref b), .val (.int (Int32.ofNat o)), .val (.int (Int32.ofNat len)), .val .null, .val (.ref s.heap.size)] [.ref s.heap.size, .ref a])) := (c12.trans (st13 _ (Steps.refl _))).trans (by
    refine XS.aloadN X13.here hexec rfl (hb hbytes d51) rfl rfl ?_
    refine XS.aload X13.here hexec rfl (hb hbytes d52) rfl rfl ?_
    exact Steps.refl _)
  obtain ⟨T15, X15, p15, bl15, sl15, st15⟩ := X13.finit hexec hown (wk W (.fieldLink "java/lang/String" 9 "java/lang/String" "value" "[B")) (Or.inr ⟨_, (wk W (.laysFinal "java/lang/String" "java/lang/String" "value" "[B"))⟩) (Or.inl ⟨rfl, hnm⟩) f1 (Or.inl rfl) bl13 (t := (.array .byte)) (by decide +kernel) rfl (g := (mkF m 54 #[.val (.ref a), .val (.ref b), .val (.int (Int32.ofNat o)), .val (.int (Int32.ofNat len)), .val .null, .val (.ref s.heap.size)] [.ref s.heap.size, .ref a])) rfl (rest := []) rfl (hb hbytes d54)
  have c16 : Steps p.tables e below (s₁.setTop (entryFrame m #[.ref a, .ref b, .int (Int32.ofNat o), .int (Int32.ofNat len), .null] 6)) (T15.setTop (mkF m 57 #[.val (.ref a), .val (.ref b), .val (.int (Int32.ofNat o)), .val (.int (Int32.ofNat len)), .val .null, .val (.ref s.heap.size)] [])) := c14.trans (st15 _ (Steps.refl _))
  have ap := apart (Or.inr ⟨_, (wk W (.laysFinal "java/lang/String" "java/lang/String" "value" "[B"))⟩) (Or.inr ⟨_, (wk W (.laysFinal "java/lang/String" "java/lang/String" "coder" "B"))⟩) f1 f2 (t₁ := .array .byte) (t₂ := .byte) (by decide +kernel) (by decide +kernel) (by decide)
  have al := X8.warmed.alike.symm.trans X15.warmed.alike
  have n7 : T11.heap[s.heap.size]? = some N := by rw [q11]; exact n1.1
  exact ⟨T15, none, _, _, _, X15, by simp, rfl, by omega, (fun _ => rfl), ⟨rfl, _, N, bl15, ((Same.refl D _).set _ (by simp)).set _ (by simp), sl15, (Cell.slots_setSlot_ne _ ap).trans sl13, n1.keep al (p15.other hne (p13.other hne n7)), n2, by rw [al.findClass]; exact n3, n4, n5, fun y c h1 h2 => p15.other h1 (p13.other h1 (by rw [q11]; exact n6 y c h2)), by rw [p15.2.2, p13.2.2, q11]; exact z8⟩, fun fs hl => c16.trans (X15.returnOut hexec hret (hb hbytes d57) hl)⟩
end New4
namespace New1
def yN : MethodName := ⟨"java/lang/String", "<init>", "([C)V"⟩
abbrev yB : ByteArray := jdk_42_method_3_code
theorem d0 : decode yB 0 = .ok (.aload_n 0, 1) := by decide +kernel
theorem d1 : decode yB 1 = .ok (.aload_n 1, 1) := by decide +kernel
theorem d2 : decode yB 2 = .ok (.iconst 0, 1) := by decide +kernel
theorem d3 : decode yB 3 = .ok (.aload_n 1, 1) := by decide +kernel
theorem d4 : decode yB 4 = .ok (.arraylength, 1) := by decide +kernel
theorem d5 : decode yB 5 = .ok (.aconst_null, 1) := by decide +kernel
theorem d6 : decode yB 6 = .ok (.invokespecial 27, 3) := by decide +kernel
theorem d9 : decode yB 9 = .ok (.return_, 1) := by decide +kernel
def site : List Cond := [New4.tab] ++ initW "java/lang/String" 27 New4.yN
def tab : Cond := tabOf yN yB 2 none site
def P (a : Addr) (D : Cell) (fV fC : Field) (b : Addr) (A : Cell) (z : Int32) (args : Array Value) (s : State) : Prop := args = #[.ref a, .ref b] ∧ Blank "java/lang/String" a D s ∧ Found "java/lang/String" "value" "[B" fV s ∧ Found "java/lang/String" "coder" "B" fC s ∧ Ch b A s ∧ StaticIs s "java/lang/String" "COMPACT_STRINGS" "Z" (.int z) ∧ ¬ z = 0 ∧ 0 < A.slots.size ∧ A.slots.size ≤ 536870912 ∧ ∀ i, i < A.slots.size → ¬ 255 < cv A i
def E (a : Addr) (D : Cell) (fV fC : Field) (A : Cell) (r : Option Value) (s u : State) : Prop := Got a D fV fC A 0 A.slots.size r s u
/-- new String(chars), not empty, no char above 255: a Latin-1 String of their low bytes -/
theorem law (l : Launch) (a : Addr) (D : Cell) (fV fC : Field) (b : Addr) (A : Cell) (z : Int32) : Law l yN 2 1 3 52 yB 2 none site (P a D fV fC b A z) (E a D fV fC A) [⟨a, fC.slot⟩, ⟨a, fV.slot⟩] 1 A.slots.size := by
  refine Law.of_walk (plainFor_of_name (by decide +kernel)) (by decide +kernel) (by decide +kernel) (by decide) (fun _ _ h => by rw [h.1]; rfl) (fun _ U U' hal hh h => ⟨h.1, h.2.1.mv hal hh, h.2.2.1.al hal, h.2.2.2.1.al hal, h.2.2.2.2.1.mv hal hh, h.2.2.2.2.2.1.there hal hh, h.2.2.2.2.2.2⟩) (fun r U U' V V' h1 hal h2 h => Got.mv r U U' V V' h1 hal h2 h) ?_
  intro p e s m args below meth c s₁ X0 hexec hbytes hml hret hlk hnm hown hh0 W hP
  obtain ⟨rfl, hB, f1, f2, hA, s1, hz, l0, l2, hp⟩ := hP
  have c1 : Steps p.tables e below (s₁.setTop (entryFrame m #[.ref a, .ref b] 2)) (s₁.setTop (mkF m 0 #[.val (.ref a), .val (.ref b)] [])) := entry rfl
  have c2 : Steps p.tables e below (s₁.setTop (entryFrame m #[.ref a, .ref b] 2)) (s₁.setTop (mkF m 6 #[.val (.ref a), .val (.ref b)] [.null, .int (Int32.ofNat A.slots.size), .int 0, .ref b, .ref a])) := c1.trans (by
    refine XS.aloadN X0.here hexec rfl (hb hbytes d0) rfl rfl ?_
    refine XS.aloadN X0.here hexec rfl (hb hbytes d1) rfl rfl ?_
    refine iconstV X0.here hexec rfl 0 (hb hbytes d2) (by decide) ?_
    refine XS.aloadN X0.here hexec rfl (hb hbytes d3) rfl rfl ?_
    refine X0.alen hexec (hA.1.mv X0.warmed.alike hh0) rfl rfl (hb hbytes d4) ?_
    refine XS.aconstNull X0.here hexec rfl (hb hbytes d5) ?_
    exact Steps.refl _)
  obtain ⟨v3, T3, X3, E3, g3⟩ := X0.callN hexec (New4.law l a D fV fC b A z 0 A.slots.size) rfl hown (wks W (initW "java/lang/String" 27 New4.yN)) (W New4.tab (by simp only [site, List.mem_cons, List.mem_append, true_or, or_true])) (W := 0) (Nat.le_of_ble_eq_true rfl) (Nat.le_of_ble_eq_true rfl) (Nat.le_refl _) (by show 0 + A.slots.size ≤ A.slots.size; omega) (g := (mkF m 6 #[.val (.ref a), .val (.ref b)] [.null, .int (Int32.ofNat A.slots.size), .int (Int32.ofNat 0), .ref b, .ref a])) rfl (by rw [hml]; rfl) c2 (argsL := [.ref b, .int (Int32.ofNat 0), .int (Int32.ofNat A.slots.size), .null]) (rest := []) rfl rfl (by show 2 * 0 + 0 ≤ _; decide) (hb hbytes d6) (⟨rfl, hB.mv X0.warmed.alike hh0, f1.al X0.warmed.alike, f2.al X0.warmed.alike, hA.mv X0.warmed.alike hh0, s1.there X0.warmed.alike hh0, hz, l0, by omega, l2, fun i hi => by rw [Nat.zero_add]; exact hp i hi⟩)
  have e0 := Got.mv _ s₁ s _ _ hh0.symm (Vm.Alike.refl _) rfl E3
  obtain rfl := e0.1
  have c4 : Steps p.tables e below (s₁.setTop (entryFrame m #[.ref a, .ref b] 2)) (T3.setTop (mkF m 9 #[.val (.ref a), .val (.ref b)] [])) := g3
  exact ⟨T3, none, _, _, _, X3, by simp, rfl, by omega, (fun _ => rfl), e0, fun fs hl => c4.trans (X3.returnOut hexec hret (hb hbytes d9) hl)⟩
theorem pays {l : Launch} {R : Room} {p : Program} {e : Env} {below : List Frame} {s : State} {sargs : Array Value} {len W : Nat} (a : Addr) (D : Cell) (fV fC : Field) (b : Addr) (A : Cell) (z : Int32) (htab : tab.before sargs s = true) (hfr : 4 ≤ R.frames) (hlo : W + 65 ≤ R.locals) :
    Back l R p e below s sargs yN len W (fun A₁ a₁ => A₁.cells + 1 ≤ R.cells ∧ A₁.slots + A.slots.size ≤ R.slots ∧ P a D fV fC b A z a₁ A₁.U) (fun A₁ _ v₁ B₁ => E a D fV fC A v₁ A₁.U B₁.U ∧ B₁.locs = A₁.locs ++ [⟨a, fC.slot⟩, ⟨a, fV.slot⟩] ∧ B₁.cells = A₁.cells + 1 ∧ B₁.slots = A₁.slots + A.slots.size) :=
  (law l a D fV fC b A z).pays htab hfr (by omega)
end New1
end StrChars
namespace StrChars.Road
open Jvm Sem ClassFile Op Lib Jvm.Stand Jvm.Free Jvm.Free.XT
open Jvm.Lib.Cold (StaticIs)
abbrev ST : String := "java/lang/String"
/-- every table word that New1's law asks, flat -/
abbrev words : List Jvm.Cond := [.code New1.yN New1.yB 2 none, .initialized ST, .methodLink ST 27 New4.yN, .instanceMethod New4.yN,
  .code New4.yN New4.yB 6 none, .fieldLink ST 38 ST "COMPACT_STRINGS" "Z", .laysFinal ST ST "value" "[B", .fieldLink ST 9 ST "value" "[B", .laysFinal ST ST "coder" "B", .fieldLink ST 15 ST "coder" "B",
  .methodLink ST 1 Lib.objectInit, .instanceMethod Lib.objectInit, .code Lib.objectInit ⟨#[0xb1]⟩ 1 none, .methodLink ST 177 Cmp3.yN, .static Cmp3.yN, .methodLink ST 47 CodL.yN, .static CodL.yN,
  .code Cmp3.yN Cmp3.yB 6 (some (.array .byte)), .initialized U16, .arrayClass .byte, .methodLink U16 115 Cmp5.yN, .static Cmp5.yN, .code Cmp5.yN Cmp5.yB 7 (some .int), .code CodL.yN CodL.yB 2 (some .byte)]
theorem tab_of {a : Array Value} {s : State} (h : ∀ w ∈ words, w.before a s = true) : New1.tab.before a s = true := by
  have h5 : Cmp5.tab.before a s = true := unparts (wk h (.code Cmp5.yN Cmp5.yB 7 (some .int))) (wks h (.initialized Cmp5.yN.cls :: Cmp5.site))
  have hc : CodL.tab.before a s = true := unparts (wk h (.code CodL.yN CodL.yB 2 (some .byte))) (wks h (.initialized CodL.yN.cls :: CodL.site))
  have q5 : ∀ w ∈ Cmp5.tab :: words, w.before a s = true := fun w hw => (List.mem_cons.mp hw).elim (fun e => e ▸ h5) (h w)
  have h3 : Cmp3.tab.before a s = true := unparts (wk q5 (.code Cmp3.yN Cmp3.yB 6 (some (.array .byte)))) (wks q5 (.initialized Cmp3.yN.cls :: Cmp3.site))
  have q3 : ∀ w ∈ Cmp3.tab :: CodL.tab :: words, w.before a s = true := fun w hw => (List.mem_cons.mp hw).elim (fun e => e ▸ h3) fun hw => (List.mem_cons.mp hw).elim (fun e => e ▸ hc) (h w)
  have h4 : New4.tab.before a s = true := unparts (wk q3 (.code New4.yN New4.yB 6 none)) (wks q3 (.initialized New4.yN.cls :: New4.site))
  have q4 : ∀ w ∈ New4.tab :: words, w.before a s = true := fun w hw => (List.mem_cons.mp hw).elim (fun e => e ▸ h4) (h w)
  exact unparts (wk q4 (.code New1.yN New1.yB 2 none)) (wks q4 (.initialized New1.yN.cls :: New1.site))
/-- the words ride from the start Z to the walk's own state -/
theorem moved {Z s : State} {a0 args : Array Value} (hZ : Z.Warmed39 s.vm) (hw : ∀ d ∈ words, d.before a0 Z = true) : ∀ d ∈ words, d.before args s = true := fun d hd => by
  have q := hw d hd
  have t : ∀ d ∈ words, d = .arrayClass .byte ∨ (d.onTables && d.keepsFace) = true := by decide +kernel
  rcases t d hd with rfl | t
  · exact RoadKit.mvA hZ q
  · exact RoadKit.mv hZ q t
/-- WHAT COMES BACK, over the tables of the start Z: h the heap at the call, h' behind it -/
def Q (Z : State) (x : Addr) (A : Cell) (h : Heap) (v : Option Value) (h' : Heap) (L : List Loc) : Prop := v = none ∧ (∀ y ∈ L, y.base = x) ∧ RoadKit.Keep h h' [x] ∧ h'.size = h.size + 1 ∧ RoadKit.Exa Z h' x ST ∧ RoadKit.Fld Z h' x ST "value" "[B" (.ref h.size) ∧ RoadKit.Fld Z h' x ST "coder" "B" (.int 0) ∧
  (∃ V : Cell, RoadKit.Arr Z h' h.size V .byte ∧ V.vm = .none ∧ Z.vm.findClass "[B" = some V.cls ∧ V.slots.size = A.slots.size ∧ ∀ j, j < A.slots.size → V.slots[j]? = some (.int (lo8 (cv A j)))) ∧
  ∀ (O n d : String) (w : Value), RoadKit.Fld Z h x O n d w → RoadKit.slotOf Z O n d ≠ RoadKit.slotOf Z ST "value" "[B" → RoadKit.slotOf Z O n d ≠ RoadKit.slotOf Z ST "coder" "B" → RoadKit.Fld Z h' x O n d w
/-- **new String(chars) AT A CALL, IN THE ROAD'S FORM**: for specialBack behind newO: x the fresh String, b the char[] with the cell A -/
theorem back {p : Program} {l : Launch} {e : Env} {R : Room} {s : State} {args : Array Value} {below : List Frame} {len W : Nat} {Z : State} {a0 : Array Value} {h : Heap} (hZ : Z.Warmed39 s.vm) (hw : ∀ d ∈ words, d.before a0 Z = true) {kI : Nat} (wi : (Jvm.Cond.instantiable ST kI).before a0 Z = true)
    {x b : Addr} {A : Cell} {z : Int32} {v0 c0 : Value} (E : RoadKit.Exa Z h x ST) (V : RoadKit.Fld Z h x ST "value" "[B" v0) (C : RoadKit.Fld Z h x ST "coder" "B" c0) (K : RoadKit.Arr Z h b A .char) (hty : Typed .char A) (S : RoadKit.Sta Z h ST "COMPACT_STRINGS" "Z" (.int z)) (hz : ¬ z = 0)
    (l0 : 0 < A.slots.size) (l2 : A.slots.size ≤ 536870912) (hp : ∀ i, i < A.slots.size → ¬ 255 < cv A i) (hfr : 4 ≤ R.frames) (hlo : W + 65 ≤ R.locals) :
    Back l R p e below s args New1.yN len W (fun P a => a = #[.ref x, .ref b] ∧ P.U.heap = h ∧ P.cells + 1 ≤ R.cells ∧ P.slots + A.slots.size ≤ R.slots)
      (fun P _ v B => ∃ L, Q Z x A h v B.U.heap L ∧ B.locs = P.locs ++ L ∧ B.cells = P.cells + 1 ∧ B.slots = P.slots + A.slots.size) := by
  intro m meth c P g ig mk a X hg hsize hdg hW hn hp'
  obtain ⟨rfl, rfl, r1, r2⟩ := hp'
  have al : Z.vm.Alike P.U.vm := hZ.alike.trans X.warmed.alike
  obtain ⟨D, cfV, kV, iV, fV, hD, gV, stV, knV, obV, asV, slV⟩ := id V
  obtain ⟨D', cfC, kC, iC, fC, hD', gC, stC, -, -, asC, slC⟩ := id C
  cases hD.symm.trans hD'
  obtain ⟨D2, kD, e1, e2, e3, e4, e5⟩ := id E
  cases hD.symm.trans e1
  obtain ⟨c2, k2, i1, i2, i3, -⟩ := Cond.instantiable_spec wi
  cases e2.symm.trans i1
  cases e3.symm.trans i2
  obtain ⟨kU, u1, u2⟩ := al.2.2 _ _ e3
  have hB : Blank ST x D P.U := ⟨hD, ⟨knV, fun q hq => by rw [hq] at obV; cases obV⟩, by rw [al.findClass]; exact e2, kU, u1, by rw [u2]; exact i3, by rw [u2]; exact e5 i3⟩
  have F1 : Found ST "value" "[B" fV P.U := ⟨SBG.found_only al ⟨cfV, kV, iV, gV⟩, stV⟩
  have F2 : Found ST "coder" "B" fC P.U := ⟨SBG.found_only al ⟨cfC, kC, iC, gC⟩, stC⟩
  have hA : Ch b A P.U := ⟨⟨K.1, State.isArrayOf_alike al K.2.1, K.2.2, by omega⟩, hty⟩
  have hS : StaticIs P.U ST "COMPACT_STRINGS" "Z" (.int z) := by
    obtain ⟨cfS, iS, kS, fS, st, cS, t1, t2, t3, t4, t5, t6, t7⟩ := S
    exact StaticIs.there (s := { Z with heap := P.U.heap }) ⟨cfS, iS, kS, fS, st, cS, t1, t2, t3, t4, t5, (fun q => by rw [q] at t6; cases t6), t7⟩ al rfl
  obtain ⟨v, B, X', ⟨⟨hv, E', V', q1, q2, q3, q4, q5, q6, q7, q8, q9, q10, q11⟩, hl, hc, hs⟩, st⟩ := New1.pays x D fV fC b A z (tab_of (moved hZ hw)) hfr hlo m meth c P g ig mk _ X hg hsize hdg hW hn ⟨r1, r2, rfl, hB, F1, F2, hA, hS, hz, l0, l2, hp⟩
  have al' : Z.vm.Alike B.U.vm := hZ.alike.trans X'.warmed.alike
  have hsz : E'.slots.size = D.slots.size := by
    obtain ⟨-, -, -, kB, w1, w2, w3⟩ := q1
    obtain ⟨kB', y1, y2⟩ := al'.2.2 _ _ e3
    rw [q2.2.1] at w1
    cases w1.symm.trans y1
    rw [w3, e5 i3, y2]
  refine ⟨v, B, X', ⟨_, ⟨hv, ?_, ⟨by omega, fun y cy hy hn' => q10 y cy (by simpa using hn') hy, fun y cy hy => ?_⟩, q11, ⟨E', _, q1.1, by rw [q2.2.1]; exact e2, by rw [q2.2.1]; exact e3, by rw [q2.1]; exact obV, fun _ => by rw [hsz]; exact e5 i3⟩,
    ⟨E', cfV, kV, iV, fV, q1.1, gV, stV, by rw [q2.1]; exact knV, by rw [q2.1]; exact obV, by rw [q2.2.1]; exact asV, q3⟩, ⟨E', cfC, kC, iC, fC, q1.1, gC, stC, by rw [q2.1]; exact knV, by rw [q2.1]; exact obV, by rw [q2.2.1]; exact asC, q4⟩,
    ⟨V', ⟨q5.1, State.isArrayOf_alike al'.symm q5.2.1, q5.2.2.1⟩, q6, by rw [← al'.findClass]; exact q7, q8, fun j hj => by have := q9 j hj; rwa [Nat.zero_add] at this⟩, fun O n d w F n1 n2 => ?_⟩, hl, hc, hs⟩, st⟩
  · intro y hy
    simp only [List.mem_cons, List.not_mem_nil, or_false] at hy
    rcases hy with rfl | rfl <;> rfl
  · by_cases q : y = x
    · subst q
      cases hD.symm.trans hy
      exact ⟨E', q1.1, q2.2.1, q2.1, hsz⟩
    · exact ⟨cy, q10 y cy q hy, rfl, rfl, rfl⟩
  · obtain ⟨D3, cf, k, i, f, g1, g2, g3, g4, g5, g6, g7⟩ := F
    cases hD.symm.trans g1
    simp only [RoadKit.slotOf, g2, gV, gC, Option.map_some, Option.getD_some] at n1 n2
    exact ⟨E', cf, k, i, f, q1.1, g2, g3, by rw [q2.1]; exact g4, by rw [q2.1]; exact g5, by rw [q2.2.1]; exact g6, by rw [q2.2.2 f.slot (by simp [n1, n2])]; exact g7⟩
end StrChars.Road
namespace StrChars.Road
open Jvm Sem ClassFile Op Lib Jvm.Stand Jvm.Free Jvm.Free.XT
/-- WHAT COMES BACK, the byte[] as a list of values -/
def QA (Z : State) (x : Addr) (zn : Int32) (cs : List Int32) (h : Heap) (v : Option Value) (h' : Heap) (L : List Loc) : Prop := v = none ∧ (∀ y ∈ L, y.base = x) ∧ RoadKit.Keep h h' [x] ∧ h'.size = h.size + 1 ∧ RoadKit.Exa Z h' x ST ∧ RoadKit.Fld Z h' x ST "value" "[B" (.ref h.size) ∧ RoadKit.Fld Z h' x ST "coder" "B" (.int 0) ∧
  (∃ kb, Z.vm.findClass "[B" = some kb ∧ RoadKit.Arv Z h' h.size kb .byte zn (cs.map fun c => .int (lo8 c)) (.int 0)) ∧
  ∀ (O n d : String) (w : Value), RoadKit.Fld Z h x O n d w → RoadKit.slotOf Z O n d ≠ RoadKit.slotOf Z ST "value" "[B" → RoadKit.slotOf Z O n d ≠ RoadKit.slotOf Z ST "coder" "B" → RoadKit.Fld Z h' x O n d w
/-- **new String(chars) AT A CALL, THE ARRAYS AS LISTS**: the char[] at b holds cs, not empty, no char above 255 -/
theorem backArv {p : Program} {l : Launch} {e : Env} {R : Room} {s : State} {args : Array Value} {below : List Frame} {len W : Nat} {Z : State} {a0 : Array Value} {h : Heap} (hZ : Z.Warmed39 s.vm) (hw : ∀ d ∈ words, d.before a0 Z = true) {kI : Nat} (wi : (Jvm.Cond.instantiable ST kI).before a0 Z = true)
    {x b : Addr} {k : ClassId} {zn z : Int32} {cs : List Int32} {dv v0 c0 : Value} (E : RoadKit.Exa Z h x ST) (V : RoadKit.Fld Z h x ST "value" "[B" v0) (C : RoadKit.Fld Z h x ST "coder" "B" c0) (K : RoadKit.Arv Z h b k .char zn (cs.map Value.int) dv) (S : RoadKit.Sta Z h ST "COMPACT_STRINGS" "Z" (.int z)) (hz : ¬ z = 0)
    (hlen : zn.toNatClampNeg = cs.length) (h0 : 0 < cs.length) (hbig : cs.length ≤ 536870912) (hall : ∀ c ∈ cs, ¬ 255 < c) (hfr : 4 ≤ R.frames) (hlo : W + 65 ≤ R.locals) :
    Back l R p e below s args New1.yN len W (fun P a => a = #[.ref x, .ref b] ∧ P.U.heap = h ∧ P.cells + 1 ≤ R.cells ∧ P.slots + cs.length ≤ R.slots)
      (fun P _ v B => ∃ L, QA Z x zn cs h v B.U.heap L ∧ B.locs = P.locs ++ L ∧ B.cells = P.cells + 1 ∧ B.slots = P.slots + cs.length) := by
  obtain ⟨A, K1, K2, K3, K4, K5, K6⟩ := K
  have e : A.slots.size = cs.length := K3.trans hlen
  have hat : ∀ (i : Nat) (hi : i < cs.length), A.slots[i]? = some (.int cs[i]) := fun i hi => by rw [K5 i (by omega)]; simp [List.getD_eq_getElem?_getD, hi]
  have hcv : ∀ (i : Nat) (hi : i < cs.length), cv A i = cs[i] := fun i hi => by unfold cv; rw [hat i hi]
  have hty : Typed .char A := fun i v hv => by
    have hi : i < A.slots.size := (Array.getElem?_eq_some_iff.mp hv).1
    have q := K5 i hi
    rw [hv] at q
    rw [Option.some.inj q]
    exact K6 i hi
  refine Back.mono (back hZ hw wi E V C K1 hty S hz (by omega) (by omega) (fun i hi => by rw [hcv i (by omega)]; exact hall _ (List.getElem_mem _)) hfr hlo) (fun P a hp => ⟨hp.1, hp.2.1, hp.2.2.1, by rw [e]; exact hp.2.2.2⟩) (fun P a v B hp hq => ?_)
  obtain ⟨L, ⟨q1, q2, q3, q4, q5, q6, q7, ⟨V', v1, v2, v3, v4, v5⟩, q9⟩, hl, hc, hs⟩ := hq
  refine ⟨L, ⟨q1, q2, q3, q4, q5, q6, q7, ⟨V'.cls, v3, V', v1, rfl, by rw [v4, e, hlen], K4, fun i hi => ?_, fun i hi => ?_⟩, q9⟩, hl, hc, by rw [hs, e]⟩
  · have hi' : i < cs.length := by omega
    rw [v5 i (by omega), hcv i hi']; simp [List.getD_eq_getElem?_getD, hi']
  · have hi' : i < cs.length := by omega
    simp only [List.getD_eq_getElem?_getD, List.getElem?_map, List.getElem?_eq_getElem hi', Option.map_some, Option.getD_some]
    exact fits_lo8 _
end StrChars.Road
namespace StrChars.Road
open Jvm Sem ClassFile Op Lib Jvm.Stand Jvm.Free Jvm.Free.XT
/-- WHAT COMES BACK, in the writer's own shape -/
def QV (Z : State) (x : Addr) (N : Int32) (bs : List Int32) (h : Heap) (n0 : Nat) (v : Option Value) (h' : Heap) (L : List Loc) : Prop := v = none ∧ RoadKit.Fr n0 L ∧ RoadKit.Keep h h' [x] ∧ RoadKit.Exa Z h' x ST ∧ RoadKit.Fld Z h' x ST "coder" "B" (.int 0) ∧
  ∃ (t : Addr) (kb : ClassId), n0 ≤ t ∧ h.size ≤ t ∧ ¬ t = x ∧ RoadKit.Fld Z h' x ST "value" "[B" (.ref t) ∧ RoadKit.Arv Z h' t kb .byte N (bs.map Value.int) (.int 0)
/-- **new String(chars) AT A CALL, FOR THE WRITER**: a char[] of n known ints, each 0 to 255 -/
theorem backV {p : Program} {l : Launch} {e : Env} {R : Room} {s : State} {args : Array Value} {below : List Frame} {len W : Nat} {Z : State} {a0 : Array Value} {h : Heap} (hZ : Z.Warmed39 s.vm) (hw : ∀ d ∈ words, d.before a0 Z = true) {kI : Nat} (wi : (Jvm.Cond.instantiable ST kI).before a0 Z = true)
    {x b : Addr} {kC : ClassId} {cs bs : List Int32} {d v0 c0 : Value} {z N : Int32} {n n0 : Nat} (hx0 : n0 ≤ x) (hh0 : n0 ≤ h.size) (E : RoadKit.Exa Z h x ST) (V : RoadKit.Fld Z h x ST "value" "[B" v0) (C : RoadKit.Fld Z h x ST "coder" "B" c0) (K : RoadKit.Arv Z h b kC .char N (cs.map Value.int) d) (S : RoadKit.Sta Z h ST "COMPACT_STRINGS" "Z" (.int z)) (hz : ¬ z = 0)
    (hn : cs.length = n) (hN : N = Int32.ofNat n) (l0 : 0 < n) (l2 : n ≤ 4000) (hp : ∀ c ∈ cs, ¬ c < 0 ∧ ¬ (255 : Int32) < c) (hb : bs = cs.map (fun c => c.toInt8.toInt32)) (hfr : 4 ≤ R.frames) (hlo : W + 65 ≤ R.locals) :
    Back l R p e below s args (⟨"java/lang/String", "<init>", "([C)V"⟩ : MethodName) len W (fun P a => a = #[.ref x, .ref b] ∧ P.U.heap = h ∧ P.cells + 1 ≤ R.cells ∧ P.slots + n ≤ R.slots)
      (fun P _ v B => ∃ L, QV Z x N bs h n0 v B.U.heap L ∧ B.locs = P.locs ++ L ∧ B.cells = P.cells + 1 ∧ B.slots = P.slots + n) := by
  subst hn hN hb
  refine Back.mono (backArv hZ hw wi E V C K S hz (n32 (by omega)) l0 (by omega) (fun c hc => (hp c hc).2) hfr hlo) (fun P a hp => hp) (fun P a v B hp hq => ?_)
  obtain ⟨L, ⟨q1, q2, q3, q4, q5, q6, q7, ⟨kb, v1, v2⟩, q9⟩, hl, hc, hs⟩ := hq
  exact ⟨L, ⟨q1, fun y hy => by rw [q2 y hy]; exact hx0, q3, q5, q7, h.size, kb, hh0, Nat.le_refl _, Nat.ne_of_gt E.lt, q6, by rw [List.map_map]; exact v2⟩, hl, hc, hs⟩
end StrChars.Road
end Jvm.Pilot.@@N@@
namespace Jvm.Pilot.@@N@@
open Jvm Jvm.ClassFile Sem Op Lib Jvm.Free Jvm.Stand Jvm.LawKit Jvm.RoadKit Bundle Jvm.Own Jvm.Pilot.@@N@@.Jvm.D
theorem wd_0 {Z : State} {a0 : Array Value} (hw : ∀ d ∈ tables_1, d.before a0 Z = true) : (Jvm.Cond.arrayClass Jvm.ClassFile.FieldType.char).before a0 Z = true := hw _ (List.mem_of_getElem? (i := 0) rfl)
theorem wd_1 {Z : State} {a0 : Array Value} (hw : ∀ d ∈ tables_1, d.before a0 Z = true) : (Jvm.Cond.methodLink "com/example/triplecast/triplecast/cli/MediaTypeIsPinLaw" (7 : Nat) ({ cls := "com/example/triplecast/triplecast/cli/MediaTypeIsPinLaw", name := "ex", desc := "(IIICCCC)C" } : Jvm.MethodName)).before a0 Z = true := hw _ (List.mem_of_getElem? (i := 1) rfl)
theorem wd_2 {Z : State} {a0 : Array Value} (hw : ∀ d ∈ tables_1, d.before a0 Z = true) : (Jvm.Cond.static ({ cls := "com/example/triplecast/triplecast/cli/MediaTypeIsPinLaw", name := "ex", desc := "(IIICCCC)C" } : Jvm.MethodName)).before a0 Z = true := hw _ (List.mem_of_getElem? (i := 2) rfl)
theorem wd_3 {Z : State} {a0 : Array Value} (hw : ∀ d ∈ tables_1, d.before a0 Z = true) : (Jvm.Cond.initialized "com/example/triplecast/triplecast/cli/MediaTypeIsPinLaw").before a0 Z = true := hw _ (List.mem_of_getElem? (i := 3) rfl)
theorem wd_4 {Z : State} {a0 : Array Value} (hw : ∀ d ∈ tables_1, d.before a0 Z = true) : (Jvm.Cond.code ({ cls := "com/example/triplecast/triplecast/cli/MediaTypeIsPinLaw", name := "ex", desc := "(IIICCCC)C" } : Jvm.MethodName) method_3_code (8 : Nat) (Option.some Jvm.ClassFile.FieldType.char)).before a0 Z = true := hw _ (List.mem_of_getElem? (i := 4) rfl)
theorem wd_5 {Z : State} {a0 : Array Value} (hw : ∀ d ∈ tables_1, d.before a0 Z = true) : (Jvm.Cond.methodLink "com/example/triplecast/triplecast/cli/MediaTypeIsPinLaw" (13 : Nat) ({ cls := "com/example/triplecast/triplecast/cli/MediaTypeIsPinLaw", name := "same", desc := "([C[CII)Z" } : Jvm.MethodName)).before a0 Z = true := hw _ (List.mem_of_getElem? (i := 5) rfl)
theorem wd_6 {Z : State} {a0 : Array Value} (hw : ∀ d ∈ tables_1, d.before a0 Z = true) : (Jvm.Cond.static ({ cls := "com/example/triplecast/triplecast/cli/MediaTypeIsPinLaw", name := "same", desc := "([C[CII)Z" } : Jvm.MethodName)).before a0 Z = true := hw _ (List.mem_of_getElem? (i := 6) rfl)
theorem wd_7 {Z : State} {a0 : Array Value} (hw : ∀ d ∈ tables_1, d.before a0 Z = true) : (Jvm.Cond.code ({ cls := "com/example/triplecast/triplecast/cli/MediaTypeIsPinLaw", name := "same", desc := "([C[CII)Z" } : Jvm.MethodName) method_4_code (4 : Nat) (Option.some Jvm.ClassFile.FieldType.boolean)).before a0 Z = true := hw _ (List.mem_of_getElem? (i := 7) rfl)
theorem wd_8 {Z : State} {a0 : Array Value} (hw : ∀ d ∈ tables_1, d.before a0 Z = true) : (Jvm.Cond.classLink "com/example/triplecast/triplecast/cli/MediaTypeIsPinLaw" (17 : Nat) "com/example/triplecast/triplecast/cli/MediaType").before a0 Z = true := hw _ (List.mem_of_getElem? (i := 8) rfl)
theorem wd_9 {Z : State} {a0 : Array Value} (hw : ∀ d ∈ tables_1, d.before a0 Z = true) : (Jvm.Cond.instantiable "com/example/triplecast/triplecast/cli/MediaType" (3 : Nat)).before a0 Z = true := hw _ (List.mem_of_getElem? (i := 9) rfl)
theorem wd_10 {Z : State} {a0 : Array Value} (hw : ∀ d ∈ tables_1, d.before a0 Z = true) : (Jvm.Cond.initialized "com/example/triplecast/triplecast/cli/MediaType").before a0 Z = true := hw _ (List.mem_of_getElem? (i := 10) rfl)
theorem wd_11 {Z : State} {a0 : Array Value} (hw : ∀ d ∈ tables_1, d.before a0 Z = true) : (Jvm.Cond.methodLink "com/example/triplecast/triplecast/cli/MediaTypeIsPinLaw" (19 : Nat) ({ cls := "com/example/triplecast/triplecast/cli/MediaTypeIsPinLaw", name := "str", desc := "([CI)Ljava/lang/String;" } : Jvm.MethodName)).before a0 Z = true := hw _ (List.mem_of_getElem? (i := 11) rfl)
theorem wd_12 {Z : State} {a0 : Array Value} (hw : ∀ d ∈ tables_1, d.before a0 Z = true) : (Jvm.Cond.static ({ cls := "com/example/triplecast/triplecast/cli/MediaTypeIsPinLaw", name := "str", desc := "([CI)Ljava/lang/String;" } : Jvm.MethodName)).before a0 Z = true := hw _ (List.mem_of_getElem? (i := 12) rfl)
theorem wd_13 {Z : State} {a0 : Array Value} (hw : ∀ d ∈ tables_1, d.before a0 Z = true) : (Jvm.Cond.code ({ cls := "com/example/triplecast/triplecast/cli/MediaTypeIsPinLaw", name := "str", desc := "([CI)Ljava/lang/String;" } : Jvm.MethodName) method_5_code (2 : Nat) (Option.some (Jvm.ClassFile.FieldType.object "java/lang/String"))).before a0 Z = true := hw _ (List.mem_of_getElem? (i := 13) rfl)
theorem wd_14 {Z : State} {a0 : Array Value} (hw : ∀ d ∈ tables_1, d.before a0 Z = true) : (Jvm.Cond.classLink "com/example/triplecast/triplecast/cli/MediaTypeIsPinLaw" (33 : Nat) "java/lang/String").before a0 Z = true := hw _ (List.mem_of_getElem? (i := 14) rfl)
theorem wd_15 {Z : State} {a0 : Array Value} (hw : ∀ d ∈ tables_1, d.before a0 Z = true) : (Jvm.Cond.instantiable "java/lang/String" (4 : Nat)).before a0 Z = true := hw _ (List.mem_of_getElem? (i := 15) rfl)
theorem wd_16 {Z : State} {a0 : Array Value} (hw : ∀ d ∈ tables_1, d.before a0 Z = true) : (Jvm.Cond.initialized "java/lang/String").before a0 Z = true := hw _ (List.mem_of_getElem? (i := 16) rfl)
theorem wd_17 {Z : State} {a0 : Array Value} (hw : ∀ d ∈ tables_1, d.before a0 Z = true) : (Jvm.Cond.methodLink "com/example/triplecast/triplecast/cli/MediaTypeIsPinLaw" (38 : Nat) ({ cls := "java/lang/String", name := "<init>", desc := "([C)V" } : Jvm.MethodName)).before a0 Z = true := hw _ (List.mem_of_getElem? (i := 17) rfl)
theorem wd_18 {Z : State} {a0 : Array Value} (hw : ∀ d ∈ tables_1, d.before a0 Z = true) : (Jvm.Cond.instanceMethod ({ cls := "java/lang/String", name := "<init>", desc := "([C)V" } : Jvm.MethodName)).before a0 Z = true := hw _ (List.mem_of_getElem? (i := 18) rfl)
theorem wd_19 {Z : State} {a0 : Array Value} (hw : ∀ d ∈ tables_1, d.before a0 Z = true) : (Jvm.Cond.code ({ cls := "java/lang/String", name := "<init>", desc := "([C)V" } : Jvm.MethodName) jdk_42_method_3_code (2 : Nat) (Option.none : Option Jvm.ClassFile.FieldType)).before a0 Z = true := hw _ (List.mem_of_getElem? (i := 19) rfl)
theorem wd_24 {Z : State} {a0 : Array Value} (hw : ∀ d ∈ tables_1, d.before a0 Z = true) : (Jvm.Cond.methodLink "java/lang/String" (1 : Nat) ({ cls := "java/lang/Object", name := "<init>", desc := "()V" } : Jvm.MethodName)).before a0 Z = true := hw _ (List.mem_of_getElem? (i := 24) rfl)
theorem wd_25 {Z : State} {a0 : Array Value} (hw : ∀ d ∈ tables_1, d.before a0 Z = true) : (Jvm.Cond.instanceMethod ({ cls := "java/lang/Object", name := "<init>", desc := "()V" } : Jvm.MethodName)).before a0 Z = true := hw _ (List.mem_of_getElem? (i := 25) rfl)
theorem wd_26 {Z : State} {a0 : Array Value} (hw : ∀ d ∈ tables_1, d.before a0 Z = true) : (Jvm.Cond.code ({ cls := "java/lang/Object", name := "<init>", desc := "()V" } : Jvm.MethodName) object_method_1_code (1 : Nat) (Option.none : Option Jvm.ClassFile.FieldType)).before a0 Z = true := hw _ (List.mem_of_getElem? (i := 26) rfl)
theorem wd_27 {Z : State} {a0 : Array Value} (hw : ∀ d ∈ tables_1, d.before a0 Z = true) : (Jvm.Cond.fieldLink "java/lang/String" (38 : Nat) "java/lang/String" "COMPACT_STRINGS" "Z").before a0 Z = true := hw _ (List.mem_of_getElem? (i := 27) rfl)
theorem wd_32 {Z : State} {a0 : Array Value} (hw : ∀ d ∈ tables_1, d.before a0 Z = true) : (Jvm.Cond.arrayClass Jvm.ClassFile.FieldType.byte).before a0 Z = true := hw _ (List.mem_of_getElem? (i := 32) rfl)
theorem wd_39 {Z : State} {a0 : Array Value} (hw : ∀ d ∈ tables_1, d.before a0 Z = true) : (Jvm.Cond.fieldLink "java/lang/String" (15 : Nat) "java/lang/String" "coder" "B").before a0 Z = true := hw _ (List.mem_of_getElem? (i := 39) rfl)
theorem wd_40 {Z : State} {a0 : Array Value} (hw : ∀ d ∈ tables_1, d.before a0 Z = true) : (Jvm.Cond.laysFinal "java/lang/String" "java/lang/String" "coder" "B").before a0 Z = true := hw _ (List.mem_of_getElem? (i := 40) rfl)
theorem wd_41 {Z : State} {a0 : Array Value} (hw : ∀ d ∈ tables_1, d.before a0 Z = true) : (Jvm.Cond.fieldLink "java/lang/String" (9 : Nat) "java/lang/String" "value" "[B").before a0 Z = true := hw _ (List.mem_of_getElem? (i := 41) rfl)
theorem wd_42 {Z : State} {a0 : Array Value} (hw : ∀ d ∈ tables_1, d.before a0 Z = true) : (Jvm.Cond.laysFinal "java/lang/String" "java/lang/String" "value" "[B").before a0 Z = true := hw _ (List.mem_of_getElem? (i := 42) rfl)
theorem wd_43 {Z : State} {a0 : Array Value} (hw : ∀ d ∈ tables_1, d.before a0 Z = true) : (Jvm.Cond.stringLink "com/example/triplecast/triplecast/cli/MediaTypeIsPinLaw" (30 : Nat) "").before a0 Z = true := hw _ (List.mem_of_getElem? (i := 43) rfl)
theorem wd_46 {Z : State} {a0 : Array Value} (hw : ∀ d ∈ tables_1, d.before a0 Z = true) : (Jvm.Cond.methodLink "com/example/triplecast/triplecast/cli/MediaTypeIsPinLaw" (23 : Nat) ({ cls := "com/example/triplecast/triplecast/cli/MediaType", name := "<init>", desc := "(Ljava/lang/String;Ljava/lang/String;Ljava/util/Map;)V" } : Jvm.MethodName)).before a0 Z = true := hw _ (List.mem_of_getElem? (i := 46) rfl)
theorem wd_47 {Z : State} {a0 : Array Value} (hw : ∀ d ∈ tables_1, d.before a0 Z = true) : (Jvm.Cond.instanceMethod ({ cls := "com/example/triplecast/triplecast/cli/MediaType", name := "<init>", desc := "(Ljava/lang/String;Ljava/lang/String;Ljava/util/Map;)V" } : Jvm.MethodName)).before a0 Z = true := hw _ (List.mem_of_getElem? (i := 47) rfl)
theorem wd_48 {Z : State} {a0 : Array Value} (hw : ∀ d ∈ tables_1, d.before a0 Z = true) : (Jvm.Cond.code ({ cls := "com/example/triplecast/triplecast/cli/MediaType", name := "<init>", desc := "(Ljava/lang/String;Ljava/lang/String;Ljava/util/Map;)V" } : Jvm.MethodName) prog_6_method_1_code (4 : Nat) (Option.none : Option Jvm.ClassFile.FieldType)).before a0 Z = true := hw _ (List.mem_of_getElem? (i := 48) rfl)
theorem wd_49 {Z : State} {a0 : Array Value} (hw : ∀ d ∈ tables_1, d.before a0 Z = true) : (Jvm.Cond.methodLink "com/example/triplecast/triplecast/cli/MediaType" (1 : Nat) ({ cls := "java/lang/Record", name := "<init>", desc := "()V" } : Jvm.MethodName)).before a0 Z = true := hw _ (List.mem_of_getElem? (i := 49) rfl)
theorem wd_50 {Z : State} {a0 : Array Value} (hw : ∀ d ∈ tables_1, d.before a0 Z = true) : (Jvm.Cond.instanceMethod ({ cls := "java/lang/Record", name := "<init>", desc := "()V" } : Jvm.MethodName)).before a0 Z = true := hw _ (List.mem_of_getElem? (i := 50) rfl)
theorem wd_52 {Z : State} {a0 : Array Value} (hw : ∀ d ∈ tables_1, d.before a0 Z = true) : (Jvm.Cond.initialized "java/lang/Record").before a0 Z = true := hw _ (List.mem_of_getElem? (i := 52) rfl)
theorem wd_53 {Z : State} {a0 : Array Value} (hw : ∀ d ∈ tables_1, d.before a0 Z = true) : (Jvm.Cond.code ({ cls := "java/lang/Record", name := "<init>", desc := "()V" } : Jvm.MethodName) jdk_30_method_1_code (1 : Nat) (Option.none : Option Jvm.ClassFile.FieldType)).before a0 Z = true := hw _ (List.mem_of_getElem? (i := 53) rfl)
theorem wd_54 {Z : State} {a0 : Array Value} (hw : ∀ d ∈ tables_1, d.before a0 Z = true) : (Jvm.Cond.methodLink "java/lang/Record" (1 : Nat) ({ cls := "java/lang/Object", name := "<init>", desc := "()V" } : Jvm.MethodName)).before a0 Z = true := hw _ (List.mem_of_getElem? (i := 54) rfl)
theorem wd_55 {Z : State} {a0 : Array Value} (hw : ∀ d ∈ tables_1, d.before a0 Z = true) : (Jvm.Cond.fieldLink "com/example/triplecast/triplecast/cli/MediaType" (7 : Nat) "com/example/triplecast/triplecast/cli/MediaType" "type" "Ljava/lang/String;").before a0 Z = true := hw _ (List.mem_of_getElem? (i := 55) rfl)
theorem wd_56 {Z : State} {a0 : Array Value} (hw : ∀ d ∈ tables_1, d.before a0 Z = true) : (Jvm.Cond.laysFinal "com/example/triplecast/triplecast/cli/MediaType" "com/example/triplecast/triplecast/cli/MediaType" "type" "Ljava/lang/String;").before a0 Z = true := hw _ (List.mem_of_getElem? (i := 56) rfl)
theorem wd_57 {Z : State} {a0 : Array Value} (hw : ∀ d ∈ tables_1, d.before a0 Z = true) : (Jvm.Cond.fieldLink "com/example/triplecast/triplecast/cli/MediaType" (13 : Nat) "com/example/triplecast/triplecast/cli/MediaType" "subtype" "Ljava/lang/String;").before a0 Z = true := hw _ (List.mem_of_getElem? (i := 57) rfl)
theorem wd_58 {Z : State} {a0 : Array Value} (hw : ∀ d ∈ tables_1, d.before a0 Z = true) : (Jvm.Cond.laysFinal "com/example/triplecast/triplecast/cli/MediaType" "com/example/triplecast/triplecast/cli/MediaType" "subtype" "Ljava/lang/String;").before a0 Z = true := hw _ (List.mem_of_getElem? (i := 58) rfl)
theorem wd_59 {Z : State} {a0 : Array Value} (hw : ∀ d ∈ tables_1, d.before a0 Z = true) : (Jvm.Cond.fieldLink "com/example/triplecast/triplecast/cli/MediaType" (16 : Nat) "com/example/triplecast/triplecast/cli/MediaType" "parameters" "Ljava/util/Map;").before a0 Z = true := hw _ (List.mem_of_getElem? (i := 59) rfl)
theorem wd_60 {Z : State} {a0 : Array Value} (hw : ∀ d ∈ tables_1, d.before a0 Z = true) : (Jvm.Cond.laysFinal "com/example/triplecast/triplecast/cli/MediaType" "com/example/triplecast/triplecast/cli/MediaType" "parameters" "Ljava/util/Map;").before a0 Z = true := hw _ (List.mem_of_getElem? (i := 60) rfl)
theorem wd_61 {Z : State} {a0 : Array Value} (hw : ∀ d ∈ tables_1, d.before a0 Z = true) : (Jvm.Cond.methodLink "com/example/triplecast/triplecast/cli/MediaTypeIsPinLaw" (26 : Nat) ({ cls := "com/example/triplecast/triplecast/cli/MediaType", name := "is", desc := "(Ljava/lang/String;)Z" } : Jvm.MethodName)).before a0 Z = true := hw _ (List.mem_of_getElem? (i := 61) rfl)
theorem wd_62 {Z : State} {a0 : Array Value} (hw : ∀ d ∈ tables_1, d.before a0 Z = true) : (Jvm.Cond.declares ({ cls := "com/example/triplecast/triplecast/cli/MediaType", name := "is", desc := "(Ljava/lang/String;)Z" } : Jvm.MethodName)).before a0 Z = true := hw _ (List.mem_of_getElem? (i := 62) rfl)
theorem wd_63 {Z : State} {a0 : Array Value} (hw : ∀ d ∈ tables_1, d.before a0 Z = true) : (Jvm.Cond.instanceMethod ({ cls := "com/example/triplecast/triplecast/cli/MediaType", name := "is", desc := "(Ljava/lang/String;)Z" } : Jvm.MethodName)).before a0 Z = true := hw _ (List.mem_of_getElem? (i := 63) rfl)
theorem wd_64 {Z : State} {a0 : Array Value} (hw : ∀ d ∈ tables_1, d.before a0 Z = true) : (Jvm.Cond.selects "com/example/triplecast/triplecast/cli/MediaType" ({ cls := "com/example/triplecast/triplecast/cli/MediaType", name := "is", desc := "(Ljava/lang/String;)Z" } : Jvm.MethodName) ({ cls := "com/example/triplecast/triplecast/cli/MediaType", name := "is", desc := "(Ljava/lang/String;)Z" } : Jvm.MethodName)).before a0 Z = true := hw _ (List.mem_of_getElem? (i := 64) rfl)
theorem wd_65 {Z : State} {a0 : Array Value} (hw : ∀ d ∈ tables_1, d.before a0 Z = true) : (Jvm.Cond.code ({ cls := "com/example/triplecast/triplecast/cli/MediaType", name := "is", desc := "(Ljava/lang/String;)Z" } : Jvm.MethodName) prog_6_method_5_code (2 : Nat) (Option.some Jvm.ClassFile.FieldType.boolean)).before a0 Z = true := hw _ (List.mem_of_getElem? (i := 65) rfl)
theorem wd_66 {Z : State} {a0 : Array Value} (hw : ∀ d ∈ tables_1, d.before a0 Z = true) : (Jvm.Cond.classLink "com/example/triplecast/triplecast/cli/MediaType" (38 : Nat) "java/lang/StringBuilder").before a0 Z = true := hw _ (List.mem_of_getElem? (i := 66) rfl)
theorem wd_67 {Z : State} {a0 : Array Value} (hw : ∀ d ∈ tables_1, d.before a0 Z = true) : (Jvm.Cond.instantiable "java/lang/StringBuilder" (4 : Nat)).before a0 Z = true := hw _ (List.mem_of_getElem? (i := 67) rfl)
theorem wd_68 {Z : State} {a0 : Array Value} (hw : ∀ d ∈ tables_1, d.before a0 Z = true) : (Jvm.Cond.initialized "java/lang/StringBuilder").before a0 Z = true := hw _ (List.mem_of_getElem? (i := 68) rfl)
theorem wd_69 {Z : State} {a0 : Array Value} (hw : ∀ d ∈ tables_1, d.before a0 Z = true) : (Jvm.Cond.methodLink "com/example/triplecast/triplecast/cli/MediaType" (40 : Nat) ({ cls := "java/lang/StringBuilder", name := "<init>", desc := "()V" } : Jvm.MethodName)).before a0 Z = true := hw _ (List.mem_of_getElem? (i := 69) rfl)
theorem wd_70 {Z : State} {a0 : Array Value} (hw : ∀ d ∈ tables_1, d.before a0 Z = true) : (Jvm.Cond.instanceMethod ({ cls := "java/lang/StringBuilder", name := "<init>", desc := "()V" } : Jvm.MethodName)).before a0 Z = true := hw _ (List.mem_of_getElem? (i := 70) rfl)
theorem wd_71 {Z : State} {a0 : Array Value} (hw : ∀ d ∈ tables_1, d.before a0 Z = true) : (Jvm.Cond.code ({ cls := "java/lang/StringBuilder", name := "<init>", desc := "()V" } : Jvm.MethodName) jdk_67_method_1_code (1 : Nat) (Option.none : Option Jvm.ClassFile.FieldType)).before a0 Z = true := hw _ (List.mem_of_getElem? (i := 71) rfl)
theorem wd_72 {Z : State} {a0 : Array Value} (hw : ∀ d ∈ tables_1, d.before a0 Z = true) : (Jvm.Cond.methodLink "java/lang/StringBuilder" (1 : Nat) ({ cls := "java/lang/AbstractStringBuilder", name := "<init>", desc := "(I)V" } : Jvm.MethodName)).before a0 Z = true := hw _ (List.mem_of_getElem? (i := 72) rfl)
theorem wd_73 {Z : State} {a0 : Array Value} (hw : ∀ d ∈ tables_1, d.before a0 Z = true) : (Jvm.Cond.instanceMethod ({ cls := "java/lang/AbstractStringBuilder", name := "<init>", desc := "(I)V" } : Jvm.MethodName)).before a0 Z = true := hw _ (List.mem_of_getElem? (i := 73) rfl)
theorem wd_76 {Z : State} {a0 : Array Value} (hw : ∀ d ∈ tables_1, d.before a0 Z = true) : (Jvm.Cond.initialized "java/lang/AbstractStringBuilder").before a0 Z = true := hw _ (List.mem_of_getElem? (i := 76) rfl)
theorem wd_77 {Z : State} {a0 : Array Value} (hw : ∀ d ∈ tables_1, d.before a0 Z = true) : (Jvm.Cond.code ({ cls := "java/lang/AbstractStringBuilder", name := "<init>", desc := "(I)V" } : Jvm.MethodName) jdk_68_method_2_code (2 : Nat) (Option.none : Option Jvm.ClassFile.FieldType)).before a0 Z = true := hw _ (List.mem_of_getElem? (i := 77) rfl)
theorem wd_78 {Z : State} {a0 : Array Value} (hw : ∀ d ∈ tables_1, d.before a0 Z = true) : (Jvm.Cond.methodLink "java/lang/AbstractStringBuilder" (3 : Nat) ({ cls := "java/lang/Object", name := "<init>", desc := "()V" } : Jvm.MethodName)).before a0 Z = true := hw _ (List.mem_of_getElem? (i := 78) rfl)
theorem wd_79 {Z : State} {a0 : Array Value} (hw : ∀ d ∈ tables_1, d.before a0 Z = true) : (Jvm.Cond.fieldLink "java/lang/AbstractStringBuilder" (18 : Nat) "java/lang/String" "COMPACT_STRINGS" "Z").before a0 Z = true := hw _ (List.mem_of_getElem? (i := 79) rfl)
theorem wd_80 {Z : State} {a0 : Array Value} (hw : ∀ d ∈ tables_1, d.before a0 Z = true) : (Jvm.Cond.fieldLink "java/lang/AbstractStringBuilder" (15 : Nat) "java/lang/AbstractStringBuilder" "value" "[B").before a0 Z = true := hw _ (List.mem_of_getElem? (i := 80) rfl)
theorem wd_81 {Z : State} {a0 : Array Value} (hw : ∀ d ∈ tables_1, d.before a0 Z = true) : (Jvm.Cond.lays "java/lang/StringBuilder" "java/lang/AbstractStringBuilder" "value" "[B").before a0 Z = true := hw _ (List.mem_of_getElem? (i := 81) rfl)
theorem wd_82 {Z : State} {a0 : Array Value} (hw : ∀ d ∈ tables_1, d.before a0 Z = true) : (Jvm.Cond.fieldLink "java/lang/AbstractStringBuilder" (22 : Nat) "java/lang/AbstractStringBuilder" "coder" "B").before a0 Z = true := hw _ (List.mem_of_getElem? (i := 82) rfl)
theorem wd_83 {Z : State} {a0 : Array Value} (hw : ∀ d ∈ tables_1, d.before a0 Z = true) : (Jvm.Cond.lays "java/lang/StringBuilder" "java/lang/AbstractStringBuilder" "coder" "B").before a0 Z = true := hw _ (List.mem_of_getElem? (i := 83) rfl)
theorem wd_84 {Z : State} {a0 : Array Value} (hw : ∀ d ∈ tables_1, d.before a0 Z = true) : (Jvm.Cond.methodLink "com/example/triplecast/triplecast/cli/MediaType" (43 : Nat) ({ cls := "java/lang/StringBuilder", name := "append", desc := "(Ljava/lang/String;)Ljava/lang/StringBuilder;" } : Jvm.MethodName)).before a0 Z = true := hw _ (List.mem_of_getElem? (i := 84) rfl)
theorem wd_85 {Z : State} {a0 : Array Value} (hw : ∀ d ∈ tables_1, d.before a0 Z = true) : (Jvm.Cond.declares ({ cls := "java/lang/StringBuilder", name := "append", desc := "(Ljava/lang/String;)Ljava/lang/StringBuilder;" } : Jvm.MethodName)).before a0 Z = true := hw _ (List.mem_of_getElem? (i := 85) rfl)
theorem wd_86 {Z : State} {a0 : Array Value} (hw : ∀ d ∈ tables_1, d.before a0 Z = true) : (Jvm.Cond.instanceMethod ({ cls := "java/lang/StringBuilder", name := "append", desc := "(Ljava/lang/String;)Ljava/lang/StringBuilder;" } : Jvm.MethodName)).before a0 Z = true := hw _ (List.mem_of_getElem? (i := 86) rfl)
theorem wd_87 {Z : State} {a0 : Array Value} (hw : ∀ d ∈ tables_1, d.before a0 Z = true) : (Jvm.Cond.selects "java/lang/StringBuilder" ({ cls := "java/lang/StringBuilder", name := "append", desc := "(Ljava/lang/String;)Ljava/lang/StringBuilder;" } : Jvm.MethodName) ({ cls := "java/lang/StringBuilder", name := "append", desc := "(Ljava/lang/String;)Ljava/lang/StringBuilder;" } : Jvm.MethodName)).before a0 Z = true := hw _ (List.mem_of_getElem? (i := 87) rfl)
theorem wd_88 {Z : State} {a0 : Array Value} (hw : ∀ d ∈ tables_1, d.before a0 Z = true) : (Jvm.Cond.code ({ cls := "java/lang/StringBuilder", name := "append", desc := "(Ljava/lang/String;)Ljava/lang/StringBuilder;" } : Jvm.MethodName) jdk_67_method_7_code (2 : Nat) (Option.some (Jvm.ClassFile.FieldType.object "java/lang/StringBuilder"))).before a0 Z = true := hw _ (List.mem_of_getElem? (i := 88) rfl)
theorem wd_89 {Z : State} {a0 : Array Value} (hw : ∀ d ∈ tables_1, d.before a0 Z = true) : (Jvm.Cond.methodLink "java/lang/StringBuilder" (29 : Nat) ({ cls := "java/lang/AbstractStringBuilder", name := "append", desc := "(Ljava/lang/String;)Ljava/lang/AbstractStringBuilder;" } : Jvm.MethodName)).before a0 Z = true := hw _ (List.mem_of_getElem? (i := 89) rfl)
theorem wd_90 {Z : State} {a0 : Array Value} (hw : ∀ d ∈ tables_1, d.before a0 Z = true) : (Jvm.Cond.instanceMethod ({ cls := "java/lang/AbstractStringBuilder", name := "append", desc := "(Ljava/lang/String;)Ljava/lang/AbstractStringBuilder;" } : Jvm.MethodName)).before a0 Z = true := hw _ (List.mem_of_getElem? (i := 90) rfl)
theorem wd_91 {Z : State} {a0 : Array Value} (hw : ∀ d ∈ tables_1, d.before a0 Z = true) : (Jvm.Cond.superclass "java/lang/StringBuilder" "java/lang/AbstractStringBuilder").before a0 Z = true := hw _ (List.mem_of_getElem? (i := 91) rfl)
theorem wd_93 {Z : State} {a0 : Array Value} (hw : ∀ d ∈ tables_1, d.before a0 Z = true) : (Jvm.Cond.code ({ cls := "java/lang/AbstractStringBuilder", name := "append", desc := "(Ljava/lang/String;)Ljava/lang/AbstractStringBuilder;" } : Jvm.MethodName) jdk_68_method_22_code (3 : Nat) (Option.some (Jvm.ClassFile.FieldType.object "java/lang/AbstractStringBuilder"))).before a0 Z = true := hw _ (List.mem_of_getElem? (i := 93) rfl)
theorem wd_94 {Z : State} {a0 : Array Value} (hw : ∀ d ∈ tables_1, d.before a0 Z = true) : (Jvm.Cond.methodLink "java/lang/AbstractStringBuilder" (32 : Nat) ({ cls := "java/lang/String", name := "length", desc := "()I" } : Jvm.MethodName)).before a0 Z = true := hw _ (List.mem_of_getElem? (i := 94) rfl)
theorem wd_95 {Z : State} {a0 : Array Value} (hw : ∀ d ∈ tables_1, d.before a0 Z = true) : (Jvm.Cond.declares ({ cls := "java/lang/String", name := "length", desc := "()I" } : Jvm.MethodName)).before a0 Z = true := hw _ (List.mem_of_getElem? (i := 95) rfl)
theorem wd_96 {Z : State} {a0 : Array Value} (hw : ∀ d ∈ tables_1, d.before a0 Z = true) : (Jvm.Cond.instanceMethod ({ cls := "java/lang/String", name := "length", desc := "()I" } : Jvm.MethodName)).before a0 Z = true := hw _ (List.mem_of_getElem? (i := 96) rfl)
theorem wd_97 {Z : State} {a0 : Array Value} (hw : ∀ d ∈ tables_1, d.before a0 Z = true) : (Jvm.Cond.selects "java/lang/String" ({ cls := "java/lang/String", name := "length", desc := "()I" } : Jvm.MethodName) ({ cls := "java/lang/String", name := "length", desc := "()I" } : Jvm.MethodName)).before a0 Z = true := hw _ (List.mem_of_getElem? (i := 97) rfl)
theorem wd_98 {Z : State} {a0 : Array Value} (hw : ∀ d ∈ tables_1, d.before a0 Z = true) : (Jvm.Cond.code ({ cls := "java/lang/String", name := "length", desc := "()I" } : Jvm.MethodName) jdk_42_method_54_code (1 : Nat) (Option.some Jvm.ClassFile.FieldType.int)).before a0 Z = true := hw _ (List.mem_of_getElem? (i := 98) rfl)
theorem wd_99 {Z : State} {a0 : Array Value} (hw : ∀ d ∈ tables_1, d.before a0 Z = true) : (Jvm.Cond.methodLink "java/lang/String" (335 : Nat) ({ cls := "java/lang/String", name := "coder", desc := "()B" } : Jvm.MethodName)).before a0 Z = true := hw _ (List.mem_of_getElem? (i := 99) rfl)
theorem wd_100 {Z : State} {a0 : Array Value} (hw : ∀ d ∈ tables_1, d.before a0 Z = true) : (Jvm.Cond.declares ({ cls := "java/lang/String", name := "coder", desc := "()B" } : Jvm.MethodName)).before a0 Z = true := hw _ (List.mem_of_getElem? (i := 100) rfl)
theorem wd_101 {Z : State} {a0 : Array Value} (hw : ∀ d ∈ tables_1, d.before a0 Z = true) : (Jvm.Cond.instanceMethod ({ cls := "java/lang/String", name := "coder", desc := "()B" } : Jvm.MethodName)).before a0 Z = true := hw _ (List.mem_of_getElem? (i := 101) rfl)
theorem wd_102 {Z : State} {a0 : Array Value} (hw : ∀ d ∈ tables_1, d.before a0 Z = true) : (Jvm.Cond.selects "java/lang/String" ({ cls := "java/lang/String", name := "coder", desc := "()B" } : Jvm.MethodName) ({ cls := "java/lang/String", name := "coder", desc := "()B" } : Jvm.MethodName)).before a0 Z = true := hw _ (List.mem_of_getElem? (i := 102) rfl)
theorem wd_103 {Z : State} {a0 : Array Value} (hw : ∀ d ∈ tables_1, d.before a0 Z = true) : (Jvm.Cond.code ({ cls := "java/lang/String", name := "coder", desc := "()B" } : Jvm.MethodName) jdk_42_method_152_code (1 : Nat) (Option.some Jvm.ClassFile.FieldType.byte)).before a0 Z = true := hw _ (List.mem_of_getElem? (i := 103) rfl)
theorem wd_104 {Z : State} {a0 : Array Value} (hw : ∀ d ∈ tables_1, d.before a0 Z = true) : (Jvm.Cond.fieldLink "java/lang/AbstractStringBuilder" (79 : Nat) "java/lang/AbstractStringBuilder" "count" "I").before a0 Z = true := hw _ (List.mem_of_getElem? (i := 104) rfl)
theorem wd_105 {Z : State} {a0 : Array Value} (hw : ∀ d ∈ tables_1, d.before a0 Z = true) : (Jvm.Cond.lays "java/lang/StringBuilder" "java/lang/AbstractStringBuilder" "count" "I").before a0 Z = true := hw _ (List.mem_of_getElem? (i := 105) rfl)
theorem wd_106 {Z : State} {a0 : Array Value} (hw : ∀ d ∈ tables_1, d.before a0 Z = true) : (Jvm.Cond.methodLink "java/lang/AbstractStringBuilder" (100 : Nat) ({ cls := "java/lang/AbstractStringBuilder", name := "ensureCapacityInternal", desc := "(I)V" } : Jvm.MethodName)).before a0 Z = true := hw _ (List.mem_of_getElem? (i := 106) rfl)
theorem wd_107 {Z : State} {a0 : Array Value} (hw : ∀ d ∈ tables_1, d.before a0 Z = true) : (Jvm.Cond.instanceMethod ({ cls := "java/lang/AbstractStringBuilder", name := "ensureCapacityInternal", desc := "(I)V" } : Jvm.MethodName)).before a0 Z = true := hw _ (List.mem_of_getElem? (i := 107) rfl)
theorem wd_108 {Z : State} {a0 : Array Value} (hw : ∀ d ∈ tables_1, d.before a0 Z = true) : (Jvm.Cond.privateMethod ({ cls := "java/lang/AbstractStringBuilder", name := "ensureCapacityInternal", desc := "(I)V" } : Jvm.MethodName)).before a0 Z = true := hw _ (List.mem_of_getElem? (i := 108) rfl)
theorem wd_109 {Z : State} {a0 : Array Value} (hw : ∀ d ∈ tables_1, d.before a0 Z = true) : (Jvm.Cond.selects "java/lang/StringBuilder" ({ cls := "java/lang/AbstractStringBuilder", name := "ensureCapacityInternal", desc := "(I)V" } : Jvm.MethodName) ({ cls := "java/lang/AbstractStringBuilder", name := "ensureCapacityInternal", desc := "(I)V" } : Jvm.MethodName)).before a0 Z = true := hw _ (List.mem_of_getElem? (i := 109) rfl)
theorem wd_110 {Z : State} {a0 : Array Value} (hw : ∀ d ∈ tables_1, d.before a0 Z = true) : (Jvm.Cond.code ({ cls := "java/lang/AbstractStringBuilder", name := "ensureCapacityInternal", desc := "(I)V" } : Jvm.MethodName) jdk_68_method_9_code (3 : Nat) (Option.none : Option Jvm.ClassFile.FieldType)).before a0 Z = true := hw _ (List.mem_of_getElem? (i := 110) rfl)
theorem wd_111 {Z : State} {a0 : Array Value} (hw : ∀ d ∈ tables_1, d.before a0 Z = true) : (Jvm.Cond.methodLink "java/lang/AbstractStringBuilder" (208 : Nat) ({ cls := "java/lang/AbstractStringBuilder", name := "putStringAt", desc := "(ILjava/lang/String;)V" } : Jvm.MethodName)).before a0 Z = true := hw _ (List.mem_of_getElem? (i := 111) rfl)
theorem wd_112 {Z : State} {a0 : Array Value} (hw : ∀ d ∈ tables_1, d.before a0 Z = true) : (Jvm.Cond.instanceMethod ({ cls := "java/lang/AbstractStringBuilder", name := "putStringAt", desc := "(ILjava/lang/String;)V" } : Jvm.MethodName)).before a0 Z = true := hw _ (List.mem_of_getElem? (i := 112) rfl)
theorem wd_113 {Z : State} {a0 : Array Value} (hw : ∀ d ∈ tables_1, d.before a0 Z = true) : (Jvm.Cond.privateMethod ({ cls := "java/lang/AbstractStringBuilder", name := "putStringAt", desc := "(ILjava/lang/String;)V" } : Jvm.MethodName)).before a0 Z = true := hw _ (List.mem_of_getElem? (i := 113) rfl)
theorem wd_115 {Z : State} {a0 : Array Value} (hw : ∀ d ∈ tables_1, d.before a0 Z = true) : (Jvm.Cond.code ({ cls := "java/lang/AbstractStringBuilder", name := "putStringAt", desc := "(ILjava/lang/String;)V" } : Jvm.MethodName) jdk_68_method_73_code (3 : Nat) (Option.none : Option Jvm.ClassFile.FieldType)).before a0 Z = true := hw _ (List.mem_of_getElem? (i := 115) rfl)
theorem wd_116 {Z : State} {a0 : Array Value} (hw : ∀ d ∈ tables_1, d.before a0 Z = true) : (Jvm.Cond.methodLink "java/lang/AbstractStringBuilder" (397 : Nat) ({ cls := "java/lang/AbstractStringBuilder", name := "inflateIfNeededFor", desc := "(Ljava/lang/String;)V" } : Jvm.MethodName)).before a0 Z = true := hw _ (List.mem_of_getElem? (i := 116) rfl)
theorem wd_117 {Z : State} {a0 : Array Value} (hw : ∀ d ∈ tables_1, d.before a0 Z = true) : (Jvm.Cond.instanceMethod ({ cls := "java/lang/AbstractStringBuilder", name := "inflateIfNeededFor", desc := "(Ljava/lang/String;)V" } : Jvm.MethodName)).before a0 Z = true := hw _ (List.mem_of_getElem? (i := 117) rfl)
theorem wd_118 {Z : State} {a0 : Array Value} (hw : ∀ d ∈ tables_1, d.before a0 Z = true) : (Jvm.Cond.privateMethod ({ cls := "java/lang/AbstractStringBuilder", name := "inflateIfNeededFor", desc := "(Ljava/lang/String;)V" } : Jvm.MethodName)).before a0 Z = true := hw _ (List.mem_of_getElem? (i := 118) rfl)
theorem wd_120 {Z : State} {a0 : Array Value} (hw : ∀ d ∈ tables_1, d.before a0 Z = true) : (Jvm.Cond.code ({ cls := "java/lang/AbstractStringBuilder", name := "inflateIfNeededFor", desc := "(Ljava/lang/String;)V" } : Jvm.MethodName) jdk_68_method_71_code (2 : Nat) (Option.none : Option Jvm.ClassFile.FieldType)).before a0 Z = true := hw _ (List.mem_of_getElem? (i := 120) rfl)
theorem wd_121 {Z : State} {a0 : Array Value} (hw : ∀ d ∈ tables_1, d.before a0 Z = true) : (Jvm.Cond.methodLink "java/lang/AbstractStringBuilder" (40 : Nat) ({ cls := "java/lang/String", name := "coder", desc := "()B" } : Jvm.MethodName)).before a0 Z = true := hw _ (List.mem_of_getElem? (i := 121) rfl)
theorem wd_122 {Z : State} {a0 : Array Value} (hw : ∀ d ∈ tables_1, d.before a0 Z = true) : (Jvm.Cond.methodLink "java/lang/AbstractStringBuilder" (399 : Nat) ({ cls := "java/lang/String", name := "getBytes", desc := "([BIB)V" } : Jvm.MethodName)).before a0 Z = true := hw _ (List.mem_of_getElem? (i := 122) rfl)
theorem wd_123 {Z : State} {a0 : Array Value} (hw : ∀ d ∈ tables_1, d.before a0 Z = true) : (Jvm.Cond.declares ({ cls := "java/lang/String", name := "getBytes", desc := "([BIB)V" } : Jvm.MethodName)).before a0 Z = true := hw _ (List.mem_of_getElem? (i := 123) rfl)
theorem wd_124 {Z : State} {a0 : Array Value} (hw : ∀ d ∈ tables_1, d.before a0 Z = true) : (Jvm.Cond.instanceMethod ({ cls := "java/lang/String", name := "getBytes", desc := "([BIB)V" } : Jvm.MethodName)).before a0 Z = true := hw _ (List.mem_of_getElem? (i := 124) rfl)
theorem wd_125 {Z : State} {a0 : Array Value} (hw : ∀ d ∈ tables_1, d.before a0 Z = true) : (Jvm.Cond.selects "java/lang/String" ({ cls := "java/lang/String", name := "getBytes", desc := "([BIB)V" } : Jvm.MethodName) ({ cls := "java/lang/String", name := "getBytes", desc := "([BIB)V" } : Jvm.MethodName)).before a0 Z = true := hw _ (List.mem_of_getElem? (i := 125) rfl)
theorem wd_126 {Z : State} {a0 : Array Value} (hw : ∀ d ∈ tables_1, d.before a0 Z = true) : (Jvm.Cond.code ({ cls := "java/lang/String", name := "getBytes", desc := "([BIB)V" } : Jvm.MethodName) jdk_42_method_147_code (4 : Nat) (Option.none : Option Jvm.ClassFile.FieldType)).before a0 Z = true := hw _ (List.mem_of_getElem? (i := 126) rfl)
theorem wd_127 {Z : State} {a0 : Array Value} (hw : ∀ d ∈ tables_1, d.before a0 Z = true) : (Jvm.Cond.methodLink "java/lang/String" (212 : Nat) ({ cls := "java/lang/System", name := "arraycopy", desc := "(Ljava/lang/Object;ILjava/lang/Object;II)V" } : Jvm.MethodName)).before a0 Z = true := hw _ (List.mem_of_getElem? (i := 127) rfl)
theorem wd_128 {Z : State} {a0 : Array Value} (hw : ∀ d ∈ tables_1, d.before a0 Z = true) : (Jvm.Cond.static ({ cls := "java/lang/System", name := "arraycopy", desc := "(Ljava/lang/Object;ILjava/lang/Object;II)V" } : Jvm.MethodName)).before a0 Z = true := hw _ (List.mem_of_getElem? (i := 128) rfl)
theorem wd_129 {Z : State} {a0 : Array Value} (hw : ∀ d ∈ tables_1, d.before a0 Z = true) : (Jvm.Cond.initialized "java/lang/System").before a0 Z = true := hw _ (List.mem_of_getElem? (i := 129) rfl)
theorem wd_130 {Z : State} {a0 : Array Value} (hw : ∀ d ∈ tables_1, d.before a0 Z = true) : (Jvm.Cond.native ({ cls := "java/lang/System", name := "arraycopy", desc := "(Ljava/lang/Object;ILjava/lang/Object;II)V" } : Jvm.MethodName)).before a0 Z = true := hw _ (List.mem_of_getElem? (i := 130) rfl)
theorem wd_131 {Z : State} {a0 : Array Value} (hw : ∀ d ∈ tables_1, d.before a0 Z = true) : (Jvm.Cond.stringLink "com/example/triplecast/triplecast/cli/MediaType" (86 : Nat) "/").before a0 Z = true := hw _ (List.mem_of_getElem? (i := 131) rfl)
theorem wd_132 {Z : State} {a0 : Array Value} (hw : ∀ d ∈ tables_1, d.before a0 Z = true) : (Jvm.Cond.methodLink "com/example/triplecast/triplecast/cli/MediaType" (47 : Nat) ({ cls := "java/lang/StringBuilder", name := "toString", desc := "()Ljava/lang/String;" } : Jvm.MethodName)).before a0 Z = true := hw _ (List.mem_of_getElem? (i := 132) rfl)
theorem wd_133 {Z : State} {a0 : Array Value} (hw : ∀ d ∈ tables_1, d.before a0 Z = true) : (Jvm.Cond.declares ({ cls := "java/lang/StringBuilder", name := "toString", desc := "()Ljava/lang/String;" } : Jvm.MethodName)).before a0 Z = true := hw _ (List.mem_of_getElem? (i := 133) rfl)
theorem wd_134 {Z : State} {a0 : Array Value} (hw : ∀ d ∈ tables_1, d.before a0 Z = true) : (Jvm.Cond.instanceMethod ({ cls := "java/lang/StringBuilder", name := "toString", desc := "()Ljava/lang/String;" } : Jvm.MethodName)).before a0 Z = true := hw _ (List.mem_of_getElem? (i := 134) rfl)
theorem wd_135 {Z : State} {a0 : Array Value} (hw : ∀ d ∈ tables_1, d.before a0 Z = true) : (Jvm.Cond.selects "java/lang/StringBuilder" ({ cls := "java/lang/StringBuilder", name := "toString", desc := "()Ljava/lang/String;" } : Jvm.MethodName) ({ cls := "java/lang/StringBuilder", name := "toString", desc := "()Ljava/lang/String;" } : Jvm.MethodName)).before a0 Z = true := hw _ (List.mem_of_getElem? (i := 135) rfl)
theorem wd_136 {Z : State} {a0 : Array Value} (hw : ∀ d ∈ tables_1, d.before a0 Z = true) : (Jvm.Cond.code ({ cls := "java/lang/StringBuilder", name := "toString", desc := "()Ljava/lang/String;" } : Jvm.MethodName) jdk_67_method_42_code (1 : Nat) (Option.some (Jvm.ClassFile.FieldType.object "java/lang/String"))).before a0 Z = true := hw _ (List.mem_of_getElem? (i := 136) rfl)
theorem wd_137 {Z : State} {a0 : Array Value} (hw : ∀ d ∈ tables_1, d.before a0 Z = true) : (Jvm.Cond.classLink "java/lang/StringBuilder" (18 : Nat) "java/lang/String").before a0 Z = true := hw _ (List.mem_of_getElem? (i := 137) rfl)
theorem wd_138 {Z : State} {a0 : Array Value} (hw : ∀ d ∈ tables_1, d.before a0 Z = true) : (Jvm.Cond.methodLink "java/lang/StringBuilder" (137 : Nat) ({ cls := "java/lang/String", name := "<init>", desc := "(Ljava/lang/StringBuilder;)V" } : Jvm.MethodName)).before a0 Z = true := hw _ (List.mem_of_getElem? (i := 138) rfl)
theorem wd_139 {Z : State} {a0 : Array Value} (hw : ∀ d ∈ tables_1, d.before a0 Z = true) : (Jvm.Cond.instanceMethod ({ cls := "java/lang/String", name := "<init>", desc := "(Ljava/lang/StringBuilder;)V" } : Jvm.MethodName)).before a0 Z = true := hw _ (List.mem_of_getElem? (i := 139) rfl)
theorem wd_140 {Z : State} {a0 : Array Value} (hw : ∀ d ∈ tables_1, d.before a0 Z = true) : (Jvm.Cond.code ({ cls := "java/lang/String", name := "<init>", desc := "(Ljava/lang/StringBuilder;)V" } : Jvm.MethodName) jdk_42_method_53_code (2 : Nat) (Option.none : Option Jvm.ClassFile.FieldType)).before a0 Z = true := hw _ (List.mem_of_getElem? (i := 140) rfl)
theorem wd_141 {Z : State} {a0 : Array Value} (hw : ∀ d ∈ tables_1, d.before a0 Z = true) : (Jvm.Cond.methodLink "java/lang/String" (489 : Nat) ({ cls := "java/lang/String", name := "<init>", desc := "(Ljava/lang/AbstractStringBuilder;Ljava/lang/Void;)V" } : Jvm.MethodName)).before a0 Z = true := hw _ (List.mem_of_getElem? (i := 141) rfl)
theorem wd_142 {Z : State} {a0 : Array Value} (hw : ∀ d ∈ tables_1, d.before a0 Z = true) : (Jvm.Cond.instanceMethod ({ cls := "java/lang/String", name := "<init>", desc := "(Ljava/lang/AbstractStringBuilder;Ljava/lang/Void;)V" } : Jvm.MethodName)).before a0 Z = true := hw _ (List.mem_of_getElem? (i := 142) rfl)
theorem wd_143 {Z : State} {a0 : Array Value} (hw : ∀ d ∈ tables_1, d.before a0 Z = true) : (Jvm.Cond.code ({ cls := "java/lang/String", name := "<init>", desc := "(Ljava/lang/AbstractStringBuilder;Ljava/lang/Void;)V" } : Jvm.MethodName) jdk_42_method_150_code (5 : Nat) (Option.none : Option Jvm.ClassFile.FieldType)).before a0 Z = true := hw _ (List.mem_of_getElem? (i := 143) rfl)
theorem wd_144 {Z : State} {a0 : Array Value} (hw : ∀ d ∈ tables_1, d.before a0 Z = true) : (Jvm.Cond.methodLink "java/lang/String" (552 : Nat) ({ cls := "java/lang/AbstractStringBuilder", name := "getValue", desc := "()[B" } : Jvm.MethodName)).before a0 Z = true := hw _ (List.mem_of_getElem? (i := 144) rfl)
theorem wd_145 {Z : State} {a0 : Array Value} (hw : ∀ d ∈ tables_1, d.before a0 Z = true) : (Jvm.Cond.declares ({ cls := "java/lang/AbstractStringBuilder", name := "getValue", desc := "()[B" } : Jvm.MethodName)).before a0 Z = true := hw _ (List.mem_of_getElem? (i := 145) rfl)
theorem wd_146 {Z : State} {a0 : Array Value} (hw : ∀ d ∈ tables_1, d.before a0 Z = true) : (Jvm.Cond.instanceMethod ({ cls := "java/lang/AbstractStringBuilder", name := "getValue", desc := "()[B" } : Jvm.MethodName)).before a0 Z = true := hw _ (List.mem_of_getElem? (i := 146) rfl)
theorem wd_147 {Z : State} {a0 : Array Value} (hw : ∀ d ∈ tables_1, d.before a0 Z = true) : (Jvm.Cond.selects "java/lang/StringBuilder" ({ cls := "java/lang/AbstractStringBuilder", name := "getValue", desc := "()[B" } : Jvm.MethodName) ({ cls := "java/lang/AbstractStringBuilder", name := "getValue", desc := "()[B" } : Jvm.MethodName)).before a0 Z = true := hw _ (List.mem_of_getElem? (i := 147) rfl)
theorem wd_148 {Z : State} {a0 : Array Value} (hw : ∀ d ∈ tables_1, d.before a0 Z = true) : (Jvm.Cond.code ({ cls := "java/lang/AbstractStringBuilder", name := "getValue", desc := "()[B" } : Jvm.MethodName) jdk_68_method_64_code (1 : Nat) (Option.some (Jvm.ClassFile.FieldType.array Jvm.ClassFile.FieldType.byte))).before a0 Z = true := hw _ (List.mem_of_getElem? (i := 148) rfl)
theorem wd_149 {Z : State} {a0 : Array Value} (hw : ∀ d ∈ tables_1, d.before a0 Z = true) : (Jvm.Cond.methodLink "java/lang/String" (549 : Nat) ({ cls := "java/lang/AbstractStringBuilder", name := "length", desc := "()I" } : Jvm.MethodName)).before a0 Z = true := hw _ (List.mem_of_getElem? (i := 149) rfl)
theorem wd_150 {Z : State} {a0 : Array Value} (hw : ∀ d ∈ tables_1, d.before a0 Z = true) : (Jvm.Cond.declares ({ cls := "java/lang/AbstractStringBuilder", name := "length", desc := "()I" } : Jvm.MethodName)).before a0 Z = true := hw _ (List.mem_of_getElem? (i := 150) rfl)
theorem wd_151 {Z : State} {a0 : Array Value} (hw : ∀ d ∈ tables_1, d.before a0 Z = true) : (Jvm.Cond.instanceMethod ({ cls := "java/lang/AbstractStringBuilder", name := "length", desc := "()I" } : Jvm.MethodName)).before a0 Z = true := hw _ (List.mem_of_getElem? (i := 151) rfl)
theorem wd_152 {Z : State} {a0 : Array Value} (hw : ∀ d ∈ tables_1, d.before a0 Z = true) : (Jvm.Cond.selects "java/lang/StringBuilder" ({ cls := "java/lang/AbstractStringBuilder", name := "length", desc := "()I" } : Jvm.MethodName) ({ cls := "java/lang/StringBuilder", name := "length", desc := "()I" } : Jvm.MethodName)).before a0 Z = true := hw _ (List.mem_of_getElem? (i := 152) rfl)
theorem wd_153 {Z : State} {a0 : Array Value} (hw : ∀ d ∈ tables_1, d.before a0 Z = true) : (Jvm.Cond.instanceMethod ({ cls := "java/lang/StringBuilder", name := "length", desc := "()I" } : Jvm.MethodName)).before a0 Z = true := hw _ (List.mem_of_getElem? (i := 153) rfl)
theorem wd_154 {Z : State} {a0 : Array Value} (hw : ∀ d ∈ tables_1, d.before a0 Z = true) : (Jvm.Cond.code ({ cls := "java/lang/StringBuilder", name := "length", desc := "()I" } : Jvm.MethodName) jdk_67_method_93_code (1 : Nat) (Option.some Jvm.ClassFile.FieldType.int)).before a0 Z = true := hw _ (List.mem_of_getElem? (i := 154) rfl)
theorem wd_155 {Z : State} {a0 : Array Value} (hw : ∀ d ∈ tables_1, d.before a0 Z = true) : (Jvm.Cond.methodLink "java/lang/StringBuilder" (343 : Nat) ({ cls := "java/lang/AbstractStringBuilder", name := "length", desc := "()I" } : Jvm.MethodName)).before a0 Z = true := hw _ (List.mem_of_getElem? (i := 155) rfl)
theorem wd_156 {Z : State} {a0 : Array Value} (hw : ∀ d ∈ tables_1, d.before a0 Z = true) : (Jvm.Cond.code ({ cls := "java/lang/AbstractStringBuilder", name := "length", desc := "()I" } : Jvm.MethodName) jdk_68_method_6_code (1 : Nat) (Option.some Jvm.ClassFile.FieldType.int)).before a0 Z = true := hw _ (List.mem_of_getElem? (i := 156) rfl)
theorem wd_157 {Z : State} {a0 : Array Value} (hw : ∀ d ∈ tables_1, d.before a0 Z = true) : (Jvm.Cond.methodLink "java/lang/String" (1047 : Nat) ({ cls := "java/lang/AbstractStringBuilder", name := "isLatin1", desc := "()Z" } : Jvm.MethodName)).before a0 Z = true := hw _ (List.mem_of_getElem? (i := 157) rfl)
theorem wd_158 {Z : State} {a0 : Array Value} (hw : ∀ d ∈ tables_1, d.before a0 Z = true) : (Jvm.Cond.declares ({ cls := "java/lang/AbstractStringBuilder", name := "isLatin1", desc := "()Z" } : Jvm.MethodName)).before a0 Z = true := hw _ (List.mem_of_getElem? (i := 158) rfl)
theorem wd_159 {Z : State} {a0 : Array Value} (hw : ∀ d ∈ tables_1, d.before a0 Z = true) : (Jvm.Cond.instanceMethod ({ cls := "java/lang/AbstractStringBuilder", name := "isLatin1", desc := "()Z" } : Jvm.MethodName)).before a0 Z = true := hw _ (List.mem_of_getElem? (i := 159) rfl)
theorem wd_160 {Z : State} {a0 : Array Value} (hw : ∀ d ∈ tables_1, d.before a0 Z = true) : (Jvm.Cond.selects "java/lang/StringBuilder" ({ cls := "java/lang/AbstractStringBuilder", name := "isLatin1", desc := "()Z" } : Jvm.MethodName) ({ cls := "java/lang/AbstractStringBuilder", name := "isLatin1", desc := "()Z" } : Jvm.MethodName)).before a0 Z = true := hw _ (List.mem_of_getElem? (i := 160) rfl)
theorem wd_161 {Z : State} {a0 : Array Value} (hw : ∀ d ∈ tables_1, d.before a0 Z = true) : (Jvm.Cond.code ({ cls := "java/lang/AbstractStringBuilder", name := "isLatin1", desc := "()Z" } : Jvm.MethodName) jdk_68_method_68_code (1 : Nat) (Option.some Jvm.ClassFile.FieldType.boolean)).before a0 Z = true := hw _ (List.mem_of_getElem? (i := 161) rfl)
theorem wd_162 {Z : State} {a0 : Array Value} (hw : ∀ d ∈ tables_1, d.before a0 Z = true) : (Jvm.Cond.methodLink "java/lang/String" (54 : Nat) ({ cls := "java/util/Arrays", name := "copyOfRange", desc := "([BII)[B" } : Jvm.MethodName)).before a0 Z = true := hw _ (List.mem_of_getElem? (i := 162) rfl)
theorem wd_163 {Z : State} {a0 : Array Value} (hw : ∀ d ∈ tables_1, d.before a0 Z = true) : (Jvm.Cond.static ({ cls := "java/util/Arrays", name := "copyOfRange", desc := "([BII)[B" } : Jvm.MethodName)).before a0 Z = true := hw _ (List.mem_of_getElem? (i := 163) rfl)
theorem wd_164 {Z : State} {a0 : Array Value} (hw : ∀ d ∈ tables_1, d.before a0 Z = true) : (Jvm.Cond.initialized "java/util/Arrays").before a0 Z = true := hw _ (List.mem_of_getElem? (i := 164) rfl)
theorem wd_165 {Z : State} {a0 : Array Value} (hw : ∀ d ∈ tables_1, d.before a0 Z = true) : (Jvm.Cond.code ({ cls := "java/util/Arrays", name := "copyOfRange", desc := "([BII)[B" } : Jvm.MethodName) jdk_65_method_132_code (3 : Nat) (Option.some (Jvm.ClassFile.FieldType.array Jvm.ClassFile.FieldType.byte))).before a0 Z = true := hw _ (List.mem_of_getElem? (i := 165) rfl)
theorem wd_166 {Z : State} {a0 : Array Value} (hw : ∀ d ∈ tables_1, d.before a0 Z = true) : (Jvm.Cond.methodLink "java/util/Arrays" (339 : Nat) ({ cls := "java/util/Arrays", name := "copyOfRangeByte", desc := "([BII)[B" } : Jvm.MethodName)).before a0 Z = true := hw _ (List.mem_of_getElem? (i := 166) rfl)
theorem wd_167 {Z : State} {a0 : Array Value} (hw : ∀ d ∈ tables_1, d.before a0 Z = true) : (Jvm.Cond.static ({ cls := "java/util/Arrays", name := "copyOfRangeByte", desc := "([BII)[B" } : Jvm.MethodName)).before a0 Z = true := hw _ (List.mem_of_getElem? (i := 167) rfl)
theorem wd_168 {Z : State} {a0 : Array Value} (hw : ∀ d ∈ tables_1, d.before a0 Z = true) : (Jvm.Cond.code ({ cls := "java/util/Arrays", name := "copyOfRangeByte", desc := "([BII)[B" } : Jvm.MethodName) jdk_65_method_133_code (5 : Nat) (Option.some (Jvm.ClassFile.FieldType.array Jvm.ClassFile.FieldType.byte))).before a0 Z = true := hw _ (List.mem_of_getElem? (i := 168) rfl)
theorem wd_169 {Z : State} {a0 : Array Value} (hw : ∀ d ∈ tables_1, d.before a0 Z = true) : (Jvm.Cond.methodLink "java/util/Arrays" (343 : Nat) ({ cls := "java/util/Arrays", name := "checkLength", desc := "(II)V" } : Jvm.MethodName)).before a0 Z = true := hw _ (List.mem_of_getElem? (i := 169) rfl)
theorem wd_170 {Z : State} {a0 : Array Value} (hw : ∀ d ∈ tables_1, d.before a0 Z = true) : (Jvm.Cond.static ({ cls := "java/util/Arrays", name := "checkLength", desc := "(II)V" } : Jvm.MethodName)).before a0 Z = true := hw _ (List.mem_of_getElem? (i := 170) rfl)
theorem wd_171 {Z : State} {a0 : Array Value} (hw : ∀ d ∈ tables_1, d.before a0 Z = true) : (Jvm.Cond.code ({ cls := "java/util/Arrays", name := "checkLength", desc := "(II)V" } : Jvm.MethodName) jdk_65_method_131_code (2 : Nat) (Option.none : Option Jvm.ClassFile.FieldType)).before a0 Z = true := hw _ (List.mem_of_getElem? (i := 171) rfl)
theorem wd_172 {Z : State} {a0 : Array Value} (hw : ∀ d ∈ tables_1, d.before a0 Z = true) : (Jvm.Cond.methodLink "java/util/Arrays" (304 : Nat) ({ cls := "java/lang/Math", name := "min", desc := "(II)I" } : Jvm.MethodName)).before a0 Z = true := hw _ (List.mem_of_getElem? (i := 172) rfl)
theorem wd_173 {Z : State} {a0 : Array Value} (hw : ∀ d ∈ tables_1, d.before a0 Z = true) : (Jvm.Cond.static ({ cls := "java/lang/Math", name := "min", desc := "(II)I" } : Jvm.MethodName)).before a0 Z = true := hw _ (List.mem_of_getElem? (i := 173) rfl)
theorem wd_174 {Z : State} {a0 : Array Value} (hw : ∀ d ∈ tables_1, d.before a0 Z = true) : (Jvm.Cond.initialized "java/lang/Math").before a0 Z = true := hw _ (List.mem_of_getElem? (i := 174) rfl)
theorem wd_175 {Z : State} {a0 : Array Value} (hw : ∀ d ∈ tables_1, d.before a0 Z = true) : (Jvm.Cond.code ({ cls := "java/lang/Math", name := "min", desc := "(II)I" } : Jvm.MethodName) jdk_29_method_69_code (2 : Nat) (Option.some Jvm.ClassFile.FieldType.int)).before a0 Z = true := hw _ (List.mem_of_getElem? (i := 175) rfl)
theorem wd_176 {Z : State} {a0 : Array Value} (hw : ∀ d ∈ tables_1, d.before a0 Z = true) : (Jvm.Cond.methodLink "java/util/Arrays" (150 : Nat) ({ cls := "java/lang/System", name := "arraycopy", desc := "(Ljava/lang/Object;ILjava/lang/Object;II)V" } : Jvm.MethodName)).before a0 Z = true := hw _ (List.mem_of_getElem? (i := 176) rfl)
theorem wd_177 {Z : State} {a0 : Array Value} (hw : ∀ d ∈ tables_1, d.before a0 Z = true) : (Jvm.Cond.methodLink "com/example/triplecast/triplecast/cli/MediaType" (88 : Nat) ({ cls := "java/lang/String", name := "equals", desc := "(Ljava/lang/Object;)Z" } : Jvm.MethodName)).before a0 Z = true := hw _ (List.mem_of_getElem? (i := 177) rfl)
theorem wd_178 {Z : State} {a0 : Array Value} (hw : ∀ d ∈ tables_1, d.before a0 Z = true) : (Jvm.Cond.declares ({ cls := "java/lang/String", name := "equals", desc := "(Ljava/lang/Object;)Z" } : Jvm.MethodName)).before a0 Z = true := hw _ (List.mem_of_getElem? (i := 178) rfl)
theorem wd_179 {Z : State} {a0 : Array Value} (hw : ∀ d ∈ tables_1, d.before a0 Z = true) : (Jvm.Cond.instanceMethod ({ cls := "java/lang/String", name := "equals", desc := "(Ljava/lang/Object;)Z" } : Jvm.MethodName)).before a0 Z = true := hw _ (List.mem_of_getElem? (i := 179) rfl)
theorem wd_180 {Z : State} {a0 : Array Value} (hw : ∀ d ∈ tables_1, d.before a0 Z = true) : (Jvm.Cond.selects "java/lang/String" ({ cls := "java/lang/String", name := "equals", desc := "(Ljava/lang/Object;)Z" } : Jvm.MethodName) ({ cls := "java/lang/String", name := "equals", desc := "(Ljava/lang/Object;)Z" } : Jvm.MethodName)).before a0 Z = true := hw _ (List.mem_of_getElem? (i := 180) rfl)
theorem wd_181 {Z : State} {a0 : Array Value} (hw : ∀ d ∈ tables_1, d.before a0 Z = true) : (Jvm.Cond.code ({ cls := "java/lang/String", name := "equals", desc := "(Ljava/lang/Object;)Z" } : Jvm.MethodName) jdk_42_method_66_code (3 : Nat) (Option.some Jvm.ClassFile.FieldType.boolean)).before a0 Z = true := hw _ (List.mem_of_getElem? (i := 181) rfl)
theorem wd_182 {Z : State} {a0 : Array Value} (hw : ∀ d ∈ tables_1, d.before a0 Z = true) : (Jvm.Cond.classLink "java/lang/String" (10 : Nat) "java/lang/String").before a0 Z = true := hw _ (List.mem_of_getElem? (i := 182) rfl)
theorem wd_183 {Z : State} {a0 : Array Value} (hw : ∀ d ∈ tables_1, d.before a0 Z = true) : (Jvm.Cond.methodLink "java/lang/String" (541 : Nat) ({ cls := "java/lang/StringLatin1", name := "equals", desc := "([B[B)Z" } : Jvm.MethodName)).before a0 Z = true := hw _ (List.mem_of_getElem? (i := 183) rfl)
theorem wd_184 {Z : State} {a0 : Array Value} (hw : ∀ d ∈ tables_1, d.before a0 Z = true) : (Jvm.Cond.static ({ cls := "java/lang/StringLatin1", name := "equals", desc := "([B[B)Z" } : Jvm.MethodName)).before a0 Z = true := hw _ (List.mem_of_getElem? (i := 184) rfl)
theorem wd_185 {Z : State} {a0 : Array Value} (hw : ∀ d ∈ tables_1, d.before a0 Z = true) : (Jvm.Cond.initialized "java/lang/StringLatin1").before a0 Z = true := hw _ (List.mem_of_getElem? (i := 185) rfl)
theorem wd_186 {Z : State} {a0 : Array Value} (hw : ∀ d ∈ tables_1, d.before a0 Z = true) : (Jvm.Cond.code ({ cls := "java/lang/StringLatin1", name := "equals", desc := "([B[B)Z" } : Jvm.MethodName) jdk_43_method_13_code (3 : Nat) (Option.some Jvm.ClassFile.FieldType.boolean)).before a0 Z = true := hw _ (List.mem_of_getElem? (i := 186) rfl)
theorem wd_187 {Z : State} {a0 : Array Value} (hw : ∀ d ∈ tables_1, d.before a0 Z = true) : (Jvm.Cond.methodLink "com/example/triplecast/triplecast/cli/MediaTypeIsPinLaw" (32 : Nat) ({ cls := "java/lang/String", name := "valueOf", desc := "(C)Ljava/lang/String;" } : Jvm.MethodName)).before a0 Z = true := hw _ (List.mem_of_getElem? (i := 187) rfl)
theorem wd_188 {Z : State} {a0 : Array Value} (hw : ∀ d ∈ tables_1, d.before a0 Z = true) : (Jvm.Cond.static ({ cls := "java/lang/String", name := "valueOf", desc := "(C)Ljava/lang/String;" } : Jvm.MethodName)).before a0 Z = true := hw _ (List.mem_of_getElem? (i := 188) rfl)
theorem wd_189 {Z : State} {a0 : Array Value} (hw : ∀ d ∈ tables_1, d.before a0 Z = true) : (Jvm.Cond.code ({ cls := "java/lang/String", name := "valueOf", desc := "(C)Ljava/lang/String;" } : Jvm.MethodName) jdk_42_method_139_code (1 : Nat) (Option.some (Jvm.ClassFile.FieldType.object "java/lang/String"))).before a0 Z = true := hw _ (List.mem_of_getElem? (i := 189) rfl)
theorem wd_190 {Z : State} {a0 : Array Value} (hw : ∀ d ∈ tables_1, d.before a0 Z = true) : (Jvm.Cond.methodLink "java/lang/String" (1015 : Nat) ({ cls := "java/lang/StringLatin1", name := "canEncode", desc := "(C)Z" } : Jvm.MethodName)).before a0 Z = true := hw _ (List.mem_of_getElem? (i := 190) rfl)
theorem wd_191 {Z : State} {a0 : Array Value} (hw : ∀ d ∈ tables_1, d.before a0 Z = true) : (Jvm.Cond.static ({ cls := "java/lang/StringLatin1", name := "canEncode", desc := "(C)Z" } : Jvm.MethodName)).before a0 Z = true := hw _ (List.mem_of_getElem? (i := 191) rfl)
theorem wd_192 {Z : State} {a0 : Array Value} (hw : ∀ d ∈ tables_1, d.before a0 Z = true) : (Jvm.Cond.code ({ cls := "java/lang/StringLatin1", name := "canEncode", desc := "(C)Z" } : Jvm.MethodName) jdk_43_method_3_code (1 : Nat) (Option.some Jvm.ClassFile.FieldType.boolean)).before a0 Z = true := hw _ (List.mem_of_getElem? (i := 192) rfl)
theorem wd_193 {Z : State} {a0 : Array Value} (hw : ∀ d ∈ tables_1, d.before a0 Z = true) : (Jvm.Cond.methodLink "java/lang/String" (1018 : Nat) ({ cls := "java/lang/StringLatin1", name := "toBytes", desc := "(C)[B" } : Jvm.MethodName)).before a0 Z = true := hw _ (List.mem_of_getElem? (i := 193) rfl)
theorem wd_194 {Z : State} {a0 : Array Value} (hw : ∀ d ∈ tables_1, d.before a0 Z = true) : (Jvm.Cond.static ({ cls := "java/lang/StringLatin1", name := "toBytes", desc := "(C)[B" } : Jvm.MethodName)).before a0 Z = true := hw _ (List.mem_of_getElem? (i := 194) rfl)
theorem wd_195 {Z : State} {a0 : Array Value} (hw : ∀ d ∈ tables_1, d.before a0 Z = true) : (Jvm.Cond.code ({ cls := "java/lang/StringLatin1", name := "toBytes", desc := "(C)[B" } : Jvm.MethodName) jdk_43_method_46_code (1 : Nat) (Option.some (Jvm.ClassFile.FieldType.array Jvm.ClassFile.FieldType.byte))).before a0 Z = true := hw _ (List.mem_of_getElem? (i := 195) rfl)
theorem wd_196 {Z : State} {a0 : Array Value} (hw : ∀ d ∈ tables_1, d.before a0 Z = true) : (Jvm.Cond.methodLink "java/lang/String" (209 : Nat) ({ cls := "java/lang/String", name := "<init>", desc := "([BB)V" } : Jvm.MethodName)).before a0 Z = true := hw _ (List.mem_of_getElem? (i := 196) rfl)
theorem wd_197 {Z : State} {a0 : Array Value} (hw : ∀ d ∈ tables_1, d.before a0 Z = true) : (Jvm.Cond.instanceMethod ({ cls := "java/lang/String", name := "<init>", desc := "([BB)V" } : Jvm.MethodName)).before a0 Z = true := hw _ (List.mem_of_getElem? (i := 197) rfl)
theorem wd_198 {Z : State} {a0 : Array Value} (hw : ∀ d ∈ tables_1, d.before a0 Z = true) : (Jvm.Cond.code ({ cls := "java/lang/String", name := "<init>", desc := "([BB)V" } : Jvm.MethodName) jdk_42_method_151_code (3 : Nat) (Option.none : Option Jvm.ClassFile.FieldType)).before a0 Z = true := hw _ (List.mem_of_getElem? (i := 198) rfl)
abbrev EL : List (String × Nat) := consts_1
theorem ewEL {Z : State} {a0 : Array Value} (hw : ∀ d ∈ tables_1, d.before a0 Z = true) : EW Z a0 EL := EW.cons (wd_131 hw) (by decide) (EW.cons (wd_43 hw) (by decide) (EW.nil))
theorem wSA {Z : State} {a0 : Array Value} (hw : ∀ d ∈ tables_1, d.before a0 Z = true) : ∀ d ∈ Bundle.stringAtoms, d.before a0 Z = true := fun d hd => hw d ((by decide +kernel : ∀ d ∈ Bundle.stringAtoms, d ∈ tables_1) d hd)
theorem pd_0 : parseMethodDescriptor "(C)Z" = some ⟨[.char], some .boolean⟩ := by decide +kernel
theorem pd_1 : parseMethodDescriptor "(C)[B" = some ⟨[.char], some (.array .byte)⟩ := by decide +kernel
theorem pd_2 : parseMethodDescriptor "([BB)V" = some ⟨[(.array .byte), .byte], none⟩ := by decide +kernel
theorem pd_3 : parseMethodDescriptor "()B" = some ⟨[], some .byte⟩ := by decide +kernel
theorem pd_4 : parseMethodDescriptor "(I)V" = some ⟨[.int], none⟩ := by decide +kernel
theorem pd_5 : parseMethodDescriptor "(Ljava/lang/String;)V" = some ⟨[(.object "java/lang/String")], none⟩ := by decide +kernel
theorem pd_6 : parseMethodDescriptor "([BIB)V" = some ⟨[(.array .byte), .int, .byte], none⟩ := by decide +kernel
theorem pd_7 : parseMethodDescriptor "()I" = some ⟨[], some .int⟩ := by decide +kernel
theorem pd_8 : parseMethodDescriptor "(ILjava/lang/String;)V" = some ⟨[.int, (.object "java/lang/String")], none⟩ := by decide +kernel
theorem pd_9 : parseMethodDescriptor "(Ljava/lang/String;)Ljava/lang/AbstractStringBuilder;" = some ⟨[(.object "java/lang/String")], some (.object "java/lang/AbstractStringBuilder")⟩ := by decide +kernel
theorem pd_10 : parseMethodDescriptor "(II)V" = some ⟨[.int, .int], none⟩ := by decide +kernel
theorem pd_11 : parseMethodDescriptor "(II)I" = some ⟨[.int, .int], some .int⟩ := by decide +kernel
theorem pd_12 : parseMethodDescriptor "([BII)[B" = some ⟨[(.array .byte), .int, .int], some (.array .byte)⟩ := by decide +kernel
theorem pd_13 : parseMethodDescriptor "()[B" = some ⟨[], some (.array .byte)⟩ := by decide +kernel
theorem pd_14 : parseMethodDescriptor "()Z" = some ⟨[], some .boolean⟩ := by decide +kernel
theorem pd_15 : parseMethodDescriptor "(Ljava/lang/AbstractStringBuilder;Ljava/lang/Void;)V" = some ⟨[(.object "java/lang/AbstractStringBuilder"), (.object "java/lang/Void")], none⟩ := by decide +kernel
theorem pd_16 : parseMethodDescriptor "(Ljava/lang/StringBuilder;)V" = some ⟨[(.object "java/lang/StringBuilder")], none⟩ := by decide +kernel
theorem pd_17 : parseMethodDescriptor "([B[B)Z" = some ⟨[(.array .byte), (.array .byte)], some .boolean⟩ := by decide +kernel
theorem pd_18 : parseMethodDescriptor "()V" = some ⟨[], none⟩ := by decide +kernel
theorem pd_19 : parseMethodDescriptor "(Ljava/lang/String;)Ljava/lang/StringBuilder;" = some ⟨[(.object "java/lang/String")], some (.object "java/lang/StringBuilder")⟩ := by decide +kernel
theorem pd_20 : parseMethodDescriptor "()Ljava/lang/String;" = some ⟨[], some (.object "java/lang/String")⟩ := by decide +kernel
theorem pd_21 : parseMethodDescriptor "(Ljava/lang/Object;)Z" = some ⟨[(.object "java/lang/Object")], some .boolean⟩ := by decide +kernel
theorem pd_22 : parseMethodDescriptor "(C)Ljava/lang/String;" = some ⟨[.char], some (.object "java/lang/String")⟩ := by decide +kernel
theorem pd_23 : parseMethodDescriptor "([C)V" = some ⟨[(.array .char)], none⟩ := by decide +kernel
theorem pd_24 : parseMethodDescriptor "(IIICCCC)C" = some ⟨[.int, .int, .int, .char, .char, .char, .char], some .char⟩ := by decide +kernel
theorem pd_25 : parseMethodDescriptor "([CI)Ljava/lang/String;" = some ⟨[(.array .char), .int], some (.object "java/lang/String")⟩ := by decide +kernel
theorem pd_26 : parseMethodDescriptor "(Ljava/lang/String;Ljava/lang/String;Ljava/util/Map;)V" = some ⟨[(.object "java/lang/String"), (.object "java/lang/String"), (.object "java/util/Map")], none⟩ := by decide +kernel
theorem pd_27 : parseMethodDescriptor "(Ljava/lang/String;)Z" = some ⟨[(.object "java/lang/String")], some .boolean⟩ := by decide +kernel
theorem pd_28 : parseMethodDescriptor "([C[CII)Z" = some ⟨[(.array .char), (.array .char), .int, .int], some .boolean⟩ := by decide +kernel
theorem own_and255 (x : Int32) : nar .char ((x &&& (255 : Int32)).toUInt32.toUInt16.toUInt32.toInt32) = x &&& 255 := by
  show ((x &&& (255 : Int32)).toUInt32.toUInt16.toUInt32.toInt32).toUInt32.toUInt16.toUInt32.toInt32 = _
  rw [i2c_mask, i2c_mask]
theorem own_255 (x : Int32) : ¬ (x &&& 255) < 0 ∧ ¬ (255 : Int32) < (x &&& 255) := by
  have h := c_and x 255 (by decide)
  have e : (255 : Int32).toInt = 255 := rfl
  have e0 : (0 : Int32).toInt = 0 := rfl
  rw [Int32.lt_iff_toInt_lt, Int32.lt_iff_toInt_lt]
  omega
/-- new String(char[]) of chars below 256, paid by the pasted law; what it makes -/
def QS (Z : State) (x : Addr) (cs : List Int32) (h : Heap) (n0 : Nat) (v : Option Value) (h' : Heap) : Prop := v = none ∧ Keep h h' [x] ∧ Fld Z h' x "java/lang/String" "coder" "B" (.int 0) ∧ ∃ (t : Addr) (kb : ClassId), n0 ≤ t ∧ h.size ≤ t ∧ ¬ t = x ∧ Fld Z h' x "java/lang/String" "value" "[B" (.ref t) ∧ Arv Z h' t kb .byte (Int32.ofNat cs.length) ((cs.map fun c => c.toInt8.toInt32).map Value.int) (.int 0)
theorem pay_new {l : Launch} {Z : State} {a0 : Array Value} (hw : ∀ d ∈ tables_1, d.before a0 Z = true) {n0 : Nat} {R : Room} {W : Nat} {kI : Nat} (wi : (Jvm.Cond.instantiable "java/lang/String" kI).before a0 Z = true) {x b : Addr} {kC : ClassId} (cs : List Int32) {d v0 c0 : Value} {z N : Int32} {h : Heap} (hx0 : n0 ≤ x) (hh0 : n0 ≤ h.size) (E : Exa Z h x "java/lang/String") (V : Fld Z h x "java/lang/String" "value" "[B" v0) (C : Fld Z h x "java/lang/String" "coder" "B" c0) (K : Arv Z h b kC .char N (cs.map Value.int) d) (S : Sta Z h "java/lang/String" "COMPACT_STRINGS" "Z" (.int z)) (hz : ¬ z = 0)
    (hN : N = Int32.ofNat cs.length) (l0 : 0 < cs.length) (l2 : cs.length ≤ 4000) (hp : ∀ c ∈ cs, ¬ c < 0 ∧ ¬ (255 : Int32) < c) (hfr : 4 ≤ R.frames) (hlo : W + 65 ≤ R.locals) :
    Pays l Z n0 R (⟨"java/lang/String", "<init>", "([C)V"⟩ : MethodName) 3 W #[.ref x, .ref b] h 1 cs.length (QS Z x cs h n0) := fun p e below s args hZ => by
  have hws : ∀ d ∈ StrChars.Road.words, d.before a0 Z = true := fun d hd => hw d ((by decide +kernel : ∀ d ∈ StrChars.Road.words, d ∈ tables_1) d hd)
  refine Back.mono (StrChars.Road.backV hZ hws wi hx0 hh0 E V C K S hz rfl hN l0 l2 hp rfl hfr hlo) (fun P a q => q) (fun P a v B q r => ?_)
  obtain ⟨L, ⟨q1, q2, q3, q4, q5, t, kb, q6, q7, q8, q9, q10⟩, r⟩ := r
  exact ⟨L, ⟨q2, q1, q3, q5, t, kb, q6, q7, q8, q9, hN ▸ q10⟩, r⟩
theorem d_sinit2_0 : decode jdk_42_method_151_code 0 = .ok (.aload_n 0, 1) := by decide +kernel
theorem d_sinit2_1 : decode jdk_42_method_151_code 1 = .ok (.invokespecial 1, 3) := by decide +kernel
theorem d_sinit2_4 : decode jdk_42_method_151_code 4 = .ok (.aload_n 0, 1) := by decide +kernel
theorem d_sinit2_5 : decode jdk_42_method_151_code 5 = .ok (.aload_n 1, 1) := by decide +kernel
theorem d_sinit2_6 : decode jdk_42_method_151_code 6 = .ok (.putfield 9, 3) := by decide +kernel
theorem d_sinit2_9 : decode jdk_42_method_151_code 9 = .ok (.aload_n 0, 1) := by decide +kernel
theorem d_sinit2_10 : decode jdk_42_method_151_code 10 = .ok (.iload_n 2, 1) := by decide +kernel
theorem d_sinit2_11 : decode jdk_42_method_151_code 11 = .ok (.putfield 15, 3) := by decide +kernel
theorem d_sinit2_14 : decode jdk_42_method_151_code 14 = .ok (.return_, 1) := by decide +kernel
abbrev R_sinit2 : Room := ({ frames := 1, cells := 0, slots := 0, locals := 12 } : Room)
abbrev GM_sinit2 (l : Launch) (Z : State) (n0 : Nat) (Q : Option Value → Heap → Prop) (h : Heap) (cells slots pc : Nat) (Ls : Array Slot) (st : List Value) : Prop := Go l Z n0 R_sinit2 "java/lang/String" "<init>" jdk_42_method_151_code 3 none IN (FN n0 R_sinit2 Q) h cells slots pc Ls st
abbrev GW_sinit2 (l : Launch) (Z : State) (EL : List (String × Nat)) (s₀ : State) (n0 : Nat) (Q : Option Value → Heap → Prop) (lo : Nat) (Sf : List Addr) (h : Heap) (cells slots pc : Nat) (Ls : Array Slot) (st : List Value) : Prop := Go l Z n0 R_sinit2 "java/lang/String" "<init>" jdk_42_method_151_code 3 none (IW Z EL s₀ lo Sf) (FW Z EL s₀ n0 R_sinit2 Q) h cells slots pc Ls st
theorem pf_sinit2 : plainFor (⟨"java/lang/String", "<init>", "([BB)V"⟩ : MethodName) = true := plainFor_of_name (by first | (simp [plainName, overriddenIn]; done) | decide +kernel)
theorem ct_sinit2 (l : Launch) (Z : State) (a0 : Array Value) (hw : ∀ d ∈ tables_1, d.before a0 Z = true) (n0 : Nat) (x b : Addr) (v0 : Value) (hv0 : v0.isRef = true) (c0 : Int32) (h0 : Heap) (g_x : n0 ≤ x) (E_x : Exa Z h0 x "java/lang/String") (F_x_value : Fld Z h0 x "java/lang/String" "value" "[B" v0) (F_x_coder : Fld Z h0 x "java/lang/String" "coder" "B" (.int c0)) :
    Ct l Z n0 "java/lang/String" "<init>" "([BB)V" [] jdk_42_method_151_code 3 none R_sinit2 #[.ref x, .ref b, .int (0 : Int32)] h0 (fun v h => v = none ∧ Keep h0 h [x] ∧ Fld Z h x "java/lang/String" "value" "[B" (.ref b) ∧ Fld Z h x "java/lang/String" "coder" "B" (.int (0 : Int32))) := by
  refine Ct.of_go pf_sinit2 (Ls := #[.val (.ref x), .val (.ref b), .val (.int (0 : Int32))]) (fun m => by first | rfl | (simp [entryFrame, mkF, argsToLocals, Value.category]; done)) ?_
  show GM_sinit2 l Z n0 (fun v h => v = none ∧ Keep h0 h [x] ∧ Fld Z h x "java/lang/String" "value" "[B" (.ref b) ∧ Fld Z h x "java/lang/String" "coder" "B" (.int (0 : Int32))) h0 0 0 0 #[.val (.ref x), .val (.ref b), .val (.int (0 : Int32))] []
  have KK : Keep h0 h0 [x] := Keep.refl _ _
  refine Go.aloadN d_sinit2_0 rfl rfl ?_
  refine Go.initO (wd_24 hw) (wd_25 hw) (wd_26 hw) d_sinit2_1 rfl (by decide) (Nat.le_of_ble_eq_true rfl) ?_
  refine Go.aloadN d_sinit2_4 rfl rfl ?_
  refine Go.aloadN d_sinit2_5 rfl rfl ?_
  refine Go.putF (I' := IN) (hI := nI) (wd_41 hw) Via.refl F_x_value E_x (Or.inr ⟨(wd_42 hw), rfl, rfl⟩) (wd_15 hw) (ty := (.array .byte)) (by decide) rfl rfl g_x d_sinit2_6 fun hp1 W1 => ?_
  have K1 := Keep.of_wr W1
  replace F_x_value := F_x_value.same W1
  replace F_x_coder := F_x_coder.other W1 (Or.inr (slot_ne (Or.inr (wd_40 hw)) (Or.inr (wd_42 hw)) (by decide) (t := .byte) (t' := (.array .byte)) (by decide) (by decide)))
  replace E_x := E_x.keep K1
  replace KK : Keep h0 hp1 [x] := KK.trans K1 (allS (Or.inl (by simp)) (all0))
  refine Go.aloadN d_sinit2_9 rfl rfl ?_
  refine Go.iloadN d_sinit2_10 rfl ?_
  refine Go.putFN (I' := IN) (hI := nI) (v' := (.int (0 : Int32))) (wd_39 hw) Via.refl F_x_coder E_x (Or.inr ⟨(wd_40 hw), rfl, rfl⟩) (wd_15 hw) (ty := .byte) (by decide) rfl rfl g_x d_sinit2_11 fun hp2 W2 => ?_
  have K2 := Keep.of_wr W2
  replace F_x_value := F_x_value.other W2 (Or.inr (slot_ne (Or.inr (wd_42 hw)) (Or.inr (wd_40 hw)) (by decide) (t := (.array .byte)) (t' := .byte) (by decide) (by decide)))
  replace F_x_coder := F_x_coder.same W2
  replace E_x := E_x.keep K2
  replace KK : Keep h0 hp2 [x] := KK.trans K2 (allS (Or.inl (by simp)) (all0))
  -- at pc 14: pc 14: return .return_ stack []
  exact Go.return_ d_sinit2_14 rfl (by decide) (by decide) ⟨rfl, KK, F_x_value, F_x_coder⟩
theorem d_can_0 : decode jdk_43_method_3_code 0 = .ok (.iload_n 0, 1) := by decide +kernel
theorem d_can_1 : decode jdk_43_method_3_code 1 = .ok (.sipush 255, 3) := by decide +kernel
theorem d_can_4 : decode jdk_43_method_3_code 4 = .ok (.if_icmp .gt 7, 3) := by decide +kernel
theorem d_can_7 : decode jdk_43_method_3_code 7 = .ok (.iconst 1, 1) := by decide +kernel
theorem d_can_8 : decode jdk_43_method_3_code 8 = .ok (.goto 4, 3) := by decide +kernel
theorem d_can_12 : decode jdk_43_method_3_code 12 = .ok (.ireturn, 1) := by decide +kernel
abbrev R_can : Room := ({ frames := 0, cells := 0, slots := 0, locals := 0 } : Room)
abbrev GM_can (l : Launch) (Z : State) (n0 : Nat) (Q : Option Value → Heap → Prop) (h : Heap) (cells slots pc : Nat) (Ls : Array Slot) (st : List Value) : Prop := Go l Z n0 R_can "java/lang/StringLatin1" "canEncode" jdk_43_method_3_code 1 (some .boolean) IN (FN n0 R_can Q) h cells slots pc Ls st
abbrev GW_can (l : Launch) (Z : State) (EL : List (String × Nat)) (s₀ : State) (n0 : Nat) (Q : Option Value → Heap → Prop) (lo : Nat) (Sf : List Addr) (h : Heap) (cells slots pc : Nat) (Ls : Array Slot) (st : List Value) : Prop := Go l Z n0 R_can "java/lang/StringLatin1" "canEncode" jdk_43_method_3_code 1 (some .boolean) (IW Z EL s₀ lo Sf) (FW Z EL s₀ n0 R_can Q) h cells slots pc Ls st
theorem pf_can : plainFor (⟨"java/lang/StringLatin1", "canEncode", "(C)Z"⟩ : MethodName) = true := plainFor_of_name (by first | (simp [plainName, overriddenIn]; done) | decide +kernel)
theorem ct_can (l : Launch) (Z : State) (a0 : Array Value) (hw : ∀ d ∈ tables_1, d.before a0 Z = true) (n0 : Nat) (p : Int32) (h0 : Heap) (hp : ¬ (255 : Int32) < p) : Ct l Z n0 "java/lang/StringLatin1" "canEncode" "(C)Z" [] jdk_43_method_3_code 1 (some .boolean) R_can #[.int p] h0 (fun v h => v = some (.int (1 : Int32)) ∧ h0 = h) := by
  refine Ct.of_go pf_can (Ls := #[.val (.int p)]) (fun m => by first | rfl | (simp [entryFrame, mkF, argsToLocals, Value.category]; done)) ?_
  show GM_can l Z n0 (fun v h => v = some (.int (1 : Int32)) ∧ h0 = h) h0 0 0 0 #[.val (.int p)] []
  refine Go.iloadN d_can_0 rfl ?_
  refine Go.sipush 255 d_can_1 rfl ?_
  -- at pc 4: pc 4: if_icmp .if_icmp .gt 7 stack [(.int (255 : Int32)), (.int p)]
  -- not: (255 : Int32) < p
  refine Go.icF d_can_4 (flt (hp)).2.2.1 ?_
  refine Go.iconst 1 d_can_7 rfl ?_
  refine Go.goto 12 d_can_8 (by decide) (by decide) ?_
  -- at pc 12: pc 12: ireturn .ireturn stack [(.int (1 : Int32))]
  exact Go.nreturn .boolean d_can_12 rfl (by simp) (by decide) (by decide) ⟨rfl, rfl⟩
theorem own_b8 (x : Int32) : nar .byte x.toInt8.toInt32 = x.toInt8.toInt32 := by
  show (x.toInt8.toInt32).toInt8.toInt32 = x.toInt8.toInt32
  have h := c_i2b x
  have h2 := c_i2b x.toInt8.toInt32
  apply Int32.toInt_inj.mp
  omega
theorem d_tob_0 : decode jdk_43_method_46_code 0 = .ok (.iconst 1, 1) := by decide +kernel
theorem d_tob_1 : decode jdk_43_method_46_code 1 = .ok (.newarray .byte, 2) := by decide +kernel
theorem d_tob_3 : decode jdk_43_method_46_code 3 = .ok (.dup, 1) := by decide +kernel
theorem d_tob_4 : decode jdk_43_method_46_code 4 = .ok (.iconst 0, 1) := by decide +kernel
theorem d_tob_5 : decode jdk_43_method_46_code 5 = .ok (.iload_n 0, 1) := by decide +kernel
theorem d_tob_6 : decode jdk_43_method_46_code 6 = .ok (.i2b, 1) := by decide +kernel
theorem d_tob_7 : decode jdk_43_method_46_code 7 = .ok (.bastore, 1) := by decide +kernel
theorem d_tob_8 : decode jdk_43_method_46_code 8 = .ok (.areturn, 1) := by decide +kernel
abbrev R_tob : Room := ({ frames := 0, cells := 1, slots := 1, locals := 0 } : Room)
abbrev GM_tob (l : Launch) (Z : State) (n0 : Nat) (Q : Option Value → Heap → Prop) (h : Heap) (cells slots pc : Nat) (Ls : Array Slot) (st : List Value) : Prop := Go l Z n0 R_tob "java/lang/StringLatin1" "toBytes" jdk_43_method_46_code 1 (some (.array .byte)) IN (FN n0 R_tob Q) h cells slots pc Ls st
abbrev GW_tob (l : Launch) (Z : State) (EL : List (String × Nat)) (s₀ : State) (n0 : Nat) (Q : Option Value → Heap → Prop) (lo : Nat) (Sf : List Addr) (h : Heap) (cells slots pc : Nat) (Ls : Array Slot) (st : List Value) : Prop := Go l Z n0 R_tob "java/lang/StringLatin1" "toBytes" jdk_43_method_46_code 1 (some (.array .byte)) (IW Z EL s₀ lo Sf) (FW Z EL s₀ n0 R_tob Q) h cells slots pc Ls st
theorem pf_tob : plainFor (⟨"java/lang/StringLatin1", "toBytes", "(C)[B"⟩ : MethodName) = true := plainFor_of_name (by first | (simp [plainName, overriddenIn]; done) | decide +kernel)
theorem ct_tob (l : Launch) (Z : State) (a0 : Array Value) (hw : ∀ d ∈ tables_1, d.before a0 Z = true) (n0 : Nat) (p : Int32) (h0 : Heap) (hz : n0 ≤ h0.size) : Ct l Z n0 "java/lang/StringLatin1" "toBytes" "(C)[B" [] jdk_43_method_46_code 1 (some (.array .byte)) R_tob #[.int p] h0 (fun v h => ∃ (b : Addr) (k : ClassId), v = some (.ref b) ∧ n0 ≤ b ∧ h0.size ≤ b ∧ Keep h0 h [] ∧ Arv Z h b k .byte 1 [.int p.toInt8.toInt32] (.int (0 : Int32))) := by
  refine Ct.of_go pf_tob (Ls := #[.val (.int p)]) (fun m => by first | rfl | (simp [entryFrame, mkF, argsToLocals, Value.category]; done)) ?_
  show GM_tob l Z n0 (fun v h => ∃ (b : Addr) (k : ClassId), v = some (.ref b) ∧ n0 ≤ b ∧ h0.size ≤ b ∧ Keep h0 h [] ∧ Arv Z h b k .byte 1 [.int p.toInt8.toInt32] (.int (0 : Int32))) h0 0 0 0 #[.val (.int p)] []
  have KK : Keep h0 h0 [] := Keep.refl _ _
  refine Go.iconst 1 d_tob_0 rfl ?_
  -- at pc 1: pc 1: newarray .newarray .byte stack [(.int (1 : Int32))]
  refine Go.newP (I' := IN) (hI := nE) .byte (wd_32 hw) rfl d_tob_1 (by decide) 1 (by decide) (by decide) (by decide) (by decide) fun hp3 b k_b e_b X3 V_b => ?_
  have K3 : Keep h0 hp3 [] := (Keep.refl _ _).ext X3
  have g_b : n0 ≤ b := e_b ▸ hz
  have s_b : h0.size ≤ b := e_b ▸ KK.1
  replace V_b : Arv Z hp3 b k_b .byte (1 : Int32) [(.int (0 : Int32))] (.int (0 : Int32)) := V_b.pad (pad_rep [] (.int (0 : Int32)) 1)
  replace hz : n0 ≤ hp3.size := Nat.le_trans hz K3.1
  replace KK : Keep h0 hp3 [] := KK.trans K3 (all0)
  refine Go.dup d_tob_3 rfl ?_
  refine Go.iconst 0 d_tob_4 rfl ?_
  refine Go.iloadN d_tob_5 rfl ?_
  refine Go.i2b d_tob_6 ?_
  refine Go.bastore (I' := IN) (hI := nI) V_b ⟨by decide, by decide⟩ g_b 0 rfl (Nat.le_of_ble_eq_true rfl) d_tob_7 fun hp4 K4 V_b_n => ?_
  replace V_b : Arv Z hp4 b k_b .byte (1 : Int32) [(.int (nar .byte (p.toInt8.toInt32)))] (.int (0 : Int32)) := V_b_n
  replace hz : n0 ≤ hp4.size := Nat.le_trans hz K4.1
  replace KK : Keep h0 hp4 [] := KK.trans K4 (allS (Or.inr s_b) (all0))
  -- at pc 8: pc 8: areturn .areturn stack [(.ref b)]
  rw [own_b8] at V_b
  exact Go.areturn d_tob_8 rfl rfl rfl (by decide) (by decide) ⟨b, k_b, rfl, g_b, s_b, KK, V_b⟩
theorem d_vofc_0 : decode jdk_42_method_139_code 0 = .ok (.getstatic 38, 3) := by decide +kernel
theorem d_vofc_3 : decode jdk_42_method_139_code 3 = .ok (.ifCond .eq 23, 3) := by decide +kernel
theorem d_vofc_6 : decode jdk_42_method_139_code 6 = .ok (.iload_n 0, 1) := by decide +kernel
theorem d_vofc_7 : decode jdk_42_method_139_code 7 = .ok (.invokestatic 1015, 3) := by decide +kernel
theorem d_vofc_10 : decode jdk_42_method_139_code 10 = .ok (.ifCond .eq 16, 3) := by decide +kernel
theorem d_vofc_13 : decode jdk_42_method_139_code 13 = .ok (.new 10, 3) := by decide +kernel
theorem d_vofc_16 : decode jdk_42_method_139_code 16 = .ok (.dup, 1) := by decide +kernel
theorem d_vofc_17 : decode jdk_42_method_139_code 17 = .ok (.iload_n 0, 1) := by decide +kernel
theorem d_vofc_18 : decode jdk_42_method_139_code 18 = .ok (.invokestatic 1018, 3) := by decide +kernel
theorem d_vofc_21 : decode jdk_42_method_139_code 21 = .ok (.iconst 0, 1) := by decide +kernel
theorem d_vofc_22 : decode jdk_42_method_139_code 22 = .ok (.invokespecial 209, 3) := by decide +kernel
theorem d_vofc_25 : decode jdk_42_method_139_code 25 = .ok (.areturn, 1) := by decide +kernel
abbrev R_vofc : Room := ({ frames := 2, cells := 2, slots := 5, locals := 29 } : Room)
abbrev GM_vofc (l : Launch) (Z : State) (n0 : Nat) (Q : Option Value → Heap → Prop) (h : Heap) (cells slots pc : Nat) (Ls : Array Slot) (st : List Value) : Prop := Go l Z n0 R_vofc "java/lang/String" "valueOf" jdk_42_method_139_code 1 (some (.object "java/lang/String")) IN (FN n0 R_vofc Q) h cells slots pc Ls st
abbrev GW_vofc (l : Launch) (Z : State) (EL : List (String × Nat)) (s₀ : State) (n0 : Nat) (Q : Option Value → Heap → Prop) (lo : Nat) (Sf : List Addr) (h : Heap) (cells slots pc : Nat) (Ls : Array Slot) (st : List Value) : Prop := Go l Z n0 R_vofc "java/lang/String" "valueOf" jdk_42_method_139_code 1 (some (.object "java/lang/String")) (IW Z EL s₀ lo Sf) (FW Z EL s₀ n0 R_vofc Q) h cells slots pc Ls st
theorem pf_vofc : plainFor (⟨"java/lang/String", "valueOf", "(C)Ljava/lang/String;"⟩ : MethodName) = true := plainFor_of_name (by first | (simp [plainName, overriddenIn]; done) | decide +kernel)
/-- a String that is there, its chars below 256 -/
def Str (Z : State) (h : Heap) (x t : Addr) (kb : ClassId) (cs : List Int32) : Prop := Exa Z h x "java/lang/String" ∧ Fld Z h x "java/lang/String" "coder" "B" (.int (0 : Int32)) ∧ Fld Z h x "java/lang/String" "value" "[B" (.ref t) ∧ Arv Z h t kb .byte (Int32.ofNat cs.length) ((cs.map fun c => c.toInt8.toInt32).map Value.int) (.int (0 : Int32))
theorem Str.keep {Z : State} {h h' : Heap} {x t : Addr} {kb : ClassId} {cs : List Int32} {ws : List Addr} (F : Str Z h x t kb cs) (K : Keep h h' ws) (q : x ∉ ws) (r : t ∉ ws) : Str Z h' x t kb cs := ⟨F.1.keep K, F.2.1.keep K q, F.2.2.1.keep K q, F.2.2.2.keep K r⟩
theorem ct_vofc (l : Launch) (Z : State) (a0 : Array Value) (hw : ∀ d ∈ tables_1, d.before a0 Z = true) (n0 : Nat) (p : Int32) (h0 : Heap) (hz : n0 ≤ h0.size) (hp : ¬ (255 : Int32) < p) (O : Old Z n0 h0) (z : Int32) (S_cs : Sta Z Z.heap "java/lang/String" "COMPACT_STRINGS" "Z" (.int z)) (hcs : ¬ z = 0) :
    Ct l Z n0 "java/lang/String" "valueOf" "(C)Ljava/lang/String;" [] jdk_42_method_139_code 1 (some (.object "java/lang/String")) R_vofc #[.int p] h0 (fun v h => ∃ (x t : Addr) (kb : ClassId), v = some (.ref x) ∧ Keep h0 h [] ∧ n0 ≤ x ∧ h0.size ≤ x ∧ n0 ≤ t ∧ h0.size ≤ t ∧ Str Z h x t kb [p]) := by
  refine Ct.of_go pf_vofc (Ls := #[.val (.int p)]) (fun m => by first | rfl | (simp [entryFrame, mkF, argsToLocals, Value.category]; done)) ?_
  show GM_vofc l Z n0 (fun v h => ∃ (x t : Addr) (kb : ClassId), v = some (.ref x) ∧ Keep h0 h [] ∧ n0 ≤ x ∧ h0.size ≤ x ∧ n0 ≤ t ∧ h0.size ≤ t ∧ Str Z h x t kb [p]) h0 0 0 0 #[.val (.int p)] []
  have KK : Keep h0 h0 [] := Keep.refl _ _
  refine Go.getS (wd_27 hw) Via.refl (S_cs.ext O.2) d_vofc_0 ?_
  -- at pc 3: pc 3: ifCond .ifCond .eq 23 stack [(.int z)]
  -- not: z = (0 : Int32)
  refine Go.ifF d_vofc_3 (feq (hcs)).1 ?_
  refine Go.iloadN d_vofc_6 rfl ?_
  -- at pc 7: pc 7: invokestatic .invokestatic 1015 stack [(.int p)]
  refine Go.callS (I' := IN) (hI := nQ) [(.int p)] [] (ct_can l Z a0 hw n0 p _ hp) (wd_190 hw) (wd_191 hw) (wd_185 hw) (wd_192 hw) (by decide) pd_0 rfl rfl rfl (Nat.le_of_ble_eq_true rfl) (Nat.le_of_ble_eq_true rfl) (Nat.le_of_ble_eq_true rfl) (Nat.le_of_ble_eq_true rfl) d_vofc_7 ?_
  rintro _ _ ⟨rfl, rfl⟩
  show GM_vofc l Z n0 (fun v h => ∃ (x t : Addr) (kb : ClassId), v = some (.ref x) ∧ Keep h0 h [] ∧ n0 ≤ x ∧ h0.size ≤ x ∧ n0 ≤ t ∧ h0.size ≤ t ∧ Str Z h x t kb [p]) h0 0 0 10 #[.val (.int p)] [(.int (1 : Int32))]
  -- at pc 10: pc 10: ifCond .ifCond .eq 16 stack [(.int (1 : Int32))]
  -- not: (1 : Int32) = (0 : Int32)
  refine Go.ifF d_vofc_10 (feq (by decide)).1 ?_
  -- at pc 13: pc 13: new .new 10 stack []
  refine Go.new (I' := IN) (hI := nE) (wd_182 hw) (wd_15 hw) (wd_16 hw) d_vofc_13 (by decide) (by decide) fun hp6 x e_x X6 E_x D6 => ?_
  have K6 : Keep h0 hp6 [] := (Keep.refl _ _).ext X6
  have g_x : n0 ≤ x := e_x ▸ hz
  have s_x : h0.size ≤ x := e_x ▸ KK.1
  replace O := O.keep K6 (all0)
  have F_x_coder : Fld Z hp6 x "java/lang/String" "coder" "B" (.int (0 : Int32)) := D6 (Or.inr (wd_40 hw)) (ty := .byte) (by decide)
  have F_x_value : Fld Z hp6 x "java/lang/String" "value" "[B" .null := D6 (Or.inr (wd_42 hw)) (ty := (.array .byte)) (by decide)
  replace hz : n0 ≤ hp6.size := Nat.le_trans hz K6.1
  replace KK : Keep h0 hp6 [] := KK.trans K6 (all0)
  refine Go.dup d_vofc_16 rfl ?_
  refine Go.iloadN d_vofc_17 rfl ?_
  -- at pc 18: pc 18: invokestatic .invokestatic 1018 stack [(.int p), (.ref x), (.ref x)]
  have KK1 := KK
  have lt_x := E_x.lt
  refine Go.callS (I' := IN) (hI := nQ) [(.int p)] [(.ref x), (.ref x)] (ct_tob l Z a0 hw n0 p _ hz) (wd_193 hw) (wd_194 hw) (wd_185 hw) (wd_195 hw) (by decide) pd_1 rfl rfl rfl (Nat.le_of_ble_eq_true rfl) (Nat.le_of_ble_eq_true rfl) (Nat.le_of_ble_eq_true rfl) (Nat.le_of_ble_eq_true rfl) d_vofc_18 ?_
  rintro _ hp7 ⟨t, kb, rfl, g_t, sz_t, K7, V_t⟩
  replace O := O.keep K7 (all0)
  replace E_x := E_x.keep K7
  replace F_x_coder := F_x_coder.keep K7 nin0
  replace F_x_value := F_x_value.keep K7 nin0
  replace hz : n0 ≤ hp7.size := Nat.le_trans hz K7.1
  replace KK : Keep h0 hp7 [] := KK.trans K7 (all0)
  show GM_vofc l Z n0 (fun v h => ∃ (x t : Addr) (kb : ClassId), v = some (.ref x) ∧ Keep h0 h [] ∧ n0 ≤ x ∧ h0.size ≤ x ∧ n0 ≤ t ∧ h0.size ≤ t ∧ Str Z h x t kb [p]) hp7 2 5 21 #[.val (.int p)] [(.ref t), (.ref x), (.ref x)]
  have s_t : h0.size ≤ t := Nat.le_trans KK1.1 sz_t
  have ne_x_t : x ≠ t := (Nat.ne_of_lt (Nat.lt_of_lt_of_le lt_x sz_t))
  refine Go.iconst 0 d_vofc_21 rfl ?_
  -- at pc 22: pc 22: invokespecial .invokespecial 209 stack [(.int (0 : Int32)), (.ref t), (.ref x), (.ref x)]
  refine Go.callI (I' := IN) (hI := nQ) x [(.ref t), (.int (0 : Int32))] [(.ref x)] (ct_sinit2 l Z a0 hw n0 x t .null rfl 0 _ g_x E_x F_x_value F_x_coder) (wd_196 hw) (wd_197 hw) (wd_16 hw) (wd_198 hw) (by decide) pd_2 rfl rfl rfl (Nat.le_of_ble_eq_true rfl) (Nat.le_of_ble_eq_true rfl) (Nat.le_of_ble_eq_true rfl) (Nat.le_of_ble_eq_true rfl) d_vofc_22 ?_
  rintro _ hp8 ⟨rfl, K8, Fv, Fc⟩
  replace O := O.keep K8 (allS g_x (all0))
  replace E_x := E_x.keep K8
  replace V_t := V_t.keep K8 (ninS (Ne.symm ne_x_t) nin0)
  replace hz : n0 ≤ hp8.size := Nat.le_trans hz K8.1
  replace KK : Keep h0 hp8 [] := KK.trans K8 (allS (Or.inr s_x) (all0))
  show GM_vofc l Z n0 (fun v h => ∃ (x t : Addr) (kb : ClassId), v = some (.ref x) ∧ Keep h0 h [] ∧ n0 ≤ x ∧ h0.size ≤ x ∧ n0 ≤ t ∧ h0.size ≤ t ∧ Str Z h x t kb [p]) hp8 2 5 25 #[.val (.int p)] [(.ref x)]
  -- at pc 25: pc 25: areturn .areturn stack [(.ref x)]
  exact Go.areturn d_vofc_25 rfl rfl rfl (by decide) (by decide) ⟨x, t, kb, rfl, KK, g_x, s_x, g_t, s_t, E_x, Fc, Fv, V_t⟩
/-- a Latin-1 String: its bytes -/
def Byt (Z : State) (h : Heap) (x t : Addr) (kb : ClassId) (bs : List Int32) : Prop := Exa Z h x "java/lang/String" ∧ Fld Z h x "java/lang/String" "coder" "B" (.int (0 : Int32)) ∧ Fld Z h x "java/lang/String" "value" "[B" (.ref t) ∧ Arv Z h t kb .byte (Int32.ofNat bs.length) (bs.map Value.int) (.int (0 : Int32))
theorem Byt.keep {Z : State} {h h' : Heap} {x t : Addr} {kb : ClassId} {cs : List Int32} {ws : List Addr} (F : Byt Z h x t kb cs) (K : Keep h h' ws) (q : x ∉ ws) (r : t ∉ ws) : Byt Z h' x t kb cs := ⟨F.1.keep K, F.2.1.keep K q, F.2.2.1.keep K q, F.2.2.2.keep K r⟩
theorem Byt.lt {Z : State} {h : Heap} {x t : Addr} {kb : ClassId} {cs : List Int32} (F : Byt Z h x t kb cs) : x < h.size := F.1.lt
theorem Byt.lt2 {Z : State} {h : Heap} {x t : Addr} {kb : ClassId} {cs : List Int32} (F : Byt Z h x t kb cs) : t < h.size := F.2.2.2.lt
theorem Byt.of {Z : State} {h : Heap} {x t : Addr} {kb : ClassId} {cs : List Int32} (F : Str Z h x t kb cs) : Byt Z h x t kb (cs.map fun c => c.toInt8.toInt32) := by
  obtain ⟨h1, h2, h3, h4⟩ := F
  exact ⟨h1, h2, h3, by simpa using h4⟩
/-- a Latin-1 StringBuilder of 16 places: its bytes -/
def Sbd (Z : State) (h : Heap) (sb va : Addr) (kv : ClassId) (cs : List Int32) : Prop := Exa Z h sb "java/lang/StringBuilder" ∧ Fld Z h sb "java/lang/AbstractStringBuilder" "value" "[B" (.ref va) ∧ Fld Z h sb "java/lang/AbstractStringBuilder" "coder" "B" (.int (0 : Int32)) ∧ Fld Z h sb "java/lang/AbstractStringBuilder" "count" "I" (.int (Int32.ofNat cs.length)) ∧ Arv Z h va kv .byte (16 : Int32) (cs.map Value.int) (.int (0 : Int32))
theorem Sbd.keep {Z : State} {h h' : Heap} {x t : Addr} {kb : ClassId} {cs : List Int32} {ws : List Addr} (F : Sbd Z h x t kb cs) (K : Keep h h' ws) (q : x ∉ ws) (r : t ∉ ws) : Sbd Z h' x t kb cs := ⟨F.1.keep K, F.2.1.keep K q, F.2.2.1.keep K q, F.2.2.2.1.keep K q, F.2.2.2.2.keep K r⟩
theorem Sbd.lt {Z : State} {h : Heap} {x t : Addr} {kb : ClassId} {cs : List Int32} (F : Sbd Z h x t kb cs) : x < h.size := F.1.lt
theorem Sbd.lt2 {Z : State} {h : Heap} {x t : Addr} {kb : ClassId} {cs : List Int32} (F : Sbd Z h x t kb cs) : t < h.size := F.2.2.2.2.lt
theorem own_shr0 (x : Int32) : x >>> ((0 : Int32) &&& 31) = x := by
  apply Int32.toBitVec_inj.mp
  simp [Int32.toBitVec_shiftRight]
theorem own_shl0 (x : Int32) : x <<< ((0 : Int32) &&& 31) = x := by
  apply Int32.toBitVec_inj.mp
  simp [Int32.toBitVec_shiftLeft]
theorem own_ofInt {n : Nat} (h : n < 2 ^ 31) : (Int32.ofNat n).toInt = n := len_toInt h
theorem own_clamp {n : Nat} (h : n < 2 ^ 31) : (Int32.ofNat n).toNatClampNeg = n := by simp only [Int32.toNatClampNeg, own_ofInt h]; rfl
theorem own_nneg {n : Nat} (h : n < 2 ^ 31) : ¬ Int32.ofNat n < 0 := by rw [Int32.lt_iff_toInt_lt, own_ofInt h]; show ¬ (n : Int) < 0; omega
theorem own_range {L : List Value} {d : Value} {n : Nat} (h : n = L.length) : L = (List.range n).map fun i => L.getD (0 + i) d := by
  subst h
  apply List.ext_getElem
  · simp
  · intro i h1 h2; simp [List.getD_eq_getElem?_getD, h1]
theorem own_cap (k : Nat) (h : k ≤ 16) : ¬ (0 : Int32) < Int32.ofNat k - ((16 : Int32) >>> ((0 : Int32) &&& 31)) := by
  rw [own_shr0]
  have : k = 0 ∨ k = 1 ∨ k = 2 ∨ k = 3 ∨ k = 4 ∨ k = 5 ∨ k = 6 ∨ k = 7 ∨ k = 8 ∨ k = 9 ∨ k = 10 ∨ k = 11 ∨ k = 12 ∨ k = 13 ∨ k = 14 ∨ k = 15 ∨ k = 16 := by omega
  rcases this with rfl | rfl | rfl | rfl | rfl | rfl | rfl | rfl | rfl | rfl | rfl | rfl | rfl | rfl | rfl | rfl | rfl <;> decide
theorem own_le16 {k : Nat} (h : k ≤ 15) : ¬ (16 : Int32) - 0 < Int32.ofNat k := by
  rw [Int32.lt_iff_toInt_lt, own_ofInt (by omega)]; show ¬ (16 : Int) < k; omega
theorem own_ne16 {k : Nat} (h : k ≤ 15) : ¬ Int32.ofNat k = 16 := fun q => by
  have := congrArg Int32.toInt q; rw [own_ofInt (by omega)] at this; have e : (16 : Int32).toInt = 16 := rfl; omega
theorem own_cnt (cs bs : List Int32) : Int32.ofNat cs.length + Int32.ofNat bs.length = Int32.ofNat (cs ++ bs).length := by rw [List.length_append]; exact (Int32.ofNat_add _ _).symm
theorem own_put {Z : State} {h : Heap} {va : Addr} {kv : ClassId} {cs bs : List Int32} (hl : cs.length + bs.length ≤ 16) (V : Arv Z h va kv .byte (16 : Int32) ((cs.map Value.int ++ List.replicate (16 - cs.length) (Value.int 0)).take (Int32.ofNat cs.length).toNatClampNeg ++ bs.map Value.int ++ (cs.map Value.int ++ List.replicate (16 - cs.length) (Value.int 0)).drop ((Int32.ofNat cs.length).toNatClampNeg + (Int32.ofNat bs.length).toNatClampNeg)) (.int (0 : Int32))) : Arv Z h va kv .byte (16 : Int32) ((cs ++ bs).map Value.int) (.int (0 : Int32)) := by
  rw [own_clamp (by omega), own_clamp (by omega)] at V
  have e1 : (cs.map Value.int ++ List.replicate (16 - cs.length) (Value.int 0)).take cs.length = cs.map Value.int := by simp
  have e2 : (cs.map Value.int ++ List.replicate (16 - cs.length) (Value.int 0)).drop (cs.length + bs.length) = List.replicate (16 - cs.length - bs.length) (Value.int 0) := by
    rw [List.drop_append]; simp
  rw [e1, e2, ← List.map_append] at V
  exact V.pad fun i => (pad_rep _ _ _ i).symm
theorem d_scoder_0 : decode jdk_42_method_152_code 0 = .ok (.getstatic 38, 3) := by decide +kernel
theorem d_scoder_3 : decode jdk_42_method_152_code 3 = .ok (.ifCond .eq 10, 3) := by decide +kernel
theorem d_scoder_6 : decode jdk_42_method_152_code 6 = .ok (.aload_n 0, 1) := by decide +kernel
theorem d_scoder_7 : decode jdk_42_method_152_code 7 = .ok (.getfield 15, 3) := by decide +kernel
theorem d_scoder_10 : decode jdk_42_method_152_code 10 = .ok (.goto 4, 3) := by decide +kernel
theorem d_scoder_14 : decode jdk_42_method_152_code 14 = .ok (.ireturn, 1) := by decide +kernel
abbrev R_scoder : Room := ({ frames := 0, cells := 0, slots := 0, locals := 0 } : Room)
abbrev GM_scoder (l : Launch) (Z : State) (n0 : Nat) (Q : Option Value → Heap → Prop) (h : Heap) (cells slots pc : Nat) (Ls : Array Slot) (st : List Value) : Prop := Go l Z n0 R_scoder "java/lang/String" "coder" jdk_42_method_152_code 1 (some .byte) IN (FN n0 R_scoder Q) h cells slots pc Ls st
abbrev GW_scoder (l : Launch) (Z : State) (EL : List (String × Nat)) (s₀ : State) (n0 : Nat) (Q : Option Value → Heap → Prop) (lo : Nat) (Sf : List Addr) (h : Heap) (cells slots pc : Nat) (Ls : Array Slot) (st : List Value) : Prop := Go l Z n0 R_scoder "java/lang/String" "coder" jdk_42_method_152_code 1 (some .byte) (IW Z EL s₀ lo Sf) (FW Z EL s₀ n0 R_scoder Q) h cells slots pc Ls st
theorem pf_scoder : plainFor (⟨"java/lang/String", "coder", "()B"⟩ : MethodName) = true := plainFor_of_name (by first | (simp [plainName, overriddenIn]; done) | decide +kernel)
theorem ct_scoder (l : Launch) (Z : State) (a0 : Array Value) (hw : ∀ d ∈ tables_1, d.before a0 Z = true) (n0 : Nat) (x : Addr) (h0 : Heap) (O : Old Z n0 h0) (z : Int32) (S_cs : Sta Z Z.heap "java/lang/String" "COMPACT_STRINGS" "Z" (.int z)) (hcs : ¬ z = 0) (F : Fld Z h0 x "java/lang/String" "coder" "B" (.int (0 : Int32))) : Ct l Z n0 "java/lang/String" "coder" "()B" [] jdk_42_method_152_code 1 (some .byte) R_scoder #[.ref x] h0 (fun v h => v = some (.int (0 : Int32)) ∧ h0 = h) := by
  refine Ct.of_go pf_scoder (Ls := #[.val (.ref x)]) (fun m => by first | rfl | (simp [entryFrame, mkF, argsToLocals, Value.category]; done)) ?_
  show GM_scoder l Z n0 (fun v h => v = some (.int (0 : Int32)) ∧ h0 = h) h0 0 0 0 #[.val (.ref x)] []
  refine Go.getS (wd_27 hw) Via.refl (S_cs.ext O.2) d_scoder_0 ?_
  -- at pc 3: pc 3: ifCond .ifCond .eq 10 stack [(.int z)]
  -- not: z = (0 : Int32)
  refine Go.ifF d_scoder_3 (feq (hcs)).1 ?_
  refine Go.aloadN d_scoder_6 rfl rfl ?_
  refine Go.getF (wd_39 hw) Via.refl F d_scoder_7 ?_
  refine Go.goto 14 d_scoder_10 (by decide) (by decide) ?_
  -- at pc 14: pc 14: ireturn .ireturn stack [(.int (0 : Int32))]
  exact Go.nreturn .byte d_scoder_14 rfl (by simp) (by decide) (by decide) ⟨rfl, rfl⟩
theorem d_slen_0 : decode jdk_42_method_54_code 0 = .ok (.aload_n 0, 1) := by decide +kernel
theorem d_slen_1 : decode jdk_42_method_54_code 1 = .ok (.getfield 9, 3) := by decide +kernel
theorem d_slen_4 : decode jdk_42_method_54_code 4 = .ok (.arraylength, 1) := by decide +kernel
theorem d_slen_5 : decode jdk_42_method_54_code 5 = .ok (.aload_n 0, 1) := by decide +kernel
theorem d_slen_6 : decode jdk_42_method_54_code 6 = .ok (.invokevirtual 335, 3) := by decide +kernel
theorem d_slen_9 : decode jdk_42_method_54_code 9 = .ok (.ishr, 1) := by decide +kernel
theorem d_slen_10 : decode jdk_42_method_54_code 10 = .ok (.ireturn, 1) := by decide +kernel
abbrev R_slen : Room := ({ frames := 1, cells := 0, slots := 0, locals := 13 } : Room)
abbrev GM_slen (l : Launch) (Z : State) (n0 : Nat) (Q : Option Value → Heap → Prop) (h : Heap) (cells slots pc : Nat) (Ls : Array Slot) (st : List Value) : Prop := Go l Z n0 R_slen "java/lang/String" "length" jdk_42_method_54_code 1 (some .int) IN (FN n0 R_slen Q) h cells slots pc Ls st
abbrev GW_slen (l : Launch) (Z : State) (EL : List (String × Nat)) (s₀ : State) (n0 : Nat) (Q : Option Value → Heap → Prop) (lo : Nat) (Sf : List Addr) (h : Heap) (cells slots pc : Nat) (Ls : Array Slot) (st : List Value) : Prop := Go l Z n0 R_slen "java/lang/String" "length" jdk_42_method_54_code 1 (some .int) (IW Z EL s₀ lo Sf) (FW Z EL s₀ n0 R_slen Q) h cells slots pc Ls st
theorem pf_slen : plainFor (⟨"java/lang/String", "length", "()I"⟩ : MethodName) = true := plainFor_of_name (by first | (simp [plainName, overriddenIn]; done) | decide +kernel)
theorem ct_slen (l : Launch) (Z : State) (a0 : Array Value) (hw : ∀ d ∈ tables_1, d.before a0 Z = true) (n0 : Nat) (x t : Addr) (kt : ClassId) (bs : List Int32) (h0 : Heap) (O : Old Z n0 h0) (z : Int32) (S_cs : Sta Z Z.heap "java/lang/String" "COMPACT_STRINGS" "Z" (.int z)) (hcs : ¬ z = 0) (B : Byt Z h0 x t kt bs) : Ct l Z n0 "java/lang/String" "length" "()I" [] jdk_42_method_54_code 1 (some .int) R_slen #[.ref x] h0 (fun v h => v = some (.int (Int32.ofNat bs.length)) ∧ h0 = h) := by
  obtain ⟨E_x, F_x_coder, F_x_value, V_t⟩ := B
  refine Ct.of_go pf_slen (Ls := #[.val (.ref x)]) (fun m => by first | rfl | (simp [entryFrame, mkF, argsToLocals, Value.category]; done)) ?_
  show GM_slen l Z n0 (fun v h => v = some (.int (Int32.ofNat bs.length)) ∧ h0 = h) h0 0 0 0 #[.val (.ref x)] []
  refine Go.aloadN d_slen_0 rfl rfl ?_
  refine Go.getF (wd_41 hw) Via.refl F_x_value d_slen_1 ?_
  refine Go.arraylength V_t d_slen_4 ?_
  refine Go.aloadN d_slen_5 rfl rfl ?_
  -- at pc 6: pc 6: invokevirtual .invokevirtual 335 stack [(.ref x), (.int (Int32.ofNat bs.length))]
  refine Go.callV (I' := IN) (hI := nQ) x [] [(.int (Int32.ofNat bs.length))] (ct_scoder l Z a0 hw n0 x _ O z S_cs hcs F_x_coder) E_x (wd_99 hw) (wd_100 hw) (nf_sel (wd_102 hw)) (wd_102 hw) (wd_101 hw) (wd_16 hw) (wd_103 hw) (by decide) pd_3 rfl rfl rfl (Nat.le_of_ble_eq_true rfl) (Nat.le_of_ble_eq_true rfl) (Nat.le_of_ble_eq_true rfl) (Nat.le_of_ble_eq_true rfl) d_slen_6 ?_
  rintro _ _ ⟨rfl, rfl⟩
  show GM_slen l Z n0 (fun v h => v = some (.int (Int32.ofNat bs.length)) ∧ h0 = h) h0 0 0 9 #[.val (.ref x)] [(.int (0 : Int32)), (.int (Int32.ofNat bs.length))]
  refine Go.ishr d_slen_9 ?_
  rw [show ((Int32.ofNat bs.length) >>> ((0 : Int32) &&& 31)) = (Int32.ofNat bs.length) from (own_shr0 _)]
  exact Go.ireturn d_slen_10 rfl (by decide) (by decide) ⟨rfl, rfl⟩
theorem d_sbiA_0 : decode jdk_68_method_2_code 0 = .ok (.aload_n 0, 1) := by decide +kernel
theorem d_sbiA_1 : decode jdk_68_method_2_code 1 = .ok (.invokespecial 3, 3) := by decide +kernel
theorem d_sbiA_4 : decode jdk_68_method_2_code 4 = .ok (.getstatic 18, 3) := by decide +kernel
theorem d_sbiA_7 : decode jdk_68_method_2_code 7 = .ok (.ifCond .eq 18, 3) := by decide +kernel
theorem d_sbiA_10 : decode jdk_68_method_2_code 10 = .ok (.aload_n 0, 1) := by decide +kernel
theorem d_sbiA_11 : decode jdk_68_method_2_code 11 = .ok (.iload_n 1, 1) := by decide +kernel
theorem d_sbiA_12 : decode jdk_68_method_2_code 12 = .ok (.newarray .byte, 2) := by decide +kernel
theorem d_sbiA_14 : decode jdk_68_method_2_code 14 = .ok (.putfield 15, 3) := by decide +kernel
theorem d_sbiA_17 : decode jdk_68_method_2_code 17 = .ok (.aload_n 0, 1) := by decide +kernel
theorem d_sbiA_18 : decode jdk_68_method_2_code 18 = .ok (.iconst 0, 1) := by decide +kernel
theorem d_sbiA_19 : decode jdk_68_method_2_code 19 = .ok (.putfield 22, 3) := by decide +kernel
theorem d_sbiA_22 : decode jdk_68_method_2_code 22 = .ok (.goto 16, 3) := by decide +kernel
theorem d_sbiA_38 : decode jdk_68_method_2_code 38 = .ok (.return_, 1) := by decide +kernel
abbrev R_sbiA : Room := ({ frames := 1, cells := 1, slots := 16, locals := 12 } : Room)
abbrev GM_sbiA (l : Launch) (Z : State) (n0 : Nat) (Q : Option Value → Heap → Prop) (h : Heap) (cells slots pc : Nat) (Ls : Array Slot) (st : List Value) : Prop := Go l Z n0 R_sbiA "java/lang/AbstractStringBuilder" "<init>" jdk_68_method_2_code 2 none IN (FN n0 R_sbiA Q) h cells slots pc Ls st
abbrev GW_sbiA (l : Launch) (Z : State) (EL : List (String × Nat)) (s₀ : State) (n0 : Nat) (Q : Option Value → Heap → Prop) (lo : Nat) (Sf : List Addr) (h : Heap) (cells slots pc : Nat) (Ls : Array Slot) (st : List Value) : Prop := Go l Z n0 R_sbiA "java/lang/AbstractStringBuilder" "<init>" jdk_68_method_2_code 2 none (IW Z EL s₀ lo Sf) (FW Z EL s₀ n0 R_sbiA Q) h cells slots pc Ls st
theorem pf_sbiA : plainFor (⟨"java/lang/AbstractStringBuilder", "<init>", "(I)V"⟩ : MethodName) = true := plainFor_of_name (by first | (simp [plainName, overriddenIn]; done) | decide +kernel)
theorem ct_sbiA (l : Launch) (Z : State) (a0 : Array Value) (hw : ∀ d ∈ tables_1, d.before a0 Z = true) (n0 : Nat) (sb : Addr) (h0 : Heap) (hz : n0 ≤ h0.size) (O : Old Z n0 h0) (z : Int32) (S_cs : Sta Z Z.heap "java/lang/String" "COMPACT_STRINGS" "Z" (.int z)) (hcs : ¬ z = 0) (g_sb : n0 ≤ sb) (E_sb : Exa Z h0 sb "java/lang/StringBuilder") (F_sb_value : Fld Z h0 sb "java/lang/AbstractStringBuilder" "value" "[B" .null) (F_sb_coder : Fld Z h0 sb "java/lang/AbstractStringBuilder" "coder" "B" (.int (0 : Int32))) (F_sb_count : Fld Z h0 sb "java/lang/AbstractStringBuilder" "count" "I" (.int (0 : Int32))) :
    Ct l Z n0 "java/lang/AbstractStringBuilder" "<init>" "(I)V" [] jdk_68_method_2_code 2 none R_sbiA #[.ref sb, .int (16 : Int32)] h0 (fun v h => v = none ∧ Keep h0 h [sb] ∧ ∃ (va : Addr) (kv : ClassId), n0 ≤ va ∧ h0.size ≤ va ∧ Sbd Z h sb va kv []) := by
  refine Ct.of_go pf_sbiA (Ls := #[.val (.ref sb), .val (.int (16 : Int32))]) (fun m => by first | rfl | (simp [entryFrame, mkF, argsToLocals, Value.category]; done)) ?_
  show GM_sbiA l Z n0 (fun v h => v = none ∧ Keep h0 h [sb] ∧ ∃ (va : Addr) (kv : ClassId), n0 ≤ va ∧ h0.size ≤ va ∧ Sbd Z h sb va kv []) h0 0 0 0 #[.val (.ref sb), .val (.int (16 : Int32))] []
  have KK : Keep h0 h0 [sb] := Keep.refl _ _
  refine Go.aloadN d_sbiA_0 rfl rfl ?_
  refine Go.initO (wd_78 hw) (wd_25 hw) (wd_26 hw) d_sbiA_1 rfl (by decide) (Nat.le_of_ble_eq_true rfl) ?_
  refine Go.getS (wd_79 hw) Via.refl (S_cs.ext O.2) d_sbiA_4 ?_
  -- at pc 7: pc 7: ifCond .ifCond .eq 18 stack [(.int z)]
  -- not: z = (0 : Int32)
  refine Go.ifF d_sbiA_7 (feq (hcs)).1 ?_
  refine Go.aloadN d_sbiA_10 rfl rfl ?_
  refine Go.iloadN d_sbiA_11 rfl ?_
  -- at pc 12: pc 12: newarray .newarray .byte stack [(.int (16 : Int32)), (.ref sb)]
  refine Go.newP (I' := IN) (hI := nE) .byte (wd_32 hw) rfl d_sbiA_12 (by decide) 16 (by decide) (by decide) (by decide) (by decide) fun hp10 va k_va e_va X10 V_va => ?_
  have K10 : Keep h0 hp10 [] := (Keep.refl _ _).ext X10
  have g_va : n0 ≤ va := e_va ▸ hz
  have s_va : h0.size ≤ va := e_va ▸ KK.1
  have ne_sb_va : sb ≠ va := Nat.ne_of_lt (e_va ▸ E_sb.lt)
  replace O := O.keep K10 (all0)
  replace E_sb := E_sb.keep K10
  replace F_sb_value := F_sb_value.keep K10 nin0
  replace F_sb_coder := F_sb_coder.keep K10 nin0
  replace F_sb_count := F_sb_count.keep K10 nin0
  replace V_va : Arv Z hp10 va k_va .byte (16 : Int32) [(.int (0 : Int32)), (.int (0 : Int32)), (.int (0 : Int32)), (.int (0 : Int32)), (.int (0 : Int32)), (.int (0 : Int32)), (.int (0 : Int32)), (.int (0 : Int32)), (.int (0 : Int32)), (.int (0 : Int32)), (.int (0 : Int32)), (.int (0 : Int32)), (.int (0 : Int32)), (.int (0 : Int32)), (.int (0 : Int32)), (.int (0 : Int32))] (.int (0 : Int32)) := V_va.pad (pad_rep [] (.int (0 : Int32)) 16)
  replace hz : n0 ≤ hp10.size := Nat.le_trans hz K10.1
  replace KK : Keep h0 hp10 [sb] := KK.trans K10 (all0)
  refine Go.putF (I' := IN) (hI := nI) (wd_80 hw) Via.refl F_sb_value E_sb (Or.inl (wd_81 hw)) (wd_67 hw) (ty := (.array .byte)) (by decide) rfl rfl g_sb d_sbiA_14 fun hp11 W11 => ?_
  have K11 := Keep.of_wr W11
  replace F_sb_value := F_sb_value.same W11
  replace F_sb_coder := F_sb_coder.other W11 (Or.inr (slot_ne (Or.inl (wd_83 hw)) (Or.inl (wd_81 hw)) (by decide) (t := .byte) (t' := (.array .byte)) (by decide) (by decide)))
  replace F_sb_count := F_sb_count.other W11 (Or.inr (slot_ne (Or.inl (wd_105 hw)) (Or.inl (wd_81 hw)) (by decide) (t := .int) (t' := (.array .byte)) (by decide) (by decide)))
  replace O := O.keep K11 (allS g_sb (all0))
  replace E_sb := E_sb.keep K11
  replace V_va := V_va.keep K11 (ninS (Ne.symm ne_sb_va) nin0)
  replace hz : n0 ≤ hp11.size := Nat.le_trans hz K11.1
  replace KK : Keep h0 hp11 [sb] := KK.trans K11 (allS (Or.inl (by simp)) (all0))
  refine Go.aloadN d_sbiA_17 rfl rfl ?_
  refine Go.iconst 0 d_sbiA_18 rfl ?_
  refine Go.putFN (I' := IN) (hI := nI) (v' := (.int (0 : Int32))) (wd_82 hw) Via.refl F_sb_coder E_sb (Or.inl (wd_83 hw)) (wd_67 hw) (ty := .byte) (by decide) rfl rfl g_sb d_sbiA_19 fun hp12 W12 => ?_
  have K12 := Keep.of_wr W12
  replace F_sb_value := F_sb_value.other W12 (Or.inr (slot_ne (Or.inl (wd_81 hw)) (Or.inl (wd_83 hw)) (by decide) (t := (.array .byte)) (t' := .byte) (by decide) (by decide)))
  replace F_sb_coder := F_sb_coder.same W12
  replace F_sb_count := F_sb_count.other W12 (Or.inr (slot_ne (Or.inl (wd_105 hw)) (Or.inl (wd_83 hw)) (by decide) (t := .int) (t' := .byte) (by decide) (by decide)))
  replace O := O.keep K12 (allS g_sb (all0))
  replace E_sb := E_sb.keep K12
  replace V_va := V_va.keep K12 (ninS (Ne.symm ne_sb_va) nin0)
  replace hz : n0 ≤ hp12.size := Nat.le_trans hz K12.1
  replace KK : Keep h0 hp12 [sb] := KK.trans K12 (allS (Or.inl (by simp)) (all0))
  refine Go.goto 38 d_sbiA_22 (by decide) (by decide) ?_
  -- at pc 38: pc 38: return .return_ stack []
  exact Go.return_ d_sbiA_38 rfl (by decide) (by decide) ⟨rfl, KK, va, k_va, g_va, s_va, E_sb, F_sb_value, F_sb_coder, F_sb_count, V_va.pad (fun i => (pad_rep [] (.int (0 : Int32)) 16 i).symm)⟩
theorem d_sbi_0 : decode jdk_67_method_1_code 0 = .ok (.aload_n 0, 1) := by decide +kernel
theorem d_sbi_1 : decode jdk_67_method_1_code 1 = .ok (.bipush 16, 2) := by decide +kernel
theorem d_sbi_3 : decode jdk_67_method_1_code 3 = .ok (.invokespecial 1, 3) := by decide +kernel
theorem d_sbi_6 : decode jdk_67_method_1_code 6 = .ok (.return_, 1) := by decide +kernel
abbrev R_sbi : Room := ({ frames := 2, cells := 1, slots := 16, locals := 25 } : Room)
abbrev GM_sbi (l : Launch) (Z : State) (n0 : Nat) (Q : Option Value → Heap → Prop) (h : Heap) (cells slots pc : Nat) (Ls : Array Slot) (st : List Value) : Prop := Go l Z n0 R_sbi "java/lang/StringBuilder" "<init>" jdk_67_method_1_code 1 none IN (FN n0 R_sbi Q) h cells slots pc Ls st
abbrev GW_sbi (l : Launch) (Z : State) (EL : List (String × Nat)) (s₀ : State) (n0 : Nat) (Q : Option Value → Heap → Prop) (lo : Nat) (Sf : List Addr) (h : Heap) (cells slots pc : Nat) (Ls : Array Slot) (st : List Value) : Prop := Go l Z n0 R_sbi "java/lang/StringBuilder" "<init>" jdk_67_method_1_code 1 none (IW Z EL s₀ lo Sf) (FW Z EL s₀ n0 R_sbi Q) h cells slots pc Ls st
theorem pf_sbi : plainFor (⟨"java/lang/StringBuilder", "<init>", "()V"⟩ : MethodName) = true := plainFor_of_name (by first | (simp [plainName, overriddenIn]; done) | decide +kernel)
theorem ct_sbi (l : Launch) (Z : State) (a0 : Array Value) (hw : ∀ d ∈ tables_1, d.before a0 Z = true) (n0 : Nat) (sb : Addr) (h0 : Heap) (hz : n0 ≤ h0.size) (O : Old Z n0 h0) (z : Int32) (S_cs : Sta Z Z.heap "java/lang/String" "COMPACT_STRINGS" "Z" (.int z)) (hcs : ¬ z = 0) (g_sb : n0 ≤ sb) (E_sb : Exa Z h0 sb "java/lang/StringBuilder") (F_sb_value : Fld Z h0 sb "java/lang/AbstractStringBuilder" "value" "[B" .null) (F_sb_coder : Fld Z h0 sb "java/lang/AbstractStringBuilder" "coder" "B" (.int (0 : Int32))) (F_sb_count : Fld Z h0 sb "java/lang/AbstractStringBuilder" "count" "I" (.int (0 : Int32))) :
    Ct l Z n0 "java/lang/StringBuilder" "<init>" "()V" [] jdk_67_method_1_code 1 none R_sbi #[.ref sb] h0 (fun v h => v = none ∧ Keep h0 h [sb] ∧ ∃ (va : Addr) (kv : ClassId), n0 ≤ va ∧ h0.size ≤ va ∧ Sbd Z h sb va kv []) := by
  refine Ct.of_go pf_sbi (Ls := #[.val (.ref sb)]) (fun m => by first | rfl | (simp [entryFrame, mkF, argsToLocals, Value.category]; done)) ?_
  show GM_sbi l Z n0 (fun v h => v = none ∧ Keep h0 h [sb] ∧ ∃ (va : Addr) (kv : ClassId), n0 ≤ va ∧ h0.size ≤ va ∧ Sbd Z h sb va kv []) h0 0 0 0 #[.val (.ref sb)] []
  have KK : Keep h0 h0 [sb] := Keep.refl _ _
  refine Go.aloadN d_sbi_0 rfl rfl ?_
  refine Go.bipush 16 d_sbi_1 rfl ?_
  -- at pc 3: pc 3: invokespecial .invokespecial 1 stack [(.int (16 : Int32)), (.ref sb)]
  refine Go.callI (I' := IN) (hI := nQ) sb [(.int (16 : Int32))] [] (ct_sbiA l Z a0 hw n0 sb _ hz O z S_cs hcs g_sb E_sb F_sb_value F_sb_coder F_sb_count) (wd_72 hw) (wd_73 hw) (wd_76 hw) (wd_77 hw) (by decide) pd_4 rfl rfl rfl (Nat.le_of_ble_eq_true rfl) (Nat.le_of_ble_eq_true rfl) (Nat.le_of_ble_eq_true rfl) (Nat.le_of_ble_eq_true rfl) d_sbi_3 ?_
  rintro _ hp13 ⟨rfl, K13, va, kv, g_va, s_va, hS⟩
  replace E_sb := E_sb.keep K13
  replace KK : Keep h0 hp13 [sb] := KK.trans K13 (allS (Or.inl (by simp)) (all0))
  show GM_sbi l Z n0 (fun v h => v = none ∧ Keep h0 h [sb] ∧ ∃ (va : Addr) (kv : ClassId), n0 ≤ va ∧ h0.size ≤ va ∧ Sbd Z h sb va kv []) hp13 1 16 6 #[.val (.ref sb)] []
  -- at pc 6: pc 6: return .return_ stack []
  exact Go.return_ d_sbi_6 rfl (by decide) (by decide) ⟨rfl, KK, va, kv, g_va, s_va, hS⟩
theorem d_ecap_0 : decode jdk_68_method_9_code 0 = .ok (.aload_n 0, 1) := by decide +kernel
theorem d_ecap_1 : decode jdk_68_method_9_code 1 = .ok (.getfield 15, 3) := by decide +kernel
theorem d_ecap_4 : decode jdk_68_method_9_code 4 = .ok (.arraylength, 1) := by decide +kernel
theorem d_ecap_5 : decode jdk_68_method_9_code 5 = .ok (.aload_n 0, 1) := by decide +kernel
theorem d_ecap_6 : decode jdk_68_method_9_code 6 = .ok (.getfield 22, 3) := by decide +kernel
theorem d_ecap_9 : decode jdk_68_method_9_code 9 = .ok (.ishr, 1) := by decide +kernel
theorem d_ecap_10 : decode jdk_68_method_9_code 10 = .ok (.istore_n 2, 1) := by decide +kernel
theorem d_ecap_11 : decode jdk_68_method_9_code 11 = .ok (.iload_n 1, 1) := by decide +kernel
theorem d_ecap_12 : decode jdk_68_method_9_code 12 = .ok (.iload_n 2, 1) := by decide +kernel
theorem d_ecap_13 : decode jdk_68_method_9_code 13 = .ok (.isub, 1) := by decide +kernel
theorem d_ecap_14 : decode jdk_68_method_9_code 14 = .ok (.ifCond .le 24, 3) := by decide +kernel
theorem d_ecap_38 : decode jdk_68_method_9_code 38 = .ok (.return_, 1) := by decide +kernel
abbrev R_ecap : Room := ({ frames := 0, cells := 0, slots := 0, locals := 0 } : Room)
abbrev GM_ecap (l : Launch) (Z : State) (n0 : Nat) (Q : Option Value → Heap → Prop) (h : Heap) (cells slots pc : Nat) (Ls : Array Slot) (st : List Value) : Prop := Go l Z n0 R_ecap "java/lang/AbstractStringBuilder" "ensureCapacityInternal" jdk_68_method_9_code 3 none IN (FN n0 R_ecap Q) h cells slots pc Ls st
abbrev GW_ecap (l : Launch) (Z : State) (EL : List (String × Nat)) (s₀ : State) (n0 : Nat) (Q : Option Value → Heap → Prop) (lo : Nat) (Sf : List Addr) (h : Heap) (cells slots pc : Nat) (Ls : Array Slot) (st : List Value) : Prop := Go l Z n0 R_ecap "java/lang/AbstractStringBuilder" "ensureCapacityInternal" jdk_68_method_9_code 3 none (IW Z EL s₀ lo Sf) (FW Z EL s₀ n0 R_ecap Q) h cells slots pc Ls st
theorem pf_ecap : plainFor (⟨"java/lang/AbstractStringBuilder", "ensureCapacityInternal", "(I)V"⟩ : MethodName) = true := plainFor_of_name (by first | (simp [plainName, overriddenIn]; done) | decide +kernel)
theorem ct_ecap (l : Launch) (Z : State) (a0 : Array Value) (hw : ∀ d ∈ tables_1, d.before a0 Z = true) (n0 : Nat) (sb va : Addr) (kv : ClassId) (cs : List Int32) (m : Int32) (h0 : Heap) (B : Sbd Z h0 sb va kv cs) (hm : ¬ (0 : Int32) < m - ((16 : Int32) >>> ((0 : Int32) &&& 31))) : Ct l Z n0 "java/lang/AbstractStringBuilder" "ensureCapacityInternal" "(I)V" [] jdk_68_method_9_code 3 none R_ecap #[.ref sb, .int m] h0 (fun v h => v = none ∧ h0 = h) := by
  obtain ⟨E_sb, F_sb_value, F_sb_coder, F_sb_count, V_va⟩ := B
  refine Ct.of_go pf_ecap (Ls := #[.val (.ref sb), .val (.int m), .unset]) (fun m => by first | rfl | (simp [entryFrame, mkF, argsToLocals, Value.category]; done)) ?_
  show GM_ecap l Z n0 (fun v h => v = none ∧ h0 = h) h0 0 0 0 #[.val (.ref sb), .val (.int m), .unset] []
  refine Go.aloadN d_ecap_0 rfl rfl ?_
  refine Go.getF (wd_80 hw) Via.refl F_sb_value d_ecap_1 ?_
  refine Go.arraylength V_va d_ecap_4 ?_
  refine Go.aloadN d_ecap_5 rfl rfl ?_
  refine Go.getF (wd_82 hw) Via.refl F_sb_coder d_ecap_6 ?_
  refine Go.ishr d_ecap_9 ?_
  refine Go.istoreN (Ls' := #[.val (.ref sb), .val (.int m), .val (.int ((16 : Int32) >>> ((0 : Int32) &&& 31)))]) d_ecap_10 rfl ?_
  refine Go.iloadN d_ecap_11 rfl ?_
  refine Go.iloadN d_ecap_12 rfl ?_
  refine Go.isub d_ecap_13 ?_
  -- at pc 14: pc 14: ifCond .ifCond .le 24 stack [(.int (m - ((16 : Int32) >>> ((0 : Int32) &&& 31))))]
  -- not: (0 : Int32) < (m - ((16 : Int32) >>> ((0 : Int32) &&& 31)))
  refine Go.ifT 38 d_ecap_14 (flt (hm)).2.2.2 (by decide) (by decide) ?_
  -- at pc 38: pc 38: return .return_ stack []
  exact Go.return_ d_ecap_38 rfl (by decide) (by decide) ⟨rfl, rfl⟩
theorem d_infl_0 : decode jdk_68_method_71_code 0 = .ok (.getstatic 18, 3) := by decide +kernel
theorem d_infl_3 : decode jdk_68_method_71_code 3 = .ok (.ifCond .eq 18, 3) := by decide +kernel
theorem d_infl_6 : decode jdk_68_method_71_code 6 = .ok (.aload_n 0, 1) := by decide +kernel
theorem d_infl_7 : decode jdk_68_method_71_code 7 = .ok (.getfield 22, 3) := by decide +kernel
theorem d_infl_10 : decode jdk_68_method_71_code 10 = .ok (.aload_n 1, 1) := by decide +kernel
theorem d_infl_11 : decode jdk_68_method_71_code 11 = .ok (.invokevirtual 40, 3) := by decide +kernel
theorem d_infl_14 : decode jdk_68_method_71_code 14 = .ok (.if_icmp .eq 7, 3) := by decide +kernel
theorem d_infl_21 : decode jdk_68_method_71_code 21 = .ok (.return_, 1) := by decide +kernel
abbrev R_infl : Room := ({ frames := 1, cells := 0, slots := 0, locals := 13 } : Room)
abbrev GM_infl (l : Launch) (Z : State) (n0 : Nat) (Q : Option Value → Heap → Prop) (h : Heap) (cells slots pc : Nat) (Ls : Array Slot) (st : List Value) : Prop := Go l Z n0 R_infl "java/lang/AbstractStringBuilder" "inflateIfNeededFor" jdk_68_method_71_code 2 none IN (FN n0 R_infl Q) h cells slots pc Ls st
abbrev GW_infl (l : Launch) (Z : State) (EL : List (String × Nat)) (s₀ : State) (n0 : Nat) (Q : Option Value → Heap → Prop) (lo : Nat) (Sf : List Addr) (h : Heap) (cells slots pc : Nat) (Ls : Array Slot) (st : List Value) : Prop := Go l Z n0 R_infl "java/lang/AbstractStringBuilder" "inflateIfNeededFor" jdk_68_method_71_code 2 none (IW Z EL s₀ lo Sf) (FW Z EL s₀ n0 R_infl Q) h cells slots pc Ls st
theorem pf_infl : plainFor (⟨"java/lang/AbstractStringBuilder", "inflateIfNeededFor", "(Ljava/lang/String;)V"⟩ : MethodName) = true := plainFor_of_name (by first | (simp [plainName, overriddenIn]; done) | decide +kernel)
theorem ct_infl (l : Launch) (Z : State) (a0 : Array Value) (hw : ∀ d ∈ tables_1, d.before a0 Z = true) (n0 : Nat) (sb va x t : Addr) (kv kt : ClassId) (cs bs : List Int32) (h0 : Heap) (O : Old Z n0 h0) (z : Int32) (S_cs : Sta Z Z.heap "java/lang/String" "COMPACT_STRINGS" "Z" (.int z)) (hcs : ¬ z = 0) (S : Sbd Z h0 sb va kv cs) (B : Byt Z h0 x t kt bs) : Ct l Z n0 "java/lang/AbstractStringBuilder" "inflateIfNeededFor" "(Ljava/lang/String;)V" [] jdk_68_method_71_code 2 none R_infl #[.ref sb, .ref x] h0 (fun v h => v = none ∧ h0 = h) := by
  obtain ⟨E_x, F_x_coder, F_x_value, V_t⟩ := B
  have F_sb_coder := S.2.2.1
  refine Ct.of_go pf_infl (Ls := #[.val (.ref sb), .val (.ref x)]) (fun m => by first | rfl | (simp [entryFrame, mkF, argsToLocals, Value.category]; done)) ?_
  show GM_infl l Z n0 (fun v h => v = none ∧ h0 = h) h0 0 0 0 #[.val (.ref sb), .val (.ref x)] []
  refine Go.getS (wd_79 hw) Via.refl (S_cs.ext O.2) d_infl_0 ?_
  -- at pc 3: pc 3: ifCond .ifCond .eq 18 stack [(.int z)]
  -- not: z = (0 : Int32)
  refine Go.ifF d_infl_3 (feq (hcs)).1 ?_
  refine Go.aloadN d_infl_6 rfl rfl ?_
  refine Go.getF (wd_82 hw) Via.refl F_sb_coder d_infl_7 ?_
  refine Go.aloadN d_infl_10 rfl rfl ?_
  -- at pc 11: pc 11: invokevirtual .invokevirtual 40 stack [(.ref x), (.int (0 : Int32))]
  refine Go.callV (I' := IN) (hI := nQ) x [] [(.int (0 : Int32))] (ct_scoder l Z a0 hw n0 x _ O z S_cs hcs F_x_coder) E_x (wd_121 hw) (wd_100 hw) (nf_sel (wd_102 hw)) (wd_102 hw) (wd_101 hw) (wd_16 hw) (wd_103 hw) (by decide) pd_3 rfl rfl rfl (Nat.le_of_ble_eq_true rfl) (Nat.le_of_ble_eq_true rfl) (Nat.le_of_ble_eq_true rfl) (Nat.le_of_ble_eq_true rfl) d_infl_11 ?_
  rintro _ _ ⟨rfl, rfl⟩
  show GM_infl l Z n0 (fun v h => v = none ∧ h0 = h) h0 0 0 14 #[.val (.ref sb), .val (.ref x)] [(.int (0 : Int32)), (.int (0 : Int32))]
  -- (0 : Int32) = (0 : Int32)
  refine Go.icT 21 d_infl_14 (teq (rfl)).1 (by decide) (by decide) ?_
  -- at pc 21: pc 21: return .return_ stack []
  exact Go.return_ d_infl_21 rfl (by decide) (by decide) ⟨rfl, rfl⟩
theorem d_getb_0 : decode jdk_42_method_147_code 0 = .ok (.aload_n 0, 1) := by decide +kernel
theorem d_getb_1 : decode jdk_42_method_147_code 1 = .ok (.invokevirtual 335, 3) := by decide +kernel
theorem d_getb_4 : decode jdk_42_method_147_code 4 = .ok (.iload_n 3, 1) := by decide +kernel
theorem d_getb_5 : decode jdk_42_method_147_code 5 = .ok (.if_icmp .ne 23, 3) := by decide +kernel
theorem d_getb_8 : decode jdk_42_method_147_code 8 = .ok (.aload_n 0, 1) := by decide +kernel
theorem d_getb_9 : decode jdk_42_method_147_code 9 = .ok (.getfield 9, 3) := by decide +kernel
theorem d_getb_12 : decode jdk_42_method_147_code 12 = .ok (.iconst 0, 1) := by decide +kernel
theorem d_getb_13 : decode jdk_42_method_147_code 13 = .ok (.aload_n 1, 1) := by decide +kernel
theorem d_getb_14 : decode jdk_42_method_147_code 14 = .ok (.iload_n 2, 1) := by decide +kernel
theorem d_getb_15 : decode jdk_42_method_147_code 15 = .ok (.iload_n 3, 1) := by decide +kernel
theorem d_getb_16 : decode jdk_42_method_147_code 16 = .ok (.ishl, 1) := by decide +kernel
theorem d_getb_17 : decode jdk_42_method_147_code 17 = .ok (.aload_n 0, 1) := by decide +kernel
theorem d_getb_18 : decode jdk_42_method_147_code 18 = .ok (.getfield 9, 3) := by decide +kernel
theorem d_getb_21 : decode jdk_42_method_147_code 21 = .ok (.arraylength, 1) := by decide +kernel
theorem d_getb_22 : decode jdk_42_method_147_code 22 = .ok (.invokestatic 212, 3) := by decide +kernel
theorem d_getb_25 : decode jdk_42_method_147_code 25 = .ok (.goto 18, 3) := by decide +kernel
theorem d_getb_43 : decode jdk_42_method_147_code 43 = .ok (.return_, 1) := by decide +kernel
abbrev R_getb : Room := ({ frames := 1, cells := 0, slots := 0, locals := 30 } : Room)
abbrev GM_getb (l : Launch) (Z : State) (n0 : Nat) (Q : Option Value → Heap → Prop) (h : Heap) (cells slots pc : Nat) (Ls : Array Slot) (st : List Value) : Prop := Go l Z n0 R_getb "java/lang/String" "getBytes" jdk_42_method_147_code 4 none IN (FN n0 R_getb Q) h cells slots pc Ls st
abbrev GW_getb (l : Launch) (Z : State) (EL : List (String × Nat)) (s₀ : State) (n0 : Nat) (Q : Option Value → Heap → Prop) (lo : Nat) (Sf : List Addr) (h : Heap) (cells slots pc : Nat) (Ls : Array Slot) (st : List Value) : Prop := Go l Z n0 R_getb "java/lang/String" "getBytes" jdk_42_method_147_code 4 none (IW Z EL s₀ lo Sf) (FW Z EL s₀ n0 R_getb Q) h cells slots pc Ls st
theorem pf_getb : plainFor (⟨"java/lang/String", "getBytes", "([BIB)V"⟩ : MethodName) = true := plainFor_of_name (by first | (simp [plainName, overriddenIn]; done) | decide +kernel)
theorem ct_getb (l : Launch) (Z : State) (a0 : Array Value) (hw : ∀ d ∈ tables_1, d.before a0 Z = true) (n0 : Nat) (va x t : Addr) (kv kt : ClassId) (cs bs : List Int32) (h0 : Heap) (O : Old Z n0 h0) (z : Int32) (S_cs : Sta Z Z.heap "java/lang/String" "COMPACT_STRINGS" "Z" (.int z)) (hcs : ¬ z = 0) (g_va : n0 ≤ va) (V_va : Arv Z h0 va kv .byte (16 : Int32) (cs.map Value.int) (.int (0 : Int32))) (B : Byt Z h0 x t kt bs) (hl : cs.length + bs.length ≤ 16) :
    Ct l Z n0 "java/lang/String" "getBytes" "([BIB)V" [] jdk_42_method_147_code 4 none R_getb #[.ref x, .ref va, .int (Int32.ofNat cs.length), .int (0 : Int32)] h0 (fun v h => v = none ∧ Keep h0 h [va] ∧ Arv Z h va kv .byte (16 : Int32) ((cs ++ bs).map Value.int) (.int (0 : Int32))) := by
  obtain ⟨E_x, F_x_coder, F_x_value, V_t⟩ := B
  refine Ct.of_go pf_getb (Ls := #[.val (.ref x), .val (.ref va), .val (.int (Int32.ofNat cs.length)), .val (.int (0 : Int32))]) (fun m => by first | rfl | (simp [entryFrame, mkF, argsToLocals, Value.category]; done)) ?_
  show GM_getb l Z n0 (fun v h => v = none ∧ Keep h0 h [va] ∧ Arv Z h va kv .byte (16 : Int32) ((cs ++ bs).map Value.int) (.int (0 : Int32))) h0 0 0 0 #[.val (.ref x), .val (.ref va), .val (.int (Int32.ofNat cs.length)), .val (.int (0 : Int32))] []
  refine Go.aloadN d_getb_0 rfl rfl ?_
  -- at pc 1: pc 1: invokevirtual .invokevirtual 335 stack [(.ref x)]
  refine Go.callV (I' := IN) (hI := nQ) x [] [] (ct_scoder l Z a0 hw n0 x _ O z S_cs hcs F_x_coder) E_x (wd_99 hw) (wd_100 hw) (nf_sel (wd_102 hw)) (wd_102 hw) (wd_101 hw) (wd_16 hw) (wd_103 hw) (by decide) pd_3 rfl rfl rfl (Nat.le_of_ble_eq_true rfl) (Nat.le_of_ble_eq_true rfl) (Nat.le_of_ble_eq_true rfl) (Nat.le_of_ble_eq_true rfl) d_getb_1 ?_
  rintro _ _ ⟨rfl, rfl⟩
  show GM_getb l Z n0 (fun v h => v = none ∧ Keep h0 h [va] ∧ Arv Z h va kv .byte (16 : Int32) ((cs ++ bs).map Value.int) (.int (0 : Int32))) h0 0 0 4 #[.val (.ref x), .val (.ref va), .val (.int (Int32.ofNat cs.length)), .val (.int (0 : Int32))] [(.int (0 : Int32))]
  refine Go.iloadN d_getb_4 rfl ?_
  -- at pc 5: pc 5: if_icmp .if_icmp .ne 23 stack [(.int (0 : Int32)), (.int (0 : Int32))]
  -- (0 : Int32) = (0 : Int32)
  refine Go.icF d_getb_5 (teq (rfl)).2 ?_
  refine Go.aloadN d_getb_8 rfl rfl ?_
  refine Go.getF (wd_41 hw) Via.refl F_x_value d_getb_9 ?_
  refine Go.iconst 0 d_getb_12 rfl ?_
  refine Go.aloadN d_getb_13 rfl rfl ?_
  refine Go.iloadN d_getb_14 rfl ?_
  refine Go.iloadN d_getb_15 rfl ?_
  refine Go.ishl d_getb_16 ?_
  rw [show ((Int32.ofNat cs.length) <<< ((0 : Int32) &&& 31)) = (Int32.ofNat cs.length) from (own_shl0 _)]
  refine Go.aloadN d_getb_17 rfl rfl ?_
  refine Go.getF (wd_41 hw) Via.refl F_x_value d_getb_18 ?_
  refine Go.arraylength V_t d_getb_21 ?_
  refine Go.copyB (I' := IN) (hI := nI) (bs.map Value.int) V_t (V_va.pad (pad_rep _ _ (16 - cs.length))) rfl (wd_127 hw) (wd_130 hw) (wd_128 hw) (wd_129 hw) (by decide) (own_nneg (by omega)) (own_nneg (by omega)) (by rw [own_clamp (by omega)]; show 0 + bs.length ≤ bs.length; omega) (by rw [own_clamp (by omega), own_clamp (by omega)]; show cs.length + bs.length ≤ 16; omega) (by rw [own_clamp (by omega)]; exact own_range (by simp)) (by rw [own_clamp (by omega), own_clamp (by omega)]; simp; omega) g_va d_getb_22 rfl (by decide) (by decide) fun h1 K1 V1 => ?_
  replace V1 := own_put hl V1
  show GM_getb l Z n0 (fun v h => v = none ∧ Keep h0 h [va] ∧ Arv Z h va kv .byte (16 : Int32) ((cs ++ bs).map Value.int) (.int (0 : Int32))) h1 0 0 25 #[.val (.ref x), .val (.ref va), .val (.int (Int32.ofNat cs.length)), .val (.int (0 : Int32))] []
  refine Go.goto 43 d_getb_25 (by decide) (by decide) ?_
  -- at pc 43: pc 43: return .return_ stack []
  exact Go.return_ d_getb_43 rfl (by decide) (by decide) ⟨rfl, K1, V1⟩
theorem d_puts_0 : decode jdk_68_method_73_code 0 = .ok (.aload_n 0, 1) := by decide +kernel
theorem d_puts_1 : decode jdk_68_method_73_code 1 = .ok (.aload_n 2, 1) := by decide +kernel
theorem d_puts_2 : decode jdk_68_method_73_code 2 = .ok (.invokevirtual 397, 3) := by decide +kernel
theorem d_puts_5 : decode jdk_68_method_73_code 5 = .ok (.aload_n 2, 1) := by decide +kernel
theorem d_puts_6 : decode jdk_68_method_73_code 6 = .ok (.aload_n 0, 1) := by decide +kernel
theorem d_puts_7 : decode jdk_68_method_73_code 7 = .ok (.getfield 15, 3) := by decide +kernel
theorem d_puts_10 : decode jdk_68_method_73_code 10 = .ok (.iload_n 1, 1) := by decide +kernel
theorem d_puts_11 : decode jdk_68_method_73_code 11 = .ok (.aload_n 0, 1) := by decide +kernel
theorem d_puts_12 : decode jdk_68_method_73_code 12 = .ok (.getfield 22, 3) := by decide +kernel
theorem d_puts_15 : decode jdk_68_method_73_code 15 = .ok (.invokevirtual 399, 3) := by decide +kernel
theorem d_puts_18 : decode jdk_68_method_73_code 18 = .ok (.return_, 1) := by decide +kernel
abbrev R_puts : Room := ({ frames := 2, cells := 0, slots := 0, locals := 45 } : Room)
abbrev GM_puts (l : Launch) (Z : State) (n0 : Nat) (Q : Option Value → Heap → Prop) (h : Heap) (cells slots pc : Nat) (Ls : Array Slot) (st : List Value) : Prop := Go l Z n0 R_puts "java/lang/AbstractStringBuilder" "putStringAt" jdk_68_method_73_code 3 none IN (FN n0 R_puts Q) h cells slots pc Ls st
abbrev GW_puts (l : Launch) (Z : State) (EL : List (String × Nat)) (s₀ : State) (n0 : Nat) (Q : Option Value → Heap → Prop) (lo : Nat) (Sf : List Addr) (h : Heap) (cells slots pc : Nat) (Ls : Array Slot) (st : List Value) : Prop := Go l Z n0 R_puts "java/lang/AbstractStringBuilder" "putStringAt" jdk_68_method_73_code 3 none (IW Z EL s₀ lo Sf) (FW Z EL s₀ n0 R_puts Q) h cells slots pc Ls st
theorem pf_puts : plainFor (⟨"java/lang/AbstractStringBuilder", "putStringAt", "(ILjava/lang/String;)V"⟩ : MethodName) = true := plainFor_of_name (by first | (simp [plainName, overriddenIn]; done) | decide +kernel)
theorem ct_puts (l : Launch) (Z : State) (a0 : Array Value) (hw : ∀ d ∈ tables_1, d.before a0 Z = true) (n0 : Nat) (sb va x t : Addr) (kv kt : ClassId) (cs bs : List Int32) (h0 : Heap) (O : Old Z n0 h0) (z : Int32) (S_cs : Sta Z Z.heap "java/lang/String" "COMPACT_STRINGS" "Z" (.int z)) (hcs : ¬ z = 0) (g_va : n0 ≤ va) (S : Sbd Z h0 sb va kv cs) (B : Byt Z h0 x t kt bs) (hl : cs.length + bs.length ≤ 16) :
    Ct l Z n0 "java/lang/AbstractStringBuilder" "putStringAt" "(ILjava/lang/String;)V" [] jdk_68_method_73_code 3 none R_puts #[.ref sb, .int (Int32.ofNat cs.length), .ref x] h0 (fun v h => v = none ∧ Keep h0 h [va] ∧ Arv Z h va kv .byte (16 : Int32) ((cs ++ bs).map Value.int) (.int (0 : Int32))) := by
  have E_x := B.1
  have S0 := S
  obtain ⟨E_sb, F_sb_value, F_sb_coder, F_sb_count, V_va⟩ := S
  refine Ct.of_go pf_puts (Ls := #[.val (.ref sb), .val (.int (Int32.ofNat cs.length)), .val (.ref x)]) (fun m => by first | rfl | (simp [entryFrame, mkF, argsToLocals, Value.category]; done)) ?_
  show GM_puts l Z n0 (fun v h => v = none ∧ Keep h0 h [va] ∧ Arv Z h va kv .byte (16 : Int32) ((cs ++ bs).map Value.int) (.int (0 : Int32))) h0 0 0 0 #[.val (.ref sb), .val (.int (Int32.ofNat cs.length)), .val (.ref x)] []
  refine Go.aloadN d_puts_0 rfl rfl ?_
  refine Go.aloadN d_puts_1 rfl rfl ?_
  -- at pc 2: pc 2: invokevirtual .invokevirtual 397 stack [(.ref x), (.ref sb)]
  refine Go.callP (I' := IN) (hI := nQ) sb [(.ref x)] [] (ct_infl l Z a0 hw n0 sb va x t kv kt cs bs _ O z S_cs hcs S0 B) E_sb (wd_116 hw) (wd_117 hw) (sel_priv2 (y := (⟨"java/lang/AbstractStringBuilder", "inflateIfNeededFor", "(Ljava/lang/String;)V"⟩ : MethodName)) (show Ord Z "java/lang/AbstractStringBuilder" from Ord.sel (wd_109 hw)) (wd_117 hw) (wd_118 hw) (by decide)) (wd_118 hw) (wd_76 hw) (wd_120 hw) (by decide) pd_5 rfl rfl rfl (Nat.le_of_ble_eq_true rfl) (Nat.le_of_ble_eq_true rfl) (Nat.le_of_ble_eq_true rfl) (Nat.le_of_ble_eq_true rfl) d_puts_2 ?_
  rintro _ _ ⟨rfl, rfl⟩
  show GM_puts l Z n0 (fun v h => v = none ∧ Keep h0 h [va] ∧ Arv Z h va kv .byte (16 : Int32) ((cs ++ bs).map Value.int) (.int (0 : Int32))) h0 0 0 5 #[.val (.ref sb), .val (.int (Int32.ofNat cs.length)), .val (.ref x)] []
  refine Go.aloadN d_puts_5 rfl rfl ?_
  refine Go.aloadN d_puts_6 rfl rfl ?_
  refine Go.getF (wd_80 hw) Via.refl F_sb_value d_puts_7 ?_
  refine Go.iloadN d_puts_10 rfl ?_
  refine Go.aloadN d_puts_11 rfl rfl ?_
  refine Go.getF (wd_82 hw) Via.refl F_sb_coder d_puts_12 ?_
  -- at pc 15: pc 15: invokevirtual .invokevirtual 399 stack [(.int (0 : Int32)), (.int (Int32.ofNat cs.length)), (.ref va), (.ref x)]
  refine Go.callV (I' := IN) (hI := nQ) x [(.ref va), (.int (Int32.ofNat cs.length)), (.int (0 : Int32))] [] (ct_getb l Z a0 hw n0 va x t kv kt cs bs _ O z S_cs hcs g_va V_va B hl) E_x (wd_122 hw) (wd_123 hw) (nf_sel (wd_125 hw)) (wd_125 hw) (wd_124 hw) (wd_16 hw) (wd_126 hw) (by decide) pd_6 rfl rfl rfl (Nat.le_of_ble_eq_true rfl) (Nat.le_of_ble_eq_true rfl) (Nat.le_of_ble_eq_true rfl) (Nat.le_of_ble_eq_true rfl) d_puts_15 ?_
  rintro _ hp17 ⟨rfl, K1, V1⟩
  show GM_puts l Z n0 (fun v h => v = none ∧ Keep h0 h [va] ∧ Arv Z h va kv .byte (16 : Int32) ((cs ++ bs).map Value.int) (.int (0 : Int32))) hp17 0 0 18 #[.val (.ref sb), .val (.int (Int32.ofNat cs.length)), .val (.ref x)] []
  -- at pc 18: pc 18: return .return_ stack []
  exact Go.return_ d_puts_18 rfl (by decide) (by decide) ⟨rfl, K1, V1⟩
theorem d_apA_0 : decode jdk_68_method_22_code 0 = .ok (.aload_n 1, 1) := by decide +kernel
theorem d_apA_1 : decode jdk_68_method_22_code 1 = .ok (.ifnonnull 8, 3) := by decide +kernel
theorem d_apA_9 : decode jdk_68_method_22_code 9 = .ok (.aload_n 1, 1) := by decide +kernel
theorem d_apA_10 : decode jdk_68_method_22_code 10 = .ok (.invokevirtual 32, 3) := by decide +kernel
theorem d_apA_13 : decode jdk_68_method_22_code 13 = .ok (.istore_n 2, 1) := by decide +kernel
theorem d_apA_14 : decode jdk_68_method_22_code 14 = .ok (.aload_n 0, 1) := by decide +kernel
theorem d_apA_15 : decode jdk_68_method_22_code 15 = .ok (.aload_n 0, 1) := by decide +kernel
theorem d_apA_16 : decode jdk_68_method_22_code 16 = .ok (.getfield 79, 3) := by decide +kernel
theorem d_apA_19 : decode jdk_68_method_22_code 19 = .ok (.iload_n 2, 1) := by decide +kernel
theorem d_apA_20 : decode jdk_68_method_22_code 20 = .ok (.iadd, 1) := by decide +kernel
theorem d_apA_21 : decode jdk_68_method_22_code 21 = .ok (.invokevirtual 100, 3) := by decide +kernel
theorem d_apA_24 : decode jdk_68_method_22_code 24 = .ok (.aload_n 0, 1) := by decide +kernel
theorem d_apA_25 : decode jdk_68_method_22_code 25 = .ok (.aload_n 0, 1) := by decide +kernel
theorem d_apA_26 : decode jdk_68_method_22_code 26 = .ok (.getfield 79, 3) := by decide +kernel
theorem d_apA_29 : decode jdk_68_method_22_code 29 = .ok (.aload_n 1, 1) := by decide +kernel
theorem d_apA_30 : decode jdk_68_method_22_code 30 = .ok (.invokevirtual 208, 3) := by decide +kernel
theorem d_apA_33 : decode jdk_68_method_22_code 33 = .ok (.aload_n 0, 1) := by decide +kernel
theorem d_apA_34 : decode jdk_68_method_22_code 34 = .ok (.dup, 1) := by decide +kernel
theorem d_apA_35 : decode jdk_68_method_22_code 35 = .ok (.getfield 79, 3) := by decide +kernel
theorem d_apA_38 : decode jdk_68_method_22_code 38 = .ok (.iload_n 2, 1) := by decide +kernel
theorem d_apA_39 : decode jdk_68_method_22_code 39 = .ok (.iadd, 1) := by decide +kernel
theorem d_apA_40 : decode jdk_68_method_22_code 40 = .ok (.putfield 79, 3) := by decide +kernel
theorem d_apA_43 : decode jdk_68_method_22_code 43 = .ok (.aload_n 0, 1) := by decide +kernel
theorem d_apA_44 : decode jdk_68_method_22_code 44 = .ok (.areturn, 1) := by decide +kernel
abbrev R_apA : Room := ({ frames := 3, cells := 0, slots := 0, locals := 60 } : Room)
abbrev GM_apA (l : Launch) (Z : State) (n0 : Nat) (Q : Option Value → Heap → Prop) (h : Heap) (cells slots pc : Nat) (Ls : Array Slot) (st : List Value) : Prop := Go l Z n0 R_apA "java/lang/AbstractStringBuilder" "append" jdk_68_method_22_code 3 (some (.object "java/lang/AbstractStringBuilder")) IN (FN n0 R_apA Q) h cells slots pc Ls st
abbrev GW_apA (l : Launch) (Z : State) (EL : List (String × Nat)) (s₀ : State) (n0 : Nat) (Q : Option Value → Heap → Prop) (lo : Nat) (Sf : List Addr) (h : Heap) (cells slots pc : Nat) (Ls : Array Slot) (st : List Value) : Prop := Go l Z n0 R_apA "java/lang/AbstractStringBuilder" "append" jdk_68_method_22_code 3 (some (.object "java/lang/AbstractStringBuilder")) (IW Z EL s₀ lo Sf) (FW Z EL s₀ n0 R_apA Q) h cells slots pc Ls st
theorem pf_apA : plainFor (⟨"java/lang/AbstractStringBuilder", "append", "(Ljava/lang/String;)Ljava/lang/AbstractStringBuilder;"⟩ : MethodName) = true := plainFor_of_name (by first | (simp [plainName, overriddenIn]; done) | decide +kernel)
theorem ct_apA (l : Launch) (Z : State) (a0 : Array Value) (hw : ∀ d ∈ tables_1, d.before a0 Z = true) (n0 : Nat) (sb va x t : Addr) (kv kt : ClassId) (cs bs : List Int32) (h0 : Heap) (O : Old Z n0 h0) (z : Int32) (S_cs : Sta Z Z.heap "java/lang/String" "COMPACT_STRINGS" "Z" (.int z)) (hcs : ¬ z = 0) (g_sb : n0 ≤ sb) (g_va : n0 ≤ va) (nsv : sb ≠ va) (S : Sbd Z h0 sb va kv cs) (B : Byt Z h0 x t kt bs) (hl : cs.length + bs.length ≤ 16) :
    Ct l Z n0 "java/lang/AbstractStringBuilder" "append" "(Ljava/lang/String;)Ljava/lang/AbstractStringBuilder;" [] jdk_68_method_22_code 3 (some (.object "java/lang/AbstractStringBuilder")) R_apA #[.ref sb, .ref x] h0 (fun v h => v = some (.ref sb) ∧ Keep h0 h [sb, va] ∧ Sbd Z h sb va kv (cs ++ bs)) := by
  have E_x := B.1
  have S0 := S
  obtain ⟨E_sb, F_sb_value, F_sb_coder, F_sb_count, V_va⟩ := S
  refine Ct.of_go pf_apA (Ls := #[.val (.ref sb), .val (.ref x), .unset]) (fun m => by first | rfl | (simp [entryFrame, mkF, argsToLocals, Value.category]; done)) ?_
  show GM_apA l Z n0 (fun v h => v = some (.ref sb) ∧ Keep h0 h [sb, va] ∧ Sbd Z h sb va kv (cs ++ bs)) h0 0 0 0 #[.val (.ref sb), .val (.ref x), .unset] []
  have KK : Keep h0 h0 [sb, va] := Keep.refl _ _
  refine Go.aloadN d_apA_0 rfl rfl ?_
  refine Go.nnT 9 d_apA_1 (by decide) (by decide) ?_
  refine Go.aloadN d_apA_9 rfl rfl ?_
  -- at pc 10: pc 10: invokevirtual .invokevirtual 32 stack [(.ref x)]
  refine Go.callV (I' := IN) (hI := nQ) x [] [] (ct_slen l Z a0 hw n0 x t kt bs _ O z S_cs hcs B) E_x (wd_94 hw) (wd_95 hw) (nf_sel (wd_97 hw)) (wd_97 hw) (wd_96 hw) (wd_16 hw) (wd_98 hw) (by decide) pd_7 rfl rfl rfl (Nat.le_of_ble_eq_true rfl) (Nat.le_of_ble_eq_true rfl) (Nat.le_of_ble_eq_true rfl) (Nat.le_of_ble_eq_true rfl) d_apA_10 ?_
  rintro _ _ ⟨rfl, rfl⟩
  show GM_apA l Z n0 (fun v h => v = some (.ref sb) ∧ Keep h0 h [sb, va] ∧ Sbd Z h sb va kv (cs ++ bs)) h0 0 0 13 #[.val (.ref sb), .val (.ref x), .unset] [(.int (Int32.ofNat bs.length))]
  refine Go.istoreN (Ls' := #[.val (.ref sb), .val (.ref x), .val (.int (Int32.ofNat bs.length))]) d_apA_13 rfl ?_
  refine Go.aloadN d_apA_14 rfl rfl ?_
  refine Go.aloadN d_apA_15 rfl rfl ?_
  refine Go.getF (wd_104 hw) Via.refl F_sb_count d_apA_16 ?_
  refine Go.iloadN d_apA_19 rfl ?_
  refine Go.iadd d_apA_20 ?_
  -- at pc 21: pc 21: invokevirtual .invokevirtual 100 stack [(.int ((Int32.ofNat cs.length) + (Int32.ofNat bs.length))), (.ref sb)]
  refine Go.callP (I' := IN) (hI := nQ) sb [(.int ((Int32.ofNat cs.length) + (Int32.ofNat bs.length)))] [] (ct_ecap l Z a0 hw n0 sb va kv cs ((Int32.ofNat cs.length) + (Int32.ofNat bs.length)) _ S0 (by rw [own_cnt]; exact own_cap _ (by rw [List.length_append]; exact hl))) E_sb (wd_106 hw) (wd_107 hw) (sel_priv2 (y := (⟨"java/lang/AbstractStringBuilder", "ensureCapacityInternal", "(I)V"⟩ : MethodName)) (show Ord Z "java/lang/AbstractStringBuilder" from Ord.sel (wd_109 hw)) (wd_107 hw) (wd_108 hw) (by decide)) (wd_108 hw) (wd_76 hw) (wd_110 hw) (by decide) pd_4 rfl rfl rfl (Nat.le_of_ble_eq_true rfl) (Nat.le_of_ble_eq_true rfl) (Nat.le_of_ble_eq_true rfl) (Nat.le_of_ble_eq_true rfl) d_apA_21 ?_
  rintro _ _ ⟨rfl, rfl⟩
  show GM_apA l Z n0 (fun v h => v = some (.ref sb) ∧ Keep h0 h [sb, va] ∧ Sbd Z h sb va kv (cs ++ bs)) h0 0 0 24 #[.val (.ref sb), .val (.ref x), .val (.int (Int32.ofNat bs.length))] []
  refine Go.aloadN d_apA_24 rfl rfl ?_
  refine Go.aloadN d_apA_25 rfl rfl ?_
  refine Go.getF (wd_104 hw) Via.refl F_sb_count d_apA_26 ?_
  refine Go.aloadN d_apA_29 rfl rfl ?_
  -- at pc 30: pc 30: invokevirtual .invokevirtual 208 stack [(.ref x), (.int (Int32.ofNat cs.length)), (.ref sb)]
  refine Go.callP (I' := IN) (hI := nQ) sb [(.int (Int32.ofNat cs.length)), (.ref x)] [] (ct_puts l Z a0 hw n0 sb va x t kv kt cs bs _ O z S_cs hcs g_va S0 B hl) E_sb (wd_111 hw) (wd_112 hw) (sel_priv2 (y := (⟨"java/lang/AbstractStringBuilder", "putStringAt", "(ILjava/lang/String;)V"⟩ : MethodName)) (show Ord Z "java/lang/AbstractStringBuilder" from Ord.sel (wd_109 hw)) (wd_112 hw) (wd_113 hw) (by decide)) (wd_113 hw) (wd_76 hw) (wd_115 hw) (by decide) pd_8 rfl rfl rfl (Nat.le_of_ble_eq_true rfl) (Nat.le_of_ble_eq_true rfl) (Nat.le_of_ble_eq_true rfl) (Nat.le_of_ble_eq_true rfl) d_apA_30 ?_
  rintro _ hp20 ⟨rfl, K20, V1⟩
  replace E_x := E_x.keep K20
  replace E_sb := E_sb.keep K20
  replace F_sb_value := F_sb_value.keep K20 (ninS nsv nin0)
  replace F_sb_coder := F_sb_coder.keep K20 (ninS nsv nin0)
  replace F_sb_count := F_sb_count.keep K20 (ninS nsv nin0)
  replace KK : Keep h0 hp20 [sb, va] := KK.trans K20 (allS (Or.inl (by simp)) (all0))
  show GM_apA l Z n0 (fun v h => v = some (.ref sb) ∧ Keep h0 h [sb, va] ∧ Sbd Z h sb va kv (cs ++ bs)) hp20 0 0 33 #[.val (.ref sb), .val (.ref x), .val (.int (Int32.ofNat bs.length))] []
  refine Go.aloadN d_apA_33 rfl rfl ?_
  refine Go.dup d_apA_34 rfl ?_
  refine Go.getF (wd_104 hw) Via.refl F_sb_count d_apA_35 ?_
  refine Go.iloadN d_apA_38 rfl ?_
  refine Go.iadd d_apA_39 ?_
  refine Go.putF (I' := IN) (hI := nI) (wd_104 hw) Via.refl F_sb_count E_sb (Or.inl (wd_105 hw)) (wd_67 hw) (ty := .int) (by decide) rfl rfl g_sb d_apA_40 fun hp21 W21 => ?_
  have K21 := Keep.of_wr W21
  replace F_sb_value := F_sb_value.other W21 (Or.inr (slot_ne (Or.inl (wd_81 hw)) (Or.inl (wd_105 hw)) (by decide) (t := (.array .byte)) (t' := .int) (by decide) (by decide)))
  replace F_sb_coder := F_sb_coder.other W21 (Or.inr (slot_ne (Or.inl (wd_83 hw)) (Or.inl (wd_105 hw)) (by decide) (t := .byte) (t' := .int) (by decide) (by decide)))
  replace F_sb_count := F_sb_count.same W21
  replace E_x := E_x.keep K21
  replace E_sb := E_sb.keep K21
  replace V1 := V1.keep K21 (ninS (Ne.symm nsv) nin0)
  replace KK : Keep h0 hp21 [sb, va] := KK.trans K21 (allS (Or.inl (by simp)) (all0))
  refine Go.aloadN d_apA_43 rfl rfl ?_
  -- at pc 44: pc 44: areturn .areturn stack [(.ref sb)]
  exact Go.areturn d_apA_44 rfl rfl rfl (by decide) (by decide) ⟨rfl, KK, E_sb, F_sb_value, F_sb_coder, by rw [← own_cnt]; exact F_sb_count, V1⟩
theorem d_ap_0 : decode jdk_67_method_7_code 0 = .ok (.aload_n 0, 1) := by decide +kernel
theorem d_ap_1 : decode jdk_67_method_7_code 1 = .ok (.aload_n 1, 1) := by decide +kernel
theorem d_ap_2 : decode jdk_67_method_7_code 2 = .ok (.invokespecial 29, 3) := by decide +kernel
theorem d_ap_5 : decode jdk_67_method_7_code 5 = .ok (.pop, 1) := by decide +kernel
theorem d_ap_6 : decode jdk_67_method_7_code 6 = .ok (.aload_n 0, 1) := by decide +kernel
theorem d_ap_7 : decode jdk_67_method_7_code 7 = .ok (.areturn, 1) := by decide +kernel
abbrev R_ap : Room := ({ frames := 4, cells := 0, slots := 0, locals := 75 } : Room)
abbrev GM_ap (l : Launch) (Z : State) (n0 : Nat) (Q : Option Value → Heap → Prop) (h : Heap) (cells slots pc : Nat) (Ls : Array Slot) (st : List Value) : Prop := Go l Z n0 R_ap "java/lang/StringBuilder" "append" jdk_67_method_7_code 2 (some (.object "java/lang/StringBuilder")) IN (FN n0 R_ap Q) h cells slots pc Ls st
abbrev GW_ap (l : Launch) (Z : State) (EL : List (String × Nat)) (s₀ : State) (n0 : Nat) (Q : Option Value → Heap → Prop) (lo : Nat) (Sf : List Addr) (h : Heap) (cells slots pc : Nat) (Ls : Array Slot) (st : List Value) : Prop := Go l Z n0 R_ap "java/lang/StringBuilder" "append" jdk_67_method_7_code 2 (some (.object "java/lang/StringBuilder")) (IW Z EL s₀ lo Sf) (FW Z EL s₀ n0 R_ap Q) h cells slots pc Ls st
theorem pf_ap : plainFor (⟨"java/lang/StringBuilder", "append", "(Ljava/lang/String;)Ljava/lang/StringBuilder;"⟩ : MethodName) = true := plainFor_of_name (by first | (simp [plainName, overriddenIn]; done) | decide +kernel)
theorem ct_ap (l : Launch) (Z : State) (a0 : Array Value) (hw : ∀ d ∈ tables_1, d.before a0 Z = true) (n0 : Nat) (sb va x t : Addr) (kv kt : ClassId) (cs bs : List Int32) (h0 : Heap) (O : Old Z n0 h0) (z : Int32) (S_cs : Sta Z Z.heap "java/lang/String" "COMPACT_STRINGS" "Z" (.int z)) (hcs : ¬ z = 0) (g_sb : n0 ≤ sb) (g_va : n0 ≤ va) (nsv : sb ≠ va) (S : Sbd Z h0 sb va kv cs) (B : Byt Z h0 x t kt bs) (hl : cs.length + bs.length ≤ 16) :
    Ct l Z n0 "java/lang/StringBuilder" "append" "(Ljava/lang/String;)Ljava/lang/StringBuilder;" [] jdk_67_method_7_code 2 (some (.object "java/lang/StringBuilder")) R_ap #[.ref sb, .ref x] h0 (fun v h => v = some (.ref sb) ∧ Keep h0 h [sb, va] ∧ Sbd Z h sb va kv (cs ++ bs)) := by
  have E_sb := S.1
  refine Ct.of_go pf_ap (Ls := #[.val (.ref sb), .val (.ref x)]) (fun m => by first | rfl | (simp [entryFrame, mkF, argsToLocals, Value.category]; done)) ?_
  show GM_ap l Z n0 (fun v h => v = some (.ref sb) ∧ Keep h0 h [sb, va] ∧ Sbd Z h sb va kv (cs ++ bs)) h0 0 0 0 #[.val (.ref sb), .val (.ref x)] []
  refine Go.aloadN d_ap_0 rfl rfl ?_
  refine Go.aloadN d_ap_1 rfl rfl ?_
  -- at pc 2: pc 2: invokespecial .invokespecial 29 stack [(.ref x), (.ref sb)]
  refine Go.callSup (I' := IN) (hI := nQ) sb [(.ref x)] [] (ct_apA l Z a0 hw n0 sb va x t kv kt cs bs _ O z S_cs hcs g_sb g_va nsv S B hl) E_sb (show Ord Z "java/lang/AbstractStringBuilder" from Ord.sel (wd_109 hw)) (wd_89 hw) (wd_90 hw) (wd_91 hw) (wd_76 hw) (wd_93 hw) (by decide) (by decide) pd_9 rfl rfl rfl (Nat.le_of_ble_eq_true rfl) (Nat.le_of_ble_eq_true rfl) (Nat.le_of_ble_eq_true rfl) (Nat.le_of_ble_eq_true rfl) d_ap_2 ?_
  rintro _ hp22 ⟨rfl, K1, S1⟩
  show GM_ap l Z n0 (fun v h => v = some (.ref sb) ∧ Keep h0 h [sb, va] ∧ Sbd Z h sb va kv (cs ++ bs)) hp22 0 0 5 #[.val (.ref sb), .val (.ref x)] [(.ref sb)]
  refine Go.pop d_ap_5 rfl ?_
  refine Go.aloadN d_ap_6 rfl rfl ?_
  -- at pc 7: pc 7: areturn .areturn stack [(.ref sb)]
  exact Go.areturn d_ap_7 rfl rfl rfl (by decide) (by decide) ⟨rfl, K1, S1⟩
theorem d_getv_0 : decode jdk_68_method_64_code 0 = .ok (.aload_n 0, 1) := by decide +kernel
theorem d_getv_1 : decode jdk_68_method_64_code 1 = .ok (.getfield 15, 3) := by decide +kernel
theorem d_getv_4 : decode jdk_68_method_64_code 4 = .ok (.areturn, 1) := by decide +kernel
abbrev R_getv : Room := ({ frames := 0, cells := 0, slots := 0, locals := 0 } : Room)
abbrev GM_getv (l : Launch) (Z : State) (n0 : Nat) (Q : Option Value → Heap → Prop) (h : Heap) (cells slots pc : Nat) (Ls : Array Slot) (st : List Value) : Prop := Go l Z n0 R_getv "java/lang/AbstractStringBuilder" "getValue" jdk_68_method_64_code 1 (some (.array .byte)) IN (FN n0 R_getv Q) h cells slots pc Ls st
abbrev GW_getv (l : Launch) (Z : State) (EL : List (String × Nat)) (s₀ : State) (n0 : Nat) (Q : Option Value → Heap → Prop) (lo : Nat) (Sf : List Addr) (h : Heap) (cells slots pc : Nat) (Ls : Array Slot) (st : List Value) : Prop := Go l Z n0 R_getv "java/lang/AbstractStringBuilder" "getValue" jdk_68_method_64_code 1 (some (.array .byte)) (IW Z EL s₀ lo Sf) (FW Z EL s₀ n0 R_getv Q) h cells slots pc Ls st
theorem pf_getv : plainFor (⟨"java/lang/AbstractStringBuilder", "getValue", "()[B"⟩ : MethodName) = true := plainFor_of_name (by first | (simp [plainName, overriddenIn]; done) | decide +kernel)
theorem ct_getv (l : Launch) (Z : State) (a0 : Array Value) (hw : ∀ d ∈ tables_1, d.before a0 Z = true) (n0 : Nat) (sb va : Addr) (h0 : Heap) (F_sb_value : Fld Z h0 sb "java/lang/AbstractStringBuilder" "value" "[B" (.ref va)) : Ct l Z n0 "java/lang/AbstractStringBuilder" "getValue" "()[B" [] jdk_68_method_64_code 1 (some (.array .byte)) R_getv #[.ref sb] h0 (fun v h => v = some (.ref va) ∧ h0 = h) := by
  refine Ct.of_go pf_getv (Ls := #[.val (.ref sb)]) (fun m => by first | rfl | (simp [entryFrame, mkF, argsToLocals, Value.category]; done)) ?_
  show GM_getv l Z n0 (fun v h => v = some (.ref va) ∧ h0 = h) h0 0 0 0 #[.val (.ref sb)] []
  refine Go.aloadN d_getv_0 rfl rfl ?_
  refine Go.getF (wd_80 hw) Via.refl F_sb_value d_getv_1 ?_
  -- at pc 4: pc 4: areturn .areturn stack [(.ref va)]
  exact Go.areturn d_getv_4 rfl rfl rfl (by decide) (by decide) ⟨rfl, rfl⟩
theorem d_lenA_0 : decode jdk_68_method_6_code 0 = .ok (.aload_n 0, 1) := by decide +kernel
theorem d_lenA_1 : decode jdk_68_method_6_code 1 = .ok (.getfield 79, 3) := by decide +kernel
theorem d_lenA_4 : decode jdk_68_method_6_code 4 = .ok (.ireturn, 1) := by decide +kernel
abbrev R_lenA : Room := ({ frames := 0, cells := 0, slots := 0, locals := 0 } : Room)
abbrev GM_lenA (l : Launch) (Z : State) (n0 : Nat) (Q : Option Value → Heap → Prop) (h : Heap) (cells slots pc : Nat) (Ls : Array Slot) (st : List Value) : Prop := Go l Z n0 R_lenA "java/lang/AbstractStringBuilder" "length" jdk_68_method_6_code 1 (some .int) IN (FN n0 R_lenA Q) h cells slots pc Ls st
abbrev GW_lenA (l : Launch) (Z : State) (EL : List (String × Nat)) (s₀ : State) (n0 : Nat) (Q : Option Value → Heap → Prop) (lo : Nat) (Sf : List Addr) (h : Heap) (cells slots pc : Nat) (Ls : Array Slot) (st : List Value) : Prop := Go l Z n0 R_lenA "java/lang/AbstractStringBuilder" "length" jdk_68_method_6_code 1 (some .int) (IW Z EL s₀ lo Sf) (FW Z EL s₀ n0 R_lenA Q) h cells slots pc Ls st
theorem pf_lenA : plainFor (⟨"java/lang/AbstractStringBuilder", "length", "()I"⟩ : MethodName) = true := plainFor_of_name (by first | (simp [plainName, overriddenIn]; done) | decide +kernel)
theorem ct_lenA (l : Launch) (Z : State) (a0 : Array Value) (hw : ∀ d ∈ tables_1, d.before a0 Z = true) (n0 : Nat) (sb : Addr) (n : Int32) (h0 : Heap) (F_sb_count : Fld Z h0 sb "java/lang/AbstractStringBuilder" "count" "I" (.int n)) : Ct l Z n0 "java/lang/AbstractStringBuilder" "length" "()I" [] jdk_68_method_6_code 1 (some .int) R_lenA #[.ref sb] h0 (fun v h => v = some (.int n) ∧ h0 = h) := by
  refine Ct.of_go pf_lenA (Ls := #[.val (.ref sb)]) (fun m => by first | rfl | (simp [entryFrame, mkF, argsToLocals, Value.category]; done)) ?_
  show GM_lenA l Z n0 (fun v h => v = some (.int n) ∧ h0 = h) h0 0 0 0 #[.val (.ref sb)] []
  refine Go.aloadN d_lenA_0 rfl rfl ?_
  refine Go.getF (wd_104 hw) Via.refl F_sb_count d_lenA_1 ?_
  -- at pc 4: pc 4: ireturn .ireturn stack [(.int n)]
  exact Go.ireturn d_lenA_4 rfl (by decide) (by decide) ⟨rfl, rfl⟩
theorem d_lenB_0 : decode jdk_67_method_93_code 0 = .ok (.aload_n 0, 1) := by decide +kernel
theorem d_lenB_1 : decode jdk_67_method_93_code 1 = .ok (.invokespecial 343, 3) := by decide +kernel
theorem d_lenB_4 : decode jdk_67_method_93_code 4 = .ok (.ireturn, 1) := by decide +kernel
abbrev R_lenB : Room := ({ frames := 1, cells := 0, slots := 0, locals := 12 } : Room)
abbrev GM_lenB (l : Launch) (Z : State) (n0 : Nat) (Q : Option Value → Heap → Prop) (h : Heap) (cells slots pc : Nat) (Ls : Array Slot) (st : List Value) : Prop := Go l Z n0 R_lenB "java/lang/StringBuilder" "length" jdk_67_method_93_code 1 (some .int) IN (FN n0 R_lenB Q) h cells slots pc Ls st
abbrev GW_lenB (l : Launch) (Z : State) (EL : List (String × Nat)) (s₀ : State) (n0 : Nat) (Q : Option Value → Heap → Prop) (lo : Nat) (Sf : List Addr) (h : Heap) (cells slots pc : Nat) (Ls : Array Slot) (st : List Value) : Prop := Go l Z n0 R_lenB "java/lang/StringBuilder" "length" jdk_67_method_93_code 1 (some .int) (IW Z EL s₀ lo Sf) (FW Z EL s₀ n0 R_lenB Q) h cells slots pc Ls st
theorem pf_lenB : plainFor (⟨"java/lang/StringBuilder", "length", "()I"⟩ : MethodName) = true := plainFor_of_name (by first | (simp [plainName, overriddenIn]; done) | decide +kernel)
theorem ct_lenB (l : Launch) (Z : State) (a0 : Array Value) (hw : ∀ d ∈ tables_1, d.before a0 Z = true) (n0 : Nat) (sb : Addr) (n : Int32) (h0 : Heap) (E_sb : Exa Z h0 sb "java/lang/StringBuilder") (F_sb_count : Fld Z h0 sb "java/lang/AbstractStringBuilder" "count" "I" (.int n)) : Ct l Z n0 "java/lang/StringBuilder" "length" "()I" [] jdk_67_method_93_code 1 (some .int) R_lenB #[.ref sb] h0 (fun v h => v = some (.int n) ∧ h0 = h) := by
  refine Ct.of_go pf_lenB (Ls := #[.val (.ref sb)]) (fun m => by first | rfl | (simp [entryFrame, mkF, argsToLocals, Value.category]; done)) ?_
  show GM_lenB l Z n0 (fun v h => v = some (.int n) ∧ h0 = h) h0 0 0 0 #[.val (.ref sb)] []
  refine Go.aloadN d_lenB_0 rfl rfl ?_
  -- at pc 1: pc 1: invokespecial .invokespecial 343 stack [(.ref sb)]
  refine Go.callSup (I' := IN) (hI := nQ) sb [] [] (ct_lenA l Z a0 hw n0 sb n _ F_sb_count) E_sb (show Ord Z "java/lang/AbstractStringBuilder" from Ord.sel (wd_109 hw)) (wd_155 hw) (wd_151 hw) (wd_91 hw) (wd_76 hw) (wd_156 hw) (by decide) (by decide) pd_7 rfl rfl rfl (Nat.le_of_ble_eq_true rfl) (Nat.le_of_ble_eq_true rfl) (Nat.le_of_ble_eq_true rfl) (Nat.le_of_ble_eq_true rfl) d_lenB_1 ?_
  rintro _ _ ⟨rfl, rfl⟩
  show GM_lenB l Z n0 (fun v h => v = some (.int n) ∧ h0 = h) h0 0 0 4 #[.val (.ref sb)] [(.int n)]
  -- at pc 4: pc 4: ireturn .ireturn stack [(.int n)]
  exact Go.ireturn d_lenB_4 rfl (by decide) (by decide) ⟨rfl, rfl⟩
theorem d_isL_0 : decode jdk_68_method_68_code 0 = .ok (.getstatic 18, 3) := by decide +kernel
theorem d_isL_3 : decode jdk_68_method_68_code 3 = .ok (.ifCond .eq 14, 3) := by decide +kernel
theorem d_isL_6 : decode jdk_68_method_68_code 6 = .ok (.aload_n 0, 1) := by decide +kernel
theorem d_isL_7 : decode jdk_68_method_68_code 7 = .ok (.getfield 22, 3) := by decide +kernel
theorem d_isL_10 : decode jdk_68_method_68_code 10 = .ok (.ifCond .ne 7, 3) := by decide +kernel
theorem d_isL_13 : decode jdk_68_method_68_code 13 = .ok (.iconst 1, 1) := by decide +kernel
theorem d_isL_14 : decode jdk_68_method_68_code 14 = .ok (.goto 4, 3) := by decide +kernel
theorem d_isL_18 : decode jdk_68_method_68_code 18 = .ok (.ireturn, 1) := by decide +kernel
abbrev R_isL : Room := ({ frames := 0, cells := 0, slots := 0, locals := 0 } : Room)
abbrev GM_isL (l : Launch) (Z : State) (n0 : Nat) (Q : Option Value → Heap → Prop) (h : Heap) (cells slots pc : Nat) (Ls : Array Slot) (st : List Value) : Prop := Go l Z n0 R_isL "java/lang/AbstractStringBuilder" "isLatin1" jdk_68_method_68_code 1 (some .boolean) IN (FN n0 R_isL Q) h cells slots pc Ls st
abbrev GW_isL (l : Launch) (Z : State) (EL : List (String × Nat)) (s₀ : State) (n0 : Nat) (Q : Option Value → Heap → Prop) (lo : Nat) (Sf : List Addr) (h : Heap) (cells slots pc : Nat) (Ls : Array Slot) (st : List Value) : Prop := Go l Z n0 R_isL "java/lang/AbstractStringBuilder" "isLatin1" jdk_68_method_68_code 1 (some .boolean) (IW Z EL s₀ lo Sf) (FW Z EL s₀ n0 R_isL Q) h cells slots pc Ls st
theorem pf_isL : plainFor (⟨"java/lang/AbstractStringBuilder", "isLatin1", "()Z"⟩ : MethodName) = true := plainFor_of_name (by first | (simp [plainName, overriddenIn]; done) | decide +kernel)
theorem ct_isL (l : Launch) (Z : State) (a0 : Array Value) (hw : ∀ d ∈ tables_1, d.before a0 Z = true) (n0 : Nat) (sb : Addr) (h0 : Heap) (O : Old Z n0 h0) (z : Int32) (S_cs : Sta Z Z.heap "java/lang/String" "COMPACT_STRINGS" "Z" (.int z)) (hcs : ¬ z = 0) (F_sb_coder : Fld Z h0 sb "java/lang/AbstractStringBuilder" "coder" "B" (.int (0 : Int32))) : Ct l Z n0 "java/lang/AbstractStringBuilder" "isLatin1" "()Z" [] jdk_68_method_68_code 1 (some .boolean) R_isL #[.ref sb] h0 (fun v h => v = some (.int (1 : Int32)) ∧ h0 = h) := by
  refine Ct.of_go pf_isL (Ls := #[.val (.ref sb)]) (fun m => by first | rfl | (simp [entryFrame, mkF, argsToLocals, Value.category]; done)) ?_
  show GM_isL l Z n0 (fun v h => v = some (.int (1 : Int32)) ∧ h0 = h) h0 0 0 0 #[.val (.ref sb)] []
  refine Go.getS (wd_79 hw) Via.refl (S_cs.ext O.2) d_isL_0 ?_
  -- at pc 3: pc 3: ifCond .ifCond .eq 14 stack [(.int z)]
  -- not: z = (0 : Int32)
  refine Go.ifF d_isL_3 (feq (hcs)).1 ?_
  refine Go.aloadN d_isL_6 rfl rfl ?_
  refine Go.getF (wd_82 hw) Via.refl F_sb_coder d_isL_7 ?_
  -- at pc 10: pc 10: ifCond .ifCond .ne 7 stack [(.int (0 : Int32))]
  -- (0 : Int32) = (0 : Int32)
  refine Go.ifF d_isL_10 (teq (rfl)).2 ?_
  refine Go.iconst 1 d_isL_13 rfl ?_
  refine Go.goto 18 d_isL_14 (by decide) (by decide) ?_
  -- at pc 18: pc 18: ireturn .ireturn stack [(.int (1 : Int32))]
  exact Go.nreturn .boolean d_isL_18 rfl (by simp) (by decide) (by decide) ⟨rfl, rfl⟩
theorem d_chkl_0 : decode jdk_65_method_131_code 0 = .ok (.iload_n 1, 1) := by decide +kernel
theorem d_chkl_1 : decode jdk_65_method_131_code 1 = .ok (.iload_n 0, 1) := by decide +kernel
theorem d_chkl_2 : decode jdk_65_method_131_code 2 = .ok (.if_icmp .ge 35, 3) := by decide +kernel
theorem d_chkl_37 : decode jdk_65_method_131_code 37 = .ok (.return_, 1) := by decide +kernel
abbrev R_chkl : Room := ({ frames := 0, cells := 0, slots := 0, locals := 0 } : Room)
abbrev GM_chkl (l : Launch) (Z : State) (n0 : Nat) (Q : Option Value → Heap → Prop) (h : Heap) (cells slots pc : Nat) (Ls : Array Slot) (st : List Value) : Prop := Go l Z n0 R_chkl "java/util/Arrays" "checkLength" jdk_65_method_131_code 2 none IN (FN n0 R_chkl Q) h cells slots pc Ls st
abbrev GW_chkl (l : Launch) (Z : State) (EL : List (String × Nat)) (s₀ : State) (n0 : Nat) (Q : Option Value → Heap → Prop) (lo : Nat) (Sf : List Addr) (h : Heap) (cells slots pc : Nat) (Ls : Array Slot) (st : List Value) : Prop := Go l Z n0 R_chkl "java/util/Arrays" "checkLength" jdk_65_method_131_code 2 none (IW Z EL s₀ lo Sf) (FW Z EL s₀ n0 R_chkl Q) h cells slots pc Ls st
theorem pf_chkl : plainFor (⟨"java/util/Arrays", "checkLength", "(II)V"⟩ : MethodName) = true := plainFor_of_name (by first | (simp [plainName, overriddenIn]; done) | decide +kernel)
theorem ct_chkl (l : Launch) (Z : State) (a0 : Array Value) (hw : ∀ d ∈ tables_1, d.before a0 Z = true) (n0 : Nat) (a b : Int32) (h0 : Heap) (hab : ¬ b < a) : Ct l Z n0 "java/util/Arrays" "checkLength" "(II)V" [] jdk_65_method_131_code 2 none R_chkl #[.int a, .int b] h0 (fun v h => v = none ∧ h0 = h) := by
  refine Ct.of_go pf_chkl (Ls := #[.val (.int a), .val (.int b)]) (fun m => by first | rfl | (simp [entryFrame, mkF, argsToLocals, Value.category]; done)) ?_
  show GM_chkl l Z n0 (fun v h => v = none ∧ h0 = h) h0 0 0 0 #[.val (.int a), .val (.int b)] []
  refine Go.iloadN d_chkl_0 rfl ?_
  refine Go.iloadN d_chkl_1 rfl ?_
  -- at pc 2: pc 2: if_icmp .if_icmp .ge 35 stack [(.int a), (.int b)]
  -- not: b < a
  refine Go.icT 37 d_chkl_2 (flt (hab)).2.1 (by decide) (by decide) ?_
  -- at pc 37: pc 37: return .return_ stack []
  exact Go.return_ d_chkl_37 rfl (by decide) (by decide) ⟨rfl, rfl⟩
theorem d_mmin_0 : decode jdk_29_method_69_code 0 = .ok (.iload_n 0, 1) := by decide +kernel
theorem d_mmin_1 : decode jdk_29_method_69_code 1 = .ok (.iload_n 1, 1) := by decide +kernel
theorem d_mmin_2 : decode jdk_29_method_69_code 2 = .ok (.if_icmp .gt 7, 3) := by decide +kernel
theorem d_mmin_5 : decode jdk_29_method_69_code 5 = .ok (.iload_n 0, 1) := by decide +kernel
theorem d_mmin_6 : decode jdk_29_method_69_code 6 = .ok (.goto 4, 3) := by decide +kernel
theorem d_mmin_9 : decode jdk_29_method_69_code 9 = .ok (.iload_n 1, 1) := by decide +kernel
theorem d_mmin_10 : decode jdk_29_method_69_code 10 = .ok (.ireturn, 1) := by decide +kernel
abbrev R_mmin : Room := ({ frames := 0, cells := 0, slots := 0, locals := 0 } : Room)
abbrev GM_mmin (l : Launch) (Z : State) (n0 : Nat) (Q : Option Value → Heap → Prop) (h : Heap) (cells slots pc : Nat) (Ls : Array Slot) (st : List Value) : Prop := Go l Z n0 R_mmin "java/lang/Math" "min" jdk_29_method_69_code 2 (some .int) IN (FN n0 R_mmin Q) h cells slots pc Ls st
abbrev GW_mmin (l : Launch) (Z : State) (EL : List (String × Nat)) (s₀ : State) (n0 : Nat) (Q : Option Value → Heap → Prop) (lo : Nat) (Sf : List Addr) (h : Heap) (cells slots pc : Nat) (Ls : Array Slot) (st : List Value) : Prop := Go l Z n0 R_mmin "java/lang/Math" "min" jdk_29_method_69_code 2 (some .int) (IW Z EL s₀ lo Sf) (FW Z EL s₀ n0 R_mmin Q) h cells slots pc Ls st
theorem pf_mmin : plainFor (⟨"java/lang/Math", "min", "(II)I"⟩ : MethodName) = true := Jvm.Free.JP.mathPlain rfl (by decide +kernel)
theorem ct_mmin (l : Launch) (Z : State) (a0 : Array Value) (hw : ∀ d ∈ tables_1, d.before a0 Z = true) (n0 : Nat) (a b : Int32) (h0 : Heap) (hab : ¬ a < b) : Ct l Z n0 "java/lang/Math" "min" "(II)I" [] jdk_29_method_69_code 2 (some .int) R_mmin #[.int a, .int b] h0 (fun v h => v = some (.int b) ∧ h0 = h) := by
  refine Ct.of_go pf_mmin (Ls := #[.val (.int a), .val (.int b)]) (fun m => by first | rfl | (simp [entryFrame, mkF, argsToLocals, Value.category]; done)) ?_
  show GM_mmin l Z n0 (fun v h => v = some (.int b) ∧ h0 = h) h0 0 0 0 #[.val (.int a), .val (.int b)] []
  refine Go.iloadN d_mmin_0 rfl ?_
  refine Go.iloadN d_mmin_1 rfl ?_
  -- at pc 2: pc 2: if_icmp .if_icmp .gt 7 stack [(.int b), (.int a)]
  by_cases hq : b < a
  · refine Go.icT 9 d_mmin_2 (tlt hq).2.2.1 (by decide) (by decide) ?_
    refine Go.iloadN d_mmin_9 rfl ?_
    -- at pc 10: pc 10: ireturn .ireturn stack [(.int b)]
    exact Go.ireturn d_mmin_10 rfl (by decide) (by decide) ⟨rfl, rfl⟩
  · refine Go.icF d_mmin_2 (flt hq).2.2.1 ?_
    refine Go.iloadN d_mmin_5 rfl ?_
    refine Go.goto 10 d_mmin_6 (by decide) (by decide) ?_
    -- at pc 10: pc 10: ireturn .ireturn stack [(.int a)]
    have e : a = b := Int32.toInt_inj.mp (by rw [Int32.lt_iff_toInt_lt] at hab hq; omega)
    exact Go.ireturn d_mmin_10 rfl (by decide) (by decide) ⟨by rw [e], rfl⟩
theorem d_corB_0 : decode jdk_65_method_133_code 0 = .ok (.iload_n 1, 1) := by decide +kernel
theorem d_corB_1 : decode jdk_65_method_133_code 1 = .ok (.iload_n 2, 1) := by decide +kernel
theorem d_corB_2 : decode jdk_65_method_133_code 2 = .ok (.invokestatic 343, 3) := by decide +kernel
theorem d_corB_5 : decode jdk_65_method_133_code 5 = .ok (.iload_n 2, 1) := by decide +kernel
theorem d_corB_6 : decode jdk_65_method_133_code 6 = .ok (.iload_n 1, 1) := by decide +kernel
theorem d_corB_7 : decode jdk_65_method_133_code 7 = .ok (.isub, 1) := by decide +kernel
theorem d_corB_8 : decode jdk_65_method_133_code 8 = .ok (.istore_n 3, 1) := by decide +kernel
theorem d_corB_9 : decode jdk_65_method_133_code 9 = .ok (.iload_n 3, 1) := by decide +kernel
theorem d_corB_10 : decode jdk_65_method_133_code 10 = .ok (.newarray .byte, 2) := by decide +kernel
theorem d_corB_12 : decode jdk_65_method_133_code 12 = .ok (.astore 4, 2) := by decide +kernel
theorem d_corB_14 : decode jdk_65_method_133_code 14 = .ok (.aload_n 0, 1) := by decide +kernel
theorem d_corB_15 : decode jdk_65_method_133_code 15 = .ok (.iload_n 1, 1) := by decide +kernel
theorem d_corB_16 : decode jdk_65_method_133_code 16 = .ok (.aload 4, 2) := by decide +kernel
theorem d_corB_18 : decode jdk_65_method_133_code 18 = .ok (.iconst 0, 1) := by decide +kernel
theorem d_corB_19 : decode jdk_65_method_133_code 19 = .ok (.aload_n 0, 1) := by decide +kernel
theorem d_corB_20 : decode jdk_65_method_133_code 20 = .ok (.arraylength, 1) := by decide +kernel
theorem d_corB_21 : decode jdk_65_method_133_code 21 = .ok (.iload_n 1, 1) := by decide +kernel
theorem d_corB_22 : decode jdk_65_method_133_code 22 = .ok (.isub, 1) := by decide +kernel
theorem d_corB_23 : decode jdk_65_method_133_code 23 = .ok (.iload_n 3, 1) := by decide +kernel
theorem d_corB_24 : decode jdk_65_method_133_code 24 = .ok (.invokestatic 304, 3) := by decide +kernel
theorem d_corB_27 : decode jdk_65_method_133_code 27 = .ok (.invokestatic 150, 3) := by decide +kernel
theorem d_corB_30 : decode jdk_65_method_133_code 30 = .ok (.aload 4, 2) := by decide +kernel
theorem d_corB_32 : decode jdk_65_method_133_code 32 = .ok (.areturn, 1) := by decide +kernel
abbrev R_corB : Room := ({ frames := 1, cells := 1, slots := 16, locals := 34 } : Room)
abbrev GM_corB (l : Launch) (Z : State) (n0 : Nat) (Q : Option Value → Heap → Prop) (h : Heap) (cells slots pc : Nat) (Ls : Array Slot) (st : List Value) : Prop := Go l Z n0 R_corB "java/util/Arrays" "copyOfRangeByte" jdk_65_method_133_code 5 (some (.array .byte)) IN (FN n0 R_corB Q) h cells slots pc Ls st
abbrev GW_corB (l : Launch) (Z : State) (EL : List (String × Nat)) (s₀ : State) (n0 : Nat) (Q : Option Value → Heap → Prop) (lo : Nat) (Sf : List Addr) (h : Heap) (cells slots pc : Nat) (Ls : Array Slot) (st : List Value) : Prop := Go l Z n0 R_corB "java/util/Arrays" "copyOfRangeByte" jdk_65_method_133_code 5 (some (.array .byte)) (IW Z EL s₀ lo Sf) (FW Z EL s₀ n0 R_corB Q) h cells slots pc Ls st
theorem pf_corB : plainFor (⟨"java/util/Arrays", "copyOfRangeByte", "([BII)[B"⟩ : MethodName) = true := plainFor_of_name (by first | (simp [plainName, overriddenIn]; done) | decide +kernel)
theorem ct_corB (l : Launch) (Z : State) (a0 : Array Value) (hw : ∀ d ∈ tables_1, d.before a0 Z = true) (n0 : Nat) (va : Addr) (kv : ClassId) (cs : List Int32) (h0 : Heap) (hz : n0 ≤ h0.size) (V_va : Arv Z h0 va kv .byte (16 : Int32) (cs.map Value.int) (.int (0 : Int32))) (hl : cs.length ≤ 15) :
    Ct l Z n0 "java/util/Arrays" "copyOfRangeByte" "([BII)[B" [] jdk_65_method_133_code 5 (some (.array .byte)) R_corB #[.ref va, .int (0 : Int32), .int (Int32.ofNat cs.length)] h0 (fun v h => ∃ (b : Addr) (k : ClassId), v = some (.ref b) ∧ n0 ≤ b ∧ h0.size ≤ b ∧ Keep h0 h [] ∧ Arv Z h b k .byte (Int32.ofNat cs.length) (cs.map Value.int) (.int (0 : Int32))) := by
  have hn : ((Int32.ofNat cs.length) - (0 : Int32)) = (Int32.ofNat cs.length) := Int32.sub_zero _
  refine Ct.of_go pf_corB (Ls := #[.val (.ref va), .val (.int (0 : Int32)), .val (.int (Int32.ofNat cs.length)), .unset, .unset]) (fun m => by first | rfl | (simp [entryFrame, mkF, argsToLocals, Value.category]; done)) ?_
  show GM_corB l Z n0 (fun v h => ∃ (b : Addr) (k : ClassId), v = some (.ref b) ∧ n0 ≤ b ∧ h0.size ≤ b ∧ Keep h0 h [] ∧ Arv Z h b k .byte (Int32.ofNat cs.length) (cs.map Value.int) (.int (0 : Int32))) h0 0 0 0 #[.val (.ref va), .val (.int (0 : Int32)), .val (.int (Int32.ofNat cs.length)), .unset, .unset] []
  have KK : Keep h0 h0 [] := Keep.refl _ _
  refine Go.iloadN d_corB_0 rfl ?_
  refine Go.iloadN d_corB_1 rfl ?_
  -- at pc 2: pc 2: invokestatic .invokestatic 343 stack [(.int (Int32.ofNat cs.length)), (.int (0 : Int32))]
  refine Go.callS (I' := IN) (hI := nQ) [(.int (0 : Int32)), (.int (Int32.ofNat cs.length))] [] (ct_chkl l Z a0 hw n0 0 (Int32.ofNat cs.length) _ (own_nneg (by omega))) (wd_169 hw) (wd_170 hw) (wd_164 hw) (wd_171 hw) (by decide) pd_10 rfl rfl rfl (Nat.le_of_ble_eq_true rfl) (Nat.le_of_ble_eq_true rfl) (Nat.le_of_ble_eq_true rfl) (Nat.le_of_ble_eq_true rfl) d_corB_2 ?_
  rintro _ _ ⟨rfl, rfl⟩
  show GM_corB l Z n0 (fun v h => ∃ (b : Addr) (k : ClassId), v = some (.ref b) ∧ n0 ≤ b ∧ h0.size ≤ b ∧ Keep h0 h [] ∧ Arv Z h b k .byte (Int32.ofNat cs.length) (cs.map Value.int) (.int (0 : Int32))) h0 0 0 5 #[.val (.ref va), .val (.int (0 : Int32)), .val (.int (Int32.ofNat cs.length)), .unset, .unset] []
  refine Go.iloadN d_corB_5 rfl ?_
  refine Go.iloadN d_corB_6 rfl ?_
  refine Go.isub d_corB_7 ?_
  rw [show ((Int32.ofNat cs.length) - (0 : Int32)) = (Int32.ofNat cs.length) from hn]
  refine Go.istoreN (Ls' := #[.val (.ref va), .val (.int (0 : Int32)), .val (.int (Int32.ofNat cs.length)), .val (.int (Int32.ofNat cs.length)), .unset]) d_corB_8 rfl ?_
  refine Go.iloadN d_corB_9 rfl ?_
  refine Go.newP (I' := IN) (hI := nE) .byte (wd_32 hw) rfl d_corB_10 (own_nneg (by omega)) 16 (by rw [own_clamp (by omega)]; omega) (by decide) (by decide) (by decide) fun hp25 b k_b e_b X25 V_b => ?_
  have K25 : Keep h0 hp25 [] := (Keep.refl _ _).ext X25
  have g_b : n0 ≤ b := e_b ▸ hz
  have s_b : h0.size ≤ b := e_b ▸ KK.1
  have ne_va_b : va ≠ b := Nat.ne_of_lt (e_b ▸ V_va.lt)
  replace V_va := V_va.keep K25 nin0
  replace hz : n0 ≤ hp25.size := Nat.le_trans hz K25.1
  replace KK : Keep h0 hp25 [] := KK.trans K25 (all0)
  refine Go.astore (Ls' := #[.val (.ref va), .val (.int (0 : Int32)), .val (.int (Int32.ofNat cs.length)), .val (.int (Int32.ofNat cs.length)), .val (.ref b)]) d_corB_12 rfl rfl ?_
  refine Go.aloadN d_corB_14 rfl rfl ?_
  refine Go.iloadN d_corB_15 rfl ?_
  refine Go.aload d_corB_16 rfl rfl ?_
  refine Go.iconst 0 d_corB_18 rfl ?_
  refine Go.aloadN d_corB_19 rfl rfl ?_
  refine Go.arraylength V_va d_corB_20 ?_
  refine Go.iloadN d_corB_21 rfl ?_
  refine Go.isub d_corB_22 ?_
  refine Go.iloadN d_corB_23 rfl ?_
  -- at pc 24: pc 24: invokestatic .invokestatic 304 stack [(.int (Int32.ofNat cs.length)), (.int ((16 : Int32) - (0 : Int32))), (.int (0 : Int32)), (.ref b), (.int (0 : Int32)), (.ref va)]
  refine Go.callS (I' := IN) (hI := nQ) [(.int ((16 : Int32) - (0 : Int32))), (.int (Int32.ofNat cs.length))] [(.int (0 : Int32)), (.ref b), (.int (0 : Int32)), (.ref va)] (ct_mmin l Z a0 hw n0 ((16 : Int32) - (0 : Int32)) (Int32.ofNat cs.length) _ (own_le16 hl)) (wd_172 hw) (wd_173 hw) (wd_174 hw) (wd_175 hw) (by decide) pd_11 rfl rfl rfl (Nat.le_of_ble_eq_true rfl) (Nat.le_of_ble_eq_true rfl) (Nat.le_of_ble_eq_true rfl) (Nat.le_of_ble_eq_true rfl) d_corB_24 ?_
  rintro _ _ ⟨rfl, rfl⟩
  show GM_corB l Z n0 (fun v h => ∃ (b : Addr) (k : ClassId), v = some (.ref b) ∧ n0 ≤ b ∧ h0.size ≤ b ∧ Keep h0 h [] ∧ Arv Z h b k .byte (Int32.ofNat cs.length) (cs.map Value.int) (.int (0 : Int32))) hp25 1 16 27 #[.val (.ref va), .val (.int (0 : Int32)), .val (.int (Int32.ofNat cs.length)), .val (.int (Int32.ofNat cs.length)), .val (.ref b)] [(.int (Int32.ofNat cs.length)), (.int (0 : Int32)), (.ref b), (.int (0 : Int32)), (.ref va)]
  refine Go.copyB (I' := IN) (hI := nI) (cs.map Value.int) V_va (V_b.pad (pad_rep [] _ cs.length)) rfl (wd_176 hw) (wd_130 hw) (wd_128 hw) (wd_129 hw) (by decide) (by decide) (own_nneg (by omega)) (by rw [own_clamp (by omega)]; show 0 + cs.length ≤ 16; omega) (by rw [own_clamp (by omega)]; show 0 + cs.length ≤ cs.length; omega) (by rw [own_clamp (by omega)]; exact own_range (by simp)) (by rw [own_clamp (by omega)]; simp) g_b d_corB_27 rfl (by decide) (by decide) fun h1 K1 V1 => ?_
  rw [own_clamp (by omega)] at V1
  have V2 : Arv Z h1 b k_b .byte (Int32.ofNat cs.length) (cs.map Value.int) (.int (0 : Int32)) := by have W := V1; simp at W; exact W
  replace KK : Keep h0 h1 [] := KK.trans K1 (allS (Or.inr s_b) all0)
  show GM_corB l Z n0 (fun v h => ∃ (b : Addr) (k : ClassId), v = some (.ref b) ∧ n0 ≤ b ∧ h0.size ≤ b ∧ Keep h0 h [] ∧ Arv Z h b k .byte (Int32.ofNat cs.length) (cs.map Value.int) (.int (0 : Int32))) h1 1 16 30 #[.val (.ref va), .val (.int (0 : Int32)), .val (.int (Int32.ofNat cs.length)), .val (.int (Int32.ofNat cs.length)), .val (.ref b)] []
  refine Go.aload d_corB_30 rfl rfl ?_
  -- at pc 32: pc 32: areturn .areturn stack [(.ref b)]
  exact Go.areturn d_corB_32 rfl rfl rfl (by decide) (by decide) ⟨b, k_b, rfl, g_b, s_b, KK, V2⟩
theorem d_corA_0 : decode jdk_65_method_132_code 0 = .ok (.iload_n 1, 1) := by decide +kernel
theorem d_corA_1 : decode jdk_65_method_132_code 1 = .ok (.ifCond .ne 9, 3) := by decide +kernel
theorem d_corA_4 : decode jdk_65_method_132_code 4 = .ok (.iload_n 2, 1) := by decide +kernel
theorem d_corA_5 : decode jdk_65_method_132_code 5 = .ok (.aload_n 0, 1) := by decide +kernel
theorem d_corA_6 : decode jdk_65_method_132_code 6 = .ok (.arraylength, 1) := by decide +kernel
theorem d_corA_7 : decode jdk_65_method_132_code 7 = .ok (.if_icmp .eq 10, 3) := by decide +kernel
theorem d_corA_10 : decode jdk_65_method_132_code 10 = .ok (.aload_n 0, 1) := by decide +kernel
theorem d_corA_11 : decode jdk_65_method_132_code 11 = .ok (.iload_n 1, 1) := by decide +kernel
theorem d_corA_12 : decode jdk_65_method_132_code 12 = .ok (.iload_n 2, 1) := by decide +kernel
theorem d_corA_13 : decode jdk_65_method_132_code 13 = .ok (.invokestatic 339, 3) := by decide +kernel
theorem d_corA_16 : decode jdk_65_method_132_code 16 = .ok (.areturn, 1) := by decide +kernel
abbrev R_corA : Room := ({ frames := 2, cells := 1, slots := 16, locals := 50 } : Room)
abbrev GM_corA (l : Launch) (Z : State) (n0 : Nat) (Q : Option Value → Heap → Prop) (h : Heap) (cells slots pc : Nat) (Ls : Array Slot) (st : List Value) : Prop := Go l Z n0 R_corA "java/util/Arrays" "copyOfRange" jdk_65_method_132_code 3 (some (.array .byte)) IN (FN n0 R_corA Q) h cells slots pc Ls st
abbrev GW_corA (l : Launch) (Z : State) (EL : List (String × Nat)) (s₀ : State) (n0 : Nat) (Q : Option Value → Heap → Prop) (lo : Nat) (Sf : List Addr) (h : Heap) (cells slots pc : Nat) (Ls : Array Slot) (st : List Value) : Prop := Go l Z n0 R_corA "java/util/Arrays" "copyOfRange" jdk_65_method_132_code 3 (some (.array .byte)) (IW Z EL s₀ lo Sf) (FW Z EL s₀ n0 R_corA Q) h cells slots pc Ls st
theorem pf_corA : plainFor (⟨"java/util/Arrays", "copyOfRange", "([BII)[B"⟩ : MethodName) = true := plainFor_of_name (by first | (simp [plainName, overriddenIn]; done) | decide +kernel)
theorem ct_corA (l : Launch) (Z : State) (a0 : Array Value) (hw : ∀ d ∈ tables_1, d.before a0 Z = true) (n0 : Nat) (va : Addr) (kv : ClassId) (cs : List Int32) (h0 : Heap) (hz : n0 ≤ h0.size) (V_va : Arv Z h0 va kv .byte (16 : Int32) (cs.map Value.int) (.int (0 : Int32))) (hl : cs.length ≤ 15) :
    Ct l Z n0 "java/util/Arrays" "copyOfRange" "([BII)[B" [] jdk_65_method_132_code 3 (some (.array .byte)) R_corA #[.ref va, .int (0 : Int32), .int (Int32.ofNat cs.length)] h0 (fun v h => ∃ (b : Addr) (k : ClassId), v = some (.ref b) ∧ n0 ≤ b ∧ h0.size ≤ b ∧ Keep h0 h [] ∧ Arv Z h b k .byte (Int32.ofNat cs.length) (cs.map Value.int) (.int (0 : Int32))) := by
  refine Ct.of_go pf_corA (Ls := #[.val (.ref va), .val (.int (0 : Int32)), .val (.int (Int32.ofNat cs.length))]) (fun m => by first | rfl | (simp [entryFrame, mkF, argsToLocals, Value.category]; done)) ?_
  show GM_corA l Z n0 (fun v h => ∃ (b : Addr) (k : ClassId), v = some (.ref b) ∧ n0 ≤ b ∧ h0.size ≤ b ∧ Keep h0 h [] ∧ Arv Z h b k .byte (Int32.ofNat cs.length) (cs.map Value.int) (.int (0 : Int32))) h0 0 0 0 #[.val (.ref va), .val (.int (0 : Int32)), .val (.int (Int32.ofNat cs.length))] []
  refine Go.iloadN d_corA_0 rfl ?_
  -- at pc 1: pc 1: ifCond .ifCond .ne 9 stack [(.int (0 : Int32))]
  -- (0 : Int32) = (0 : Int32)
  refine Go.ifF d_corA_1 (teq (rfl)).2 ?_
  refine Go.iloadN d_corA_4 rfl ?_
  refine Go.aloadN d_corA_5 rfl rfl ?_
  refine Go.arraylength V_va d_corA_6 ?_
  -- at pc 7: pc 7: if_icmp .if_icmp .eq 10 stack [(.int (16 : Int32)), (.int (Int32.ofNat cs.length))]
  -- not: (Int32.ofNat cs.length) = (16 : Int32)
  refine Go.icF d_corA_7 (feq (own_ne16 hl)).1 ?_
  refine Go.aloadN d_corA_10 rfl rfl ?_
  refine Go.iloadN d_corA_11 rfl ?_
  refine Go.iloadN d_corA_12 rfl ?_
  -- at pc 13: pc 13: invokestatic .invokestatic 339 stack [(.int (Int32.ofNat cs.length)), (.int (0 : Int32)), (.ref va)]
  refine Go.callS (I' := IN) (hI := nQ) [(.ref va), (.int (0 : Int32)), (.int (Int32.ofNat cs.length))] [] (ct_corB l Z a0 hw n0 va kv cs _ hz V_va hl) (wd_166 hw) (wd_167 hw) (wd_164 hw) (wd_168 hw) (by decide) pd_12 rfl rfl rfl (Nat.le_of_ble_eq_true rfl) (Nat.le_of_ble_eq_true rfl) (Nat.le_of_ble_eq_true rfl) (Nat.le_of_ble_eq_true rfl) d_corA_13 ?_
  rintro _ hp27 ⟨b, k, rfl, q1, q2, q3, q4⟩
  show GM_corA l Z n0 (fun v h => ∃ (b : Addr) (k : ClassId), v = some (.ref b) ∧ n0 ≤ b ∧ h0.size ≤ b ∧ Keep h0 h [] ∧ Arv Z h b k .byte (Int32.ofNat cs.length) (cs.map Value.int) (.int (0 : Int32))) hp27 1 16 16 #[.val (.ref va), .val (.int (0 : Int32)), .val (.int (Int32.ofNat cs.length))] [(.ref b)]
  -- at pc 16: pc 16: areturn .areturn stack [(.ref b)]
  exact Go.areturn d_corA_16 rfl rfl rfl (by decide) (by decide) ⟨b, k, rfl, q1, q2, q3, q4⟩
theorem d_sinA_0 : decode jdk_42_method_150_code 0 = .ok (.aload_n 0, 1) := by decide +kernel
theorem d_sinA_1 : decode jdk_42_method_150_code 1 = .ok (.invokespecial 1, 3) := by decide +kernel
theorem d_sinA_4 : decode jdk_42_method_150_code 4 = .ok (.aload_n 1, 1) := by decide +kernel
theorem d_sinA_5 : decode jdk_42_method_150_code 5 = .ok (.invokevirtual 552, 3) := by decide +kernel
theorem d_sinA_8 : decode jdk_42_method_150_code 8 = .ok (.astore_n 3, 1) := by decide +kernel
theorem d_sinA_9 : decode jdk_42_method_150_code 9 = .ok (.aload_n 1, 1) := by decide +kernel
theorem d_sinA_10 : decode jdk_42_method_150_code 10 = .ok (.invokevirtual 549, 3) := by decide +kernel
theorem d_sinA_13 : decode jdk_42_method_150_code 13 = .ok (.istore 4, 2) := by decide +kernel
theorem d_sinA_15 : decode jdk_42_method_150_code 15 = .ok (.aload_n 1, 1) := by decide +kernel
theorem d_sinA_16 : decode jdk_42_method_150_code 16 = .ok (.invokevirtual 1047, 3) := by decide +kernel
theorem d_sinA_19 : decode jdk_42_method_150_code 19 = .ok (.ifCond .eq 22, 3) := by decide +kernel
theorem d_sinA_22 : decode jdk_42_method_150_code 22 = .ok (.aload_n 0, 1) := by decide +kernel
theorem d_sinA_23 : decode jdk_42_method_150_code 23 = .ok (.iconst 0, 1) := by decide +kernel
theorem d_sinA_24 : decode jdk_42_method_150_code 24 = .ok (.putfield 15, 3) := by decide +kernel
theorem d_sinA_27 : decode jdk_42_method_150_code 27 = .ok (.aload_n 0, 1) := by decide +kernel
theorem d_sinA_28 : decode jdk_42_method_150_code 28 = .ok (.aload_n 3, 1) := by decide +kernel
theorem d_sinA_29 : decode jdk_42_method_150_code 29 = .ok (.iconst 0, 1) := by decide +kernel
theorem d_sinA_30 : decode jdk_42_method_150_code 30 = .ok (.iload 4, 2) := by decide +kernel
theorem d_sinA_32 : decode jdk_42_method_150_code 32 = .ok (.invokestatic 54, 3) := by decide +kernel
theorem d_sinA_35 : decode jdk_42_method_150_code 35 = .ok (.putfield 9, 3) := by decide +kernel
theorem d_sinA_38 : decode jdk_42_method_150_code 38 = .ok (.goto 59, 3) := by decide +kernel
theorem d_sinA_97 : decode jdk_42_method_150_code 97 = .ok (.return_, 1) := by decide +kernel
abbrev R_sinA : Room := ({ frames := 3, cells := 1, slots := 16, locals := 65 } : Room)
abbrev GM_sinA (l : Launch) (Z : State) (n0 : Nat) (Q : Option Value → Heap → Prop) (h : Heap) (cells slots pc : Nat) (Ls : Array Slot) (st : List Value) : Prop := Go l Z n0 R_sinA "java/lang/String" "<init>" jdk_42_method_150_code 5 none IN (FN n0 R_sinA Q) h cells slots pc Ls st
abbrev GW_sinA (l : Launch) (Z : State) (EL : List (String × Nat)) (s₀ : State) (n0 : Nat) (Q : Option Value → Heap → Prop) (lo : Nat) (Sf : List Addr) (h : Heap) (cells slots pc : Nat) (Ls : Array Slot) (st : List Value) : Prop := Go l Z n0 R_sinA "java/lang/String" "<init>" jdk_42_method_150_code 5 none (IW Z EL s₀ lo Sf) (FW Z EL s₀ n0 R_sinA Q) h cells slots pc Ls st
theorem pf_sinA : plainFor (⟨"java/lang/String", "<init>", "(Ljava/lang/AbstractStringBuilder;Ljava/lang/Void;)V"⟩ : MethodName) = true := plainFor_of_name (by first | (simp [plainName, overriddenIn]; done) | decide +kernel)
theorem ct_sinA (l : Launch) (Z : State) (a0 : Array Value) (hw : ∀ d ∈ tables_1, d.before a0 Z = true) (n0 : Nat) (x sb va : Addr) (kv : ClassId) (cs : List Int32) (h0 : Heap) (hz : n0 ≤ h0.size) (O : Old Z n0 h0) (z : Int32) (S_cs : Sta Z Z.heap "java/lang/String" "COMPACT_STRINGS" "Z" (.int z)) (hcs : ¬ z = 0) (g_x : n0 ≤ x) (E_x : Exa Z h0 x "java/lang/String") (F_x_value : Fld Z h0 x "java/lang/String" "value" "[B" .null) (F_x_coder : Fld Z h0 x "java/lang/String" "coder" "B" (.int (0 : Int32))) (S : Sbd Z h0 sb va kv cs) (nxs : x ≠ sb) (nxv : x ≠ va) (hl : cs.length ≤ 15) :
    Ct l Z n0 "java/lang/String" "<init>" "(Ljava/lang/AbstractStringBuilder;Ljava/lang/Void;)V" [] jdk_42_method_150_code 5 none R_sinA #[.ref x, .ref sb, .null] h0 (fun v h => v = none ∧ Keep h0 h [x] ∧ ∃ (t : Addr) (kt : ClassId), n0 ≤ t ∧ h0.size ≤ t ∧ Byt Z h x t kt cs) := by
  obtain ⟨E_sb, F_sb_value, F_sb_coder, F_sb_count, V_va⟩ := S
  refine Ct.of_go pf_sinA (Ls := #[.val (.ref x), .val (.ref sb), .val .null, .unset, .unset]) (fun m => by first | rfl | (simp [entryFrame, mkF, argsToLocals, Value.category]; done)) ?_
  show GM_sinA l Z n0 (fun v h => v = none ∧ Keep h0 h [x] ∧ ∃ (t : Addr) (kt : ClassId), n0 ≤ t ∧ h0.size ≤ t ∧ Byt Z h x t kt cs) h0 0 0 0 #[.val (.ref x), .val (.ref sb), .val .null, .unset, .unset] []
  have KK : Keep h0 h0 [x] := Keep.refl _ _
  refine Go.aloadN d_sinA_0 rfl rfl ?_
  refine Go.initO (wd_24 hw) (wd_25 hw) (wd_26 hw) d_sinA_1 rfl (by decide) (Nat.le_of_ble_eq_true rfl) ?_
  refine Go.aloadN d_sinA_4 rfl rfl ?_
  -- at pc 5: pc 5: invokevirtual .invokevirtual 552 stack [(.ref sb)]
  refine Go.callV (I' := IN) (hI := nQ) sb [] [] (ct_getv l Z a0 hw n0 sb va _ F_sb_value) E_sb (wd_144 hw) (wd_145 hw) (nf_sel (wd_147 hw)) (wd_147 hw) (wd_146 hw) (wd_76 hw) (wd_148 hw) (by decide) pd_13 rfl rfl rfl (Nat.le_of_ble_eq_true rfl) (Nat.le_of_ble_eq_true rfl) (Nat.le_of_ble_eq_true rfl) (Nat.le_of_ble_eq_true rfl) d_sinA_5 ?_
  rintro _ _ ⟨rfl, rfl⟩
  show GM_sinA l Z n0 (fun v h => v = none ∧ Keep h0 h [x] ∧ ∃ (t : Addr) (kt : ClassId), n0 ≤ t ∧ h0.size ≤ t ∧ Byt Z h x t kt cs) h0 0 0 8 #[.val (.ref x), .val (.ref sb), .val .null, .unset, .unset] [(.ref va)]
  refine Go.astoreN (Ls' := #[.val (.ref x), .val (.ref sb), .val .null, .val (.ref va), .unset]) d_sinA_8 rfl rfl ?_
  refine Go.aloadN d_sinA_9 rfl rfl ?_
  -- at pc 10: pc 10: invokevirtual .invokevirtual 549 stack [(.ref sb)]
  refine Go.callV (I' := IN) (hI := nQ) sb [] [] (ct_lenB l Z a0 hw n0 sb (Int32.ofNat cs.length) _ E_sb F_sb_count) E_sb (wd_149 hw) (wd_150 hw) (Ord.nf (show Ord Z "java/lang/AbstractStringBuilder" from Ord.sel (wd_109 hw))) (wd_152 hw) (wd_153 hw) (wd_68 hw) (wd_154 hw) (by decide) pd_7 rfl rfl rfl (Nat.le_of_ble_eq_true rfl) (Nat.le_of_ble_eq_true rfl) (Nat.le_of_ble_eq_true rfl) (Nat.le_of_ble_eq_true rfl) d_sinA_10 ?_
  rintro _ _ ⟨rfl, rfl⟩
  show GM_sinA l Z n0 (fun v h => v = none ∧ Keep h0 h [x] ∧ ∃ (t : Addr) (kt : ClassId), n0 ≤ t ∧ h0.size ≤ t ∧ Byt Z h x t kt cs) h0 0 0 13 #[.val (.ref x), .val (.ref sb), .val .null, .val (.ref va), .unset] [(.int (Int32.ofNat cs.length))]
  refine Go.istore (Ls' := #[.val (.ref x), .val (.ref sb), .val .null, .val (.ref va), .val (.int (Int32.ofNat cs.length))]) d_sinA_13 rfl ?_
  refine Go.aloadN d_sinA_15 rfl rfl ?_
  -- at pc 16: pc 16: invokevirtual .invokevirtual 1047 stack [(.ref sb)]
  refine Go.callV (I' := IN) (hI := nQ) sb [] [] (ct_isL l Z a0 hw n0 sb _ O z S_cs hcs F_sb_coder) E_sb (wd_157 hw) (wd_158 hw) (nf_sel (wd_160 hw)) (wd_160 hw) (wd_159 hw) (wd_76 hw) (wd_161 hw) (by decide) pd_14 rfl rfl rfl (Nat.le_of_ble_eq_true rfl) (Nat.le_of_ble_eq_true rfl) (Nat.le_of_ble_eq_true rfl) (Nat.le_of_ble_eq_true rfl) d_sinA_16 ?_
  rintro _ _ ⟨rfl, rfl⟩
  show GM_sinA l Z n0 (fun v h => v = none ∧ Keep h0 h [x] ∧ ∃ (t : Addr) (kt : ClassId), n0 ≤ t ∧ h0.size ≤ t ∧ Byt Z h x t kt cs) h0 0 0 19 #[.val (.ref x), .val (.ref sb), .val .null, .val (.ref va), .val (.int (Int32.ofNat cs.length))] [(.int (1 : Int32))]
  -- at pc 19: pc 19: ifCond .ifCond .eq 22 stack [(.int (1 : Int32))]
  -- not: (1 : Int32) = (0 : Int32)
  refine Go.ifF d_sinA_19 (feq (by decide)).1 ?_
  refine Go.aloadN d_sinA_22 rfl rfl ?_
  refine Go.iconst 0 d_sinA_23 rfl ?_
  refine Go.putFN (I' := IN) (hI := nI) (v' := (.int (0 : Int32))) (wd_39 hw) Via.refl F_x_coder E_x (Or.inr ⟨(wd_40 hw), rfl, rfl⟩) (wd_15 hw) (ty := .byte) (by decide) rfl rfl g_x d_sinA_24 fun hp31 W31 => ?_
  have K31 := Keep.of_wr W31
  replace F_x_value := F_x_value.other W31 (Or.inr (slot_ne (Or.inr (wd_42 hw)) (Or.inr (wd_40 hw)) (by decide) (t := (.array .byte)) (t' := .byte) (by decide) (by decide)))
  replace F_x_coder := F_x_coder.same W31
  replace O := O.keep K31 (allS g_x (all0))
  replace E_x := E_x.keep K31
  replace E_sb := E_sb.keep K31
  replace F_sb_count := F_sb_count.keep K31 (ninS (Ne.symm nxs) nin0)
  replace V_va := V_va.keep K31 (ninS (Ne.symm nxv) nin0)
  replace hz : n0 ≤ hp31.size := Nat.le_trans hz K31.1
  replace KK : Keep h0 hp31 [x] := KK.trans K31 (allS (Or.inl (by simp)) (all0))
  refine Go.aloadN d_sinA_27 rfl rfl ?_
  refine Go.aloadN d_sinA_28 rfl rfl ?_
  refine Go.iconst 0 d_sinA_29 rfl ?_
  refine Go.iload d_sinA_30 rfl ?_
  -- at pc 32: pc 32: invokestatic .invokestatic 54 stack [(.int (Int32.ofNat cs.length)), (.int (0 : Int32)), (.ref va), (.ref x)]
  have KK1 := KK
  have lt_x := E_x.lt
  refine Go.callS (I' := IN) (hI := nQ) [(.ref va), (.int (0 : Int32)), (.int (Int32.ofNat cs.length))] [(.ref x)] (ct_corA l Z a0 hw n0 va kv cs _ hz V_va hl) (wd_162 hw) (wd_163 hw) (wd_164 hw) (wd_165 hw) (by decide) pd_12 rfl rfl rfl (Nat.le_of_ble_eq_true rfl) (Nat.le_of_ble_eq_true rfl) (Nat.le_of_ble_eq_true rfl) (Nat.le_of_ble_eq_true rfl) d_sinA_32 ?_
  rintro _ hp32 ⟨t, kt, rfl, g_t, sz_t, K32, V_t⟩
  replace O := O.keep K32 (all0)
  replace E_x := E_x.keep K32
  replace F_x_value := F_x_value.keep K32 nin0
  replace F_x_coder := F_x_coder.keep K32 nin0
  replace E_sb := E_sb.keep K32
  replace F_sb_count := F_sb_count.keep K32 nin0
  replace V_va := V_va.keep K32 nin0
  replace hz : n0 ≤ hp32.size := Nat.le_trans hz K32.1
  replace KK : Keep h0 hp32 [x] := KK.trans K32 (all0)
  show GM_sinA l Z n0 (fun v h => v = none ∧ Keep h0 h [x] ∧ ∃ (t : Addr) (kt : ClassId), n0 ≤ t ∧ h0.size ≤ t ∧ Byt Z h x t kt cs) hp32 1 16 35 #[.val (.ref x), .val (.ref sb), .val .null, .val (.ref va), .val (.int (Int32.ofNat cs.length))] [(.ref t), (.ref x)]
  have s_t : h0.size ≤ t := Nat.le_trans KK1.1 sz_t
  have ne_x_t : x ≠ t := (Nat.ne_of_lt (Nat.lt_of_lt_of_le lt_x sz_t))
  refine Go.putF (I' := IN) (hI := nI) (wd_41 hw) Via.refl F_x_value E_x (Or.inr ⟨(wd_42 hw), rfl, rfl⟩) (wd_15 hw) (ty := (.array .byte)) (by decide) rfl rfl g_x d_sinA_35 fun hp33 W33 => ?_
  have K33 := Keep.of_wr W33
  replace F_x_value := F_x_value.same W33
  replace F_x_coder := F_x_coder.other W33 (Or.inr (slot_ne (Or.inr (wd_40 hw)) (Or.inr (wd_42 hw)) (by decide) (t := .byte) (t' := (.array .byte)) (by decide) (by decide)))
  replace O := O.keep K33 (allS g_x (all0))
  replace E_x := E_x.keep K33
  replace E_sb := E_sb.keep K33
  replace F_sb_count := F_sb_count.keep K33 (ninS (Ne.symm nxs) nin0)
  replace V_va := V_va.keep K33 (ninS (Ne.symm nxv) nin0)
  replace V_t := V_t.keep K33 (ninS (Ne.symm ne_x_t) nin0)
  replace hz : n0 ≤ hp33.size := Nat.le_trans hz K33.1
  replace KK : Keep h0 hp33 [x] := KK.trans K33 (allS (Or.inl (by simp)) (all0))
  refine Go.goto 97 d_sinA_38 (by decide) (by decide) ?_
  -- at pc 97: pc 97: return .return_ stack []
  exact Go.return_ d_sinA_97 rfl (by decide) (by decide) ⟨rfl, KK, t, kt, g_t, s_t, E_x, F_x_coder, F_x_value, V_t⟩
theorem d_sinB_0 : decode jdk_42_method_53_code 0 = .ok (.aload_n 0, 1) := by decide +kernel
theorem d_sinB_1 : decode jdk_42_method_53_code 1 = .ok (.aload_n 1, 1) := by decide +kernel
theorem d_sinB_2 : decode jdk_42_method_53_code 2 = .ok (.aconst_null, 1) := by decide +kernel
theorem d_sinB_3 : decode jdk_42_method_53_code 3 = .ok (.invokespecial 489, 3) := by decide +kernel
theorem d_sinB_6 : decode jdk_42_method_53_code 6 = .ok (.return_, 1) := by decide +kernel
abbrev R_sinB : Room := ({ frames := 4, cells := 1, slots := 16, locals := 82 } : Room)
abbrev GM_sinB (l : Launch) (Z : State) (n0 : Nat) (Q : Option Value → Heap → Prop) (h : Heap) (cells slots pc : Nat) (Ls : Array Slot) (st : List Value) : Prop := Go l Z n0 R_sinB "java/lang/String" "<init>" jdk_42_method_53_code 2 none IN (FN n0 R_sinB Q) h cells slots pc Ls st
abbrev GW_sinB (l : Launch) (Z : State) (EL : List (String × Nat)) (s₀ : State) (n0 : Nat) (Q : Option Value → Heap → Prop) (lo : Nat) (Sf : List Addr) (h : Heap) (cells slots pc : Nat) (Ls : Array Slot) (st : List Value) : Prop := Go l Z n0 R_sinB "java/lang/String" "<init>" jdk_42_method_53_code 2 none (IW Z EL s₀ lo Sf) (FW Z EL s₀ n0 R_sinB Q) h cells slots pc Ls st
theorem pf_sinB : plainFor (⟨"java/lang/String", "<init>", "(Ljava/lang/StringBuilder;)V"⟩ : MethodName) = true := plainFor_of_name (by first | (simp [plainName, overriddenIn]; done) | decide +kernel)
theorem ct_sinB (l : Launch) (Z : State) (a0 : Array Value) (hw : ∀ d ∈ tables_1, d.before a0 Z = true) (n0 : Nat) (x sb va : Addr) (kv : ClassId) (cs : List Int32) (h0 : Heap) (hz : n0 ≤ h0.size) (O : Old Z n0 h0) (z : Int32) (S_cs : Sta Z Z.heap "java/lang/String" "COMPACT_STRINGS" "Z" (.int z)) (hcs : ¬ z = 0) (g_x : n0 ≤ x) (E_x : Exa Z h0 x "java/lang/String") (F_x_value : Fld Z h0 x "java/lang/String" "value" "[B" .null) (F_x_coder : Fld Z h0 x "java/lang/String" "coder" "B" (.int (0 : Int32))) (S : Sbd Z h0 sb va kv cs) (nxs : x ≠ sb) (nxv : x ≠ va) (hl : cs.length ≤ 15) :
    Ct l Z n0 "java/lang/String" "<init>" "(Ljava/lang/StringBuilder;)V" [] jdk_42_method_53_code 2 none R_sinB #[.ref x, .ref sb] h0 (fun v h => v = none ∧ Keep h0 h [x] ∧ ∃ (t : Addr) (kt : ClassId), n0 ≤ t ∧ h0.size ≤ t ∧ Byt Z h x t kt cs) := by
  refine Ct.of_go pf_sinB (Ls := #[.val (.ref x), .val (.ref sb)]) (fun m => by first | rfl | (simp [entryFrame, mkF, argsToLocals, Value.category]; done)) ?_
  show GM_sinB l Z n0 (fun v h => v = none ∧ Keep h0 h [x] ∧ ∃ (t : Addr) (kt : ClassId), n0 ≤ t ∧ h0.size ≤ t ∧ Byt Z h x t kt cs) h0 0 0 0 #[.val (.ref x), .val (.ref sb)] []
  refine Go.aloadN d_sinB_0 rfl rfl ?_
  refine Go.aloadN d_sinB_1 rfl rfl ?_
  refine Go.null d_sinB_2 ?_
  -- at pc 3: pc 3: invokespecial .invokespecial 489 stack [.null, (.ref sb), (.ref x)]
  refine Go.callI (I' := IN) (hI := nQ) x [(.ref sb), .null] [] (ct_sinA l Z a0 hw n0 x sb va kv cs _ hz O z S_cs hcs g_x E_x F_x_value F_x_coder S nxs nxv hl) (wd_141 hw) (wd_142 hw) (wd_16 hw) (wd_143 hw) (by decide) pd_15 rfl rfl rfl (Nat.le_of_ble_eq_true rfl) (Nat.le_of_ble_eq_true rfl) (Nat.le_of_ble_eq_true rfl) (Nat.le_of_ble_eq_true rfl) d_sinB_3 ?_
  rintro _ hp34 ⟨rfl, K1, t, kt, q1, q2, q3⟩
  show GM_sinB l Z n0 (fun v h => v = none ∧ Keep h0 h [x] ∧ ∃ (t : Addr) (kt : ClassId), n0 ≤ t ∧ h0.size ≤ t ∧ Byt Z h x t kt cs) hp34 1 16 6 #[.val (.ref x), .val (.ref sb)] []
  -- at pc 6: pc 6: return .return_ stack []
  exact Go.return_ d_sinB_6 rfl (by decide) (by decide) ⟨rfl, K1, t, kt, q1, q2, q3⟩
theorem d_tos_0 : decode jdk_67_method_42_code 0 = .ok (.new 18, 3) := by decide +kernel
theorem d_tos_3 : decode jdk_67_method_42_code 3 = .ok (.dup, 1) := by decide +kernel
theorem d_tos_4 : decode jdk_67_method_42_code 4 = .ok (.aload_n 0, 1) := by decide +kernel
theorem d_tos_5 : decode jdk_67_method_42_code 5 = .ok (.invokespecial 137, 3) := by decide +kernel
theorem d_tos_8 : decode jdk_67_method_42_code 8 = .ok (.areturn, 1) := by decide +kernel
abbrev R_tos : Room := ({ frames := 5, cells := 2, slots := 20, locals := 98 } : Room)
abbrev GM_tos (l : Launch) (Z : State) (n0 : Nat) (Q : Option Value → Heap → Prop) (h : Heap) (cells slots pc : Nat) (Ls : Array Slot) (st : List Value) : Prop := Go l Z n0 R_tos "java/lang/StringBuilder" "toString" jdk_67_method_42_code 1 (some (.object "java/lang/String")) IN (FN n0 R_tos Q) h cells slots pc Ls st
abbrev GW_tos (l : Launch) (Z : State) (EL : List (String × Nat)) (s₀ : State) (n0 : Nat) (Q : Option Value → Heap → Prop) (lo : Nat) (Sf : List Addr) (h : Heap) (cells slots pc : Nat) (Ls : Array Slot) (st : List Value) : Prop := Go l Z n0 R_tos "java/lang/StringBuilder" "toString" jdk_67_method_42_code 1 (some (.object "java/lang/String")) (IW Z EL s₀ lo Sf) (FW Z EL s₀ n0 R_tos Q) h cells slots pc Ls st
theorem pf_tos : plainFor (⟨"java/lang/StringBuilder", "toString", "()Ljava/lang/String;"⟩ : MethodName) = true := plainFor_of_name (by first | (simp [plainName, overriddenIn]; done) | decide +kernel)
theorem ct_tos (l : Launch) (Z : State) (a0 : Array Value) (hw : ∀ d ∈ tables_1, d.before a0 Z = true) (n0 : Nat) (sb va : Addr) (kv : ClassId) (cs : List Int32) (h0 : Heap) (hz : n0 ≤ h0.size) (O : Old Z n0 h0) (z : Int32) (S_cs : Sta Z Z.heap "java/lang/String" "COMPACT_STRINGS" "Z" (.int z)) (hcs : ¬ z = 0) (S : Sbd Z h0 sb va kv cs) (hl : cs.length ≤ 15) :
    Ct l Z n0 "java/lang/StringBuilder" "toString" "()Ljava/lang/String;" [] jdk_67_method_42_code 1 (some (.object "java/lang/String")) R_tos #[.ref sb] h0 (fun v h => ∃ (x t : Addr) (kt : ClassId), v = some (.ref x) ∧ Keep h0 h [] ∧ n0 ≤ x ∧ h0.size ≤ x ∧ n0 ≤ t ∧ h0.size ≤ t ∧ Byt Z h x t kt cs) := by
  refine Ct.of_go pf_tos (Ls := #[.val (.ref sb)]) (fun m => by first | rfl | (simp [entryFrame, mkF, argsToLocals, Value.category]; done)) ?_
  show GM_tos l Z n0 (fun v h => ∃ (x t : Addr) (kt : ClassId), v = some (.ref x) ∧ Keep h0 h [] ∧ n0 ≤ x ∧ h0.size ≤ x ∧ n0 ≤ t ∧ h0.size ≤ t ∧ Byt Z h x t kt cs) h0 0 0 0 #[.val (.ref sb)] []
  have KK : Keep h0 h0 [] := Keep.refl _ _
  -- at pc 0: pc 0: new .new 18 stack []
  refine Go.new (I' := IN) (hI := nE) (wd_137 hw) (wd_15 hw) (wd_16 hw) d_tos_0 (by decide) (by decide) fun hp35 x e_x X35 E_x D35 => ?_
  have K35 : Keep h0 hp35 [] := (Keep.refl _ _).ext X35
  have g_x : n0 ≤ x := e_x ▸ hz
  have s_x : h0.size ≤ x := e_x ▸ KK.1
  have ne_sb_x : sb ≠ x := Nat.ne_of_lt (e_x ▸ S.lt)
  have ne_va_x : va ≠ x := Nat.ne_of_lt (e_x ▸ S.lt2)
  replace O := O.keep K35 (all0)
  replace S := S.keep K35 nin0 nin0
  have F_x_coder : Fld Z hp35 x "java/lang/String" "coder" "B" (.int (0 : Int32)) := D35 (Or.inr (wd_40 hw)) (ty := .byte) (by decide)
  have F_x_value : Fld Z hp35 x "java/lang/String" "value" "[B" .null := D35 (Or.inr (wd_42 hw)) (ty := (.array .byte)) (by decide)
  replace hz : n0 ≤ hp35.size := Nat.le_trans hz K35.1
  replace KK : Keep h0 hp35 [] := KK.trans K35 (all0)
  refine Go.dup d_tos_3 rfl ?_
  refine Go.aloadN d_tos_4 rfl rfl ?_
  -- at pc 5: pc 5: invokespecial .invokespecial 137 stack [(.ref sb), (.ref x), (.ref x)]
  have KK1 := KK
  refine Go.callI (I' := IN) (hI := nQ) x [(.ref sb)] [(.ref x)] (ct_sinB l Z a0 hw n0 x sb va kv cs _ hz O z S_cs hcs g_x E_x F_x_value F_x_coder S (Ne.symm ne_sb_x) (Ne.symm ne_va_x) hl) (wd_138 hw) (wd_139 hw) (wd_16 hw) (wd_140 hw) (by decide) pd_16 rfl rfl rfl (Nat.le_of_ble_eq_true rfl) (Nat.le_of_ble_eq_true rfl) (Nat.le_of_ble_eq_true rfl) (Nat.le_of_ble_eq_true rfl) d_tos_5 ?_
  rintro _ hp36 ⟨rfl, K36, t, kt, g_t, sz_t, B⟩
  replace O := O.keep K36 (allS g_x (all0))
  replace S := S.keep K36 (ninS ne_sb_x nin0) (ninS ne_va_x nin0)
  replace E_x := E_x.keep K36
  replace hz : n0 ≤ hp36.size := Nat.le_trans hz K36.1
  replace KK : Keep h0 hp36 [] := KK.trans K36 (allS (Or.inr s_x) (all0))
  show GM_tos l Z n0 (fun v h => ∃ (x t : Addr) (kt : ClassId), v = some (.ref x) ∧ Keep h0 h [] ∧ n0 ≤ x ∧ h0.size ≤ x ∧ n0 ≤ t ∧ h0.size ≤ t ∧ Byt Z h x t kt cs) hp36 2 20 8 #[.val (.ref sb)] [(.ref x)]
  have s_t : h0.size ≤ t := Nat.le_trans KK1.1 sz_t
  -- at pc 8: pc 8: areturn .areturn stack [(.ref x)]
  exact Go.areturn d_tos_8 rfl rfl rfl (by decide) (by decide) ⟨x, t, kt, rfl, KK, g_x, s_x, g_t, s_t, B⟩
abbrev own_b (c : Int32) : Int32 := c.toInt8.toInt32
/-- a char below 256 -/
def Ch (c : Int32) : Prop := 0 ≤ c.toInt ∧ c.toInt < 256
theorem Ch.nar {c : Int32} (h : Ch c) : nar .char c = c := by
  have q := c_i2c c
  apply Int32.toInt_inj.mp
  show (c.toUInt32.toUInt16.toUInt32.toInt32).toInt = c.toInt
  obtain ⟨h1, h2⟩ := h
  omega
theorem Ch.r {c : Int32} (h : Ch c) : ¬ c < 0 ∧ ¬ (255 : Int32) < c := by
  obtain ⟨h1, h2⟩ := h
  have e : (255 : Int32).toInt = 255 := rfl
  have e0 : (0 : Int32).toInt = 0 := rfl
  rw [Int32.lt_iff_toInt_lt, Int32.lt_iff_toInt_lt]
  omega
theorem Ch.and (y : Int32) : Ch (y &&& 255) := by
  have h2 := c_mask y 255 8 (by decide) (by decide)
  simp only [Nat.reducePow] at h2
  constructor <;> omega
theorem Ch.zero : Ch 0 := ⟨by decide, by decide⟩
theorem Ch.slash : Ch 47 := ⟨by decide, by decide⟩
theorem own_inj {a b : Int32} (ha : Ch a) (hb : Ch b) : own_b a = own_b b ↔ a = b := by
  refine ⟨fun q => ?_, fun q => by rw [q]⟩
  have h1 := c_i2b a
  have h2 := c_i2b b
  have h3 := congrArg Int32.toInt q
  obtain ⟨a1, a2⟩ := ha
  obtain ⟨b1, b2⟩ := hb
  apply Int32.toInt_inj.mp
  show a.toInt = b.toInt
  change a.toInt8.toInt32.toInt = b.toInt8.toInt32.toInt at h3
  omega
theorem own_mapinj : ∀ {P Q : List Int32}, (∀ c ∈ P, Ch c) → (∀ c ∈ Q, Ch c) → (P.map own_b = Q.map own_b ↔ P = Q)
  | [], [], _, _ => by simp
  | [], _ :: _, _, _ => by simp
  | _ :: _, [], _, _ => by simp
  | a :: P, b :: Q, hp, hq => by
    rw [List.map_cons, List.map_cons, List.cons.injEq, List.cons.injEq, own_inj (hp a (by simp)) (hq b (by simp)), own_mapinj (fun c h => hp c (by simp [h])) (fun c h => hq c (by simp [h]))]
theorem own_irr (x : Int32) : ¬ x < x := by rw [Int32.lt_iff_toInt_lt]; omega
theorem own_of1 (n : Nat) : Int32.ofNat n + (1 : Int32) = Int32.ofNat (n + 1) := (Int32.ofNat_add n 1).symm
theorem own_ofn (n m : Nat) : Int32.ofNat n + Int32.ofNat m = Int32.ofNat (n + m) := (Int32.ofNat_add n m).symm
theorem own_idx {n m : Nat} (h : n < m) (hm : m < 2 ^ 31) : ¬ Int32.ofNat n < 0 ∧ Int32.ofNat n < Int32.ofNat m := by
  refine ⟨own_nneg (by omega), ?_⟩
  rw [Int32.lt_iff_toInt_lt, own_ofInt (by omega), own_ofInt hm]; omega
theorem own_ltn {n m : Nat} (h1 : n < 2 ^ 31) (h2 : m < 2 ^ 31) : Int32.ofNat n < Int32.ofNat m ↔ n < m := by rw [Int32.lt_iff_toInt_lt, own_ofInt h1, own_ofInt h2]; omega
theorem own_eqn {n m : Nat} (h1 : n < 2 ^ 31) (h2 : m < 2 ^ 31) : Int32.ofNat n = Int32.ofNat m ↔ n = m := ⟨fun q => by have := congrArg Int32.toInt q; rw [own_ofInt h1, own_ofInt h2] at this; omega, fun q => by rw [q]⟩
theorem d_leq_0 : decode jdk_43_method_13_code 0 = .ok (.aload_n 0, 1) := by decide +kernel
theorem d_leq_1 : decode jdk_43_method_13_code 1 = .ok (.arraylength, 1) := by decide +kernel
theorem d_leq_2 : decode jdk_43_method_13_code 2 = .ok (.aload_n 1, 1) := by decide +kernel
theorem d_leq_3 : decode jdk_43_method_13_code 3 = .ok (.arraylength, 1) := by decide +kernel
theorem d_leq_4 : decode jdk_43_method_13_code 4 = .ok (.if_icmp .ne 30, 3) := by decide +kernel
theorem d_leq_7 : decode jdk_43_method_13_code 7 = .ok (.iconst 0, 1) := by decide +kernel
theorem d_leq_8 : decode jdk_43_method_13_code 8 = .ok (.istore_n 2, 1) := by decide +kernel
theorem d_leq_9 : decode jdk_43_method_13_code 9 = .ok (.iload_n 2, 1) := by decide +kernel
theorem d_leq_10 : decode jdk_43_method_13_code 10 = .ok (.aload_n 0, 1) := by decide +kernel
theorem d_leq_11 : decode jdk_43_method_13_code 11 = .ok (.arraylength, 1) := by decide +kernel
theorem d_leq_12 : decode jdk_43_method_13_code 12 = .ok (.if_icmp .ge 20, 3) := by decide +kernel
theorem d_leq_15 : decode jdk_43_method_13_code 15 = .ok (.aload_n 0, 1) := by decide +kernel
theorem d_leq_16 : decode jdk_43_method_13_code 16 = .ok (.iload_n 2, 1) := by decide +kernel
theorem d_leq_17 : decode jdk_43_method_13_code 17 = .ok (.baload, 1) := by decide +kernel
theorem d_leq_18 : decode jdk_43_method_13_code 18 = .ok (.aload_n 1, 1) := by decide +kernel
theorem d_leq_19 : decode jdk_43_method_13_code 19 = .ok (.iload_n 2, 1) := by decide +kernel
theorem d_leq_20 : decode jdk_43_method_13_code 20 = .ok (.baload, 1) := by decide +kernel
theorem d_leq_21 : decode jdk_43_method_13_code 21 = .ok (.if_icmp .eq 5, 3) := by decide +kernel
theorem d_leq_24 : decode jdk_43_method_13_code 24 = .ok (.iconst 0, 1) := by decide +kernel
theorem d_leq_25 : decode jdk_43_method_13_code 25 = .ok (.ireturn, 1) := by decide +kernel
theorem d_leq_26 : decode jdk_43_method_13_code 26 = .ok (.iinc 2 1, 3) := by decide +kernel
theorem d_leq_29 : decode jdk_43_method_13_code 29 = .ok (.goto (-20), 3) := by decide +kernel
theorem d_leq_32 : decode jdk_43_method_13_code 32 = .ok (.iconst 1, 1) := by decide +kernel
theorem d_leq_33 : decode jdk_43_method_13_code 33 = .ok (.ireturn, 1) := by decide +kernel
theorem d_leq_34 : decode jdk_43_method_13_code 34 = .ok (.iconst 0, 1) := by decide +kernel
theorem d_leq_35 : decode jdk_43_method_13_code 35 = .ok (.ireturn, 1) := by decide +kernel
abbrev R_leq : Room := ({ frames := 0, cells := 0, slots := 0, locals := 0 } : Room)
abbrev GM_leq (l : Launch) (Z : State) (n0 : Nat) (Q : Option Value → Heap → Prop) (h : Heap) (cells slots pc : Nat) (Ls : Array Slot) (st : List Value) : Prop := Go l Z n0 R_leq "java/lang/StringLatin1" "equals" jdk_43_method_13_code 3 (some .boolean) IN (FN n0 R_leq Q) h cells slots pc Ls st
abbrev GW_leq (l : Launch) (Z : State) (EL : List (String × Nat)) (s₀ : State) (n0 : Nat) (Q : Option Value → Heap → Prop) (lo : Nat) (Sf : List Addr) (h : Heap) (cells slots pc : Nat) (Ls : Array Slot) (st : List Value) : Prop := Go l Z n0 R_leq "java/lang/StringLatin1" "equals" jdk_43_method_13_code 3 (some .boolean) (IW Z EL s₀ lo Sf) (FW Z EL s₀ n0 R_leq Q) h cells slots pc Ls st
theorem pf_leq : plainFor (⟨"java/lang/StringLatin1", "equals", "([B[B)Z"⟩ : MethodName) = true := plainFor_of_name (by first | (simp [plainName, overriddenIn]; done) | decide +kernel)
set_option maxHeartbeats 1000000 in
theorem ct_leq (l : Launch) (Z : State) (a0 : Array Value) (hw : ∀ d ∈ tables_1, d.before a0 Z = true) (n0 : Nat) (t u : Addr) (kt ku : ClassId) (bs cs : List Int32) (h0 : Heap) (V_t : Arv Z h0 t kt .byte (Int32.ofNat bs.length) (bs.map Value.int) (.int (0 : Int32))) (V_u : Arv Z h0 u ku .byte (Int32.ofNat cs.length) (cs.map Value.int) (.int (0 : Int32))) (hb : bs.length < 2 ^ 31) (hc : cs.length < 2 ^ 31) :
    Ct l Z n0 "java/lang/StringLatin1" "equals" "([B[B)Z" [] jdk_43_method_13_code 3 (some .boolean) R_leq #[.ref t, .ref u] h0 (fun v h => v = some (.int (if bs = cs then (1 : Int32) else (0 : Int32))) ∧ h0 = h) := by
  refine Ct.of_go pf_leq (Ls := #[.val (.ref t), .val (.ref u), .unset]) (fun m => by first | rfl | (simp [entryFrame, mkF, argsToLocals, Value.category]; done)) ?_
  show GM_leq l Z n0 (fun v h => v = some (.int (if bs = cs then (1 : Int32) else (0 : Int32))) ∧ h0 = h) h0 0 0 0 #[.val (.ref t), .val (.ref u), .unset] []
  refine Go.aloadN d_leq_0 rfl rfl ?_
  refine Go.arraylength V_t d_leq_1 ?_
  refine Go.aloadN d_leq_2 rfl rfl ?_
  refine Go.arraylength V_u d_leq_3 ?_
  -- at pc 4: pc 4: if_icmp .if_icmp .ne 30 stack [(.int (Int32.ofNat cs.length)), (.int (Int32.ofNat bs.length))]
  by_cases hl : bs.length = cs.length
  · -- (Int32.ofNat bs.length) = (Int32.ofNat cs.length)
    refine Go.icF d_leq_4 (teq (((own_eqn hb hc).mpr hl))).2 ?_
    refine Go.iconst 0 d_leq_7 rfl ?_
    refine Go.istoreN (Ls' := #[.val (.ref t), .val (.ref u), .val (.int (0 : Int32))]) d_leq_8 rfl ?_
    have loop : ∀ (br cr : List Int32), br.length = cr.length → ∀ (i : Nat), bs.drop i = br → cs.drop i = cr → i ≤ bs.length → bs.take i = cs.take i → GM_leq l Z n0 (fun v h => v = some (.int (if bs = cs then (1 : Int32) else (0 : Int32))) ∧ h0 = h) h0 0 0 9 #[.val (.ref t), .val (.ref u), .val (.int (Int32.ofNat i))] [] := by
      intro br
      induction br with
      | nil =>
        intro cr hlen i hb1 hc1 hi hpre
        have hle : bs.length ≤ i := List.drop_eq_nil_iff.mp hb1
        have hie : i = bs.length := Nat.le_antisymm hi hle
        have heq : bs = cs := by
          rw [List.take_of_length_le hle, List.take_of_length_le (by omega)] at hpre; exact hpre
        refine Go.iloadN d_leq_9 rfl ?_
        refine Go.aloadN d_leq_10 rfl rfl ?_
        refine Go.arraylength V_t d_leq_11 ?_
        -- at pc 12: pc 12: if_icmp .if_icmp .ge 20 stack [(.int (Int32.ofNat bs.length)), (.int (Int32.ofNat i))]
        -- not: (Int32.ofNat i) < (Int32.ofNat bs.length)
        refine Go.icT 32 d_leq_12 (flt ((by rw [hie]; exact own_irr _))).2.1 (by decide) (by decide) ?_
        refine Go.iconst 1 d_leq_32 rfl ?_
        -- at pc 33: pc 33: ireturn .ireturn stack [(.int (1 : Int32))]
        exact Go.nreturn .boolean d_leq_33 rfl (by simp) (by decide) (by decide) ⟨by rw [if_pos heq]; rfl, rfl⟩
      | cons b br ih =>
        intro cr0 hlen i hb1 hc1 hi hpre
        obtain ⟨c, cr, rfl⟩ : ∃ c cr, cr0 = c :: cr := by
          cases cr0 with
          | nil => simp at hlen
          | cons c cr => exact ⟨c, cr, rfl⟩
        have hib : i < bs.length := by
          rcases Nat.lt_or_ge i bs.length with q | q
          · exact q
          · rw [List.drop_eq_nil_iff.mpr q] at hb1; cases hb1
        have hbi : bs[i]? = some b := by
          have := congrArg (fun L => L[0]?) hb1
          simpa using this
        have hci : cs[i]? = some c := by
          have := congrArg (fun L => L[0]?) hc1
          simpa using this
        have hb2 : bs.drop (i + 1) = br := by rw [← List.drop_drop, hb1]; rfl
        have hc2 : cs.drop (i + 1) = cr := by rw [← List.drop_drop, hc1]; rfl
        refine Go.iloadN d_leq_9 rfl ?_
        refine Go.aloadN d_leq_10 rfl rfl ?_
        refine Go.arraylength V_t d_leq_11 ?_
        -- at pc 12: pc 12: if_icmp .if_icmp .ge 20 stack [(.int (Int32.ofNat bs.length)), (.int (Int32.ofNat i))]
        -- (Int32.ofNat i) < (Int32.ofNat bs.length)
        refine Go.icF d_leq_12 (tlt ((own_idx hib hb).2)).2.1 ?_
        refine Go.aloadN d_leq_15 rfl rfl ?_
        refine Go.iloadN d_leq_16 rfl ?_
        -- at pc 17: pc 17: baload of t at (Int32.ofNat i): '!aload value ; bounds ; getD'
        refine Go.baload (.int b) V_t (own_idx hib hb) (by rw [own_clamp (by omega), List.getD_eq_getElem?_getD, List.getElem?_map, hbi]; rfl) d_leq_17 ?_
        refine Go.aloadN d_leq_18 rfl rfl ?_
        refine Go.iloadN d_leq_19 rfl ?_
        -- at pc 20: pc 20: baload of u at (Int32.ofNat i): '!aload value ; bounds ; getD'
        refine Go.baload (.int c) V_u (own_idx (hl ▸ hib) hc) (by rw [own_clamp (by omega), List.getD_eq_getElem?_getD, List.getElem?_map, hci]; rfl) d_leq_20 ?_
        by_cases hbc : b = c
        · refine Go.icT 26 d_leq_21 (teq hbc).1 (by decide) (by decide) ?_
          refine Go.iinc (Ls' := #[.val (.ref t), .val (.ref u), .val (.int ((Int32.ofNat i) + (1 : Int32)))]) (1 : Int32) rfl d_leq_26 rfl rfl ?_
          rw [show ((Int32.ofNat i) + (1 : Int32)) = (Int32.ofNat (i + 1)) from (own_of1 _)]
          refine Go.goto 9 d_leq_29 (by decide) (by decide) ?_
          exact ih cr (by simpa using hlen) (i + 1) hb2 hc2 hib (by rw [List.take_succ, List.take_succ, hpre, hbi, hci, hbc])
        · refine Go.icF d_leq_21 (feq hbc).1 ?_
          have hne : ¬ bs = cs := fun q => hbc (by rw [q, hci] at hbi; exact (Option.some.inj hbi).symm)
          refine Go.iconst 0 d_leq_24 rfl ?_
          -- at pc 25: pc 25: ireturn .ireturn stack [(.int (0 : Int32))]
          exact Go.nreturn .boolean d_leq_25 rfl (by simp) (by decide) (by decide) ⟨by rw [if_neg hne]; rfl, rfl⟩
    exact loop bs cs hl 0 rfl rfl (Nat.zero_le _) rfl
  · skip
    -- not: (Int32.ofNat bs.length) = (Int32.ofNat cs.length)
    refine Go.icT 34 d_leq_4 (feq ((fun q => hl ((own_eqn hb hc).mp q)))).2 (by decide) (by decide) ?_
    refine Go.iconst 0 d_leq_34 rfl ?_
    -- at pc 35: pc 35: ireturn .ireturn stack [(.int (0 : Int32))]
    exact Go.nreturn .boolean d_leq_35 rfl (by simp) (by decide) (by decide) ⟨by rw [if_neg (fun q => hl (by rw [q]))]; rfl, rfl⟩
theorem d_eqs_0 : decode jdk_42_method_66_code 0 = .ok (.aload_n 0, 1) := by decide +kernel
theorem d_eqs_1 : decode jdk_42_method_66_code 1 = .ok (.aload_n 1, 1) := by decide +kernel
theorem d_eqs_2 : decode jdk_42_method_66_code 2 = .ok (.if_acmp .ne 5, 3) := by decide +kernel
theorem d_eqs_7 : decode jdk_42_method_66_code 7 = .ok (.aload_n 1, 1) := by decide +kernel
theorem d_eqs_8 : decode jdk_42_method_66_code 8 = .ok (.instanceof 10, 3) := by decide +kernel
theorem d_eqs_11 : decode jdk_42_method_66_code 11 = .ok (.ifCond .eq 43, 3) := by decide +kernel
theorem d_eqs_14 : decode jdk_42_method_66_code 14 = .ok (.aload_n 1, 1) := by decide +kernel
theorem d_eqs_15 : decode jdk_42_method_66_code 15 = .ok (.checkcast 10, 3) := by decide +kernel
theorem d_eqs_18 : decode jdk_42_method_66_code 18 = .ok (.astore_n 2, 1) := by decide +kernel
theorem d_eqs_19 : decode jdk_42_method_66_code 19 = .ok (.getstatic 38, 3) := by decide +kernel
theorem d_eqs_22 : decode jdk_42_method_66_code 22 = .ok (.ifCond .eq 14, 3) := by decide +kernel
theorem d_eqs_25 : decode jdk_42_method_66_code 25 = .ok (.aload_n 0, 1) := by decide +kernel
theorem d_eqs_26 : decode jdk_42_method_66_code 26 = .ok (.getfield 15, 3) := by decide +kernel
theorem d_eqs_29 : decode jdk_42_method_66_code 29 = .ok (.aload_n 2, 1) := by decide +kernel
theorem d_eqs_30 : decode jdk_42_method_66_code 30 = .ok (.getfield 15, 3) := by decide +kernel
theorem d_eqs_33 : decode jdk_42_method_66_code 33 = .ok (.if_icmp .ne 21, 3) := by decide +kernel
theorem d_eqs_36 : decode jdk_42_method_66_code 36 = .ok (.aload_n 0, 1) := by decide +kernel
theorem d_eqs_37 : decode jdk_42_method_66_code 37 = .ok (.getfield 9, 3) := by decide +kernel
theorem d_eqs_40 : decode jdk_42_method_66_code 40 = .ok (.aload_n 2, 1) := by decide +kernel
theorem d_eqs_41 : decode jdk_42_method_66_code 41 = .ok (.getfield 9, 3) := by decide +kernel
theorem d_eqs_44 : decode jdk_42_method_66_code 44 = .ok (.invokestatic 541, 3) := by decide +kernel
theorem d_eqs_47 : decode jdk_42_method_66_code 47 = .ok (.ifCond .eq 7, 3) := by decide +kernel
theorem d_eqs_50 : decode jdk_42_method_66_code 50 = .ok (.iconst 1, 1) := by decide +kernel
theorem d_eqs_51 : decode jdk_42_method_66_code 51 = .ok (.goto 4, 3) := by decide +kernel
theorem d_eqs_54 : decode jdk_42_method_66_code 54 = .ok (.iconst 0, 1) := by decide +kernel
theorem d_eqs_55 : decode jdk_42_method_66_code 55 = .ok (.ireturn, 1) := by decide +kernel
abbrev R_eqs : Room := ({ frames := 1, cells := 0, slots := 0, locals := 15 } : Room)
abbrev GM_eqs (l : Launch) (Z : State) (n0 : Nat) (Q : Option Value → Heap → Prop) (h : Heap) (cells slots pc : Nat) (Ls : Array Slot) (st : List Value) : Prop := Go l Z n0 R_eqs "java/lang/String" "equals" jdk_42_method_66_code 3 (some .boolean) IN (FN n0 R_eqs Q) h cells slots pc Ls st
abbrev GW_eqs (l : Launch) (Z : State) (EL : List (String × Nat)) (s₀ : State) (n0 : Nat) (Q : Option Value → Heap → Prop) (lo : Nat) (Sf : List Addr) (h : Heap) (cells slots pc : Nat) (Ls : Array Slot) (st : List Value) : Prop := Go l Z n0 R_eqs "java/lang/String" "equals" jdk_42_method_66_code 3 (some .boolean) (IW Z EL s₀ lo Sf) (FW Z EL s₀ n0 R_eqs Q) h cells slots pc Ls st
theorem pf_eqs : plainFor (⟨"java/lang/String", "equals", "(Ljava/lang/Object;)Z"⟩ : MethodName) = true := plainFor_of_name (by first | (simp [plainName, overriddenIn]; done) | decide +kernel)
theorem ct_eqs (l : Launch) (Z : State) (a0 : Array Value) (hw : ∀ d ∈ tables_1, d.before a0 Z = true) (n0 : Nat) (x y t u : Addr) (kt ku : ClassId) (bs cs : List Int32) (h0 : Heap) (O : Old Z n0 h0) (z : Int32) (S_cs : Sta Z Z.heap "java/lang/String" "COMPACT_STRINGS" "Z" (.int z)) (hcs : ¬ z = 0) (nxy : x ≠ y) (B : Byt Z h0 x t kt bs) (C : Byt Z h0 y u ku cs) (hb : bs.length < 2 ^ 31) (hc : cs.length < 2 ^ 31) :
    Ct l Z n0 "java/lang/String" "equals" "(Ljava/lang/Object;)Z" [] jdk_42_method_66_code 3 (some .boolean) R_eqs #[.ref x, .ref y] h0 (fun v h => v = some (.int (if bs = cs then (1 : Int32) else (0 : Int32))) ∧ h0 = h) := by
  obtain ⟨E_x, F_x_coder, F_x_value, V_t⟩ := B
  obtain ⟨E_y, F_y_coder, F_y_value, V_u⟩ := C
  refine Ct.of_go pf_eqs (Ls := #[.val (.ref x), .val (.ref y), .unset]) (fun m => by first | rfl | (simp [entryFrame, mkF, argsToLocals, Value.category]; done)) ?_
  show GM_eqs l Z n0 (fun v h => v = some (.int (if bs = cs then (1 : Int32) else (0 : Int32))) ∧ h0 = h) h0 0 0 0 #[.val (.ref x), .val (.ref y), .unset] []
  refine Go.aloadN d_eqs_0 rfl rfl ?_
  refine Go.aloadN d_eqs_1 rfl rfl ?_
  refine Go.acmp 7 false d_eqs_2 rfl rfl (decide_eq_false fun q => nxy (Value.ref.inj q)) (by decide) (by decide) ?_
  refine Go.aloadN d_eqs_7 rfl rfl ?_
  refine Go.instY (wd_182 hw) (Ins.self E_y) d_eqs_8 ?_
  -- at pc 11: pc 11: ifCond .ifCond .eq 43 stack [(.int (1 : Int32))]
  -- not: (1 : Int32) = (0 : Int32)
  refine Go.ifF d_eqs_11 (feq (by decide)).1 ?_
  refine Go.aloadN d_eqs_14 rfl rfl ?_
  refine Go.castY (wd_182 hw) (Ins.self E_y) d_eqs_15 ?_
  refine Go.astoreN (Ls' := #[.val (.ref x), .val (.ref y), .val (.ref y)]) d_eqs_18 rfl rfl ?_
  refine Go.getS (wd_27 hw) Via.refl (S_cs.ext O.2) d_eqs_19 ?_
  -- at pc 22: pc 22: ifCond .ifCond .eq 14 stack [(.int z)]
  -- not: z = (0 : Int32)
  refine Go.ifF d_eqs_22 (feq (hcs)).1 ?_
  refine Go.aloadN d_eqs_25 rfl rfl ?_
  refine Go.getF (wd_39 hw) Via.refl F_x_coder d_eqs_26 ?_
  refine Go.aloadN d_eqs_29 rfl rfl ?_
  refine Go.getF (wd_39 hw) Via.refl F_y_coder d_eqs_30 ?_
  -- at pc 33: pc 33: if_icmp .if_icmp .ne 21 stack [(.int (0 : Int32)), (.int (0 : Int32))]
  -- (0 : Int32) = (0 : Int32)
  refine Go.icF d_eqs_33 (teq (rfl)).2 ?_
  refine Go.aloadN d_eqs_36 rfl rfl ?_
  refine Go.getF (wd_41 hw) Via.refl F_x_value d_eqs_37 ?_
  refine Go.aloadN d_eqs_40 rfl rfl ?_
  refine Go.getF (wd_41 hw) Via.refl F_y_value d_eqs_41 ?_
  -- at pc 44: pc 44: invokestatic .invokestatic 541 stack [(.ref u), (.ref t)]
  refine Go.callS (I' := IN) (hI := nQ) [(.ref t), (.ref u)] [] (ct_leq l Z a0 hw n0 t u kt ku bs cs _ V_t V_u hb hc) (wd_183 hw) (wd_184 hw) (wd_185 hw) (wd_186 hw) (by decide) pd_17 rfl rfl rfl (Nat.le_of_ble_eq_true rfl) (Nat.le_of_ble_eq_true rfl) (Nat.le_of_ble_eq_true rfl) (Nat.le_of_ble_eq_true rfl) d_eqs_44 ?_
  rintro _ _ ⟨rfl, rfl⟩
  show GM_eqs l Z n0 (fun v h => v = some (.int (if bs = cs then (1 : Int32) else (0 : Int32))) ∧ h0 = h) h0 0 0 47 #[.val (.ref x), .val (.ref y), .val (.ref y)] [(.int (if bs = cs then (1 : Int32) else (0 : Int32)))]
  by_cases q : bs = cs
  · rw [if_pos q]
    -- not: (1 : Int32) = (0 : Int32)
    refine Go.ifF d_eqs_47 (feq (by decide)).1 ?_
    refine Go.iconst 1 d_eqs_50 rfl ?_
    refine Go.goto 55 d_eqs_51 (by decide) (by decide) ?_
    -- at pc 55: pc 55: ireturn .ireturn stack [(.int (1 : Int32))]
    exact Go.nreturn .boolean d_eqs_55 rfl (by simp) (by decide) (by decide) ⟨rfl, rfl⟩
  · rw [if_neg q]
    -- (0 : Int32) = (0 : Int32)
    refine Go.ifT 54 d_eqs_47 (teq (rfl)).1 (by decide) (by decide) ?_
    refine Go.iconst 0 d_eqs_54 rfl ?_
    -- at pc 55: pc 55: ireturn .ireturn stack [(.int (0 : Int32))]
    exact Go.nreturn .boolean d_eqs_55 rfl (by simp) (by decide) (by decide) ⟨rfl, rfl⟩
theorem d_rinit_0 : decode jdk_30_method_1_code 0 = .ok (.aload_n 0, 1) := by decide +kernel
theorem d_rinit_1 : decode jdk_30_method_1_code 1 = .ok (.invokespecial 1, 3) := by decide +kernel
theorem d_rinit_4 : decode jdk_30_method_1_code 4 = .ok (.return_, 1) := by decide +kernel
abbrev R_rinit : Room := ({ frames := 1, cells := 0, slots := 0, locals := 12 } : Room)
abbrev GM_rinit (l : Launch) (Z : State) (n0 : Nat) (Q : Option Value → Heap → Prop) (h : Heap) (cells slots pc : Nat) (Ls : Array Slot) (st : List Value) : Prop := Go l Z n0 R_rinit "java/lang/Record" "<init>" jdk_30_method_1_code 1 none IN (FN n0 R_rinit Q) h cells slots pc Ls st
abbrev GW_rinit (l : Launch) (Z : State) (EL : List (String × Nat)) (s₀ : State) (n0 : Nat) (Q : Option Value → Heap → Prop) (lo : Nat) (Sf : List Addr) (h : Heap) (cells slots pc : Nat) (Ls : Array Slot) (st : List Value) : Prop := Go l Z n0 R_rinit "java/lang/Record" "<init>" jdk_30_method_1_code 1 none (IW Z EL s₀ lo Sf) (FW Z EL s₀ n0 R_rinit Q) h cells slots pc Ls st
theorem pf_rinit : plainFor (⟨"java/lang/Record", "<init>", "()V"⟩ : MethodName) = true := plainFor_of_name (by first | (simp [plainName, overriddenIn]; done) | decide +kernel)
theorem ct_rinit (l : Launch) (Z : State) (a0 : Array Value) (hw : ∀ d ∈ tables_1, d.before a0 Z = true) (n0 : Nat) (a : Addr) (h0 : Heap) : Ct l Z n0 "java/lang/Record" "<init>" "()V" [] jdk_30_method_1_code 1 none R_rinit #[.ref a] h0 (fun v h => v = none ∧ h0 = h) := by
  refine Ct.of_go pf_rinit (Ls := #[.val (.ref a)]) (fun m => by first | rfl | (simp [entryFrame, mkF, argsToLocals, Value.category]; done)) ?_
  show GM_rinit l Z n0 (fun v h => v = none ∧ h0 = h) h0 0 0 0 #[.val (.ref a)] []
  refine Go.aloadN d_rinit_0 rfl rfl ?_
  refine Go.initO (wd_54 hw) (wd_25 hw) (wd_26 hw) d_rinit_1 rfl (by decide) (Nat.le_of_ble_eq_true rfl) ?_
  -- at pc 4: pc 4: return .return_ stack []
  exact Go.return_ d_rinit_4 rfl (by decide) (by decide) ⟨rfl, rfl⟩
theorem d_mini_0 : decode prog_6_method_1_code 0 = .ok (.aload_n 0, 1) := by decide +kernel
theorem d_mini_1 : decode prog_6_method_1_code 1 = .ok (.invokespecial 1, 3) := by decide +kernel
theorem d_mini_4 : decode prog_6_method_1_code 4 = .ok (.aload_n 0, 1) := by decide +kernel
theorem d_mini_5 : decode prog_6_method_1_code 5 = .ok (.aload_n 1, 1) := by decide +kernel
theorem d_mini_6 : decode prog_6_method_1_code 6 = .ok (.putfield 7, 3) := by decide +kernel
theorem d_mini_9 : decode prog_6_method_1_code 9 = .ok (.aload_n 0, 1) := by decide +kernel
theorem d_mini_10 : decode prog_6_method_1_code 10 = .ok (.aload_n 2, 1) := by decide +kernel
theorem d_mini_11 : decode prog_6_method_1_code 11 = .ok (.putfield 13, 3) := by decide +kernel
theorem d_mini_14 : decode prog_6_method_1_code 14 = .ok (.aload_n 0, 1) := by decide +kernel
theorem d_mini_15 : decode prog_6_method_1_code 15 = .ok (.aload_n 3, 1) := by decide +kernel
theorem d_mini_16 : decode prog_6_method_1_code 16 = .ok (.putfield 16, 3) := by decide +kernel
theorem d_mini_19 : decode prog_6_method_1_code 19 = .ok (.return_, 1) := by decide +kernel
abbrev R_mini : Room := ({ frames := 2, cells := 0, slots := 0, locals := 24 } : Room)
abbrev GM_mini (l : Launch) (Z : State) (n0 : Nat) (Q : Option Value → Heap → Prop) (h : Heap) (cells slots pc : Nat) (Ls : Array Slot) (st : List Value) : Prop := Go l Z n0 R_mini "com/example/triplecast/triplecast/cli/MediaType" "<init>" prog_6_method_1_code 4 none IN (FN n0 R_mini Q) h cells slots pc Ls st
abbrev GW_mini (l : Launch) (Z : State) (EL : List (String × Nat)) (s₀ : State) (n0 : Nat) (Q : Option Value → Heap → Prop) (lo : Nat) (Sf : List Addr) (h : Heap) (cells slots pc : Nat) (Ls : Array Slot) (st : List Value) : Prop := Go l Z n0 R_mini "com/example/triplecast/triplecast/cli/MediaType" "<init>" prog_6_method_1_code 4 none (IW Z EL s₀ lo Sf) (FW Z EL s₀ n0 R_mini Q) h cells slots pc Ls st
theorem pf_mini : plainFor (⟨"com/example/triplecast/triplecast/cli/MediaType", "<init>", "(Ljava/lang/String;Ljava/lang/String;Ljava/util/Map;)V"⟩ : MethodName) = true := plainFor_of_name (by first | (simp [plainName, overriddenIn]; done) | decide +kernel)
theorem ct_mini (l : Launch) (Z : State) (a0 : Array Value) (hw : ∀ d ∈ tables_1, d.before a0 Z = true) (n0 : Nat) (a x1 x2 : Addr) (h0 : Heap) (g_a : n0 ≤ a) (E_a : Exa Z h0 a "com/example/triplecast/triplecast/cli/MediaType") (F1 : Fld Z h0 a "com/example/triplecast/triplecast/cli/MediaType" "type" "Ljava/lang/String;" .null) (F2 : Fld Z h0 a "com/example/triplecast/triplecast/cli/MediaType" "subtype" "Ljava/lang/String;" .null) (F3 : Fld Z h0 a "com/example/triplecast/triplecast/cli/MediaType" "parameters" "Ljava/util/Map;" .null) :
    Ct l Z n0 "com/example/triplecast/triplecast/cli/MediaType" "<init>" "(Ljava/lang/String;Ljava/lang/String;Ljava/util/Map;)V" [] prog_6_method_1_code 4 none R_mini #[.ref a, .ref x1, .ref x2, .null] h0 (fun v h => v = none ∧ Keep h0 h [a] ∧ Fld Z h a "com/example/triplecast/triplecast/cli/MediaType" "type" "Ljava/lang/String;" (.ref x1) ∧ Fld Z h a "com/example/triplecast/triplecast/cli/MediaType" "subtype" "Ljava/lang/String;" (.ref x2)) := by
  refine Ct.of_go pf_mini (Ls := #[.val (.ref a), .val (.ref x1), .val (.ref x2), .val .null]) (fun m => by first | rfl | (simp [entryFrame, mkF, argsToLocals, Value.category]; done)) ?_
  show GM_mini l Z n0 (fun v h => v = none ∧ Keep h0 h [a] ∧ Fld Z h a "com/example/triplecast/triplecast/cli/MediaType" "type" "Ljava/lang/String;" (.ref x1) ∧ Fld Z h a "com/example/triplecast/triplecast/cli/MediaType" "subtype" "Ljava/lang/String;" (.ref x2)) h0 0 0 0 #[.val (.ref a), .val (.ref x1), .val (.ref x2), .val .null] []
  have KK : Keep h0 h0 [a] := Keep.refl _ _
  refine Go.aloadN d_mini_0 rfl rfl ?_
  -- at pc 1: pc 1: invokespecial .invokespecial 1 stack [(.ref a)]
  refine Go.callI (I' := IN) (hI := nQ) a [] [] (ct_rinit l Z a0 hw n0 a _) (wd_49 hw) (wd_50 hw) (wd_52 hw) (wd_53 hw) (by decide) pd_18 rfl rfl rfl (Nat.le_of_ble_eq_true rfl) (Nat.le_of_ble_eq_true rfl) (Nat.le_of_ble_eq_true rfl) (Nat.le_of_ble_eq_true rfl) d_mini_1 ?_
  rintro _ _ ⟨rfl, rfl⟩
  show GM_mini l Z n0 (fun v h => v = none ∧ Keep h0 h [a] ∧ Fld Z h a "com/example/triplecast/triplecast/cli/MediaType" "type" "Ljava/lang/String;" (.ref x1) ∧ Fld Z h a "com/example/triplecast/triplecast/cli/MediaType" "subtype" "Ljava/lang/String;" (.ref x2)) h0 0 0 4 #[.val (.ref a), .val (.ref x1), .val (.ref x2), .val .null] []
  refine Go.aloadN d_mini_4 rfl rfl ?_
  refine Go.aloadN d_mini_5 rfl rfl ?_
  refine Go.putF (I' := IN) (hI := nI) (wd_55 hw) Via.refl F1 E_a (Or.inr ⟨(wd_56 hw), rfl, rfl⟩) (wd_9 hw) (ty := (.object "java/lang/String")) (by decide) rfl rfl g_a d_mini_6 fun hp39 W39 => ?_
  have K39 := Keep.of_wr W39
  replace F1 := F1.same W39
  replace F2 := F2.other W39 (Or.inr (slot_ne (Or.inr (wd_58 hw)) (Or.inr (wd_56 hw)) (by decide) (t := (.object "java/lang/String")) (t' := (.object "java/lang/String")) (by decide) (by decide)))
  replace F3 := F3.other W39 (Or.inr (slot_ne (Or.inr (wd_60 hw)) (Or.inr (wd_56 hw)) (by decide) (t := (.object "java/util/Map")) (t' := (.object "java/lang/String")) (by decide) (by decide)))
  replace E_a := E_a.keep K39
  replace KK : Keep h0 hp39 [a] := KK.trans K39 (allS (Or.inl (by simp)) (all0))
  refine Go.aloadN d_mini_9 rfl rfl ?_
  refine Go.aloadN d_mini_10 rfl rfl ?_
  refine Go.putF (I' := IN) (hI := nI) (wd_57 hw) Via.refl F2 E_a (Or.inr ⟨(wd_58 hw), rfl, rfl⟩) (wd_9 hw) (ty := (.object "java/lang/String")) (by decide) rfl rfl g_a d_mini_11 fun hp40 W40 => ?_
  have K40 := Keep.of_wr W40
  replace F1 := F1.other W40 (Or.inr (slot_ne (Or.inr (wd_56 hw)) (Or.inr (wd_58 hw)) (by decide) (t := (.object "java/lang/String")) (t' := (.object "java/lang/String")) (by decide) (by decide)))
  replace F2 := F2.same W40
  replace F3 := F3.other W40 (Or.inr (slot_ne (Or.inr (wd_60 hw)) (Or.inr (wd_58 hw)) (by decide) (t := (.object "java/util/Map")) (t' := (.object "java/lang/String")) (by decide) (by decide)))
  replace E_a := E_a.keep K40
  replace KK : Keep h0 hp40 [a] := KK.trans K40 (allS (Or.inl (by simp)) (all0))
  refine Go.aloadN d_mini_14 rfl rfl ?_
  refine Go.aloadN d_mini_15 rfl rfl ?_
  refine Go.putF (I' := IN) (hI := nI) (wd_59 hw) Via.refl F3 E_a (Or.inr ⟨(wd_60 hw), rfl, rfl⟩) (wd_9 hw) (ty := (.object "java/util/Map")) (by decide) rfl rfl g_a d_mini_16 fun hp41 W41 => ?_
  have K41 := Keep.of_wr W41
  replace F1 := F1.other W41 (Or.inr (slot_ne (Or.inr (wd_56 hw)) (Or.inr (wd_60 hw)) (by decide) (t := (.object "java/lang/String")) (t' := (.object "java/util/Map")) (by decide) (by decide)))
  replace F2 := F2.other W41 (Or.inr (slot_ne (Or.inr (wd_58 hw)) (Or.inr (wd_60 hw)) (by decide) (t := (.object "java/lang/String")) (t' := (.object "java/util/Map")) (by decide) (by decide)))
  replace F3 := F3.same W41
  replace E_a := E_a.keep K41
  replace KK : Keep h0 hp41 [a] := KK.trans K41 (allS (Or.inl (by simp)) (all0))
  -- at pc 19: pc 19: return .return_ stack []
  exact Go.return_ d_mini_19 rfl (by decide) (by decide) ⟨rfl, KK, F1, F2⟩
theorem d_isM_0 : decode prog_6_method_5_code 0 = .ok (.aload_n 1, 1) := by decide +kernel
theorem d_isM_1 : decode prog_6_method_5_code 1 = .ok (.new 38, 3) := by decide +kernel
theorem d_isM_4 : decode prog_6_method_5_code 4 = .ok (.dup, 1) := by decide +kernel
theorem d_isM_5 : decode prog_6_method_5_code 5 = .ok (.invokespecial 40, 3) := by decide +kernel
theorem d_isM_8 : decode prog_6_method_5_code 8 = .ok (.aload_n 0, 1) := by decide +kernel
theorem d_isM_9 : decode prog_6_method_5_code 9 = .ok (.getfield 7, 3) := by decide +kernel
theorem d_isM_12 : decode prog_6_method_5_code 12 = .ok (.invokevirtual 43, 3) := by decide +kernel
theorem d_isM_15 : decode prog_6_method_5_code 15 = .ok (.ldc 86, 2) := by decide +kernel
theorem d_isM_17 : decode prog_6_method_5_code 17 = .ok (.invokevirtual 43, 3) := by decide +kernel
theorem d_isM_20 : decode prog_6_method_5_code 20 = .ok (.aload_n 0, 1) := by decide +kernel
theorem d_isM_21 : decode prog_6_method_5_code 21 = .ok (.getfield 13, 3) := by decide +kernel
theorem d_isM_24 : decode prog_6_method_5_code 24 = .ok (.invokevirtual 43, 3) := by decide +kernel
theorem d_isM_27 : decode prog_6_method_5_code 27 = .ok (.invokevirtual 47, 3) := by decide +kernel
theorem d_isM_30 : decode prog_6_method_5_code 30 = .ok (.invokevirtual 88, 3) := by decide +kernel
theorem d_isM_33 : decode prog_6_method_5_code 33 = .ok (.ireturn, 1) := by decide +kernel
abbrev R_isM : Room := ({ frames := 6, cells := 6, slots := 48, locals := 113 } : Room)
abbrev GM_isM (l : Launch) (Z : State) (n0 : Nat) (Q : Option Value → Heap → Prop) (h : Heap) (cells slots pc : Nat) (Ls : Array Slot) (st : List Value) : Prop := Go l Z n0 R_isM "com/example/triplecast/triplecast/cli/MediaType" "is" prog_6_method_5_code 2 (some .boolean) IN (FN n0 R_isM Q) h cells slots pc Ls st
abbrev GW_isM (l : Launch) (Z : State) (EL : List (String × Nat)) (s₀ : State) (n0 : Nat) (Q : Option Value → Heap → Prop) (lo : Nat) (Sf : List Addr) (h : Heap) (cells slots pc : Nat) (Ls : Array Slot) (st : List Value) : Prop := Go l Z n0 R_isM "com/example/triplecast/triplecast/cli/MediaType" "is" prog_6_method_5_code 2 (some .boolean) (IW Z EL s₀ lo Sf) (FW Z EL s₀ n0 R_isM Q) h cells slots pc Ls st
theorem pf_isM : plainFor (⟨"com/example/triplecast/triplecast/cli/MediaType", "is", "(Ljava/lang/String;)Z"⟩ : MethodName) = true := plainFor_of_name (by first | (simp [plainName, overriddenIn]; done) | decide +kernel)
set_option maxRecDepth 65536 in
set_option maxHeartbeats 4000000 in
theorem ctw_isM (l : Launch) (Z : State) (a0 : Array Value) (hw : ∀ d ∈ tables_1, d.before a0 Z = true) (n0 : Nat) (mt x1 x2 x3 t1 t2 t3 : Addr) (k1 k2 k3 : ClassId) (b1 b2 b3 : List Int32) (h0 : Heap) (hz : n0 ≤ h0.size) (O : Old Z n0 h0) (z : Int32) (S_cs : Sta Z Z.heap "java/lang/String" "COMPACT_STRINGS" "Z" (.int z)) (hcs : ¬ z = 0) (E_mt : Exa Z h0 mt "com/example/triplecast/triplecast/cli/MediaType") (F1 : Fld Z h0 mt "com/example/triplecast/triplecast/cli/MediaType" "type" "Ljava/lang/String;" (.ref x1)) (F2 : Fld Z h0 mt "com/example/triplecast/triplecast/cli/MediaType" "subtype" "Ljava/lang/String;" (.ref x2)) (B1 : Byt Z h0 x1 t1 k1 b1) (B2 : Byt Z h0 x2 t2 k2 b2) (B3 : Byt Z h0 x3 t3 k3 b3) (hl1 : b1.length ≤ 2) (hl2 : b2.length ≤ 2) (hl3 : b3.length ≤ 6) :
    CtW l Z EL n0 "com/example/triplecast/triplecast/cli/MediaType" "is" "(Ljava/lang/String;)Z" [] prog_6_method_5_code 2 (some .boolean) R_isM #[.ref mt, .ref x3] h0 [] (fun v h => v = some (.int (if b3 = ((([] ++ b1) ++ [47]) ++ b2) then (1 : Int32) else (0 : Int32))) ∧ Keep h0 h []) := by
  refine CtW.of_go pf_isM (Ls := #[.val (.ref mt), .val (.ref x3)]) (fun m => by first | rfl | (simp [entryFrame, mkF, argsToLocals, Value.category]; done)) fun s₀ => ?_
  have hlo : h0.size ≤ h0.size := Nat.le_refl _
  have hEL : EW Z a0 EL := ewEL hw
  show GW_isM l Z EL s₀ n0 (fun v h => v = some (.int (if b3 = ((([] ++ b1) ++ [47]) ++ b2) then (1 : Int32) else (0 : Int32))) ∧ Keep h0 h []) h0.size [] h0 0 0 0 #[.val (.ref mt), .val (.ref x3)] []
  have KK : Keep h0 h0 [] := Keep.refl _ _
  refine Go.aloadN d_isM_0 rfl rfl ?_
  -- at pc 1: pc 1: new .new 38 stack [(.ref x3)]
  refine Go.new (I' := IW Z EL s₀ h0.size []) (hI := wE) (wd_66 hw) (wd_67 hw) (wd_68 hw) d_isM_1 (by decide) (by decide) fun hp42 sb e_sb X42 E_sb D42 => ?_
  have K42 : Keep h0 hp42 [] := (Keep.refl _ _).ext X42
  have g_sb : n0 ≤ sb := e_sb ▸ hz
  have l_sb : h0.size ≤ sb := e_sb ▸ hlo
  have s_sb : h0.size ≤ sb := e_sb ▸ KK.1
  have ne_mt_sb : mt ≠ sb := Nat.ne_of_lt (e_sb ▸ E_mt.lt)
  have ne_x1_sb : x1 ≠ sb := Nat.ne_of_lt (e_sb ▸ B1.lt)
  have ne_t1_sb : t1 ≠ sb := Nat.ne_of_lt (e_sb ▸ B1.lt2)
  have ne_x2_sb : x2 ≠ sb := Nat.ne_of_lt (e_sb ▸ B2.lt)
  have ne_t2_sb : t2 ≠ sb := Nat.ne_of_lt (e_sb ▸ B2.lt2)
  have ne_x3_sb : x3 ≠ sb := Nat.ne_of_lt (e_sb ▸ B3.lt)
  have ne_t3_sb : t3 ≠ sb := Nat.ne_of_lt (e_sb ▸ B3.lt2)
  replace O := O.keep K42 (all0)
  replace E_mt := E_mt.keep K42
  replace F1 := F1.keep K42 nin0
  replace F2 := F2.keep K42 nin0
  replace B1 := B1.keep K42 nin0 nin0
  replace B2 := B2.keep K42 nin0 nin0
  replace B3 := B3.keep K42 nin0 nin0
  have F_sb_value : Fld Z hp42 sb "java/lang/AbstractStringBuilder" "value" "[B" .null := D42 (Or.inl (wd_81 hw)) (ty := (.array .byte)) (by decide)
  have F_sb_coder : Fld Z hp42 sb "java/lang/AbstractStringBuilder" "coder" "B" (.int (0 : Int32)) := D42 (Or.inl (wd_83 hw)) (ty := .byte) (by decide)
  have F_sb_count : Fld Z hp42 sb "java/lang/AbstractStringBuilder" "count" "I" (.int (0 : Int32)) := D42 (Or.inl (wd_105 hw)) (ty := .int) (by decide)
  replace hz : n0 ≤ hp42.size := Nat.le_trans hz K42.1
  replace hlo : h0.size ≤ hp42.size := Nat.le_trans hlo K42.1
  replace KK : Keep h0 hp42 [] := KK.trans K42 (all0)
  refine Go.dup d_isM_4 rfl ?_
  -- at pc 5: pc 5: invokespecial .invokespecial 40 stack [(.ref sb), (.ref sb), (.ref x3)]
  have hloA := hlo
  have KKA := KK
  have lt_mt := E_mt.lt
  have lt_sb := E_sb.lt
  have lt_x1 := B1.lt
  have lt_x2 := B2.lt
  have lt_x3 := B3.lt
  have lt_t1 := B1.lt2
  have lt_t2 := B2.lt2
  have lt_t3 := B3.lt2
  refine Go.callI (I' := IW Z EL s₀ h0.size []) (hI := wQ (ws := [sb]) (fun v h' q => by obtain ⟨rfl, K43, va, kv, g_va, sz_va, S1⟩ := q; exact K43) (allS (Sb.exa E_sb (by decide) (by decide)) all0)) sb [] [(.ref sb), (.ref x3)] (ct_sbi l Z a0 hw n0 sb _ hz O z S_cs hcs g_sb E_sb F_sb_value F_sb_coder F_sb_count) (wd_69 hw) (wd_70 hw) (wd_68 hw) (wd_71 hw) (by decide) pd_18 rfl rfl rfl (Nat.le_of_ble_eq_true rfl) (Nat.le_of_ble_eq_true rfl) (Nat.le_of_ble_eq_true rfl) (Nat.le_of_ble_eq_true rfl) d_isM_5 ?_
  rintro _ hp43 ⟨rfl, K43, va, kv, g_va, sz_va, S1⟩
  replace O := O.keep K43 (allS g_sb (all0))
  replace E_mt := E_mt.keep K43
  replace F1 := F1.keep K43 (ninS ne_mt_sb nin0)
  replace F2 := F2.keep K43 (ninS ne_mt_sb nin0)
  replace B1 := B1.keep K43 (ninS ne_x1_sb nin0) (ninS ne_t1_sb nin0)
  replace B2 := B2.keep K43 (ninS ne_x2_sb nin0) (ninS ne_t2_sb nin0)
  replace B3 := B3.keep K43 (ninS ne_x3_sb nin0) (ninS ne_t3_sb nin0)
  replace E_sb := E_sb.keep K43
  replace hz : n0 ≤ hp43.size := Nat.le_trans hz K43.1
  replace hlo : h0.size ≤ hp43.size := Nat.le_trans hlo K43.1
  replace KK : Keep h0 hp43 [] := KK.trans K43 (allS (Or.inr s_sb) (all0))
  show GW_isM l Z EL s₀ n0 (fun v h => v = some (.int (if b3 = ((([] ++ b1) ++ [47]) ++ b2) then (1 : Int32) else (0 : Int32))) ∧ Keep h0 h []) h0.size [] hp43 2 20 8 #[.val (.ref mt), .val (.ref x3)] [(.ref sb), (.ref x3)]
  have l_va : h0.size ≤ va := Nat.le_trans hloA sz_va
  have s_va : h0.size ≤ va := Nat.le_trans KKA.1 sz_va
  have ne_mt_va : mt ≠ va := (Nat.ne_of_lt (Nat.lt_of_lt_of_le lt_mt sz_va))
  have ne_sb_va : sb ≠ va := (Nat.ne_of_lt (Nat.lt_of_lt_of_le lt_sb sz_va))
  have ne_x1_va : x1 ≠ va := (Nat.ne_of_lt (Nat.lt_of_lt_of_le lt_x1 sz_va))
  have ne_x2_va : x2 ≠ va := (Nat.ne_of_lt (Nat.lt_of_lt_of_le lt_x2 sz_va))
  have ne_x3_va : x3 ≠ va := (Nat.ne_of_lt (Nat.lt_of_lt_of_le lt_x3 sz_va))
  have ne_t1_va : t1 ≠ va := (Nat.ne_of_lt (Nat.lt_of_lt_of_le lt_t1 sz_va))
  have ne_t2_va : t2 ≠ va := (Nat.ne_of_lt (Nat.lt_of_lt_of_le lt_t2 sz_va))
  have ne_t3_va : t3 ≠ va := (Nat.ne_of_lt (Nat.lt_of_lt_of_le lt_t3 sz_va))
  refine Go.aloadN d_isM_8 rfl rfl ?_
  refine Go.getF (wd_55 hw) Via.refl F1 d_isM_9 ?_
  -- at pc 12: pc 12: invokevirtual .invokevirtual 43 stack [(.ref x1), (.ref sb), (.ref x3)]
  refine Go.callV (I' := IW Z EL s₀ h0.size []) (hI := wQ (ws := [sb, va]) (fun v h' q => by obtain ⟨rfl, K44, S2⟩ := q; exact K44) (allS (Sb.exa E_sb (by decide) (by decide)) (allS (Sb.up l_va) all0))) sb [(.ref x1)] [(.ref x3)] (ct_ap l Z a0 hw n0 sb va x1 t1 kv k1 [] b1 _ O z S_cs hcs g_sb g_va ne_sb_va S1 B1 (by simp only [List.length_append, List.length_cons, List.length_nil]; omega)) E_sb (wd_84 hw) (wd_85 hw) (nf_sel (wd_87 hw)) (wd_87 hw) (wd_86 hw) (wd_68 hw) (wd_88 hw) (by decide) pd_19 rfl rfl rfl (Nat.le_of_ble_eq_true rfl) (Nat.le_of_ble_eq_true rfl) (Nat.le_of_ble_eq_true rfl) (Nat.le_of_ble_eq_true rfl) d_isM_12 ?_
  rintro _ hp44 ⟨rfl, K44, S2⟩
  replace O := O.keep K44 (allS g_sb (allS g_va (all0)))
  replace E_mt := E_mt.keep K44
  replace F1 := F1.keep K44 (ninS ne_mt_sb (ninS ne_mt_va nin0))
  replace F2 := F2.keep K44 (ninS ne_mt_sb (ninS ne_mt_va nin0))
  replace B1 := B1.keep K44 (ninS ne_x1_sb (ninS ne_x1_va nin0)) (ninS ne_t1_sb (ninS ne_t1_va nin0))
  replace B2 := B2.keep K44 (ninS ne_x2_sb (ninS ne_x2_va nin0)) (ninS ne_t2_sb (ninS ne_t2_va nin0))
  replace B3 := B3.keep K44 (ninS ne_x3_sb (ninS ne_x3_va nin0)) (ninS ne_t3_sb (ninS ne_t3_va nin0))
  replace E_sb := E_sb.keep K44
  replace hz : n0 ≤ hp44.size := Nat.le_trans hz K44.1
  replace hlo : h0.size ≤ hp44.size := Nat.le_trans hlo K44.1
  replace KK : Keep h0 hp44 [] := KK.trans K44 (allS (Or.inr s_sb) (allS (Or.inr s_va) (all0)))
  show GW_isM l Z EL s₀ n0 (fun v h => v = some (.int (if b3 = ((([] ++ b1) ++ [47]) ++ b2) then (1 : Int32) else (0 : Int32))) ∧ Keep h0 h []) h0.size [] hp44 2 20 15 #[.val (.ref mt), .val (.ref x3)] [(.ref sb), (.ref x3)]
  -- at pc 15: pc 15: ldc #86: no int constant
  refine GW.ldc [va] (vs := [(.int (47 : Int32))]) (z := 1) hEL (wSA hw) (wd_131 hw) (by decide) ⟨by decide, by decide⟩ (by decide) rfl d_isM_15 (n := 4) (by decide) (by decide) (by decide) (by decide) (allS ⟨Or.inl l_va, S2.lt2⟩ all0) fun hp45 a1 c1 k_c1 X45 E_a1 F_a1_coder F_a1_value V_c1 ns45 nx45 => ?_
  have K45 : Keep hp44 hp45 [] := (Keep.refl _ _).ext X45
  replace O := O.keep K45 (all0)
  replace E_mt := E_mt.keep K45
  replace F1 := F1.keep K45 nin0
  replace F2 := F2.keep K45 nin0
  replace B1 := B1.keep K45 nin0 nin0
  replace B2 := B2.keep K45 nin0 nin0
  replace B3 := B3.keep K45 nin0 nin0
  replace E_sb := E_sb.keep K45
  replace S2 := S2.keep K45 nin0 nin0
  replace hz : n0 ≤ hp45.size := Nat.le_trans hz K45.1
  replace hlo : h0.size ≤ hp45.size := Nat.le_trans hlo K45.1
  replace KK : Keep h0 hp45 [] := KK.trans K45 (all0)
  replace hlo : hp45.size ≤ hp45.size := Nat.le_refl _
  have ne_va_a1 : va ≠ a1 := (ns45 va (by simp)).1
  have ne_va_c1 : va ≠ c1 := (ns45 va (by simp)).2
  have ne_mt_a1 : mt ≠ a1 := (nx45 mt _ E_mt (by decide) (by decide)).1
  have ne_mt_c1 : mt ≠ c1 := (nx45 mt _ E_mt (by decide) (by decide)).2
  have ne_sb_a1 : sb ≠ a1 := (nx45 sb _ E_sb (by decide) (by decide)).1
  have ne_sb_c1 : sb ≠ c1 := (nx45 sb _ E_sb (by decide) (by decide)).2
  show GW_isM l Z EL s₀ n0 (fun v h => v = some (.int (if b3 = ((([] ++ b1) ++ [47]) ++ b2) then (1 : Int32) else (0 : Int32))) ∧ Keep h0 h []) hp45.size [va] hp45 4 28 17 #[.val (.ref mt), .val (.ref x3)] [(.ref a1), (.ref sb), (.ref x3)]
  -- at pc 17: pc 17: invokevirtual .invokevirtual 43 stack [(.ref a1), (.ref sb), (.ref x3)]
  refine Go.callV (I' := IW Z EL s₀ hp45.size [va]) (hI := wQ (ws := [sb, va]) (fun v h' q => by obtain ⟨rfl, K46, S3⟩ := q; exact K46) (allS (Sb.exa E_sb (by decide) (by decide)) (allS (Sb.mem (by simp)) all0))) sb [(.ref a1)] [(.ref x3)] (ct_ap l Z a0 hw n0 sb va a1 c1 kv k_c1 ([] ++ b1) [47] _ O z S_cs hcs g_sb g_va ne_sb_va S2 ⟨E_a1, F_a1_coder, F_a1_value, V_c1⟩ (by simp only [List.length_append, List.length_cons, List.length_nil]; omega)) E_sb (wd_84 hw) (wd_85 hw) (nf_sel (wd_87 hw)) (wd_87 hw) (wd_86 hw) (wd_68 hw) (wd_88 hw) (by decide) pd_19 rfl rfl rfl (Nat.le_of_ble_eq_true rfl) (Nat.le_of_ble_eq_true rfl) (Nat.le_of_ble_eq_true rfl) (Nat.le_of_ble_eq_true rfl) d_isM_17 ?_
  rintro _ hp46 ⟨rfl, K46, S3⟩
  replace O := O.keep K46 (allS g_sb (allS g_va (all0)))
  replace E_mt := E_mt.keep K46
  replace F1 := F1.keep K46 (ninS ne_mt_sb (ninS ne_mt_va nin0))
  replace F2 := F2.keep K46 (ninS ne_mt_sb (ninS ne_mt_va nin0))
  replace B1 := B1.keep K46 (ninS ne_x1_sb (ninS ne_x1_va nin0)) (ninS ne_t1_sb (ninS ne_t1_va nin0))
  replace B2 := B2.keep K46 (ninS ne_x2_sb (ninS ne_x2_va nin0)) (ninS ne_t2_sb (ninS ne_t2_va nin0))
  replace B3 := B3.keep K46 (ninS ne_x3_sb (ninS ne_x3_va nin0)) (ninS ne_t3_sb (ninS ne_t3_va nin0))
  replace E_sb := E_sb.keep K46
  replace E_a1 := E_a1.keep K46
  replace F_a1_coder := F_a1_coder.keep K46 (ninS (Ne.symm ne_sb_a1) (ninS (Ne.symm ne_va_a1) nin0))
  replace F_a1_value := F_a1_value.keep K46 (ninS (Ne.symm ne_sb_a1) (ninS (Ne.symm ne_va_a1) nin0))
  replace V_c1 := V_c1.keep K46 (ninS (Ne.symm ne_sb_c1) (ninS (Ne.symm ne_va_c1) nin0))
  replace hz : n0 ≤ hp46.size := Nat.le_trans hz K46.1
  replace hlo : hp45.size ≤ hp46.size := Nat.le_trans hlo K46.1
  replace KK : Keep h0 hp46 [] := KK.trans K46 (allS (Or.inr s_sb) (allS (Or.inr s_va) (all0)))
  show GW_isM l Z EL s₀ n0 (fun v h => v = some (.int (if b3 = ((([] ++ b1) ++ [47]) ++ b2) then (1 : Int32) else (0 : Int32))) ∧ Keep h0 h []) hp45.size [va] hp46 4 28 20 #[.val (.ref mt), .val (.ref x3)] [(.ref sb), (.ref x3)]
  refine Go.aloadN d_isM_20 rfl rfl ?_
  refine Go.getF (wd_57 hw) Via.refl F2 d_isM_21 ?_
  -- at pc 24: pc 24: invokevirtual .invokevirtual 43 stack [(.ref x2), (.ref sb), (.ref x3)]
  refine Go.callV (I' := IW Z EL s₀ hp45.size [va]) (hI := wQ (ws := [sb, va]) (fun v h' q => by obtain ⟨rfl, K47, S4⟩ := q; exact K47) (allS (Sb.exa E_sb (by decide) (by decide)) (allS (Sb.mem (by simp)) all0))) sb [(.ref x2)] [(.ref x3)] (ct_ap l Z a0 hw n0 sb va x2 t2 kv k2 (([] ++ b1) ++ [47]) b2 _ O z S_cs hcs g_sb g_va ne_sb_va S3 B2 (by simp only [List.length_append, List.length_cons, List.length_nil]; omega)) E_sb (wd_84 hw) (wd_85 hw) (nf_sel (wd_87 hw)) (wd_87 hw) (wd_86 hw) (wd_68 hw) (wd_88 hw) (by decide) pd_19 rfl rfl rfl (Nat.le_of_ble_eq_true rfl) (Nat.le_of_ble_eq_true rfl) (Nat.le_of_ble_eq_true rfl) (Nat.le_of_ble_eq_true rfl) d_isM_24 ?_
  rintro _ hp47 ⟨rfl, K47, S4⟩
  replace O := O.keep K47 (allS g_sb (allS g_va (all0)))
  replace E_mt := E_mt.keep K47
  replace F1 := F1.keep K47 (ninS ne_mt_sb (ninS ne_mt_va nin0))
  replace F2 := F2.keep K47 (ninS ne_mt_sb (ninS ne_mt_va nin0))
  replace B1 := B1.keep K47 (ninS ne_x1_sb (ninS ne_x1_va nin0)) (ninS ne_t1_sb (ninS ne_t1_va nin0))
  replace B2 := B2.keep K47 (ninS ne_x2_sb (ninS ne_x2_va nin0)) (ninS ne_t2_sb (ninS ne_t2_va nin0))
  replace B3 := B3.keep K47 (ninS ne_x3_sb (ninS ne_x3_va nin0)) (ninS ne_t3_sb (ninS ne_t3_va nin0))
  replace E_sb := E_sb.keep K47
  replace hz : n0 ≤ hp47.size := Nat.le_trans hz K47.1
  replace hlo : hp45.size ≤ hp47.size := Nat.le_trans hlo K47.1
  replace KK : Keep h0 hp47 [] := KK.trans K47 (allS (Or.inr s_sb) (allS (Or.inr s_va) (all0)))
  show GW_isM l Z EL s₀ n0 (fun v h => v = some (.int (if b3 = ((([] ++ b1) ++ [47]) ++ b2) then (1 : Int32) else (0 : Int32))) ∧ Keep h0 h []) hp45.size [va] hp47 4 28 27 #[.val (.ref mt), .val (.ref x3)] [(.ref sb), (.ref x3)]
  -- at pc 27: pc 27: invokevirtual .invokevirtual 47 stack [(.ref sb), (.ref x3)]
  have lt_x3b := B3.lt
  refine Go.callV (I' := IW Z EL s₀ hp45.size [va]) (hI := wQ (ws := []) (fun v h' q => by obtain ⟨r, t, k, rfl, K48, g1, g2, g3, g4, BR⟩ := q; exact K48) all0) sb [] [(.ref x3)] (ct_tos l Z a0 hw n0 sb va kv ((([] ++ b1) ++ [47]) ++ b2) _ hz O z S_cs hcs S4 (by simp only [List.length_append, List.length_cons, List.length_nil]; omega)) E_sb (wd_132 hw) (wd_133 hw) (nf_sel (wd_135 hw)) (wd_135 hw) (wd_134 hw) (wd_68 hw) (wd_136 hw) (by decide) pd_20 rfl rfl rfl (Nat.le_of_ble_eq_true rfl) (Nat.le_of_ble_eq_true rfl) (Nat.le_of_ble_eq_true rfl) (Nat.le_of_ble_eq_true rfl) d_isM_27 ?_
  rintro _ hp48 ⟨r, t, k, rfl, K48, g1, g2, g3, g4, BR⟩
  replace O := O.keep K48 (all0)
  replace E_mt := E_mt.keep K48
  replace F1 := F1.keep K48 nin0
  replace F2 := F2.keep K48 nin0
  replace B1 := B1.keep K48 nin0 nin0
  replace B2 := B2.keep K48 nin0 nin0
  replace B3 := B3.keep K48 nin0 nin0
  replace E_sb := E_sb.keep K48
  replace S4 := S4.keep K48 nin0 nin0
  replace hz : n0 ≤ hp48.size := Nat.le_trans hz K48.1
  replace hlo : hp45.size ≤ hp48.size := Nat.le_trans hlo K48.1
  replace KK : Keep h0 hp48 [] := KK.trans K48 (all0)
  show GW_isM l Z EL s₀ n0 (fun v h => v = some (.int (if b3 = ((([] ++ b1) ++ [47]) ++ b2) then (1 : Int32) else (0 : Int32))) ∧ Keep h0 h []) hp45.size [va] hp48 6 48 30 #[.val (.ref mt), .val (.ref x3)] [(.ref r), (.ref x3)]
  have E_x3 := B3.1
  -- at pc 30: pc 30: invokevirtual .invokevirtual 88 stack [(.ref r), (.ref x3)]
  refine Go.callV (I' := IW Z EL s₀ hp45.size [va]) (hI := wQ (ws := []) (fun v h' q => by obtain ⟨rfl, rfl⟩ := q; exact Keep.refl _ _) all0) x3 [(.ref r)] [] (ct_eqs l Z a0 hw n0 x3 r t3 t k3 k b3 ((([] ++ b1) ++ [47]) ++ b2) _ O z S_cs hcs (Nat.ne_of_lt (Nat.lt_of_lt_of_le lt_x3b g2)) B3 BR (by omega) (by simp only [List.length_append, List.length_cons, List.length_nil]; omega)) E_x3 (wd_177 hw) (wd_178 hw) (nf_sel (wd_180 hw)) (wd_180 hw) (wd_179 hw) (wd_16 hw) (wd_181 hw) (by decide) pd_21 rfl rfl rfl (Nat.le_of_ble_eq_true rfl) (Nat.le_of_ble_eq_true rfl) (Nat.le_of_ble_eq_true rfl) (Nat.le_of_ble_eq_true rfl) d_isM_30 ?_
  rintro _ _ ⟨rfl, rfl⟩
  show GW_isM l Z EL s₀ n0 (fun v h => v = some (.int (if b3 = ((([] ++ b1) ++ [47]) ++ b2) then (1 : Int32) else (0 : Int32))) ∧ Keep h0 h []) hp45.size [va] hp48 6 48 33 #[.val (.ref mt), .val (.ref x3)] [(.int (if b3 = ((([] ++ b1) ++ [47]) ++ b2) then (1 : Int32) else (0 : Int32)))]
  exact GW.nreturn .boolean hEL d_isM_33 rfl (by simp) (by decide) (by decide) ⟨by split <;> rfl, KK⟩

theorem d_strm_0 : decode method_5_code 0 = .ok (.iload_n 1, 1) := by decide +kernel
theorem d_strm_1 : decode method_5_code 1 = .ok (.ifCond .gt 6, 3) := by decide +kernel
theorem d_strm_4 : decode method_5_code 4 = .ok (.ldc 30, 2) := by decide +kernel
theorem d_strm_6 : decode method_5_code 6 = .ok (.areturn, 1) := by decide +kernel
theorem d_strm_7 : decode method_5_code 7 = .ok (.iload_n 1, 1) := by decide +kernel
theorem d_strm_8 : decode method_5_code 8 = .ok (.iconst 1, 1) := by decide +kernel
theorem d_strm_9 : decode method_5_code 9 = .ok (.if_icmp .ne 10, 3) := by decide +kernel
theorem d_strm_12 : decode method_5_code 12 = .ok (.aload_n 0, 1) := by decide +kernel
theorem d_strm_13 : decode method_5_code 13 = .ok (.iconst 0, 1) := by decide +kernel
theorem d_strm_14 : decode method_5_code 14 = .ok (.caload, 1) := by decide +kernel
theorem d_strm_15 : decode method_5_code 15 = .ok (.invokestatic 32, 3) := by decide +kernel
theorem d_strm_18 : decode method_5_code 18 = .ok (.areturn, 1) := by decide +kernel
theorem d_strm_19 : decode method_5_code 19 = .ok (.iload_n 1, 1) := by decide +kernel
theorem d_strm_20 : decode method_5_code 20 = .ok (.iconst 2, 1) := by decide +kernel
theorem d_strm_21 : decode method_5_code 21 = .ok (.if_icmp .ne 26, 3) := by decide +kernel
theorem d_strm_24 : decode method_5_code 24 = .ok (.new 33, 3) := by decide +kernel
theorem d_strm_27 : decode method_5_code 27 = .ok (.dup, 1) := by decide +kernel
theorem d_strm_28 : decode method_5_code 28 = .ok (.iconst 2, 1) := by decide +kernel
theorem d_strm_29 : decode method_5_code 29 = .ok (.newarray .char, 2) := by decide +kernel
theorem d_strm_31 : decode method_5_code 31 = .ok (.dup, 1) := by decide +kernel
theorem d_strm_32 : decode method_5_code 32 = .ok (.iconst 0, 1) := by decide +kernel
theorem d_strm_33 : decode method_5_code 33 = .ok (.aload_n 0, 1) := by decide +kernel
theorem d_strm_34 : decode method_5_code 34 = .ok (.iconst 0, 1) := by decide +kernel
theorem d_strm_35 : decode method_5_code 35 = .ok (.caload, 1) := by decide +kernel
theorem d_strm_36 : decode method_5_code 36 = .ok (.castore, 1) := by decide +kernel
theorem d_strm_37 : decode method_5_code 37 = .ok (.dup, 1) := by decide +kernel
theorem d_strm_38 : decode method_5_code 38 = .ok (.iconst 1, 1) := by decide +kernel
theorem d_strm_39 : decode method_5_code 39 = .ok (.aload_n 0, 1) := by decide +kernel
theorem d_strm_40 : decode method_5_code 40 = .ok (.iconst 1, 1) := by decide +kernel
theorem d_strm_41 : decode method_5_code 41 = .ok (.caload, 1) := by decide +kernel
theorem d_strm_42 : decode method_5_code 42 = .ok (.castore, 1) := by decide +kernel
theorem d_strm_43 : decode method_5_code 43 = .ok (.invokespecial 38, 3) := by decide +kernel
theorem d_strm_46 : decode method_5_code 46 = .ok (.areturn, 1) := by decide +kernel
theorem d_strm_47 : decode method_5_code 47 = .ok (.iload_n 1, 1) := by decide +kernel
theorem d_strm_48 : decode method_5_code 48 = .ok (.iconst 3, 1) := by decide +kernel
theorem d_strm_49 : decode method_5_code 49 = .ok (.if_icmp .ne 32, 3) := by decide +kernel
theorem d_strm_52 : decode method_5_code 52 = .ok (.new 33, 3) := by decide +kernel
theorem d_strm_55 : decode method_5_code 55 = .ok (.dup, 1) := by decide +kernel
theorem d_strm_56 : decode method_5_code 56 = .ok (.iconst 3, 1) := by decide +kernel
theorem d_strm_57 : decode method_5_code 57 = .ok (.newarray .char, 2) := by decide +kernel
theorem d_strm_59 : decode method_5_code 59 = .ok (.dup, 1) := by decide +kernel
theorem d_strm_60 : decode method_5_code 60 = .ok (.iconst 0, 1) := by decide +kernel
theorem d_strm_61 : decode method_5_code 61 = .ok (.aload_n 0, 1) := by decide +kernel
theorem d_strm_62 : decode method_5_code 62 = .ok (.iconst 0, 1) := by decide +kernel
theorem d_strm_63 : decode method_5_code 63 = .ok (.caload, 1) := by decide +kernel
theorem d_strm_64 : decode method_5_code 64 = .ok (.castore, 1) := by decide +kernel
theorem d_strm_65 : decode method_5_code 65 = .ok (.dup, 1) := by decide +kernel
theorem d_strm_66 : decode method_5_code 66 = .ok (.iconst 1, 1) := by decide +kernel
theorem d_strm_67 : decode method_5_code 67 = .ok (.aload_n 0, 1) := by decide +kernel
theorem d_strm_68 : decode method_5_code 68 = .ok (.iconst 1, 1) := by decide +kernel
theorem d_strm_69 : decode method_5_code 69 = .ok (.caload, 1) := by decide +kernel
theorem d_strm_70 : decode method_5_code 70 = .ok (.castore, 1) := by decide +kernel
theorem d_strm_71 : decode method_5_code 71 = .ok (.dup, 1) := by decide +kernel
theorem d_strm_72 : decode method_5_code 72 = .ok (.iconst 2, 1) := by decide +kernel
theorem d_strm_73 : decode method_5_code 73 = .ok (.aload_n 0, 1) := by decide +kernel
theorem d_strm_74 : decode method_5_code 74 = .ok (.iconst 2, 1) := by decide +kernel
theorem d_strm_75 : decode method_5_code 75 = .ok (.caload, 1) := by decide +kernel
theorem d_strm_76 : decode method_5_code 76 = .ok (.castore, 1) := by decide +kernel
theorem d_strm_77 : decode method_5_code 77 = .ok (.invokespecial 38, 3) := by decide +kernel
theorem d_strm_80 : decode method_5_code 80 = .ok (.areturn, 1) := by decide +kernel
theorem d_strm_81 : decode method_5_code 81 = .ok (.iload_n 1, 1) := by decide +kernel
theorem d_strm_82 : decode method_5_code 82 = .ok (.iconst 4, 1) := by decide +kernel
theorem d_strm_83 : decode method_5_code 83 = .ok (.if_icmp .ne 38, 3) := by decide +kernel
theorem d_strm_86 : decode method_5_code 86 = .ok (.new 33, 3) := by decide +kernel
theorem d_strm_89 : decode method_5_code 89 = .ok (.dup, 1) := by decide +kernel
theorem d_strm_90 : decode method_5_code 90 = .ok (.iconst 4, 1) := by decide +kernel
theorem d_strm_91 : decode method_5_code 91 = .ok (.newarray .char, 2) := by decide +kernel
theorem d_strm_93 : decode method_5_code 93 = .ok (.dup, 1) := by decide +kernel
theorem d_strm_94 : decode method_5_code 94 = .ok (.iconst 0, 1) := by decide +kernel
theorem d_strm_95 : decode method_5_code 95 = .ok (.aload_n 0, 1) := by decide +kernel
theorem d_strm_96 : decode method_5_code 96 = .ok (.iconst 0, 1) := by decide +kernel
theorem d_strm_97 : decode method_5_code 97 = .ok (.caload, 1) := by decide +kernel
theorem d_strm_98 : decode method_5_code 98 = .ok (.castore, 1) := by decide +kernel
theorem d_strm_99 : decode method_5_code 99 = .ok (.dup, 1) := by decide +kernel
theorem d_strm_100 : decode method_5_code 100 = .ok (.iconst 1, 1) := by decide +kernel
theorem d_strm_101 : decode method_5_code 101 = .ok (.aload_n 0, 1) := by decide +kernel
theorem d_strm_102 : decode method_5_code 102 = .ok (.iconst 1, 1) := by decide +kernel
theorem d_strm_103 : decode method_5_code 103 = .ok (.caload, 1) := by decide +kernel
theorem d_strm_104 : decode method_5_code 104 = .ok (.castore, 1) := by decide +kernel
theorem d_strm_105 : decode method_5_code 105 = .ok (.dup, 1) := by decide +kernel
theorem d_strm_106 : decode method_5_code 106 = .ok (.iconst 2, 1) := by decide +kernel
theorem d_strm_107 : decode method_5_code 107 = .ok (.aload_n 0, 1) := by decide +kernel
theorem d_strm_108 : decode method_5_code 108 = .ok (.iconst 2, 1) := by decide +kernel
theorem d_strm_109 : decode method_5_code 109 = .ok (.caload, 1) := by decide +kernel
theorem d_strm_110 : decode method_5_code 110 = .ok (.castore, 1) := by decide +kernel
theorem d_strm_111 : decode method_5_code 111 = .ok (.dup, 1) := by decide +kernel
theorem d_strm_112 : decode method_5_code 112 = .ok (.iconst 3, 1) := by decide +kernel
theorem d_strm_113 : decode method_5_code 113 = .ok (.aload_n 0, 1) := by decide +kernel
theorem d_strm_114 : decode method_5_code 114 = .ok (.iconst 3, 1) := by decide +kernel
theorem d_strm_115 : decode method_5_code 115 = .ok (.caload, 1) := by decide +kernel
theorem d_strm_116 : decode method_5_code 116 = .ok (.castore, 1) := by decide +kernel
theorem d_strm_117 : decode method_5_code 117 = .ok (.invokespecial 38, 3) := by decide +kernel
theorem d_strm_120 : decode method_5_code 120 = .ok (.areturn, 1) := by decide +kernel
theorem d_strm_121 : decode method_5_code 121 = .ok (.iload_n 1, 1) := by decide +kernel
theorem d_strm_122 : decode method_5_code 122 = .ok (.iconst 5, 1) := by decide +kernel
theorem d_strm_123 : decode method_5_code 123 = .ok (.if_icmp .ne 44, 3) := by decide +kernel
theorem d_strm_126 : decode method_5_code 126 = .ok (.new 33, 3) := by decide +kernel
theorem d_strm_129 : decode method_5_code 129 = .ok (.dup, 1) := by decide +kernel
theorem d_strm_130 : decode method_5_code 130 = .ok (.iconst 5, 1) := by decide +kernel
theorem d_strm_131 : decode method_5_code 131 = .ok (.newarray .char, 2) := by decide +kernel
theorem d_strm_133 : decode method_5_code 133 = .ok (.dup, 1) := by decide +kernel
theorem d_strm_134 : decode method_5_code 134 = .ok (.iconst 0, 1) := by decide +kernel
theorem d_strm_135 : decode method_5_code 135 = .ok (.aload_n 0, 1) := by decide +kernel
theorem d_strm_136 : decode method_5_code 136 = .ok (.iconst 0, 1) := by decide +kernel
theorem d_strm_137 : decode method_5_code 137 = .ok (.caload, 1) := by decide +kernel
theorem d_strm_138 : decode method_5_code 138 = .ok (.castore, 1) := by decide +kernel
theorem d_strm_139 : decode method_5_code 139 = .ok (.dup, 1) := by decide +kernel
theorem d_strm_140 : decode method_5_code 140 = .ok (.iconst 1, 1) := by decide +kernel
theorem d_strm_141 : decode method_5_code 141 = .ok (.aload_n 0, 1) := by decide +kernel
theorem d_strm_142 : decode method_5_code 142 = .ok (.iconst 1, 1) := by decide +kernel
theorem d_strm_143 : decode method_5_code 143 = .ok (.caload, 1) := by decide +kernel
theorem d_strm_144 : decode method_5_code 144 = .ok (.castore, 1) := by decide +kernel
theorem d_strm_145 : decode method_5_code 145 = .ok (.dup, 1) := by decide +kernel
theorem d_strm_146 : decode method_5_code 146 = .ok (.iconst 2, 1) := by decide +kernel
theorem d_strm_147 : decode method_5_code 147 = .ok (.aload_n 0, 1) := by decide +kernel
theorem d_strm_148 : decode method_5_code 148 = .ok (.iconst 2, 1) := by decide +kernel
theorem d_strm_149 : decode method_5_code 149 = .ok (.caload, 1) := by decide +kernel
theorem d_strm_150 : decode method_5_code 150 = .ok (.castore, 1) := by decide +kernel
theorem d_strm_151 : decode method_5_code 151 = .ok (.dup, 1) := by decide +kernel
theorem d_strm_152 : decode method_5_code 152 = .ok (.iconst 3, 1) := by decide +kernel
theorem d_strm_153 : decode method_5_code 153 = .ok (.aload_n 0, 1) := by decide +kernel
theorem d_strm_154 : decode method_5_code 154 = .ok (.iconst 3, 1) := by decide +kernel
theorem d_strm_155 : decode method_5_code 155 = .ok (.caload, 1) := by decide +kernel
theorem d_strm_156 : decode method_5_code 156 = .ok (.castore, 1) := by decide +kernel
theorem d_strm_157 : decode method_5_code 157 = .ok (.dup, 1) := by decide +kernel
theorem d_strm_158 : decode method_5_code 158 = .ok (.iconst 4, 1) := by decide +kernel
theorem d_strm_159 : decode method_5_code 159 = .ok (.aload_n 0, 1) := by decide +kernel
theorem d_strm_160 : decode method_5_code 160 = .ok (.iconst 4, 1) := by decide +kernel
theorem d_strm_161 : decode method_5_code 161 = .ok (.caload, 1) := by decide +kernel
theorem d_strm_162 : decode method_5_code 162 = .ok (.castore, 1) := by decide +kernel
theorem d_strm_163 : decode method_5_code 163 = .ok (.invokespecial 38, 3) := by decide +kernel
theorem d_strm_166 : decode method_5_code 166 = .ok (.areturn, 1) := by decide +kernel
theorem d_strm_167 : decode method_5_code 167 = .ok (.new 33, 3) := by decide +kernel
theorem d_strm_170 : decode method_5_code 170 = .ok (.dup, 1) := by decide +kernel
theorem d_strm_171 : decode method_5_code 171 = .ok (.bipush 6, 2) := by decide +kernel
theorem d_strm_173 : decode method_5_code 173 = .ok (.newarray .char, 2) := by decide +kernel
theorem d_strm_175 : decode method_5_code 175 = .ok (.dup, 1) := by decide +kernel
theorem d_strm_176 : decode method_5_code 176 = .ok (.iconst 0, 1) := by decide +kernel
theorem d_strm_177 : decode method_5_code 177 = .ok (.aload_n 0, 1) := by decide +kernel
theorem d_strm_178 : decode method_5_code 178 = .ok (.iconst 0, 1) := by decide +kernel
theorem d_strm_179 : decode method_5_code 179 = .ok (.caload, 1) := by decide +kernel
theorem d_strm_180 : decode method_5_code 180 = .ok (.castore, 1) := by decide +kernel
theorem d_strm_181 : decode method_5_code 181 = .ok (.dup, 1) := by decide +kernel
theorem d_strm_182 : decode method_5_code 182 = .ok (.iconst 1, 1) := by decide +kernel
theorem d_strm_183 : decode method_5_code 183 = .ok (.aload_n 0, 1) := by decide +kernel
theorem d_strm_184 : decode method_5_code 184 = .ok (.iconst 1, 1) := by decide +kernel
theorem d_strm_185 : decode method_5_code 185 = .ok (.caload, 1) := by decide +kernel
theorem d_strm_186 : decode method_5_code 186 = .ok (.castore, 1) := by decide +kernel
theorem d_strm_187 : decode method_5_code 187 = .ok (.dup, 1) := by decide +kernel
theorem d_strm_188 : decode method_5_code 188 = .ok (.iconst 2, 1) := by decide +kernel
theorem d_strm_189 : decode method_5_code 189 = .ok (.aload_n 0, 1) := by decide +kernel
theorem d_strm_190 : decode method_5_code 190 = .ok (.iconst 2, 1) := by decide +kernel
theorem d_strm_191 : decode method_5_code 191 = .ok (.caload, 1) := by decide +kernel
theorem d_strm_192 : decode method_5_code 192 = .ok (.castore, 1) := by decide +kernel
theorem d_strm_193 : decode method_5_code 193 = .ok (.dup, 1) := by decide +kernel
theorem d_strm_194 : decode method_5_code 194 = .ok (.iconst 3, 1) := by decide +kernel
theorem d_strm_195 : decode method_5_code 195 = .ok (.aload_n 0, 1) := by decide +kernel
theorem d_strm_196 : decode method_5_code 196 = .ok (.iconst 3, 1) := by decide +kernel
theorem d_strm_197 : decode method_5_code 197 = .ok (.caload, 1) := by decide +kernel
theorem d_strm_198 : decode method_5_code 198 = .ok (.castore, 1) := by decide +kernel
theorem d_strm_199 : decode method_5_code 199 = .ok (.dup, 1) := by decide +kernel
theorem d_strm_200 : decode method_5_code 200 = .ok (.iconst 4, 1) := by decide +kernel
theorem d_strm_201 : decode method_5_code 201 = .ok (.aload_n 0, 1) := by decide +kernel
theorem d_strm_202 : decode method_5_code 202 = .ok (.iconst 4, 1) := by decide +kernel
theorem d_strm_203 : decode method_5_code 203 = .ok (.caload, 1) := by decide +kernel
theorem d_strm_204 : decode method_5_code 204 = .ok (.castore, 1) := by decide +kernel
theorem d_strm_205 : decode method_5_code 205 = .ok (.dup, 1) := by decide +kernel
theorem d_strm_206 : decode method_5_code 206 = .ok (.iconst 5, 1) := by decide +kernel
theorem d_strm_207 : decode method_5_code 207 = .ok (.aload_n 0, 1) := by decide +kernel
theorem d_strm_208 : decode method_5_code 208 = .ok (.iconst 5, 1) := by decide +kernel
theorem d_strm_209 : decode method_5_code 209 = .ok (.caload, 1) := by decide +kernel
theorem d_strm_210 : decode method_5_code 210 = .ok (.castore, 1) := by decide +kernel
theorem d_strm_211 : decode method_5_code 211 = .ok (.invokespecial 38, 3) := by decide +kernel
theorem d_strm_214 : decode method_5_code 214 = .ok (.areturn, 1) := by decide +kernel
abbrev R_strm : Room := ({ frames := 4, cells := 3, slots := 16, locals := 66 } : Room)
abbrev GM_strm (l : Launch) (Z : State) (n0 : Nat) (Q : Option Value → Heap → Prop) (h : Heap) (cells slots pc : Nat) (Ls : Array Slot) (st : List Value) : Prop := Go l Z n0 R_strm "com/example/triplecast/triplecast/cli/MediaTypeIsPinLaw" "str" method_5_code 2 (some (.object "java/lang/String")) IN (FN n0 R_strm Q) h cells slots pc Ls st
abbrev GW_strm (l : Launch) (Z : State) (EL : List (String × Nat)) (s₀ : State) (n0 : Nat) (Q : Option Value → Heap → Prop) (lo : Nat) (Sf : List Addr) (h : Heap) (cells slots pc : Nat) (Ls : Array Slot) (st : List Value) : Prop := Go l Z n0 R_strm "com/example/triplecast/triplecast/cli/MediaTypeIsPinLaw" "str" method_5_code 2 (some (.object "java/lang/String")) (IW Z EL s₀ lo Sf) (FW Z EL s₀ n0 R_strm Q) h cells slots pc Ls st
theorem pf_strm : plainFor (⟨"com/example/triplecast/triplecast/cli/MediaTypeIsPinLaw", "str", "([CI)Ljava/lang/String;"⟩ : MethodName) = true := plainFor_of_name (by first | (simp [plainName, overriddenIn]; done) | decide +kernel)
set_option maxRecDepth 65536 in
set_option maxHeartbeats 4000000 in
theorem ctw_str0 (l : Launch) (Z : State) (a0 : Array Value) (hw : ∀ d ∈ tables_1, d.before a0 Z = true) (n0 : Nat) (sr : Addr) (ks : ClassId) (N : Int32) (vs : List Value) (h0 : Heap) (hz : n0 ≤ h0.size) (O : Old Z n0 h0) (z : Int32) (S_cs : Sta Z Z.heap "java/lang/String" "COMPACT_STRINGS" "Z" (.int z)) (hcs : ¬ z = 0) (V_sr : Arv Z h0 sr ks .char N vs (.int (0 : Int32))) :
    CtW l Z EL n0 "com/example/triplecast/triplecast/cli/MediaTypeIsPinLaw" "str" "([CI)Ljava/lang/String;" [] method_5_code 2 (some (.object "java/lang/String")) R_strm #[.ref sr, .int (0 : Int32)] h0 [] (fun v h => ∃ (s t : Addr) (k : ClassId), v = some (.ref s) ∧ Keep h0 h [] ∧ Byt Z h s t k ([].map own_b)) := by
  refine CtW.of_go pf_strm (Ls := #[.val (.ref sr), .val (.int (0 : Int32))]) (fun m => by first | rfl | (simp [entryFrame, mkF, argsToLocals, Value.category]; done)) fun s₀ => ?_
  have hlo : h0.size ≤ h0.size := Nat.le_refl _
  have hEL : EW Z a0 EL := ewEL hw
  show GW_strm l Z EL s₀ n0 (fun v h => ∃ (s t : Addr) (k : ClassId), v = some (.ref s) ∧ Keep h0 h [] ∧ Byt Z h s t k ([].map own_b)) h0.size [] h0 0 0 0 #[.val (.ref sr), .val (.int (0 : Int32))] []
  have KK : Keep h0 h0 [] := Keep.refl _ _
  refine Go.iloadN d_strm_0 rfl ?_
  -- at pc 1: pc 1: ifCond .ifCond .gt 6 stack [(.int (0 : Int32))]
  -- not: (0 : Int32) < (0 : Int32)
  refine Go.ifF d_strm_1 (flt (by decide)).2.2.1 ?_
  -- at pc 4: pc 4: ldc #30: no int constant
  refine GW.ldc [] (vs := []) (z := 0) hEL (wSA hw) (wd_43 hw) (by decide) ⟨by decide, by decide⟩ (by decide) rfl d_strm_4 (n := 0) (by decide) (by decide) (by decide) (by decide) all0 fun hp50 la lb k_lb X50 E_la F_la_coder F_la_value V_lb ns50 nx50 => ?_
  have K50 : Keep h0 hp50 [] := (Keep.refl _ _).ext X50
  replace O := O.keep K50 (all0)
  replace V_sr := V_sr.keep K50 nin0
  replace hz : n0 ≤ hp50.size := Nat.le_trans hz K50.1
  replace hlo : h0.size ≤ hp50.size := Nat.le_trans hlo K50.1
  replace KK : Keep h0 hp50 [] := KK.trans K50 (all0)
  replace hlo : hp50.size ≤ hp50.size := Nat.le_refl _
  show GW_strm l Z EL s₀ n0 (fun v h => ∃ (s t : Addr) (k : ClassId), v = some (.ref s) ∧ Keep h0 h [] ∧ Byt Z h s t k ([].map own_b)) hp50.size [] hp50 2 4 6 #[.val (.ref sr), .val (.int (0 : Int32))] [(.ref la)]
  -- at pc 6: pc 6: areturn .areturn stack [(.ref la)]
  exact GW.areturn hEL d_strm_6 rfl rfl rfl (by decide) (by decide) ⟨la, lb, k_lb, rfl, KK, E_la, F_la_coder, F_la_value, V_lb⟩
set_option maxRecDepth 65536 in
set_option maxHeartbeats 4000000 in
theorem ctw_str1 (l : Launch) (Z : State) (a0 : Array Value) (hw : ∀ d ∈ tables_1, d.before a0 Z = true) (n0 : Nat) (sr : Addr) (ks : ClassId) (N : Int32) (vs : List Value) (c0 : Int32) (h0 : Heap) (hz : n0 ≤ h0.size) (O : Old Z n0 h0) (z : Int32) (S_cs : Sta Z Z.heap "java/lang/String" "COMPACT_STRINGS" "Z" (.int z)) (hcs : ¬ z = 0) (V_sr : Arv Z h0 sr ks .char N vs (.int (0 : Int32))) (r0 : vs.getD 0 (.int (0 : Int32)) = .int c0) (hb0 : (0 : Int32) < N) (o0 : Ch c0) :
    CtW l Z EL n0 "com/example/triplecast/triplecast/cli/MediaTypeIsPinLaw" "str" "([CI)Ljava/lang/String;" [] method_5_code 2 (some (.object "java/lang/String")) R_strm #[.ref sr, .int (1 : Int32)] h0 [] (fun v h => ∃ (s t : Addr) (k : ClassId), v = some (.ref s) ∧ Keep h0 h [] ∧ Byt Z h s t k ([c0].map own_b)) := by
  refine CtW.of_go pf_strm (Ls := #[.val (.ref sr), .val (.int (1 : Int32))]) (fun m => by first | rfl | (simp [entryFrame, mkF, argsToLocals, Value.category]; done)) fun s₀ => ?_
  have hlo : h0.size ≤ h0.size := Nat.le_refl _
  have hEL : EW Z a0 EL := ewEL hw
  show GW_strm l Z EL s₀ n0 (fun v h => ∃ (s t : Addr) (k : ClassId), v = some (.ref s) ∧ Keep h0 h [] ∧ Byt Z h s t k ([c0].map own_b)) h0.size [] h0 0 0 0 #[.val (.ref sr), .val (.int (1 : Int32))] []
  have KK : Keep h0 h0 [] := Keep.refl _ _
  refine Go.iloadN d_strm_0 rfl ?_
  -- at pc 1: pc 1: ifCond .ifCond .gt 6 stack [(.int (1 : Int32))]
  -- (0 : Int32) < (1 : Int32)
  refine Go.ifT 7 d_strm_1 (tlt (by decide)).2.2.1 (by decide) (by decide) ?_
  refine Go.iloadN d_strm_7 rfl ?_
  refine Go.iconst 1 d_strm_8 rfl ?_
  -- at pc 9: pc 9: if_icmp .if_icmp .ne 10 stack [(.int (1 : Int32)), (.int (1 : Int32))]
  -- (1 : Int32) = (1 : Int32)
  refine Go.icF d_strm_9 (teq (rfl)).2 ?_
  refine Go.aloadN d_strm_12 rfl rfl ?_
  refine Go.iconst 0 d_strm_13 rfl ?_
  -- at pc 14: pc 14: caload of sr at (0 : Int32): '!aload value ; bounds ; getD'
  refine Go.caload (.int c0) V_sr ⟨by decide, hb0⟩ r0 d_strm_14 ?_
  -- at pc 15: pc 15: invokestatic .invokestatic 32 stack [(.int c0)]
  refine Go.callS (I' := IW Z EL s₀ h0.size []) (hI := wQ (ws := []) (fun v h' q => by obtain ⟨s, t, kt, rfl, K51, g1, s1, g2, s2, hS⟩ := q; exact K51) all0) [(.int c0)] [] (ct_vofc l Z a0 hw n0 c0 _ hz o0.r.2 O z S_cs hcs) (wd_187 hw) (wd_188 hw) (wd_16 hw) (wd_189 hw) (by decide) pd_22 rfl rfl rfl (Nat.le_of_ble_eq_true rfl) (Nat.le_of_ble_eq_true rfl) (Nat.le_of_ble_eq_true rfl) (Nat.le_of_ble_eq_true rfl) d_strm_15 ?_
  rintro _ hp51 ⟨s, t, kt, rfl, K51, g1, s1, g2, s2, hS⟩
  replace O := O.keep K51 (all0)
  replace V_sr := V_sr.keep K51 nin0
  replace hz : n0 ≤ hp51.size := Nat.le_trans hz K51.1
  replace hlo : h0.size ≤ hp51.size := Nat.le_trans hlo K51.1
  replace KK : Keep h0 hp51 [] := KK.trans K51 (all0)
  show GW_strm l Z EL s₀ n0 (fun v h => ∃ (s t : Addr) (k : ClassId), v = some (.ref s) ∧ Keep h0 h [] ∧ Byt Z h s t k ([c0].map own_b)) h0.size [] hp51 2 5 18 #[.val (.ref sr), .val (.int (1 : Int32))] [(.ref s)]
  -- at pc 18: pc 18: areturn .areturn stack [(.ref s)]
  exact GW.areturn hEL d_strm_18 rfl rfl rfl (by decide) (by decide) ⟨s, t, kt, rfl, KK, Byt.of hS⟩
set_option maxRecDepth 65536 in
set_option maxHeartbeats 4000000 in
theorem ctw_str2 (l : Launch) (Z : State) (a0 : Array Value) (hw : ∀ d ∈ tables_1, d.before a0 Z = true) (n0 : Nat) (sr : Addr) (ks : ClassId) (N : Int32) (vs : List Value) (c0 c1 : Int32) (h0 : Heap) (hz : n0 ≤ h0.size) (O : Old Z n0 h0) (z : Int32) (S_cs : Sta Z Z.heap "java/lang/String" "COMPACT_STRINGS" "Z" (.int z)) (hcs : ¬ z = 0) (V_sr : Arv Z h0 sr ks .char N vs (.int (0 : Int32))) (r0 : vs.getD 0 (.int (0 : Int32)) = .int c0) (hb0 : (0 : Int32) < N) (o0 : Ch c0) (r1 : vs.getD 1 (.int (0 : Int32)) = .int c1) (hb1 : (1 : Int32) < N) (o1 : Ch c1) :
    CtW l Z EL n0 "com/example/triplecast/triplecast/cli/MediaTypeIsPinLaw" "str" "([CI)Ljava/lang/String;" [] method_5_code 2 (some (.object "java/lang/String")) R_strm #[.ref sr, .int (2 : Int32)] h0 [] (fun v h => ∃ (s t : Addr) (k : ClassId), v = some (.ref s) ∧ Keep h0 h [] ∧ Byt Z h s t k ([c0, c1].map own_b)) := by
  refine CtW.of_go pf_strm (Ls := #[.val (.ref sr), .val (.int (2 : Int32))]) (fun m => by first | rfl | (simp [entryFrame, mkF, argsToLocals, Value.category]; done)) fun s₀ => ?_
  have hlo : h0.size ≤ h0.size := Nat.le_refl _
  have hEL : EW Z a0 EL := ewEL hw
  show GW_strm l Z EL s₀ n0 (fun v h => ∃ (s t : Addr) (k : ClassId), v = some (.ref s) ∧ Keep h0 h [] ∧ Byt Z h s t k ([c0, c1].map own_b)) h0.size [] h0 0 0 0 #[.val (.ref sr), .val (.int (2 : Int32))] []
  have KK : Keep h0 h0 [] := Keep.refl _ _
  refine Go.iloadN d_strm_0 rfl ?_
  -- at pc 1: pc 1: ifCond .ifCond .gt 6 stack [(.int (2 : Int32))]
  -- (0 : Int32) < (2 : Int32)
  refine Go.ifT 7 d_strm_1 (tlt (by decide)).2.2.1 (by decide) (by decide) ?_
  refine Go.iloadN d_strm_7 rfl ?_
  refine Go.iconst 1 d_strm_8 rfl ?_
  -- at pc 9: pc 9: if_icmp .if_icmp .ne 10 stack [(.int (1 : Int32)), (.int (2 : Int32))]
  -- not: (2 : Int32) = (1 : Int32)
  refine Go.icT 19 d_strm_9 (feq (by decide)).2 (by decide) (by decide) ?_
  refine Go.iloadN d_strm_19 rfl ?_
  refine Go.iconst 2 d_strm_20 rfl ?_
  -- at pc 21: pc 21: if_icmp .if_icmp .ne 26 stack [(.int (2 : Int32)), (.int (2 : Int32))]
  -- (2 : Int32) = (2 : Int32)
  refine Go.icF d_strm_21 (teq (rfl)).2 ?_
  -- at pc 24: pc 24: new .new 33 stack []
  refine Go.new (I' := IW Z EL s₀ h0.size []) (hI := wE) (wd_14 hw) (wd_15 hw) (wd_16 hw) d_strm_24 (by decide) (by decide) fun hp52 s e_s X52 E_s D52 => ?_
  have K52 : Keep h0 hp52 [] := (Keep.refl _ _).ext X52
  have g_s : n0 ≤ s := e_s ▸ hz
  have l_s : h0.size ≤ s := e_s ▸ hlo
  have s_s : h0.size ≤ s := e_s ▸ KK.1
  have ne_sr_s : sr ≠ s := Nat.ne_of_lt (e_s ▸ V_sr.lt)
  replace O := O.keep K52 (all0)
  replace V_sr := V_sr.keep K52 nin0
  have F_s_coder : Fld Z hp52 s "java/lang/String" "coder" "B" (.int (0 : Int32)) := D52 (Or.inr (wd_40 hw)) (ty := .byte) (by decide)
  have F_s_value : Fld Z hp52 s "java/lang/String" "value" "[B" .null := D52 (Or.inr (wd_42 hw)) (ty := (.array .byte)) (by decide)
  replace hz : n0 ≤ hp52.size := Nat.le_trans hz K52.1
  replace hlo : h0.size ≤ hp52.size := Nat.le_trans hlo K52.1
  replace KK : Keep h0 hp52 [] := KK.trans K52 (all0)
  refine Go.dup d_strm_27 rfl ?_
  refine Go.iconst 2 d_strm_28 rfl ?_
  -- at pc 29: pc 29: newarray .newarray .char stack [(.int (2 : Int32)), (.ref s), (.ref s)]
  refine Go.newP (I' := IW Z EL s₀ h0.size []) (hI := wE) .char (wd_0 hw) rfl d_strm_29 (by decide) 2 (by decide) (by decide) (by decide) (by decide) fun hp53 b k_b e_b X53 V_b => ?_
  have K53 : Keep hp52 hp53 [] := (Keep.refl _ _).ext X53
  have g_b : n0 ≤ b := e_b ▸ hz
  have l_b : h0.size ≤ b := e_b ▸ hlo
  have s_b : h0.size ≤ b := e_b ▸ KK.1
  have ne_sr_b : sr ≠ b := Nat.ne_of_lt (e_b ▸ V_sr.lt)
  have ne_s_b : s ≠ b := Nat.ne_of_lt (e_b ▸ E_s.lt)
  replace O := O.keep K53 (all0)
  replace V_sr := V_sr.keep K53 nin0
  replace E_s := E_s.keep K53
  replace F_s_coder := F_s_coder.keep K53 nin0
  replace F_s_value := F_s_value.keep K53 nin0
  replace V_b : Arv Z hp53 b k_b .char (2 : Int32) [(.int (0 : Int32)), (.int (0 : Int32))] (.int (0 : Int32)) := V_b.pad (pad_rep [] (.int (0 : Int32)) 2)
  replace hz : n0 ≤ hp53.size := Nat.le_trans hz K53.1
  replace hlo : h0.size ≤ hp53.size := Nat.le_trans hlo K53.1
  replace KK : Keep h0 hp53 [] := KK.trans K53 (all0)
  refine Go.dup d_strm_31 rfl ?_
  refine Go.iconst 0 d_strm_32 rfl ?_
  refine Go.aloadN d_strm_33 rfl rfl ?_
  refine Go.iconst 0 d_strm_34 rfl ?_
  -- at pc 35: pc 35: caload of sr at (0 : Int32): '!aload value ; bounds ; getD'
  refine Go.caload (.int c0) V_sr ⟨by decide, hb0⟩ r0 d_strm_35 ?_
  refine Go.castore (I' := IW Z EL s₀ h0.size []) (hI := wI (Sb.arv V_b (by decide))) V_b ⟨by decide, by decide⟩ g_b 0 rfl (Nat.le_of_ble_eq_true rfl) d_strm_36 fun hp54 K54 V_b_n => ?_
  replace V_b : Arv Z hp54 b k_b .char (2 : Int32) [(.int (nar .char c0)), (.int (0 : Int32))] (.int (0 : Int32)) := V_b_n
  replace O := O.keep K54 (allS g_b (all0))
  replace V_sr := V_sr.keep K54 (ninS ne_sr_b nin0)
  replace E_s := E_s.keep K54
  replace F_s_coder := F_s_coder.keep K54 (ninS ne_s_b nin0)
  replace F_s_value := F_s_value.keep K54 (ninS ne_s_b nin0)
  replace hz : n0 ≤ hp54.size := Nat.le_trans hz K54.1
  replace hlo : h0.size ≤ hp54.size := Nat.le_trans hlo K54.1
  replace KK : Keep h0 hp54 [] := KK.trans K54 (allS (Or.inr s_b) (all0))
  refine Go.dup d_strm_37 rfl ?_
  refine Go.iconst 1 d_strm_38 rfl ?_
  refine Go.aloadN d_strm_39 rfl rfl ?_
  refine Go.iconst 1 d_strm_40 rfl ?_
  -- at pc 41: pc 41: caload of sr at (1 : Int32): '!aload value ; bounds ; getD'
  refine Go.caload (.int c1) V_sr ⟨by decide, hb1⟩ r1 d_strm_41 ?_
  refine Go.castore (I' := IW Z EL s₀ h0.size []) (hI := wI (Sb.arv V_b (by decide))) V_b ⟨by decide, by decide⟩ g_b 1 rfl (Nat.le_of_ble_eq_true rfl) d_strm_42 fun hp55 K55 V_b_n => ?_
  replace V_b : Arv Z hp55 b k_b .char (2 : Int32) [(.int (nar .char c0)), (.int (nar .char c1))] (.int (0 : Int32)) := V_b_n
  replace O := O.keep K55 (allS g_b (all0))
  replace V_sr := V_sr.keep K55 (ninS ne_sr_b nin0)
  replace E_s := E_s.keep K55
  replace F_s_coder := F_s_coder.keep K55 (ninS ne_s_b nin0)
  replace F_s_value := F_s_value.keep K55 (ninS ne_s_b nin0)
  replace hz : n0 ≤ hp55.size := Nat.le_trans hz K55.1
  replace hlo : h0.size ≤ hp55.size := Nat.le_trans hlo K55.1
  replace KK : Keep h0 hp55 [] := KK.trans K55 (allS (Or.inr s_b) (all0))
  -- at pc 43: pc 43: invokespecial .invokespecial 38 stack [(.ref b), (.ref s), (.ref s)]
  rw [o0.nar, o1.nar] at V_b
  refine Go.callIP (I' := IW Z EL s₀ h0.size []) (hI := wQ (ws := [s]) (fun v h' q => by obtain ⟨rfl, K56, hc, t, kt, q1, q2, q3, hv, ha⟩ := q; exact K56) (allS (Sb.up l_s) all0)) s [(.ref b)] [(.ref s)] (pay_new hw (W := 1) (wd_15 hw) [c0, c1] g_s hz E_s F_s_value F_s_coder V_b (S_cs.ext O.2) hcs rfl (Nat.le_of_ble_eq_true rfl) (Nat.le_of_ble_eq_true rfl) (by intro c hc; simp only [List.mem_cons, List.not_mem_nil, or_false] at hc; rcases hc with rfl | rfl <;> first | exact o0.r | exact o1.r) (by decide) (by decide)) (wd_17 hw) (wd_18 hw) (wd_16 hw) (wd_19 hw) (by decide) pd_23 rfl rfl rfl (Nat.le_of_ble_eq_true rfl) (Nat.le_of_ble_eq_true rfl) (Nat.le_of_ble_eq_true rfl) d_strm_43 ?_
  rintro _ hp56 ⟨rfl, K56, hc, t, kt, q1, q2, q3, hv, ha⟩
  replace O := O.keep K56 (allS g_s (all0))
  replace V_sr := V_sr.keep K56 (ninS ne_sr_s nin0)
  replace E_s := E_s.keep K56
  replace V_b := V_b.keep K56 (ninS (Ne.symm ne_s_b) nin0)
  replace hz : n0 ≤ hp56.size := Nat.le_trans hz K56.1
  replace hlo : h0.size ≤ hp56.size := Nat.le_trans hlo K56.1
  replace KK : Keep h0 hp56 [] := KK.trans K56 (allS (Or.inr s_s) (all0))
  show GW_strm l Z EL s₀ n0 (fun v h => ∃ (s t : Addr) (k : ClassId), v = some (.ref s) ∧ Keep h0 h [] ∧ Byt Z h s t k ([c0, c1].map own_b)) h0.size [] hp56 3 8 46 #[.val (.ref sr), .val (.int (2 : Int32))] [(.ref s)]
  -- at pc 46: pc 46: areturn .areturn stack [(.ref s)]
  exact GW.areturn hEL d_strm_46 rfl rfl rfl (by decide) (by decide) ⟨s, t, kt, rfl, KK, Byt.of ⟨E_s, hc, hv, ha⟩⟩
set_option maxRecDepth 65536 in
set_option maxHeartbeats 4000000 in
theorem ctw_str3 (l : Launch) (Z : State) (a0 : Array Value) (hw : ∀ d ∈ tables_1, d.before a0 Z = true) (n0 : Nat) (sr : Addr) (ks : ClassId) (N : Int32) (vs : List Value) (c0 c1 c2 : Int32) (h0 : Heap) (hz : n0 ≤ h0.size) (O : Old Z n0 h0) (z : Int32) (S_cs : Sta Z Z.heap "java/lang/String" "COMPACT_STRINGS" "Z" (.int z)) (hcs : ¬ z = 0) (V_sr : Arv Z h0 sr ks .char N vs (.int (0 : Int32))) (r0 : vs.getD 0 (.int (0 : Int32)) = .int c0) (hb0 : (0 : Int32) < N) (o0 : Ch c0) (r1 : vs.getD 1 (.int (0 : Int32)) = .int c1) (hb1 : (1 : Int32) < N) (o1 : Ch c1) (r2 : vs.getD 2 (.int (0 : Int32)) = .int c2) (hb2 : (2 : Int32) < N) (o2 : Ch c2) :
    CtW l Z EL n0 "com/example/triplecast/triplecast/cli/MediaTypeIsPinLaw" "str" "([CI)Ljava/lang/String;" [] method_5_code 2 (some (.object "java/lang/String")) R_strm #[.ref sr, .int (3 : Int32)] h0 [] (fun v h => ∃ (s t : Addr) (k : ClassId), v = some (.ref s) ∧ Keep h0 h [] ∧ Byt Z h s t k ([c0, c1, c2].map own_b)) := by
  refine CtW.of_go pf_strm (Ls := #[.val (.ref sr), .val (.int (3 : Int32))]) (fun m => by first | rfl | (simp [entryFrame, mkF, argsToLocals, Value.category]; done)) fun s₀ => ?_
  have hlo : h0.size ≤ h0.size := Nat.le_refl _
  have hEL : EW Z a0 EL := ewEL hw
  show GW_strm l Z EL s₀ n0 (fun v h => ∃ (s t : Addr) (k : ClassId), v = some (.ref s) ∧ Keep h0 h [] ∧ Byt Z h s t k ([c0, c1, c2].map own_b)) h0.size [] h0 0 0 0 #[.val (.ref sr), .val (.int (3 : Int32))] []
  have KK : Keep h0 h0 [] := Keep.refl _ _
  refine Go.iloadN d_strm_0 rfl ?_
  -- at pc 1: pc 1: ifCond .ifCond .gt 6 stack [(.int (3 : Int32))]
  -- (0 : Int32) < (3 : Int32)
  refine Go.ifT 7 d_strm_1 (tlt (by decide)).2.2.1 (by decide) (by decide) ?_
  refine Go.iloadN d_strm_7 rfl ?_
  refine Go.iconst 1 d_strm_8 rfl ?_
  -- at pc 9: pc 9: if_icmp .if_icmp .ne 10 stack [(.int (1 : Int32)), (.int (3 : Int32))]
  -- not: (3 : Int32) = (1 : Int32)
  refine Go.icT 19 d_strm_9 (feq (by decide)).2 (by decide) (by decide) ?_
  refine Go.iloadN d_strm_19 rfl ?_
  refine Go.iconst 2 d_strm_20 rfl ?_
  -- at pc 21: pc 21: if_icmp .if_icmp .ne 26 stack [(.int (2 : Int32)), (.int (3 : Int32))]
  -- not: (3 : Int32) = (2 : Int32)
  refine Go.icT 47 d_strm_21 (feq (by decide)).2 (by decide) (by decide) ?_
  refine Go.iloadN d_strm_47 rfl ?_
  refine Go.iconst 3 d_strm_48 rfl ?_
  -- at pc 49: pc 49: if_icmp .if_icmp .ne 32 stack [(.int (3 : Int32)), (.int (3 : Int32))]
  -- (3 : Int32) = (3 : Int32)
  refine Go.icF d_strm_49 (teq (rfl)).2 ?_
  -- at pc 52: pc 52: new .new 33 stack []
  refine Go.new (I' := IW Z EL s₀ h0.size []) (hI := wE) (wd_14 hw) (wd_15 hw) (wd_16 hw) d_strm_52 (by decide) (by decide) fun hp57 s e_s X57 E_s D57 => ?_
  have K57 : Keep h0 hp57 [] := (Keep.refl _ _).ext X57
  have g_s : n0 ≤ s := e_s ▸ hz
  have l_s : h0.size ≤ s := e_s ▸ hlo
  have s_s : h0.size ≤ s := e_s ▸ KK.1
  have ne_sr_s : sr ≠ s := Nat.ne_of_lt (e_s ▸ V_sr.lt)
  replace O := O.keep K57 (all0)
  replace V_sr := V_sr.keep K57 nin0
  have F_s_coder : Fld Z hp57 s "java/lang/String" "coder" "B" (.int (0 : Int32)) := D57 (Or.inr (wd_40 hw)) (ty := .byte) (by decide)
  have F_s_value : Fld Z hp57 s "java/lang/String" "value" "[B" .null := D57 (Or.inr (wd_42 hw)) (ty := (.array .byte)) (by decide)
  replace hz : n0 ≤ hp57.size := Nat.le_trans hz K57.1
  replace hlo : h0.size ≤ hp57.size := Nat.le_trans hlo K57.1
  replace KK : Keep h0 hp57 [] := KK.trans K57 (all0)
  refine Go.dup d_strm_55 rfl ?_
  refine Go.iconst 3 d_strm_56 rfl ?_
  -- at pc 57: pc 57: newarray .newarray .char stack [(.int (3 : Int32)), (.ref s), (.ref s)]
  refine Go.newP (I' := IW Z EL s₀ h0.size []) (hI := wE) .char (wd_0 hw) rfl d_strm_57 (by decide) 3 (by decide) (by decide) (by decide) (by decide) fun hp58 b k_b e_b X58 V_b => ?_
  have K58 : Keep hp57 hp58 [] := (Keep.refl _ _).ext X58
  have g_b : n0 ≤ b := e_b ▸ hz
  have l_b : h0.size ≤ b := e_b ▸ hlo
  have s_b : h0.size ≤ b := e_b ▸ KK.1
  have ne_sr_b : sr ≠ b := Nat.ne_of_lt (e_b ▸ V_sr.lt)
  have ne_s_b : s ≠ b := Nat.ne_of_lt (e_b ▸ E_s.lt)
  replace O := O.keep K58 (all0)
  replace V_sr := V_sr.keep K58 nin0
  replace E_s := E_s.keep K58
  replace F_s_coder := F_s_coder.keep K58 nin0
  replace F_s_value := F_s_value.keep K58 nin0
  replace V_b : Arv Z hp58 b k_b .char (3 : Int32) [(.int (0 : Int32)), (.int (0 : Int32)), (.int (0 : Int32))] (.int (0 : Int32)) := V_b.pad (pad_rep [] (.int (0 : Int32)) 3)
  replace hz : n0 ≤ hp58.size := Nat.le_trans hz K58.1
  replace hlo : h0.size ≤ hp58.size := Nat.le_trans hlo K58.1
  replace KK : Keep h0 hp58 [] := KK.trans K58 (all0)
  refine Go.dup d_strm_59 rfl ?_
  refine Go.iconst 0 d_strm_60 rfl ?_
  refine Go.aloadN d_strm_61 rfl rfl ?_
  refine Go.iconst 0 d_strm_62 rfl ?_
  -- at pc 63: pc 63: caload of sr at (0 : Int32): '!aload value ; bounds ; getD'
  refine Go.caload (.int c0) V_sr ⟨by decide, hb0⟩ r0 d_strm_63 ?_
  refine Go.castore (I' := IW Z EL s₀ h0.size []) (hI := wI (Sb.arv V_b (by decide))) V_b ⟨by decide, by decide⟩ g_b 0 rfl (Nat.le_of_ble_eq_true rfl) d_strm_64 fun hp59 K59 V_b_n => ?_
  replace V_b : Arv Z hp59 b k_b .char (3 : Int32) [(.int (nar .char c0)), (.int (0 : Int32)), (.int (0 : Int32))] (.int (0 : Int32)) := V_b_n
  replace O := O.keep K59 (allS g_b (all0))
  replace V_sr := V_sr.keep K59 (ninS ne_sr_b nin0)
  replace E_s := E_s.keep K59
  replace F_s_coder := F_s_coder.keep K59 (ninS ne_s_b nin0)
  replace F_s_value := F_s_value.keep K59 (ninS ne_s_b nin0)
  replace hz : n0 ≤ hp59.size := Nat.le_trans hz K59.1
  replace hlo : h0.size ≤ hp59.size := Nat.le_trans hlo K59.1
  replace KK : Keep h0 hp59 [] := KK.trans K59 (allS (Or.inr s_b) (all0))
  refine Go.dup d_strm_65 rfl ?_
  refine Go.iconst 1 d_strm_66 rfl ?_
  refine Go.aloadN d_strm_67 rfl rfl ?_
  refine Go.iconst 1 d_strm_68 rfl ?_
  -- at pc 69: pc 69: caload of sr at (1 : Int32): '!aload value ; bounds ; getD'
  refine Go.caload (.int c1) V_sr ⟨by decide, hb1⟩ r1 d_strm_69 ?_
  refine Go.castore (I' := IW Z EL s₀ h0.size []) (hI := wI (Sb.arv V_b (by decide))) V_b ⟨by decide, by decide⟩ g_b 1 rfl (Nat.le_of_ble_eq_true rfl) d_strm_70 fun hp60 K60 V_b_n => ?_
  replace V_b : Arv Z hp60 b k_b .char (3 : Int32) [(.int (nar .char c0)), (.int (nar .char c1)), (.int (0 : Int32))] (.int (0 : Int32)) := V_b_n
  replace O := O.keep K60 (allS g_b (all0))
  replace V_sr := V_sr.keep K60 (ninS ne_sr_b nin0)
  replace E_s := E_s.keep K60
  replace F_s_coder := F_s_coder.keep K60 (ninS ne_s_b nin0)
  replace F_s_value := F_s_value.keep K60 (ninS ne_s_b nin0)
  replace hz : n0 ≤ hp60.size := Nat.le_trans hz K60.1
  replace hlo : h0.size ≤ hp60.size := Nat.le_trans hlo K60.1
  replace KK : Keep h0 hp60 [] := KK.trans K60 (allS (Or.inr s_b) (all0))
  refine Go.dup d_strm_71 rfl ?_
  refine Go.iconst 2 d_strm_72 rfl ?_
  refine Go.aloadN d_strm_73 rfl rfl ?_
  refine Go.iconst 2 d_strm_74 rfl ?_
  -- at pc 75: pc 75: caload of sr at (2 : Int32): '!aload value ; bounds ; getD'
  refine Go.caload (.int c2) V_sr ⟨by decide, hb2⟩ r2 d_strm_75 ?_
  refine Go.castore (I' := IW Z EL s₀ h0.size []) (hI := wI (Sb.arv V_b (by decide))) V_b ⟨by decide, by decide⟩ g_b 2 rfl (Nat.le_of_ble_eq_true rfl) d_strm_76 fun hp61 K61 V_b_n => ?_
  replace V_b : Arv Z hp61 b k_b .char (3 : Int32) [(.int (nar .char c0)), (.int (nar .char c1)), (.int (nar .char c2))] (.int (0 : Int32)) := V_b_n
  replace O := O.keep K61 (allS g_b (all0))
  replace V_sr := V_sr.keep K61 (ninS ne_sr_b nin0)
  replace E_s := E_s.keep K61
  replace F_s_coder := F_s_coder.keep K61 (ninS ne_s_b nin0)
  replace F_s_value := F_s_value.keep K61 (ninS ne_s_b nin0)
  replace hz : n0 ≤ hp61.size := Nat.le_trans hz K61.1
  replace hlo : h0.size ≤ hp61.size := Nat.le_trans hlo K61.1
  replace KK : Keep h0 hp61 [] := KK.trans K61 (allS (Or.inr s_b) (all0))
  -- at pc 77: pc 77: invokespecial .invokespecial 38 stack [(.ref b), (.ref s), (.ref s)]
  rw [o0.nar, o1.nar, o2.nar] at V_b
  refine Go.callIP (I' := IW Z EL s₀ h0.size []) (hI := wQ (ws := [s]) (fun v h' q => by obtain ⟨rfl, K62, hc, t, kt, q1, q2, q3, hv, ha⟩ := q; exact K62) (allS (Sb.up l_s) all0)) s [(.ref b)] [(.ref s)] (pay_new hw (W := 1) (wd_15 hw) [c0, c1, c2] g_s hz E_s F_s_value F_s_coder V_b (S_cs.ext O.2) hcs rfl (Nat.le_of_ble_eq_true rfl) (Nat.le_of_ble_eq_true rfl) (by intro c hc; simp only [List.mem_cons, List.not_mem_nil, or_false] at hc; rcases hc with rfl | rfl | rfl <;> first | exact o0.r | exact o1.r | exact o2.r) (by decide) (by decide)) (wd_17 hw) (wd_18 hw) (wd_16 hw) (wd_19 hw) (by decide) pd_23 rfl rfl rfl (Nat.le_of_ble_eq_true rfl) (Nat.le_of_ble_eq_true rfl) (Nat.le_of_ble_eq_true rfl) d_strm_77 ?_
  rintro _ hp62 ⟨rfl, K62, hc, t, kt, q1, q2, q3, hv, ha⟩
  replace O := O.keep K62 (allS g_s (all0))
  replace V_sr := V_sr.keep K62 (ninS ne_sr_s nin0)
  replace E_s := E_s.keep K62
  replace V_b := V_b.keep K62 (ninS (Ne.symm ne_s_b) nin0)
  replace hz : n0 ≤ hp62.size := Nat.le_trans hz K62.1
  replace hlo : h0.size ≤ hp62.size := Nat.le_trans hlo K62.1
  replace KK : Keep h0 hp62 [] := KK.trans K62 (allS (Or.inr s_s) (all0))
  show GW_strm l Z EL s₀ n0 (fun v h => ∃ (s t : Addr) (k : ClassId), v = some (.ref s) ∧ Keep h0 h [] ∧ Byt Z h s t k ([c0, c1, c2].map own_b)) h0.size [] hp62 3 10 80 #[.val (.ref sr), .val (.int (3 : Int32))] [(.ref s)]
  -- at pc 80: pc 80: areturn .areturn stack [(.ref s)]
  exact GW.areturn hEL d_strm_80 rfl rfl rfl (by decide) (by decide) ⟨s, t, kt, rfl, KK, Byt.of ⟨E_s, hc, hv, ha⟩⟩
set_option maxRecDepth 65536 in
set_option maxHeartbeats 4000000 in
theorem ctw_str4 (l : Launch) (Z : State) (a0 : Array Value) (hw : ∀ d ∈ tables_1, d.before a0 Z = true) (n0 : Nat) (sr : Addr) (ks : ClassId) (N : Int32) (vs : List Value) (c0 c1 c2 c3 : Int32) (h0 : Heap) (hz : n0 ≤ h0.size) (O : Old Z n0 h0) (z : Int32) (S_cs : Sta Z Z.heap "java/lang/String" "COMPACT_STRINGS" "Z" (.int z)) (hcs : ¬ z = 0) (V_sr : Arv Z h0 sr ks .char N vs (.int (0 : Int32))) (r0 : vs.getD 0 (.int (0 : Int32)) = .int c0) (hb0 : (0 : Int32) < N) (o0 : Ch c0) (r1 : vs.getD 1 (.int (0 : Int32)) = .int c1) (hb1 : (1 : Int32) < N) (o1 : Ch c1) (r2 : vs.getD 2 (.int (0 : Int32)) = .int c2) (hb2 : (2 : Int32) < N) (o2 : Ch c2) (r3 : vs.getD 3 (.int (0 : Int32)) = .int c3) (hb3 : (3 : Int32) < N) (o3 : Ch c3) :
    CtW l Z EL n0 "com/example/triplecast/triplecast/cli/MediaTypeIsPinLaw" "str" "([CI)Ljava/lang/String;" [] method_5_code 2 (some (.object "java/lang/String")) R_strm #[.ref sr, .int (4 : Int32)] h0 [] (fun v h => ∃ (s t : Addr) (k : ClassId), v = some (.ref s) ∧ Keep h0 h [] ∧ Byt Z h s t k ([c0, c1, c2, c3].map own_b)) := by
  refine CtW.of_go pf_strm (Ls := #[.val (.ref sr), .val (.int (4 : Int32))]) (fun m => by first | rfl | (simp [entryFrame, mkF, argsToLocals, Value.category]; done)) fun s₀ => ?_
  have hlo : h0.size ≤ h0.size := Nat.le_refl _
  have hEL : EW Z a0 EL := ewEL hw
  show GW_strm l Z EL s₀ n0 (fun v h => ∃ (s t : Addr) (k : ClassId), v = some (.ref s) ∧ Keep h0 h [] ∧ Byt Z h s t k ([c0, c1, c2, c3].map own_b)) h0.size [] h0 0 0 0 #[.val (.ref sr), .val (.int (4 : Int32))] []
  have KK : Keep h0 h0 [] := Keep.refl _ _
  refine Go.iloadN d_strm_0 rfl ?_
  -- at pc 1: pc 1: ifCond .ifCond .gt 6 stack [(.int (4 : Int32))]
  -- (0 : Int32) < (4 : Int32)
  refine Go.ifT 7 d_strm_1 (tlt (by decide)).2.2.1 (by decide) (by decide) ?_
  refine Go.iloadN d_strm_7 rfl ?_
  refine Go.iconst 1 d_strm_8 rfl ?_
  -- at pc 9: pc 9: if_icmp .if_icmp .ne 10 stack [(.int (1 : Int32)), (.int (4 : Int32))]
  -- not: (4 : Int32) = (1 : Int32)
  refine Go.icT 19 d_strm_9 (feq (by decide)).2 (by decide) (by decide) ?_
  refine Go.iloadN d_strm_19 rfl ?_
  refine Go.iconst 2 d_strm_20 rfl ?_
  -- at pc 21: pc 21: if_icmp .if_icmp .ne 26 stack [(.int (2 : Int32)), (.int (4 : Int32))]
  -- not: (4 : Int32) = (2 : Int32)
  refine Go.icT 47 d_strm_21 (feq (by decide)).2 (by decide) (by decide) ?_
  refine Go.iloadN d_strm_47 rfl ?_
  refine Go.iconst 3 d_strm_48 rfl ?_
  -- at pc 49: pc 49: if_icmp .if_icmp .ne 32 stack [(.int (3 : Int32)), (.int (4 : Int32))]
  -- not: (4 : Int32) = (3 : Int32)
  refine Go.icT 81 d_strm_49 (feq (by decide)).2 (by decide) (by decide) ?_
  refine Go.iloadN d_strm_81 rfl ?_
  refine Go.iconst 4 d_strm_82 rfl ?_
  -- at pc 83: pc 83: if_icmp .if_icmp .ne 38 stack [(.int (4 : Int32)), (.int (4 : Int32))]
  -- (4 : Int32) = (4 : Int32)
  refine Go.icF d_strm_83 (teq (rfl)).2 ?_
  -- at pc 86: pc 86: new .new 33 stack []
  refine Go.new (I' := IW Z EL s₀ h0.size []) (hI := wE) (wd_14 hw) (wd_15 hw) (wd_16 hw) d_strm_86 (by decide) (by decide) fun hp63 s e_s X63 E_s D63 => ?_
  have K63 : Keep h0 hp63 [] := (Keep.refl _ _).ext X63
  have g_s : n0 ≤ s := e_s ▸ hz
  have l_s : h0.size ≤ s := e_s ▸ hlo
  have s_s : h0.size ≤ s := e_s ▸ KK.1
  have ne_sr_s : sr ≠ s := Nat.ne_of_lt (e_s ▸ V_sr.lt)
  replace O := O.keep K63 (all0)
  replace V_sr := V_sr.keep K63 nin0
  have F_s_coder : Fld Z hp63 s "java/lang/String" "coder" "B" (.int (0 : Int32)) := D63 (Or.inr (wd_40 hw)) (ty := .byte) (by decide)
  have F_s_value : Fld Z hp63 s "java/lang/String" "value" "[B" .null := D63 (Or.inr (wd_42 hw)) (ty := (.array .byte)) (by decide)
  replace hz : n0 ≤ hp63.size := Nat.le_trans hz K63.1
  replace hlo : h0.size ≤ hp63.size := Nat.le_trans hlo K63.1
  replace KK : Keep h0 hp63 [] := KK.trans K63 (all0)
  refine Go.dup d_strm_89 rfl ?_
  refine Go.iconst 4 d_strm_90 rfl ?_
  -- at pc 91: pc 91: newarray .newarray .char stack [(.int (4 : Int32)), (.ref s), (.ref s)]
  refine Go.newP (I' := IW Z EL s₀ h0.size []) (hI := wE) .char (wd_0 hw) rfl d_strm_91 (by decide) 4 (by decide) (by decide) (by decide) (by decide) fun hp64 b k_b e_b X64 V_b => ?_
  have K64 : Keep hp63 hp64 [] := (Keep.refl _ _).ext X64
  have g_b : n0 ≤ b := e_b ▸ hz
  have l_b : h0.size ≤ b := e_b ▸ hlo
  have s_b : h0.size ≤ b := e_b ▸ KK.1
  have ne_sr_b : sr ≠ b := Nat.ne_of_lt (e_b ▸ V_sr.lt)
  have ne_s_b : s ≠ b := Nat.ne_of_lt (e_b ▸ E_s.lt)
  replace O := O.keep K64 (all0)
  replace V_sr := V_sr.keep K64 nin0
  replace E_s := E_s.keep K64
  replace F_s_coder := F_s_coder.keep K64 nin0
  replace F_s_value := F_s_value.keep K64 nin0
  replace V_b : Arv Z hp64 b k_b .char (4 : Int32) [(.int (0 : Int32)), (.int (0 : Int32)), (.int (0 : Int32)), (.int (0 : Int32))] (.int (0 : Int32)) := V_b.pad (pad_rep [] (.int (0 : Int32)) 4)
  replace hz : n0 ≤ hp64.size := Nat.le_trans hz K64.1
  replace hlo : h0.size ≤ hp64.size := Nat.le_trans hlo K64.1
  replace KK : Keep h0 hp64 [] := KK.trans K64 (all0)
  refine Go.dup d_strm_93 rfl ?_
  refine Go.iconst 0 d_strm_94 rfl ?_
  refine Go.aloadN d_strm_95 rfl rfl ?_
  refine Go.iconst 0 d_strm_96 rfl ?_
  -- at pc 97: pc 97: caload of sr at (0 : Int32): '!aload value ; bounds ; getD'
  refine Go.caload (.int c0) V_sr ⟨by decide, hb0⟩ r0 d_strm_97 ?_
  refine Go.castore (I' := IW Z EL s₀ h0.size []) (hI := wI (Sb.arv V_b (by decide))) V_b ⟨by decide, by decide⟩ g_b 0 rfl (Nat.le_of_ble_eq_true rfl) d_strm_98 fun hp65 K65 V_b_n => ?_
  replace V_b : Arv Z hp65 b k_b .char (4 : Int32) [(.int (nar .char c0)), (.int (0 : Int32)), (.int (0 : Int32)), (.int (0 : Int32))] (.int (0 : Int32)) := V_b_n
  replace O := O.keep K65 (allS g_b (all0))
  replace V_sr := V_sr.keep K65 (ninS ne_sr_b nin0)
  replace E_s := E_s.keep K65
  replace F_s_coder := F_s_coder.keep K65 (ninS ne_s_b nin0)
  replace F_s_value := F_s_value.keep K65 (ninS ne_s_b nin0)
  replace hz : n0 ≤ hp65.size := Nat.le_trans hz K65.1
  replace hlo : h0.size ≤ hp65.size := Nat.le_trans hlo K65.1
  replace KK : Keep h0 hp65 [] := KK.trans K65 (allS (Or.inr s_b) (all0))
  refine Go.dup d_strm_99 rfl ?_
  refine Go.iconst 1 d_strm_100 rfl ?_
  refine Go.aloadN d_strm_101 rfl rfl ?_
  refine Go.iconst 1 d_strm_102 rfl ?_
  -- at pc 103: pc 103: caload of sr at (1 : Int32): '!aload value ; bounds ; getD'
  refine Go.caload (.int c1) V_sr ⟨by decide, hb1⟩ r1 d_strm_103 ?_
  refine Go.castore (I' := IW Z EL s₀ h0.size []) (hI := wI (Sb.arv V_b (by decide))) V_b ⟨by decide, by decide⟩ g_b 1 rfl (Nat.le_of_ble_eq_true rfl) d_strm_104 fun hp66 K66 V_b_n => ?_
  replace V_b : Arv Z hp66 b k_b .char (4 : Int32) [(.int (nar .char c0)), (.int (nar .char c1)), (.int (0 : Int32)), (.int (0 : Int32))] (.int (0 : Int32)) := V_b_n
  replace O := O.keep K66 (allS g_b (all0))
  replace V_sr := V_sr.keep K66 (ninS ne_sr_b nin0)
  replace E_s := E_s.keep K66
  replace F_s_coder := F_s_coder.keep K66 (ninS ne_s_b nin0)
  replace F_s_value := F_s_value.keep K66 (ninS ne_s_b nin0)
  replace hz : n0 ≤ hp66.size := Nat.le_trans hz K66.1
  replace hlo : h0.size ≤ hp66.size := Nat.le_trans hlo K66.1
  replace KK : Keep h0 hp66 [] := KK.trans K66 (allS (Or.inr s_b) (all0))
  refine Go.dup d_strm_105 rfl ?_
  refine Go.iconst 2 d_strm_106 rfl ?_
  refine Go.aloadN d_strm_107 rfl rfl ?_
  refine Go.iconst 2 d_strm_108 rfl ?_
  -- at pc 109: pc 109: caload of sr at (2 : Int32): '!aload value ; bounds ; getD'
  refine Go.caload (.int c2) V_sr ⟨by decide, hb2⟩ r2 d_strm_109 ?_
  refine Go.castore (I' := IW Z EL s₀ h0.size []) (hI := wI (Sb.arv V_b (by decide))) V_b ⟨by decide, by decide⟩ g_b 2 rfl (Nat.le_of_ble_eq_true rfl) d_strm_110 fun hp67 K67 V_b_n => ?_
  replace V_b : Arv Z hp67 b k_b .char (4 : Int32) [(.int (nar .char c0)), (.int (nar .char c1)), (.int (nar .char c2)), (.int (0 : Int32))] (.int (0 : Int32)) := V_b_n
  replace O := O.keep K67 (allS g_b (all0))
  replace V_sr := V_sr.keep K67 (ninS ne_sr_b nin0)
  replace E_s := E_s.keep K67
  replace F_s_coder := F_s_coder.keep K67 (ninS ne_s_b nin0)
  replace F_s_value := F_s_value.keep K67 (ninS ne_s_b nin0)
  replace hz : n0 ≤ hp67.size := Nat.le_trans hz K67.1
  replace hlo : h0.size ≤ hp67.size := Nat.le_trans hlo K67.1
  replace KK : Keep h0 hp67 [] := KK.trans K67 (allS (Or.inr s_b) (all0))
  refine Go.dup d_strm_111 rfl ?_
  refine Go.iconst 3 d_strm_112 rfl ?_
  refine Go.aloadN d_strm_113 rfl rfl ?_
  refine Go.iconst 3 d_strm_114 rfl ?_
  -- at pc 115: pc 115: caload of sr at (3 : Int32): '!aload value ; bounds ; getD'
  refine Go.caload (.int c3) V_sr ⟨by decide, hb3⟩ r3 d_strm_115 ?_
  refine Go.castore (I' := IW Z EL s₀ h0.size []) (hI := wI (Sb.arv V_b (by decide))) V_b ⟨by decide, by decide⟩ g_b 3 rfl (Nat.le_of_ble_eq_true rfl) d_strm_116 fun hp68 K68 V_b_n => ?_
  replace V_b : Arv Z hp68 b k_b .char (4 : Int32) [(.int (nar .char c0)), (.int (nar .char c1)), (.int (nar .char c2)), (.int (nar .char c3))] (.int (0 : Int32)) := V_b_n
  replace O := O.keep K68 (allS g_b (all0))
  replace V_sr := V_sr.keep K68 (ninS ne_sr_b nin0)
  replace E_s := E_s.keep K68
  replace F_s_coder := F_s_coder.keep K68 (ninS ne_s_b nin0)
  replace F_s_value := F_s_value.keep K68 (ninS ne_s_b nin0)
  replace hz : n0 ≤ hp68.size := Nat.le_trans hz K68.1
  replace hlo : h0.size ≤ hp68.size := Nat.le_trans hlo K68.1
  replace KK : Keep h0 hp68 [] := KK.trans K68 (allS (Or.inr s_b) (all0))
  -- at pc 117: pc 117: invokespecial .invokespecial 38 stack [(.ref b), (.ref s), (.ref s)]
  rw [o0.nar, o1.nar, o2.nar, o3.nar] at V_b
  refine Go.callIP (I' := IW Z EL s₀ h0.size []) (hI := wQ (ws := [s]) (fun v h' q => by obtain ⟨rfl, K69, hc, t, kt, q1, q2, q3, hv, ha⟩ := q; exact K69) (allS (Sb.up l_s) all0)) s [(.ref b)] [(.ref s)] (pay_new hw (W := 1) (wd_15 hw) [c0, c1, c2, c3] g_s hz E_s F_s_value F_s_coder V_b (S_cs.ext O.2) hcs rfl (Nat.le_of_ble_eq_true rfl) (Nat.le_of_ble_eq_true rfl) (by intro c hc; simp only [List.mem_cons, List.not_mem_nil, or_false] at hc; rcases hc with rfl | rfl | rfl | rfl <;> first | exact o0.r | exact o1.r | exact o2.r | exact o3.r) (by decide) (by decide)) (wd_17 hw) (wd_18 hw) (wd_16 hw) (wd_19 hw) (by decide) pd_23 rfl rfl rfl (Nat.le_of_ble_eq_true rfl) (Nat.le_of_ble_eq_true rfl) (Nat.le_of_ble_eq_true rfl) d_strm_117 ?_
  rintro _ hp69 ⟨rfl, K69, hc, t, kt, q1, q2, q3, hv, ha⟩
  replace O := O.keep K69 (allS g_s (all0))
  replace V_sr := V_sr.keep K69 (ninS ne_sr_s nin0)
  replace E_s := E_s.keep K69
  replace V_b := V_b.keep K69 (ninS (Ne.symm ne_s_b) nin0)
  replace hz : n0 ≤ hp69.size := Nat.le_trans hz K69.1
  replace hlo : h0.size ≤ hp69.size := Nat.le_trans hlo K69.1
  replace KK : Keep h0 hp69 [] := KK.trans K69 (allS (Or.inr s_s) (all0))
  show GW_strm l Z EL s₀ n0 (fun v h => ∃ (s t : Addr) (k : ClassId), v = some (.ref s) ∧ Keep h0 h [] ∧ Byt Z h s t k ([c0, c1, c2, c3].map own_b)) h0.size [] hp69 3 12 120 #[.val (.ref sr), .val (.int (4 : Int32))] [(.ref s)]
  -- at pc 120: pc 120: areturn .areturn stack [(.ref s)]
  exact GW.areturn hEL d_strm_120 rfl rfl rfl (by decide) (by decide) ⟨s, t, kt, rfl, KK, Byt.of ⟨E_s, hc, hv, ha⟩⟩
set_option maxRecDepth 65536 in
set_option maxHeartbeats 4000000 in
theorem ctw_str5 (l : Launch) (Z : State) (a0 : Array Value) (hw : ∀ d ∈ tables_1, d.before a0 Z = true) (n0 : Nat) (sr : Addr) (ks : ClassId) (N : Int32) (vs : List Value) (c0 c1 c2 c3 c4 : Int32) (h0 : Heap) (hz : n0 ≤ h0.size) (O : Old Z n0 h0) (z : Int32) (S_cs : Sta Z Z.heap "java/lang/String" "COMPACT_STRINGS" "Z" (.int z)) (hcs : ¬ z = 0) (V_sr : Arv Z h0 sr ks .char N vs (.int (0 : Int32))) (r0 : vs.getD 0 (.int (0 : Int32)) = .int c0) (hb0 : (0 : Int32) < N) (o0 : Ch c0) (r1 : vs.getD 1 (.int (0 : Int32)) = .int c1) (hb1 : (1 : Int32) < N) (o1 : Ch c1) (r2 : vs.getD 2 (.int (0 : Int32)) = .int c2) (hb2 : (2 : Int32) < N) (o2 : Ch c2) (r3 : vs.getD 3 (.int (0 : Int32)) = .int c3) (hb3 : (3 : Int32) < N) (o3 : Ch c3) (r4 : vs.getD 4 (.int (0 : Int32)) = .int c4) (hb4 : (4 : Int32) < N) (o4 : Ch c4) :
    CtW l Z EL n0 "com/example/triplecast/triplecast/cli/MediaTypeIsPinLaw" "str" "([CI)Ljava/lang/String;" [] method_5_code 2 (some (.object "java/lang/String")) R_strm #[.ref sr, .int (5 : Int32)] h0 [] (fun v h => ∃ (s t : Addr) (k : ClassId), v = some (.ref s) ∧ Keep h0 h [] ∧ Byt Z h s t k ([c0, c1, c2, c3, c4].map own_b)) := by
  refine CtW.of_go pf_strm (Ls := #[.val (.ref sr), .val (.int (5 : Int32))]) (fun m => by first | rfl | (simp [entryFrame, mkF, argsToLocals, Value.category]; done)) fun s₀ => ?_
  have hlo : h0.size ≤ h0.size := Nat.le_refl _
  have hEL : EW Z a0 EL := ewEL hw
  show GW_strm l Z EL s₀ n0 (fun v h => ∃ (s t : Addr) (k : ClassId), v = some (.ref s) ∧ Keep h0 h [] ∧ Byt Z h s t k ([c0, c1, c2, c3, c4].map own_b)) h0.size [] h0 0 0 0 #[.val (.ref sr), .val (.int (5 : Int32))] []
  have KK : Keep h0 h0 [] := Keep.refl _ _
  refine Go.iloadN d_strm_0 rfl ?_
  -- at pc 1: pc 1: ifCond .ifCond .gt 6 stack [(.int (5 : Int32))]
  -- (0 : Int32) < (5 : Int32)
  refine Go.ifT 7 d_strm_1 (tlt (by decide)).2.2.1 (by decide) (by decide) ?_
  refine Go.iloadN d_strm_7 rfl ?_
  refine Go.iconst 1 d_strm_8 rfl ?_
  -- at pc 9: pc 9: if_icmp .if_icmp .ne 10 stack [(.int (1 : Int32)), (.int (5 : Int32))]
  -- not: (5 : Int32) = (1 : Int32)
  refine Go.icT 19 d_strm_9 (feq (by decide)).2 (by decide) (by decide) ?_
  refine Go.iloadN d_strm_19 rfl ?_
  refine Go.iconst 2 d_strm_20 rfl ?_
  -- at pc 21: pc 21: if_icmp .if_icmp .ne 26 stack [(.int (2 : Int32)), (.int (5 : Int32))]
  -- not: (5 : Int32) = (2 : Int32)
  refine Go.icT 47 d_strm_21 (feq (by decide)).2 (by decide) (by decide) ?_
  refine Go.iloadN d_strm_47 rfl ?_
  refine Go.iconst 3 d_strm_48 rfl ?_
  -- at pc 49: pc 49: if_icmp .if_icmp .ne 32 stack [(.int (3 : Int32)), (.int (5 : Int32))]
  -- not: (5 : Int32) = (3 : Int32)
  refine Go.icT 81 d_strm_49 (feq (by decide)).2 (by decide) (by decide) ?_
  refine Go.iloadN d_strm_81 rfl ?_
  refine Go.iconst 4 d_strm_82 rfl ?_
  -- at pc 83: pc 83: if_icmp .if_icmp .ne 38 stack [(.int (4 : Int32)), (.int (5 : Int32))]
  -- not: (5 : Int32) = (4 : Int32)
  refine Go.icT 121 d_strm_83 (feq (by decide)).2 (by decide) (by decide) ?_
  refine Go.iloadN d_strm_121 rfl ?_
  refine Go.iconst 5 d_strm_122 rfl ?_
  -- at pc 123: pc 123: if_icmp .if_icmp .ne 44 stack [(.int (5 : Int32)), (.int (5 : Int32))]
  -- (5 : Int32) = (5 : Int32)
  refine Go.icF d_strm_123 (teq (rfl)).2 ?_
  -- at pc 126: pc 126: new .new 33 stack []
  refine Go.new (I' := IW Z EL s₀ h0.size []) (hI := wE) (wd_14 hw) (wd_15 hw) (wd_16 hw) d_strm_126 (by decide) (by decide) fun hp70 s e_s X70 E_s D70 => ?_
  have K70 : Keep h0 hp70 [] := (Keep.refl _ _).ext X70
  have g_s : n0 ≤ s := e_s ▸ hz
  have l_s : h0.size ≤ s := e_s ▸ hlo
  have s_s : h0.size ≤ s := e_s ▸ KK.1
  have ne_sr_s : sr ≠ s := Nat.ne_of_lt (e_s ▸ V_sr.lt)
  replace O := O.keep K70 (all0)
  replace V_sr := V_sr.keep K70 nin0
  have F_s_coder : Fld Z hp70 s "java/lang/String" "coder" "B" (.int (0 : Int32)) := D70 (Or.inr (wd_40 hw)) (ty := .byte) (by decide)
  have F_s_value : Fld Z hp70 s "java/lang/String" "value" "[B" .null := D70 (Or.inr (wd_42 hw)) (ty := (.array .byte)) (by decide)
  replace hz : n0 ≤ hp70.size := Nat.le_trans hz K70.1
  replace hlo : h0.size ≤ hp70.size := Nat.le_trans hlo K70.1
  replace KK : Keep h0 hp70 [] := KK.trans K70 (all0)
  refine Go.dup d_strm_129 rfl ?_
  refine Go.iconst 5 d_strm_130 rfl ?_
  -- at pc 131: pc 131: newarray .newarray .char stack [(.int (5 : Int32)), (.ref s), (.ref s)]
  refine Go.newP (I' := IW Z EL s₀ h0.size []) (hI := wE) .char (wd_0 hw) rfl d_strm_131 (by decide) 5 (by decide) (by decide) (by decide) (by decide) fun hp71 b k_b e_b X71 V_b => ?_
  have K71 : Keep hp70 hp71 [] := (Keep.refl _ _).ext X71
  have g_b : n0 ≤ b := e_b ▸ hz
  have l_b : h0.size ≤ b := e_b ▸ hlo
  have s_b : h0.size ≤ b := e_b ▸ KK.1
  have ne_sr_b : sr ≠ b := Nat.ne_of_lt (e_b ▸ V_sr.lt)
  have ne_s_b : s ≠ b := Nat.ne_of_lt (e_b ▸ E_s.lt)
  replace O := O.keep K71 (all0)
  replace V_sr := V_sr.keep K71 nin0
  replace E_s := E_s.keep K71
  replace F_s_coder := F_s_coder.keep K71 nin0
  replace F_s_value := F_s_value.keep K71 nin0
  replace V_b : Arv Z hp71 b k_b .char (5 : Int32) [(.int (0 : Int32)), (.int (0 : Int32)), (.int (0 : Int32)), (.int (0 : Int32)), (.int (0 : Int32))] (.int (0 : Int32)) := V_b.pad (pad_rep [] (.int (0 : Int32)) 5)
  replace hz : n0 ≤ hp71.size := Nat.le_trans hz K71.1
  replace hlo : h0.size ≤ hp71.size := Nat.le_trans hlo K71.1
  replace KK : Keep h0 hp71 [] := KK.trans K71 (all0)
  refine Go.dup d_strm_133 rfl ?_
  refine Go.iconst 0 d_strm_134 rfl ?_
  refine Go.aloadN d_strm_135 rfl rfl ?_
  refine Go.iconst 0 d_strm_136 rfl ?_
  -- at pc 137: pc 137: caload of sr at (0 : Int32): '!aload value ; bounds ; getD'
  refine Go.caload (.int c0) V_sr ⟨by decide, hb0⟩ r0 d_strm_137 ?_
  refine Go.castore (I' := IW Z EL s₀ h0.size []) (hI := wI (Sb.arv V_b (by decide))) V_b ⟨by decide, by decide⟩ g_b 0 rfl (Nat.le_of_ble_eq_true rfl) d_strm_138 fun hp72 K72 V_b_n => ?_
  replace V_b : Arv Z hp72 b k_b .char (5 : Int32) [(.int (nar .char c0)), (.int (0 : Int32)), (.int (0 : Int32)), (.int (0 : Int32)), (.int (0 : Int32))] (.int (0 : Int32)) := V_b_n
  replace O := O.keep K72 (allS g_b (all0))
  replace V_sr := V_sr.keep K72 (ninS ne_sr_b nin0)
  replace E_s := E_s.keep K72
  replace F_s_coder := F_s_coder.keep K72 (ninS ne_s_b nin0)
  replace F_s_value := F_s_value.keep K72 (ninS ne_s_b nin0)
  replace hz : n0 ≤ hp72.size := Nat.le_trans hz K72.1
  replace hlo : h0.size ≤ hp72.size := Nat.le_trans hlo K72.1
  replace KK : Keep h0 hp72 [] := KK.trans K72 (allS (Or.inr s_b) (all0))
  refine Go.dup d_strm_139 rfl ?_
  refine Go.iconst 1 d_strm_140 rfl ?_
  refine Go.aloadN d_strm_141 rfl rfl ?_
  refine Go.iconst 1 d_strm_142 rfl ?_
  -- at pc 143: pc 143: caload of sr at (1 : Int32): '!aload value ; bounds ; getD'
  refine Go.caload (.int c1) V_sr ⟨by decide, hb1⟩ r1 d_strm_143 ?_
  refine Go.castore (I' := IW Z EL s₀ h0.size []) (hI := wI (Sb.arv V_b (by decide))) V_b ⟨by decide, by decide⟩ g_b 1 rfl (Nat.le_of_ble_eq_true rfl) d_strm_144 fun hp73 K73 V_b_n => ?_
  replace V_b : Arv Z hp73 b k_b .char (5 : Int32) [(.int (nar .char c0)), (.int (nar .char c1)), (.int (0 : Int32)), (.int (0 : Int32)), (.int (0 : Int32))] (.int (0 : Int32)) := V_b_n
  replace O := O.keep K73 (allS g_b (all0))
  replace V_sr := V_sr.keep K73 (ninS ne_sr_b nin0)
  replace E_s := E_s.keep K73
  replace F_s_coder := F_s_coder.keep K73 (ninS ne_s_b nin0)
  replace F_s_value := F_s_value.keep K73 (ninS ne_s_b nin0)
  replace hz : n0 ≤ hp73.size := Nat.le_trans hz K73.1
  replace hlo : h0.size ≤ hp73.size := Nat.le_trans hlo K73.1
  replace KK : Keep h0 hp73 [] := KK.trans K73 (allS (Or.inr s_b) (all0))
  refine Go.dup d_strm_145 rfl ?_
  refine Go.iconst 2 d_strm_146 rfl ?_
  refine Go.aloadN d_strm_147 rfl rfl ?_
  refine Go.iconst 2 d_strm_148 rfl ?_
  -- at pc 149: pc 149: caload of sr at (2 : Int32): '!aload value ; bounds ; getD'
  refine Go.caload (.int c2) V_sr ⟨by decide, hb2⟩ r2 d_strm_149 ?_
  refine Go.castore (I' := IW Z EL s₀ h0.size []) (hI := wI (Sb.arv V_b (by decide))) V_b ⟨by decide, by decide⟩ g_b 2 rfl (Nat.le_of_ble_eq_true rfl) d_strm_150 fun hp74 K74 V_b_n => ?_
  replace V_b : Arv Z hp74 b k_b .char (5 : Int32) [(.int (nar .char c0)), (.int (nar .char c1)), (.int (nar .char c2)), (.int (0 : Int32)), (.int (0 : Int32))] (.int (0 : Int32)) := V_b_n
  replace O := O.keep K74 (allS g_b (all0))
  replace V_sr := V_sr.keep K74 (ninS ne_sr_b nin0)
  replace E_s := E_s.keep K74
  replace F_s_coder := F_s_coder.keep K74 (ninS ne_s_b nin0)
  replace F_s_value := F_s_value.keep K74 (ninS ne_s_b nin0)
  replace hz : n0 ≤ hp74.size := Nat.le_trans hz K74.1
  replace hlo : h0.size ≤ hp74.size := Nat.le_trans hlo K74.1
  replace KK : Keep h0 hp74 [] := KK.trans K74 (allS (Or.inr s_b) (all0))
  refine Go.dup d_strm_151 rfl ?_
  refine Go.iconst 3 d_strm_152 rfl ?_
  refine Go.aloadN d_strm_153 rfl rfl ?_
  refine Go.iconst 3 d_strm_154 rfl ?_
  -- at pc 155: pc 155: caload of sr at (3 : Int32): '!aload value ; bounds ; getD'
  refine Go.caload (.int c3) V_sr ⟨by decide, hb3⟩ r3 d_strm_155 ?_
  refine Go.castore (I' := IW Z EL s₀ h0.size []) (hI := wI (Sb.arv V_b (by decide))) V_b ⟨by decide, by decide⟩ g_b 3 rfl (Nat.le_of_ble_eq_true rfl) d_strm_156 fun hp75 K75 V_b_n => ?_
  replace V_b : Arv Z hp75 b k_b .char (5 : Int32) [(.int (nar .char c0)), (.int (nar .char c1)), (.int (nar .char c2)), (.int (nar .char c3)), (.int (0 : Int32))] (.int (0 : Int32)) := V_b_n
  replace O := O.keep K75 (allS g_b (all0))
  replace V_sr := V_sr.keep K75 (ninS ne_sr_b nin0)
  replace E_s := E_s.keep K75
  replace F_s_coder := F_s_coder.keep K75 (ninS ne_s_b nin0)
  replace F_s_value := F_s_value.keep K75 (ninS ne_s_b nin0)
  replace hz : n0 ≤ hp75.size := Nat.le_trans hz K75.1
  replace hlo : h0.size ≤ hp75.size := Nat.le_trans hlo K75.1
  replace KK : Keep h0 hp75 [] := KK.trans K75 (allS (Or.inr s_b) (all0))
  refine Go.dup d_strm_157 rfl ?_
  refine Go.iconst 4 d_strm_158 rfl ?_
  refine Go.aloadN d_strm_159 rfl rfl ?_
  refine Go.iconst 4 d_strm_160 rfl ?_
  -- at pc 161: pc 161: caload of sr at (4 : Int32): '!aload value ; bounds ; getD'
  refine Go.caload (.int c4) V_sr ⟨by decide, hb4⟩ r4 d_strm_161 ?_
  refine Go.castore (I' := IW Z EL s₀ h0.size []) (hI := wI (Sb.arv V_b (by decide))) V_b ⟨by decide, by decide⟩ g_b 4 rfl (Nat.le_of_ble_eq_true rfl) d_strm_162 fun hp76 K76 V_b_n => ?_
  replace V_b : Arv Z hp76 b k_b .char (5 : Int32) [(.int (nar .char c0)), (.int (nar .char c1)), (.int (nar .char c2)), (.int (nar .char c3)), (.int (nar .char c4))] (.int (0 : Int32)) := V_b_n
  replace O := O.keep K76 (allS g_b (all0))
  replace V_sr := V_sr.keep K76 (ninS ne_sr_b nin0)
  replace E_s := E_s.keep K76
  replace F_s_coder := F_s_coder.keep K76 (ninS ne_s_b nin0)
  replace F_s_value := F_s_value.keep K76 (ninS ne_s_b nin0)
  replace hz : n0 ≤ hp76.size := Nat.le_trans hz K76.1
  replace hlo : h0.size ≤ hp76.size := Nat.le_trans hlo K76.1
  replace KK : Keep h0 hp76 [] := KK.trans K76 (allS (Or.inr s_b) (all0))
  -- at pc 163: pc 163: invokespecial .invokespecial 38 stack [(.ref b), (.ref s), (.ref s)]
  rw [o0.nar, o1.nar, o2.nar, o3.nar, o4.nar] at V_b
  refine Go.callIP (I' := IW Z EL s₀ h0.size []) (hI := wQ (ws := [s]) (fun v h' q => by obtain ⟨rfl, K77, hc, t, kt, q1, q2, q3, hv, ha⟩ := q; exact K77) (allS (Sb.up l_s) all0)) s [(.ref b)] [(.ref s)] (pay_new hw (W := 1) (wd_15 hw) [c0, c1, c2, c3, c4] g_s hz E_s F_s_value F_s_coder V_b (S_cs.ext O.2) hcs rfl (Nat.le_of_ble_eq_true rfl) (Nat.le_of_ble_eq_true rfl) (by intro c hc; simp only [List.mem_cons, List.not_mem_nil, or_false] at hc; rcases hc with rfl | rfl | rfl | rfl | rfl <;> first | exact o0.r | exact o1.r | exact o2.r | exact o3.r | exact o4.r) (by decide) (by decide)) (wd_17 hw) (wd_18 hw) (wd_16 hw) (wd_19 hw) (by decide) pd_23 rfl rfl rfl (Nat.le_of_ble_eq_true rfl) (Nat.le_of_ble_eq_true rfl) (Nat.le_of_ble_eq_true rfl) d_strm_163 ?_
  rintro _ hp77 ⟨rfl, K77, hc, t, kt, q1, q2, q3, hv, ha⟩
  replace O := O.keep K77 (allS g_s (all0))
  replace V_sr := V_sr.keep K77 (ninS ne_sr_s nin0)
  replace E_s := E_s.keep K77
  replace V_b := V_b.keep K77 (ninS (Ne.symm ne_s_b) nin0)
  replace hz : n0 ≤ hp77.size := Nat.le_trans hz K77.1
  replace hlo : h0.size ≤ hp77.size := Nat.le_trans hlo K77.1
  replace KK : Keep h0 hp77 [] := KK.trans K77 (allS (Or.inr s_s) (all0))
  show GW_strm l Z EL s₀ n0 (fun v h => ∃ (s t : Addr) (k : ClassId), v = some (.ref s) ∧ Keep h0 h [] ∧ Byt Z h s t k ([c0, c1, c2, c3, c4].map own_b)) h0.size [] hp77 3 14 166 #[.val (.ref sr), .val (.int (5 : Int32))] [(.ref s)]
  -- at pc 166: pc 166: areturn .areturn stack [(.ref s)]
  exact GW.areturn hEL d_strm_166 rfl rfl rfl (by decide) (by decide) ⟨s, t, kt, rfl, KK, Byt.of ⟨E_s, hc, hv, ha⟩⟩
set_option maxRecDepth 65536 in
set_option maxHeartbeats 4000000 in
theorem ctw_str6 (l : Launch) (Z : State) (a0 : Array Value) (hw : ∀ d ∈ tables_1, d.before a0 Z = true) (n0 : Nat) (sr : Addr) (ks : ClassId) (N : Int32) (vs : List Value) (c0 c1 c2 c3 c4 c5 : Int32) (h0 : Heap) (hz : n0 ≤ h0.size) (O : Old Z n0 h0) (z : Int32) (S_cs : Sta Z Z.heap "java/lang/String" "COMPACT_STRINGS" "Z" (.int z)) (hcs : ¬ z = 0) (V_sr : Arv Z h0 sr ks .char N vs (.int (0 : Int32))) (r0 : vs.getD 0 (.int (0 : Int32)) = .int c0) (hb0 : (0 : Int32) < N) (o0 : Ch c0) (r1 : vs.getD 1 (.int (0 : Int32)) = .int c1) (hb1 : (1 : Int32) < N) (o1 : Ch c1) (r2 : vs.getD 2 (.int (0 : Int32)) = .int c2) (hb2 : (2 : Int32) < N) (o2 : Ch c2) (r3 : vs.getD 3 (.int (0 : Int32)) = .int c3) (hb3 : (3 : Int32) < N) (o3 : Ch c3) (r4 : vs.getD 4 (.int (0 : Int32)) = .int c4) (hb4 : (4 : Int32) < N) (o4 : Ch c4) (r5 : vs.getD 5 (.int (0 : Int32)) = .int c5) (hb5 : (5 : Int32) < N) (o5 : Ch c5) :
    CtW l Z EL n0 "com/example/triplecast/triplecast/cli/MediaTypeIsPinLaw" "str" "([CI)Ljava/lang/String;" [] method_5_code 2 (some (.object "java/lang/String")) R_strm #[.ref sr, .int (6 : Int32)] h0 [] (fun v h => ∃ (s t : Addr) (k : ClassId), v = some (.ref s) ∧ Keep h0 h [] ∧ Byt Z h s t k ([c0, c1, c2, c3, c4, c5].map own_b)) := by
  refine CtW.of_go pf_strm (Ls := #[.val (.ref sr), .val (.int (6 : Int32))]) (fun m => by first | rfl | (simp [entryFrame, mkF, argsToLocals, Value.category]; done)) fun s₀ => ?_
  have hlo : h0.size ≤ h0.size := Nat.le_refl _
  have hEL : EW Z a0 EL := ewEL hw
  show GW_strm l Z EL s₀ n0 (fun v h => ∃ (s t : Addr) (k : ClassId), v = some (.ref s) ∧ Keep h0 h [] ∧ Byt Z h s t k ([c0, c1, c2, c3, c4, c5].map own_b)) h0.size [] h0 0 0 0 #[.val (.ref sr), .val (.int (6 : Int32))] []
  have KK : Keep h0 h0 [] := Keep.refl _ _
  refine Go.iloadN d_strm_0 rfl ?_
  -- at pc 1: pc 1: ifCond .ifCond .gt 6 stack [(.int (6 : Int32))]
  -- (0 : Int32) < (6 : Int32)
  refine Go.ifT 7 d_strm_1 (tlt (by decide)).2.2.1 (by decide) (by decide) ?_
  refine Go.iloadN d_strm_7 rfl ?_
  refine Go.iconst 1 d_strm_8 rfl ?_
  -- at pc 9: pc 9: if_icmp .if_icmp .ne 10 stack [(.int (1 : Int32)), (.int (6 : Int32))]
  -- not: (6 : Int32) = (1 : Int32)
  refine Go.icT 19 d_strm_9 (feq (by decide)).2 (by decide) (by decide) ?_
  refine Go.iloadN d_strm_19 rfl ?_
  refine Go.iconst 2 d_strm_20 rfl ?_
  -- at pc 21: pc 21: if_icmp .if_icmp .ne 26 stack [(.int (2 : Int32)), (.int (6 : Int32))]
  -- not: (6 : Int32) = (2 : Int32)
  refine Go.icT 47 d_strm_21 (feq (by decide)).2 (by decide) (by decide) ?_
  refine Go.iloadN d_strm_47 rfl ?_
  refine Go.iconst 3 d_strm_48 rfl ?_
  -- at pc 49: pc 49: if_icmp .if_icmp .ne 32 stack [(.int (3 : Int32)), (.int (6 : Int32))]
  -- not: (6 : Int32) = (3 : Int32)
  refine Go.icT 81 d_strm_49 (feq (by decide)).2 (by decide) (by decide) ?_
  refine Go.iloadN d_strm_81 rfl ?_
  refine Go.iconst 4 d_strm_82 rfl ?_
  -- at pc 83: pc 83: if_icmp .if_icmp .ne 38 stack [(.int (4 : Int32)), (.int (6 : Int32))]
  -- not: (6 : Int32) = (4 : Int32)
  refine Go.icT 121 d_strm_83 (feq (by decide)).2 (by decide) (by decide) ?_
  refine Go.iloadN d_strm_121 rfl ?_
  refine Go.iconst 5 d_strm_122 rfl ?_
  -- at pc 123: pc 123: if_icmp .if_icmp .ne 44 stack [(.int (5 : Int32)), (.int (6 : Int32))]
  -- not: (6 : Int32) = (5 : Int32)
  refine Go.icT 167 d_strm_123 (feq (by decide)).2 (by decide) (by decide) ?_
  -- at pc 167: pc 167: new .new 33 stack []
  refine Go.new (I' := IW Z EL s₀ h0.size []) (hI := wE) (wd_14 hw) (wd_15 hw) (wd_16 hw) d_strm_167 (by decide) (by decide) fun hp78 s e_s X78 E_s D78 => ?_
  have K78 : Keep h0 hp78 [] := (Keep.refl _ _).ext X78
  have g_s : n0 ≤ s := e_s ▸ hz
  have l_s : h0.size ≤ s := e_s ▸ hlo
  have s_s : h0.size ≤ s := e_s ▸ KK.1
  have ne_sr_s : sr ≠ s := Nat.ne_of_lt (e_s ▸ V_sr.lt)
  replace O := O.keep K78 (all0)
  replace V_sr := V_sr.keep K78 nin0
  have F_s_coder : Fld Z hp78 s "java/lang/String" "coder" "B" (.int (0 : Int32)) := D78 (Or.inr (wd_40 hw)) (ty := .byte) (by decide)
  have F_s_value : Fld Z hp78 s "java/lang/String" "value" "[B" .null := D78 (Or.inr (wd_42 hw)) (ty := (.array .byte)) (by decide)
  replace hz : n0 ≤ hp78.size := Nat.le_trans hz K78.1
  replace hlo : h0.size ≤ hp78.size := Nat.le_trans hlo K78.1
  replace KK : Keep h0 hp78 [] := KK.trans K78 (all0)
  refine Go.dup d_strm_170 rfl ?_
  refine Go.bipush 6 d_strm_171 rfl ?_
  -- at pc 173: pc 173: newarray .newarray .char stack [(.int (6 : Int32)), (.ref s), (.ref s)]
  refine Go.newP (I' := IW Z EL s₀ h0.size []) (hI := wE) .char (wd_0 hw) rfl d_strm_173 (by decide) 6 (by decide) (by decide) (by decide) (by decide) fun hp79 b k_b e_b X79 V_b => ?_
  have K79 : Keep hp78 hp79 [] := (Keep.refl _ _).ext X79
  have g_b : n0 ≤ b := e_b ▸ hz
  have l_b : h0.size ≤ b := e_b ▸ hlo
  have s_b : h0.size ≤ b := e_b ▸ KK.1
  have ne_sr_b : sr ≠ b := Nat.ne_of_lt (e_b ▸ V_sr.lt)
  have ne_s_b : s ≠ b := Nat.ne_of_lt (e_b ▸ E_s.lt)
  replace O := O.keep K79 (all0)
  replace V_sr := V_sr.keep K79 nin0
  replace E_s := E_s.keep K79
  replace F_s_coder := F_s_coder.keep K79 nin0
  replace F_s_value := F_s_value.keep K79 nin0
  replace V_b : Arv Z hp79 b k_b .char (6 : Int32) [(.int (0 : Int32)), (.int (0 : Int32)), (.int (0 : Int32)), (.int (0 : Int32)), (.int (0 : Int32)), (.int (0 : Int32))] (.int (0 : Int32)) := V_b.pad (pad_rep [] (.int (0 : Int32)) 6)
  replace hz : n0 ≤ hp79.size := Nat.le_trans hz K79.1
  replace hlo : h0.size ≤ hp79.size := Nat.le_trans hlo K79.1
  replace KK : Keep h0 hp79 [] := KK.trans K79 (all0)
  refine Go.dup d_strm_175 rfl ?_
  refine Go.iconst 0 d_strm_176 rfl ?_
  refine Go.aloadN d_strm_177 rfl rfl ?_
  refine Go.iconst 0 d_strm_178 rfl ?_
  -- at pc 179: pc 179: caload of sr at (0 : Int32): '!aload value ; bounds ; getD'
  refine Go.caload (.int c0) V_sr ⟨by decide, hb0⟩ r0 d_strm_179 ?_
  refine Go.castore (I' := IW Z EL s₀ h0.size []) (hI := wI (Sb.arv V_b (by decide))) V_b ⟨by decide, by decide⟩ g_b 0 rfl (Nat.le_of_ble_eq_true rfl) d_strm_180 fun hp80 K80 V_b_n => ?_
  replace V_b : Arv Z hp80 b k_b .char (6 : Int32) [(.int (nar .char c0)), (.int (0 : Int32)), (.int (0 : Int32)), (.int (0 : Int32)), (.int (0 : Int32)), (.int (0 : Int32))] (.int (0 : Int32)) := V_b_n
  replace O := O.keep K80 (allS g_b (all0))
  replace V_sr := V_sr.keep K80 (ninS ne_sr_b nin0)
  replace E_s := E_s.keep K80
  replace F_s_coder := F_s_coder.keep K80 (ninS ne_s_b nin0)
  replace F_s_value := F_s_value.keep K80 (ninS ne_s_b nin0)
  replace hz : n0 ≤ hp80.size := Nat.le_trans hz K80.1
  replace hlo : h0.size ≤ hp80.size := Nat.le_trans hlo K80.1
  replace KK : Keep h0 hp80 [] := KK.trans K80 (allS (Or.inr s_b) (all0))
  refine Go.dup d_strm_181 rfl ?_
  refine Go.iconst 1 d_strm_182 rfl ?_
  refine Go.aloadN d_strm_183 rfl rfl ?_
  refine Go.iconst 1 d_strm_184 rfl ?_
  -- at pc 185: pc 185: caload of sr at (1 : Int32): '!aload value ; bounds ; getD'
  refine Go.caload (.int c1) V_sr ⟨by decide, hb1⟩ r1 d_strm_185 ?_
  refine Go.castore (I' := IW Z EL s₀ h0.size []) (hI := wI (Sb.arv V_b (by decide))) V_b ⟨by decide, by decide⟩ g_b 1 rfl (Nat.le_of_ble_eq_true rfl) d_strm_186 fun hp81 K81 V_b_n => ?_
  replace V_b : Arv Z hp81 b k_b .char (6 : Int32) [(.int (nar .char c0)), (.int (nar .char c1)), (.int (0 : Int32)), (.int (0 : Int32)), (.int (0 : Int32)), (.int (0 : Int32))] (.int (0 : Int32)) := V_b_n
  replace O := O.keep K81 (allS g_b (all0))
  replace V_sr := V_sr.keep K81 (ninS ne_sr_b nin0)
  replace E_s := E_s.keep K81
  replace F_s_coder := F_s_coder.keep K81 (ninS ne_s_b nin0)
  replace F_s_value := F_s_value.keep K81 (ninS ne_s_b nin0)
  replace hz : n0 ≤ hp81.size := Nat.le_trans hz K81.1
  replace hlo : h0.size ≤ hp81.size := Nat.le_trans hlo K81.1
  replace KK : Keep h0 hp81 [] := KK.trans K81 (allS (Or.inr s_b) (all0))
  refine Go.dup d_strm_187 rfl ?_
  refine Go.iconst 2 d_strm_188 rfl ?_
  refine Go.aloadN d_strm_189 rfl rfl ?_
  refine Go.iconst 2 d_strm_190 rfl ?_
  -- at pc 191: pc 191: caload of sr at (2 : Int32): '!aload value ; bounds ; getD'
  refine Go.caload (.int c2) V_sr ⟨by decide, hb2⟩ r2 d_strm_191 ?_
  refine Go.castore (I' := IW Z EL s₀ h0.size []) (hI := wI (Sb.arv V_b (by decide))) V_b ⟨by decide, by decide⟩ g_b 2 rfl (Nat.le_of_ble_eq_true rfl) d_strm_192 fun hp82 K82 V_b_n => ?_
  replace V_b : Arv Z hp82 b k_b .char (6 : Int32) [(.int (nar .char c0)), (.int (nar .char c1)), (.int (nar .char c2)), (.int (0 : Int32)), (.int (0 : Int32)), (.int (0 : Int32))] (.int (0 : Int32)) := V_b_n
  replace O := O.keep K82 (allS g_b (all0))
  replace V_sr := V_sr.keep K82 (ninS ne_sr_b nin0)
  replace E_s := E_s.keep K82
  replace F_s_coder := F_s_coder.keep K82 (ninS ne_s_b nin0)
  replace F_s_value := F_s_value.keep K82 (ninS ne_s_b nin0)
  replace hz : n0 ≤ hp82.size := Nat.le_trans hz K82.1
  replace hlo : h0.size ≤ hp82.size := Nat.le_trans hlo K82.1
  replace KK : Keep h0 hp82 [] := KK.trans K82 (allS (Or.inr s_b) (all0))
  refine Go.dup d_strm_193 rfl ?_
  refine Go.iconst 3 d_strm_194 rfl ?_
  refine Go.aloadN d_strm_195 rfl rfl ?_
  refine Go.iconst 3 d_strm_196 rfl ?_
  -- at pc 197: pc 197: caload of sr at (3 : Int32): '!aload value ; bounds ; getD'
  refine Go.caload (.int c3) V_sr ⟨by decide, hb3⟩ r3 d_strm_197 ?_
  refine Go.castore (I' := IW Z EL s₀ h0.size []) (hI := wI (Sb.arv V_b (by decide))) V_b ⟨by decide, by decide⟩ g_b 3 rfl (Nat.le_of_ble_eq_true rfl) d_strm_198 fun hp83 K83 V_b_n => ?_
  replace V_b : Arv Z hp83 b k_b .char (6 : Int32) [(.int (nar .char c0)), (.int (nar .char c1)), (.int (nar .char c2)), (.int (nar .char c3)), (.int (0 : Int32)), (.int (0 : Int32))] (.int (0 : Int32)) := V_b_n
  replace O := O.keep K83 (allS g_b (all0))
  replace V_sr := V_sr.keep K83 (ninS ne_sr_b nin0)
  replace E_s := E_s.keep K83
  replace F_s_coder := F_s_coder.keep K83 (ninS ne_s_b nin0)
  replace F_s_value := F_s_value.keep K83 (ninS ne_s_b nin0)
  replace hz : n0 ≤ hp83.size := Nat.le_trans hz K83.1
  replace hlo : h0.size ≤ hp83.size := Nat.le_trans hlo K83.1
  replace KK : Keep h0 hp83 [] := KK.trans K83 (allS (Or.inr s_b) (all0))
  refine Go.dup d_strm_199 rfl ?_
  refine Go.iconst 4 d_strm_200 rfl ?_
  refine Go.aloadN d_strm_201 rfl rfl ?_
  refine Go.iconst 4 d_strm_202 rfl ?_
  -- at pc 203: pc 203: caload of sr at (4 : Int32): '!aload value ; bounds ; getD'
  refine Go.caload (.int c4) V_sr ⟨by decide, hb4⟩ r4 d_strm_203 ?_
  refine Go.castore (I' := IW Z EL s₀ h0.size []) (hI := wI (Sb.arv V_b (by decide))) V_b ⟨by decide, by decide⟩ g_b 4 rfl (Nat.le_of_ble_eq_true rfl) d_strm_204 fun hp84 K84 V_b_n => ?_
  replace V_b : Arv Z hp84 b k_b .char (6 : Int32) [(.int (nar .char c0)), (.int (nar .char c1)), (.int (nar .char c2)), (.int (nar .char c3)), (.int (nar .char c4)), (.int (0 : Int32))] (.int (0 : Int32)) := V_b_n
  replace O := O.keep K84 (allS g_b (all0))
  replace V_sr := V_sr.keep K84 (ninS ne_sr_b nin0)
  replace E_s := E_s.keep K84
  replace F_s_coder := F_s_coder.keep K84 (ninS ne_s_b nin0)
  replace F_s_value := F_s_value.keep K84 (ninS ne_s_b nin0)
  replace hz : n0 ≤ hp84.size := Nat.le_trans hz K84.1
  replace hlo : h0.size ≤ hp84.size := Nat.le_trans hlo K84.1
  replace KK : Keep h0 hp84 [] := KK.trans K84 (allS (Or.inr s_b) (all0))
  refine Go.dup d_strm_205 rfl ?_
  refine Go.iconst 5 d_strm_206 rfl ?_
  refine Go.aloadN d_strm_207 rfl rfl ?_
  refine Go.iconst 5 d_strm_208 rfl ?_
  -- at pc 209: pc 209: caload of sr at (5 : Int32): '!aload value ; bounds ; getD'
  refine Go.caload (.int c5) V_sr ⟨by decide, hb5⟩ r5 d_strm_209 ?_
  refine Go.castore (I' := IW Z EL s₀ h0.size []) (hI := wI (Sb.arv V_b (by decide))) V_b ⟨by decide, by decide⟩ g_b 5 rfl (Nat.le_of_ble_eq_true rfl) d_strm_210 fun hp85 K85 V_b_n => ?_
  replace V_b : Arv Z hp85 b k_b .char (6 : Int32) [(.int (nar .char c0)), (.int (nar .char c1)), (.int (nar .char c2)), (.int (nar .char c3)), (.int (nar .char c4)), (.int (nar .char c5))] (.int (0 : Int32)) := V_b_n
  replace O := O.keep K85 (allS g_b (all0))
  replace V_sr := V_sr.keep K85 (ninS ne_sr_b nin0)
  replace E_s := E_s.keep K85
  replace F_s_coder := F_s_coder.keep K85 (ninS ne_s_b nin0)
  replace F_s_value := F_s_value.keep K85 (ninS ne_s_b nin0)
  replace hz : n0 ≤ hp85.size := Nat.le_trans hz K85.1
  replace hlo : h0.size ≤ hp85.size := Nat.le_trans hlo K85.1
  replace KK : Keep h0 hp85 [] := KK.trans K85 (allS (Or.inr s_b) (all0))
  -- at pc 211: pc 211: invokespecial .invokespecial 38 stack [(.ref b), (.ref s), (.ref s)]
  rw [o0.nar, o1.nar, o2.nar, o3.nar, o4.nar, o5.nar] at V_b
  refine Go.callIP (I' := IW Z EL s₀ h0.size []) (hI := wQ (ws := [s]) (fun v h' q => by obtain ⟨rfl, K86, hc, t, kt, q1, q2, q3, hv, ha⟩ := q; exact K86) (allS (Sb.up l_s) all0)) s [(.ref b)] [(.ref s)] (pay_new hw (W := 1) (wd_15 hw) [c0, c1, c2, c3, c4, c5] g_s hz E_s F_s_value F_s_coder V_b (S_cs.ext O.2) hcs rfl (Nat.le_of_ble_eq_true rfl) (Nat.le_of_ble_eq_true rfl) (by intro c hc; simp only [List.mem_cons, List.not_mem_nil, or_false] at hc; rcases hc with rfl | rfl | rfl | rfl | rfl | rfl <;> first | exact o0.r | exact o1.r | exact o2.r | exact o3.r | exact o4.r | exact o5.r) (by decide) (by decide)) (wd_17 hw) (wd_18 hw) (wd_16 hw) (wd_19 hw) (by decide) pd_23 rfl rfl rfl (Nat.le_of_ble_eq_true rfl) (Nat.le_of_ble_eq_true rfl) (Nat.le_of_ble_eq_true rfl) d_strm_211 ?_
  rintro _ hp86 ⟨rfl, K86, hc, t, kt, q1, q2, q3, hv, ha⟩
  replace O := O.keep K86 (allS g_s (all0))
  replace V_sr := V_sr.keep K86 (ninS ne_sr_s nin0)
  replace E_s := E_s.keep K86
  replace V_b := V_b.keep K86 (ninS (Ne.symm ne_s_b) nin0)
  replace hz : n0 ≤ hp86.size := Nat.le_trans hz K86.1
  replace hlo : h0.size ≤ hp86.size := Nat.le_trans hlo K86.1
  replace KK : Keep h0 hp86 [] := KK.trans K86 (allS (Or.inr s_s) (all0))
  show GW_strm l Z EL s₀ n0 (fun v h => ∃ (s t : Addr) (k : ClassId), v = some (.ref s) ∧ Keep h0 h [] ∧ Byt Z h s t k ([c0, c1, c2, c3, c4, c5].map own_b)) h0.size [] hp86 3 16 214 #[.val (.ref sr), .val (.int (6 : Int32))] [(.ref s)]
  -- at pc 214: pc 214: areturn .areturn stack [(.ref s)]
  exact GW.areturn hEL d_strm_214 rfl rfl rfl (by decide) (by decide) ⟨s, t, kt, rfl, KK, Byt.of ⟨E_s, hc, hv, ha⟩⟩
theorem ctw_strT (l : Launch) (Z : State) (a0 : Array Value) (hw : ∀ d ∈ tables_1, d.before a0 Z = true) (n0 : Nat) (sr : Addr) (ks : ClassId) (a : Nat) (c0 c1 : Int32) (h0 : Heap) (hz : n0 ≤ h0.size) (O : Old Z n0 h0) (z : Int32) (S_cs : Sta Z Z.heap "java/lang/String" "COMPACT_STRINGS" "Z" (.int z)) (hcs : ¬ z = 0) (V_sr : Arv Z h0 sr ks .char (2 : Int32) [(.int c0), (.int c1)] (.int (0 : Int32))) (ha : a ≤ 2) (o0 : Ch c0) (o1 : Ch c1) :
    CtW l Z EL n0 "com/example/triplecast/triplecast/cli/MediaTypeIsPinLaw" "str" "([CI)Ljava/lang/String;" [] method_5_code 2 (some (.object "java/lang/String")) R_strm #[.ref sr, .int (Int32.ofNat a)] h0 [] (fun v h => ∃ (s t : Addr) (k : ClassId), v = some (.ref s) ∧ Keep h0 h [] ∧ Byt Z h s t k (([c0, c1].take a).map own_b)) := by
  rcases (by omega : a = 0 ∨ a = 1 ∨ a = 2) with rfl | rfl | rfl
  · exact ctw_str0 l Z a0 hw n0 sr ks 2 _ h0 hz O z S_cs hcs V_sr
  · exact ctw_str1 l Z a0 hw n0 sr ks 2 _ c0 h0 hz O z S_cs hcs V_sr rfl (by decide) o0
  · exact ctw_str2 l Z a0 hw n0 sr ks 2 _ c0 c1 h0 hz O z S_cs hcs V_sr rfl (by decide) o0 rfl (by decide) o1
theorem ctw_strQ (l : Launch) (Z : State) (a0 : Array Value) (hw : ∀ d ∈ tables_1, d.before a0 Z = true) (n0 : Nat) (sr : Addr) (ks : ClassId) (a : Nat) (c0 c1 c2 c3 c4 c5 : Int32) (h0 : Heap) (hz : n0 ≤ h0.size) (O : Old Z n0 h0) (z : Int32) (S_cs : Sta Z Z.heap "java/lang/String" "COMPACT_STRINGS" "Z" (.int z)) (hcs : ¬ z = 0) (V_sr : Arv Z h0 sr ks .char (6 : Int32) [(.int c0), (.int c1), (.int c2), (.int c3), (.int c4), (.int c5)] (.int (0 : Int32))) (ha : a ≤ 6) (o0 : Ch c0) (o1 : Ch c1) (o2 : Ch c2) (o3 : Ch c3) (o4 : Ch c4) (o5 : Ch c5) :
    CtW l Z EL n0 "com/example/triplecast/triplecast/cli/MediaTypeIsPinLaw" "str" "([CI)Ljava/lang/String;" [] method_5_code 2 (some (.object "java/lang/String")) R_strm #[.ref sr, .int (Int32.ofNat a)] h0 [] (fun v h => ∃ (s t : Addr) (k : ClassId), v = some (.ref s) ∧ Keep h0 h [] ∧ Byt Z h s t k (([c0, c1, c2, c3, c4, c5].take a).map own_b)) := by
  rcases (by omega : a = 0 ∨ a = 1 ∨ a = 2 ∨ a = 3 ∨ a = 4 ∨ a = 5 ∨ a = 6) with rfl | rfl | rfl | rfl | rfl | rfl | rfl
  · exact ctw_str0 l Z a0 hw n0 sr ks 6 _ h0 hz O z S_cs hcs V_sr
  · exact ctw_str1 l Z a0 hw n0 sr ks 6 _ c0 h0 hz O z S_cs hcs V_sr rfl (by decide) o0
  · exact ctw_str2 l Z a0 hw n0 sr ks 6 _ c0 c1 h0 hz O z S_cs hcs V_sr rfl (by decide) o0 rfl (by decide) o1
  · exact ctw_str3 l Z a0 hw n0 sr ks 6 _ c0 c1 c2 h0 hz O z S_cs hcs V_sr rfl (by decide) o0 rfl (by decide) o1 rfl (by decide) o2
  · exact ctw_str4 l Z a0 hw n0 sr ks 6 _ c0 c1 c2 c3 h0 hz O z S_cs hcs V_sr rfl (by decide) o0 rfl (by decide) o1 rfl (by decide) o2 rfl (by decide) o3
  · exact ctw_str5 l Z a0 hw n0 sr ks 6 _ c0 c1 c2 c3 c4 h0 hz O z S_cs hcs V_sr rfl (by decide) o0 rfl (by decide) o1 rfl (by decide) o2 rfl (by decide) o3 rfl (by decide) o4
  · exact ctw_str6 l Z a0 hw n0 sr ks 6 _ c0 c1 c2 c3 c4 c5 h0 hz O z S_cs hcs V_sr rfl (by decide) o0 rfl (by decide) o1 rfl (by decide) o2 rfl (by decide) o3 rfl (by decide) o4 rfl (by decide) o5
def exv (i tl sl t0 t1 s0 s1 : Int32) : Int32 := if i < tl then (if i = 0 then t0 else t1) else if i = tl then 47 else if (i - tl) - (1 : Int32) < sl then (if (i - tl) - (1 : Int32) = 0 then s0 else s1) else 0
theorem exv_ch {i tl sl t0 t1 s0 s1 : Int32} (o0 : Ch t0) (o1 : Ch t1) (o2 : Ch s0) (o3 : Ch s1) : Ch (exv i tl sl t0 t1 s0 s1) := by
  unfold exv
  split
  · split
    · exact o0
    · exact o1
  · split
    · exact Ch.slash
    · split
      · split
        · exact o2
        · exact o3
      · exact Ch.zero
theorem d_exm_0 : decode method_3_code 0 = .ok (.iload_n 0, 1) := by decide +kernel
theorem d_exm_1 : decode method_3_code 1 = .ok (.iload_n 1, 1) := by decide +kernel
theorem d_exm_2 : decode method_3_code 2 = .ok (.if_icmp .ge 14, 3) := by decide +kernel
theorem d_exm_5 : decode method_3_code 5 = .ok (.iload_n 0, 1) := by decide +kernel
theorem d_exm_6 : decode method_3_code 6 = .ok (.ifCond .ne 7, 3) := by decide +kernel
theorem d_exm_9 : decode method_3_code 9 = .ok (.iload_n 3, 1) := by decide +kernel
theorem d_exm_10 : decode method_3_code 10 = .ok (.goto 5, 3) := by decide +kernel
theorem d_exm_13 : decode method_3_code 13 = .ok (.iload 4, 2) := by decide +kernel
theorem d_exm_15 : decode method_3_code 15 = .ok (.ireturn, 1) := by decide +kernel
theorem d_exm_16 : decode method_3_code 16 = .ok (.iload_n 0, 1) := by decide +kernel
theorem d_exm_17 : decode method_3_code 17 = .ok (.iload_n 1, 1) := by decide +kernel
theorem d_exm_18 : decode method_3_code 18 = .ok (.if_icmp .ne 6, 3) := by decide +kernel
theorem d_exm_21 : decode method_3_code 21 = .ok (.bipush 47, 2) := by decide +kernel
theorem d_exm_23 : decode method_3_code 23 = .ok (.ireturn, 1) := by decide +kernel
theorem d_exm_24 : decode method_3_code 24 = .ok (.iload_n 0, 1) := by decide +kernel
theorem d_exm_25 : decode method_3_code 25 = .ok (.iload_n 1, 1) := by decide +kernel
theorem d_exm_26 : decode method_3_code 26 = .ok (.isub, 1) := by decide +kernel
theorem d_exm_27 : decode method_3_code 27 = .ok (.iconst 1, 1) := by decide +kernel
theorem d_exm_28 : decode method_3_code 28 = .ok (.isub, 1) := by decide +kernel
theorem d_exm_29 : decode method_3_code 29 = .ok (.istore 7, 2) := by decide +kernel
theorem d_exm_31 : decode method_3_code 31 = .ok (.iload 7, 2) := by decide +kernel
theorem d_exm_33 : decode method_3_code 33 = .ok (.iload_n 2, 1) := by decide +kernel
theorem d_exm_34 : decode method_3_code 34 = .ok (.if_icmp .ge 16, 3) := by decide +kernel
theorem d_exm_37 : decode method_3_code 37 = .ok (.iload 7, 2) := by decide +kernel
theorem d_exm_39 : decode method_3_code 39 = .ok (.ifCond .ne 8, 3) := by decide +kernel
theorem d_exm_42 : decode method_3_code 42 = .ok (.iload 5, 2) := by decide +kernel
theorem d_exm_44 : decode method_3_code 44 = .ok (.goto 5, 3) := by decide +kernel
theorem d_exm_47 : decode method_3_code 47 = .ok (.iload 6, 2) := by decide +kernel
theorem d_exm_49 : decode method_3_code 49 = .ok (.ireturn, 1) := by decide +kernel
theorem d_exm_50 : decode method_3_code 50 = .ok (.iconst 0, 1) := by decide +kernel
theorem d_exm_51 : decode method_3_code 51 = .ok (.ireturn, 1) := by decide +kernel
abbrev R_exm : Room := ({ frames := 0, cells := 0, slots := 0, locals := 0 } : Room)
abbrev GM_exm (l : Launch) (Z : State) (n0 : Nat) (Q : Option Value → Heap → Prop) (h : Heap) (cells slots pc : Nat) (Ls : Array Slot) (st : List Value) : Prop := Go l Z n0 R_exm "com/example/triplecast/triplecast/cli/MediaTypeIsPinLaw" "ex" method_3_code 8 (some .char) IN (FN n0 R_exm Q) h cells slots pc Ls st
abbrev GW_exm (l : Launch) (Z : State) (EL : List (String × Nat)) (s₀ : State) (n0 : Nat) (Q : Option Value → Heap → Prop) (lo : Nat) (Sf : List Addr) (h : Heap) (cells slots pc : Nat) (Ls : Array Slot) (st : List Value) : Prop := Go l Z n0 R_exm "com/example/triplecast/triplecast/cli/MediaTypeIsPinLaw" "ex" method_3_code 8 (some .char) (IW Z EL s₀ lo Sf) (FW Z EL s₀ n0 R_exm Q) h cells slots pc Ls st
theorem pf_exm : plainFor (⟨"com/example/triplecast/triplecast/cli/MediaTypeIsPinLaw", "ex", "(IIICCCC)C"⟩ : MethodName) = true := plainFor_of_name (by first | (simp [plainName, overriddenIn]; done) | decide +kernel)
theorem ct_exm (l : Launch) (Z : State) (a0 : Array Value) (hw : ∀ d ∈ tables_1, d.before a0 Z = true) (n0 : Nat) (i tl sl t0 t1 s0 s1 : Int32) (h0 : Heap) (o0 : Ch t0) (o1 : Ch t1) (o2 : Ch s0) (o3 : Ch s1) : Ct l Z n0 "com/example/triplecast/triplecast/cli/MediaTypeIsPinLaw" "ex" "(IIICCCC)C" [] method_3_code 8 (some .char) R_exm #[.int i, .int tl, .int sl, .int t0, .int t1, .int s0, .int s1] h0 (fun v h => v = some (.int (exv i tl sl t0 t1 s0 s1)) ∧ h0 = h) := by
  refine Ct.of_go pf_exm (Ls := #[.val (.int i), .val (.int tl), .val (.int sl), .val (.int t0), .val (.int t1), .val (.int s0), .val (.int s1), .unset]) (fun m => by first | (simp [entryFrame, mkF, argsToLocals, Value.category]; done) | rfl) ?_
  show GM_exm l Z n0 (fun v h => v = some (.int (exv i tl sl t0 t1 s0 s1)) ∧ h0 = h) h0 0 0 0 #[.val (.int i), .val (.int tl), .val (.int sl), .val (.int t0), .val (.int t1), .val (.int s0), .val (.int s1), .unset] []
  refine Go.iloadN d_exm_0 rfl ?_
  refine Go.iloadN d_exm_1 rfl ?_
  -- at pc 2: pc 2: if_icmp .if_icmp .ge 14 stack [(.int tl), (.int i)]
  by_cases q1 : i < tl
  · refine Go.icF d_exm_2 (tlt q1).2.1 ?_
    refine Go.iloadN d_exm_5 rfl ?_
    -- at pc 6: pc 6: ifCond .ifCond .ne 7 stack [(.int i)]
    by_cases q2 : i = (0 : Int32)
    · refine Go.ifF d_exm_6 (teq q2).2 ?_
      refine Go.iloadN d_exm_9 rfl ?_
      refine Go.goto 15 d_exm_10 (by decide) (by decide) ?_
      -- at pc 15: pc 15: ireturn .ireturn stack [(.int t0)]
      exact Go.nreturn .char d_exm_15 rfl (by simp) (by decide) (by decide) ⟨by rw [exv, if_pos q1, if_pos q2]; exact congrArg (fun q => some (Value.int q)) o0.nar, rfl⟩
    · refine Go.ifT 13 d_exm_6 (feq q2).2 (by decide) (by decide) ?_
      refine Go.iload d_exm_13 rfl ?_
      -- at pc 15: pc 15: ireturn .ireturn stack [(.int t1)]
      exact Go.nreturn .char d_exm_15 rfl (by simp) (by decide) (by decide) ⟨by rw [exv, if_pos q1, if_neg q2]; exact congrArg (fun q => some (Value.int q)) o1.nar, rfl⟩
  · refine Go.icT 16 d_exm_2 (flt q1).2.1 (by decide) (by decide) ?_
    refine Go.iloadN d_exm_16 rfl ?_
    refine Go.iloadN d_exm_17 rfl ?_
    -- at pc 18: pc 18: if_icmp .if_icmp .ne 6 stack [(.int tl), (.int i)]
    by_cases q3 : i = tl
    · refine Go.icF d_exm_18 (teq q3).2 ?_
      refine Go.bipush 47 d_exm_21 rfl ?_
      -- at pc 23: pc 23: ireturn .ireturn stack [(.int (47 : Int32))]
      exact Go.nreturn .char d_exm_23 rfl (by simp) (by decide) (by decide) ⟨by rw [exv, if_neg q1, if_pos q3]; exact congrArg (fun q => some (Value.int q)) Ch.slash.nar, rfl⟩
    · refine Go.icT 24 d_exm_18 (feq q3).2 (by decide) (by decide) ?_
      refine Go.iloadN d_exm_24 rfl ?_
      refine Go.iloadN d_exm_25 rfl ?_
      refine Go.isub d_exm_26 ?_
      refine Go.iconst 1 d_exm_27 rfl ?_
      refine Go.isub d_exm_28 ?_
      refine Go.istore (Ls' := #[.val (.int i), .val (.int tl), .val (.int sl), .val (.int t0), .val (.int t1), .val (.int s0), .val (.int s1), .val (.int ((i - tl) - (1 : Int32)))]) d_exm_29 rfl ?_
      refine Go.iload d_exm_31 rfl ?_
      refine Go.iloadN d_exm_33 rfl ?_
      -- at pc 34: pc 34: if_icmp .if_icmp .ge 16 stack [(.int sl), (.int ((i - tl) - (1 : Int32)))]
      by_cases q4 : ((i - tl) - (1 : Int32)) < sl
      · refine Go.icF d_exm_34 (tlt q4).2.1 ?_
        refine Go.iload d_exm_37 rfl ?_
        -- at pc 39: pc 39: ifCond .ifCond .ne 8 stack [(.int ((i - tl) - (1 : Int32)))]
        by_cases q5 : ((i - tl) - (1 : Int32)) = (0 : Int32)
        · refine Go.ifF d_exm_39 (teq q5).2 ?_
          refine Go.iload d_exm_42 rfl ?_
          refine Go.goto 49 d_exm_44 (by decide) (by decide) ?_
          -- at pc 49: pc 49: ireturn .ireturn stack [(.int s0)]
          exact Go.nreturn .char d_exm_49 rfl (by simp) (by decide) (by decide) ⟨by rw [exv, if_neg q1, if_neg q3, if_pos q4, if_pos q5]; exact congrArg (fun q => some (Value.int q)) o2.nar, rfl⟩
        · refine Go.ifT 47 d_exm_39 (feq q5).2 (by decide) (by decide) ?_
          refine Go.iload d_exm_47 rfl ?_
          -- at pc 49: pc 49: ireturn .ireturn stack [(.int s1)]
          exact Go.nreturn .char d_exm_49 rfl (by simp) (by decide) (by decide) ⟨by rw [exv, if_neg q1, if_neg q3, if_pos q4, if_neg q5]; exact congrArg (fun q => some (Value.int q)) o3.nar, rfl⟩
      · refine Go.icT 50 d_exm_34 (flt q4).2.1 (by decide) (by decide) ?_
        refine Go.iconst 0 d_exm_50 rfl ?_
        -- at pc 51: pc 51: ireturn .ireturn stack [(.int (0 : Int32))]
        exact Go.nreturn .char d_exm_51 rfl (by simp) (by decide) (by decide) ⟨by rw [exv, if_neg q1, if_neg q3, if_neg q4]; exact congrArg (fun q => some (Value.int q)) Ch.zero.nar, rfl⟩
theorem d_sam_0 : decode method_4_code 0 = .ok (.iload_n 2, 1) := by decide +kernel
theorem d_sam_1 : decode method_4_code 1 = .ok (.iload_n 3, 1) := by decide +kernel
theorem d_sam_2 : decode method_4_code 2 = .ok (.if_icmp .ge 12, 3) := by decide +kernel
theorem d_sam_5 : decode method_4_code 5 = .ok (.aload_n 0, 1) := by decide +kernel
theorem d_sam_6 : decode method_4_code 6 = .ok (.iload_n 2, 1) := by decide +kernel
theorem d_sam_7 : decode method_4_code 7 = .ok (.caload, 1) := by decide +kernel
theorem d_sam_8 : decode method_4_code 8 = .ok (.aload_n 1, 1) := by decide +kernel
theorem d_sam_9 : decode method_4_code 9 = .ok (.iload_n 2, 1) := by decide +kernel
theorem d_sam_10 : decode method_4_code 10 = .ok (.caload, 1) := by decide +kernel
theorem d_sam_11 : decode method_4_code 11 = .ok (.if_icmp .ne 7, 3) := by decide +kernel
theorem d_sam_14 : decode method_4_code 14 = .ok (.iconst 1, 1) := by decide +kernel
theorem d_sam_15 : decode method_4_code 15 = .ok (.goto 4, 3) := by decide +kernel
theorem d_sam_18 : decode method_4_code 18 = .ok (.iconst 0, 1) := by decide +kernel
theorem d_sam_19 : decode method_4_code 19 = .ok (.ireturn, 1) := by decide +kernel
abbrev R_sam : Room := ({ frames := 0, cells := 0, slots := 0, locals := 0 } : Room)
abbrev GM_sam (l : Launch) (Z : State) (n0 : Nat) (Q : Option Value → Heap → Prop) (h : Heap) (cells slots pc : Nat) (Ls : Array Slot) (st : List Value) : Prop := Go l Z n0 R_sam "com/example/triplecast/triplecast/cli/MediaTypeIsPinLaw" "same" method_4_code 4 (some .boolean) IN (FN n0 R_sam Q) h cells slots pc Ls st
abbrev GW_sam (l : Launch) (Z : State) (EL : List (String × Nat)) (s₀ : State) (n0 : Nat) (Q : Option Value → Heap → Prop) (lo : Nat) (Sf : List Addr) (h : Heap) (cells slots pc : Nat) (Ls : Array Slot) (st : List Value) : Prop := Go l Z n0 R_sam "com/example/triplecast/triplecast/cli/MediaTypeIsPinLaw" "same" method_4_code 4 (some .boolean) (IW Z EL s₀ lo Sf) (FW Z EL s₀ n0 R_sam Q) h cells slots pc Ls st
theorem pf_sam : plainFor (⟨"com/example/triplecast/triplecast/cli/MediaTypeIsPinLaw", "same", "([C[CII)Z"⟩ : MethodName) = true := plainFor_of_name (by first | (simp [plainName, overriddenIn]; done) | decide +kernel)
theorem ct_sam (l : Launch) (Z : State) (a0 : Array Value) (hw : ∀ d ∈ tables_1, d.before a0 Z = true) (n0 : Nat) (qa ea : Addr) (kq ke : ClassId) (vq ve : List Value) (i n x y : Int32) (h0 : Heap) (V_qa : Arv Z h0 qa kq .char (6 : Int32) vq (.int (0 : Int32))) (V_ea : Arv Z h0 ea ke .char (6 : Int32) ve (.int (0 : Int32))) (hi : ¬ i < 0 ∧ i < (6 : Int32)) (hx : vq.getD i.toNatClampNeg (.int (0 : Int32)) = .int x) (hy : ve.getD i.toNatClampNeg (.int (0 : Int32)) = .int y) :
    Ct l Z n0 "com/example/triplecast/triplecast/cli/MediaTypeIsPinLaw" "same" "([C[CII)Z" [] method_4_code 4 (some .boolean) R_sam #[.ref qa, .ref ea, .int i, .int n] h0 (fun v h => ∃ w : Int32, v = some (.int w) ∧ ((w = 1 ∧ (i < n → x = y)) ∨ (w = 0 ∧ i < n ∧ ¬ x = y)) ∧ h0 = h) := by
  refine Ct.of_go pf_sam (Ls := #[.val (.ref qa), .val (.ref ea), .val (.int i), .val (.int n)]) (fun m => by first | rfl | (simp [entryFrame, mkF, argsToLocals, Value.category]; done)) ?_
  show GM_sam l Z n0 (fun v h => ∃ w : Int32, v = some (.int w) ∧ ((w = 1 ∧ (i < n → x = y)) ∨ (w = 0 ∧ i < n ∧ ¬ x = y)) ∧ h0 = h) h0 0 0 0 #[.val (.ref qa), .val (.ref ea), .val (.int i), .val (.int n)] []
  refine Go.iloadN d_sam_0 rfl ?_
  refine Go.iloadN d_sam_1 rfl ?_
  -- at pc 2: pc 2: if_icmp .if_icmp .ge 12 stack [(.int n), (.int i)]
  by_cases q1 : i < n
  · refine Go.icF d_sam_2 (tlt q1).2.1 ?_
    refine Go.aloadN d_sam_5 rfl rfl ?_
    refine Go.iloadN d_sam_6 rfl ?_
    -- at pc 7: pc 7: caload of qa at i: '!aload value ; bounds ; getD'
    refine Go.caload (.int x) V_qa hi hx d_sam_7 ?_
    refine Go.aloadN d_sam_8 rfl rfl ?_
    refine Go.iloadN d_sam_9 rfl ?_
    -- at pc 10: pc 10: caload of ea at i: '!aload value ; bounds ; getD'
    refine Go.caload (.int y) V_ea hi hy d_sam_10 ?_
    by_cases q2 : x = y
    · refine Go.icF d_sam_11 (teq q2).2 ?_
      refine Go.iconst 1 d_sam_14 rfl ?_
      refine Go.goto 19 d_sam_15 (by decide) (by decide) ?_
      -- at pc 19: pc 19: ireturn .ireturn stack [(.int (1 : Int32))]
      exact Go.nreturn .boolean d_sam_19 rfl (by simp) (by decide) (by decide) ⟨1, rfl, Or.inl ⟨rfl, fun _ => q2⟩, rfl⟩
    · refine Go.icT 18 d_sam_11 (feq q2).2 (by decide) (by decide) ?_
      refine Go.iconst 0 d_sam_18 rfl ?_
      -- at pc 19: pc 19: ireturn .ireturn stack [(.int (0 : Int32))]
      exact Go.nreturn .boolean d_sam_19 rfl (by simp) (by decide) (by decide) ⟨0, rfl, Or.inr ⟨rfl, q1, q2⟩, rfl⟩
  · refine Go.icT 14 d_sam_2 (flt q1).2.1 (by decide) (by decide) ?_
    refine Go.iconst 1 d_sam_14 rfl ?_
    refine Go.goto 19 d_sam_15 (by decide) (by decide) ?_
    -- at pc 19: pc 19: ireturn .ireturn stack [(.int (1 : Int32))]
    exact Go.nreturn .boolean d_sam_19 rfl (by simp) (by decide) (by decide) ⟨1, rfl, Or.inl ⟨rfl, fun q => absurd q q1⟩, rfl⟩
theorem own_rem3 (y : Int32) : ∃ a : Nat, a ≤ 2 ∧ ((y &&& (255 : Int32)) % (3 : Int32)) = Int32.ofNat a := by
  have h2 := Ch.and y
  obtain ⟨q1, q2⟩ := h2
  have h3 := (c_irem (y &&& 255) 3 3 rfl).1 q1
  exact ⟨((y &&& 255) % 3).toInt.toNat, by omega, Int32.toInt_inj.mp (by rw [own_ofInt (by omega)]; omega)⟩
theorem own_exne {Z : State} {h : Heap} {a b : Addr} {C D : String} (E : Exa Z h a C) (F : Exa Z h b D) (hn : C ≠ D) : a ≠ b := fun q => by
  subst q
  obtain ⟨c1, k1, f1, f2, -⟩ := E
  obtain ⟨c2, k2, g1, g2, -⟩ := F
  cases f1.symm.trans g1
  exact ids_ne f2 g2 hn rfl
theorem own_ushr3 (y : Int32) : 0 ≤ ((y.toUInt32 >>> ((3 : Int32) &&& 31).toUInt32).toInt32).toInt := by
  have h := c_iushr y 3 3 (by decide) (by decide)
  simp only [Nat.reducePow] at h
  omega
theorem own_ushr16 (y : Int32) : 0 ≤ ((y.toUInt32 >>> ((16 : Int32) &&& 31).toUInt32).toInt32).toInt := by
  have h := c_iushr y 16 16 (by decide) (by decide)
  simp only [Nat.reducePow] at h
  omega
theorem own_nz {n : Nat} (h : 0 < n) (h2 : n < 2 ^ 31) : Int32.ofNat n ≠ 0 := fun q => by have := congrArg Int32.toInt q; rw [own_ofInt h2] at this; have e : (0 : Int32).toInt = 0 := rfl; omega
theorem own_remN (y : Int32) (N : Nat) (h1 : 1 ≤ N) (h2 : N ≤ 5) : ∃ j : Nat, j < N ∧ (((y.toUInt32 >>> ((3 : Int32) &&& 31).toUInt32).toInt32) % (Int32.ofNat N)) = Int32.ofNat j := by
  have q1 := own_ushr3 y
  have h3 := (c_irem ((y.toUInt32 >>> ((3 : Int32) &&& 31).toUInt32).toInt32) (Int32.ofNat N) N (own_ofInt (by omega))).1 q1
  generalize ((y.toUInt32 >>> ((3 : Int32) &&& 31).toUInt32).toInt32) = w at *
  have g1 := Int.emod_nonneg w.toInt (show (N : Int) ≠ 0 by omega)
  have g2 := Int.emod_lt_of_pos w.toInt (show (0 : Int) < N by omega)
  exact ⟨(w % Int32.ofNat N).toInt.toNat, by omega, Int32.toInt_inj.mp (by rw [own_ofInt (by omega)]; omega)⟩
theorem own_rem7 (y : Int32) : ∃ j : Nat, j ≤ 6 ∧ (((y.toUInt32 >>> ((16 : Int32) &&& 31).toUInt32).toInt32) % (7 : Int32)) = Int32.ofNat j := by
  have q1 := own_ushr16 y
  have h3 := (c_irem ((y.toUInt32 >>> ((16 : Int32) &&& 31).toUInt32).toInt32) 7 7 rfl).1 q1
  generalize ((y.toUInt32 >>> ((16 : Int32) &&& 31).toUInt32).toInt32) = w at *
  exact ⟨(w % 7).toInt.toNat, by omega, Int32.toInt_inj.mp (by rw [own_ofInt (by omega)]; omega)⟩
theorem own_sub1 (a b : Nat) : Int32.ofNat (a + 1 + b) - (1 : Int32) = Int32.ofNat (a + b) := by
  rw [show a + 1 + b = (a + b) + 1 by omega, ← own_of1, Int32.add_sub_cancel]
theorem own_E {a b : Nat} {t0 t1 s0 s1 e0 e1 e2 e3 e4 : Int32} (ha : a ≤ 2) (hb : b ≤ 2) (h0 : exv 0 (Int32.ofNat a) (Int32.ofNat b) t0 t1 s0 s1 = e0) (h1 : exv 1 (Int32.ofNat a) (Int32.ofNat b) t0 t1 s0 s1 = e1) (h2 : exv 2 (Int32.ofNat a) (Int32.ofNat b) t0 t1 s0 s1 = e2) (h3 : exv 3 (Int32.ofNat a) (Int32.ofNat b) t0 t1 s0 s1 = e3) (h4 : exv 4 (Int32.ofNat a) (Int32.ofNat b) t0 t1 s0 s1 = e4) :
    [e0, e1, e2, e3, e4].take (a + 1 + b) = ([t0, t1].take a ++ [47]) ++ [s0, s1].take b := by
  subst h0 h1 h2 h3 h4
  rcases (by omega : a = 0 ∨ a = 1 ∨ a = 2) with rfl | rfl | rfl <;> rcases (by omega : b = 0 ∨ b = 1 ∨ b = 2) with rfl | rfl | rfl <;> rfl
theorem own_take {q0 q1 q2 q3 q4 q5 e0 e1 e2 e3 e4 : Int32} {m N : Nat} (hm : m ≤ 6) (hN : 1 ≤ N) (hN2 : N ≤ 5) : [q0, q1, q2, q3, q4, q5].take m = [e0, e1, e2, e3, e4].take N ↔ (m = N ∧ (0 < N → q0 = e0) ∧ (1 < N → q1 = e1) ∧ (2 < N → q2 = e2) ∧ (3 < N → q3 = e3) ∧ (4 < N → q4 = e4)) := by
  rcases (by omega : m = 0 ∨ m = 1 ∨ m = 2 ∨ m = 3 ∨ m = 4 ∨ m = 5 ∨ m = 6) with rfl | rfl | rfl | rfl | rfl | rfl | rfl <;> rcases (by omega : N = 1 ∨ N = 2 ∨ N = 3 ∨ N = 4 ∨ N = 5) with rfl | rfl | rfl | rfl | rfl <;> simp
theorem own_main {a b m : Nat} {t0 t1 s0 s1 e0 e1 e2 e3 e4 q0 q1 q2 q3 q4 q5 : Int32} (ha : a ≤ 2) (hb : b ≤ 2) (hm : m ≤ 6) (h0 : exv 0 (Int32.ofNat a) (Int32.ofNat b) t0 t1 s0 s1 = e0) (h1 : exv 1 (Int32.ofNat a) (Int32.ofNat b) t0 t1 s0 s1 = e1) (h2 : exv 2 (Int32.ofNat a) (Int32.ofNat b) t0 t1 s0 s1 = e2) (h3 : exv 3 (Int32.ofNat a) (Int32.ofNat b) t0 t1 s0 s1 = e3) (h4 : exv 4 (Int32.ofNat a) (Int32.ofNat b) t0 t1 s0 s1 = e4) (o0 : Ch q0) (o1 : Ch q1) (o2 : Ch q2) (o3 : Ch q3) (o4 : Ch q4) (o5 : Ch q5) (p0 : Ch e0) (p1 : Ch e1) (p2 : Ch e2) (p3 : Ch e3) (p4 : Ch e4) :
    (([q0, q1, q2, q3, q4, q5].take m).map own_b = ((([] ++ ([t0, t1].take a).map own_b) ++ [47]) ++ ([s0, s1].take b).map own_b)) ↔ (m = a + 1 + b ∧ (0 < a + 1 + b → q0 = e0) ∧ (1 < a + 1 + b → q1 = e1) ∧ (2 < a + 1 + b → q2 = e2) ∧ (3 < a + 1 + b → q3 = e3) ∧ (4 < a + 1 + b → q4 = e4)) := by
  have e : (([] ++ ([t0, t1].take a).map own_b) ++ [47]) ++ ([s0, s1].take b).map own_b = ([e0, e1, e2, e3, e4].take (a + 1 + b)).map own_b := by
    rw [own_E ha hb h0 h1 h2 h3 h4, List.map_append, List.map_append]; rfl
  rw [e, own_mapinj, own_take hm (by omega) (by omega)]
  · intro c hc
    have := List.mem_of_mem_take hc
    simp only [List.mem_cons, List.not_mem_nil, or_false] at this
    rcases this with rfl | rfl | rfl | rfl | rfl | rfl <;> assumption
  · intro c hc
    have := List.mem_of_mem_take hc
    simp only [List.mem_cons, List.not_mem_nil, or_false] at this
    rcases this with rfl | rfl | rfl | rfl | rfl <;> assumption

abbrev R_law : Room := room_1
abbrev GM_law (l : Launch) (Z : State) (n0 : Nat) (Q : Option Value → Heap → Prop) (h : Heap) (cells slots pc : Nat) (Ls : Array Slot) (st : List Value) : Prop := Go l Z n0 R_law "com/example/triplecast/triplecast/cli/MediaTypeIsPinLaw" "law" code maxLocals ret IN (FN n0 R_law Q) h cells slots pc Ls st
abbrev GW_law (l : Launch) (Z : State) (EL : List (String × Nat)) (s₀ : State) (n0 : Nat) (Q : Option Value → Heap → Prop) (lo : Nat) (Sf : List Addr) (h : Heap) (cells slots pc : Nat) (Ls : Array Slot) (st : List Value) : Prop := Go l Z n0 R_law "com/example/triplecast/triplecast/cli/MediaTypeIsPinLaw" "law" code maxLocals ret (IW Z EL s₀ lo Sf) (FW Z EL s₀ n0 R_law Q) h cells slots pc Ls st
theorem pf_law : plainFor (⟨"com/example/triplecast/triplecast/cli/MediaTypeIsPinLaw", "law", "(IIIIII)Z"⟩ : MethodName) = true := plainFor_of_name (by first | (simp [plainName, overriddenIn]; done) | decide +kernel)
set_option maxRecDepth 65536 in
set_option maxHeartbeats 40000000 in
theorem ct_law (l : Launch) (Z : State) (a0 : Array Value) (hw : ∀ d ∈ tables_1, d.before a0 Z = true) (n0 : Nat) (p0 p1 p2 p3 p4 p5 : Int32) (h0 : Heap) (hz : n0 ≤ h0.size) (O : Old Z n0 h0) (z : Int32) (S_cs : Sta Z Z.heap "java/lang/String" "COMPACT_STRINGS" "Z" (.int z)) (hcs : ¬ z = 0) :
    CtW l Z EL n0 "com/example/triplecast/triplecast/cli/MediaTypeIsPinLaw" "law" "(IIIIII)Z" tables_1 code maxLocals ret R_law #[.int p0, .int p1, .int p2, .int p3, .int p4, .int p5] h0 [] (fun v _ => v = some (.int 1)) := by
  refine CtW.of_go pf_law (Ls := #[.val (.int p0), .val (.int p1), .val (.int p2), .val (.int p3), .val (.int p4), .val (.int p5), .unset, .unset, .unset, .unset, .unset, .unset, .unset, .unset, .unset, .unset, .unset, .unset, .unset, .unset, .unset, .unset]) (fun m => by first | (simp [entryFrame, mkF, argsToLocals, Value.category, maxLocals]; done) | rfl) fun s₀ => ?_
  have hlo : h0.size ≤ h0.size := Nat.le_refl _
  have hEL : EW Z a0 EL := ewEL hw
  show GW_law l Z EL s₀ n0 (fun v _ => v = some (.int 1)) h0.size [] h0 0 0 0 #[.val (.int p0), .val (.int p1), .val (.int p2), .val (.int p3), .val (.int p4), .val (.int p5), .unset, .unset, .unset, .unset, .unset, .unset, .unset, .unset, .unset, .unset, .unset, .unset, .unset, .unset, .unset, .unset] []
  refine Go.iloadN at_0 rfl ?_
  refine Go.sipush 255 at_1 rfl ?_
  refine Go.iand at_4 ?_
  refine Go.iconst 3 at_5 rfl ?_
  refine Go.irem at_6 (by decide) ?_
  obtain ⟨a, ha, hae⟩ := own_rem3 p2
  rw [hae]
  refine Go.istore (Ls' := #[.val (.int p0), .val (.int p1), .val (.int p2), .val (.int p3), .val (.int p4), .val (.int p5), .val (.int (Int32.ofNat a)), .unset, .unset, .unset, .unset, .unset, .unset, .unset, .unset, .unset, .unset, .unset, .unset, .unset, .unset, .unset]) at_7 rfl ?_
  refine Go.iloadN at_9 rfl ?_
  refine Go.bipush 8 at_10 rfl ?_
  refine Go.iushr at_12 ?_
  refine Go.sipush 255 at_13 rfl ?_
  refine Go.iand at_16 ?_
  refine Go.iconst 3 at_17 rfl ?_
  refine Go.irem at_18 (by decide) ?_
  obtain ⟨b, hb, hbe⟩ := own_rem3 ((p2.toUInt32 >>> ((8 : Int32) &&& 31).toUInt32).toInt32)
  rw [hbe]
  refine Go.istore (Ls' := #[.val (.int p0), .val (.int p1), .val (.int p2), .val (.int p3), .val (.int p4), .val (.int p5), .val (.int (Int32.ofNat a)), .val (.int (Int32.ofNat b)), .unset, .unset, .unset, .unset, .unset, .unset, .unset, .unset, .unset, .unset, .unset, .unset, .unset, .unset]) at_19 rfl ?_
  refine Go.iloadN at_21 rfl ?_
  refine Go.sipush 255 at_22 rfl ?_
  refine Go.iand at_25 ?_
  refine Go.i2c at_26 ?_
  rw [show ((p0 &&& (255 : Int32)).toUInt32.toUInt16.toUInt32.toInt32) = (p0 &&& (255 : Int32)) from (i2c_mask _)]
  generalize hg_t0 : (p0 &&& (255 : Int32)) = t0
  have o_t0 : Ch t0 := hg_t0 ▸ Ch.and _
  refine Go.istore (Ls' := #[.val (.int p0), .val (.int p1), .val (.int p2), .val (.int p3), .val (.int p4), .val (.int p5), .val (.int (Int32.ofNat a)), .val (.int (Int32.ofNat b)), .val (.int t0), .unset, .unset, .unset, .unset, .unset, .unset, .unset, .unset, .unset, .unset, .unset, .unset, .unset]) at_27 rfl ?_
  refine Go.iloadN at_29 rfl ?_
  refine Go.bipush 8 at_30 rfl ?_
  refine Go.iushr at_32 ?_
  refine Go.sipush 255 at_33 rfl ?_
  refine Go.iand at_36 ?_
  refine Go.i2c at_37 ?_
  rw [show ((((p0.toUInt32 >>> ((8 : Int32) &&& 31).toUInt32).toInt32) &&& (255 : Int32)).toUInt32.toUInt16.toUInt32.toInt32) = (((p0.toUInt32 >>> ((8 : Int32) &&& 31).toUInt32).toInt32) &&& (255 : Int32)) from (i2c_mask _)]
  generalize hg_t1 : (((p0.toUInt32 >>> ((8 : Int32) &&& 31).toUInt32).toInt32) &&& (255 : Int32)) = t1
  have o_t1 : Ch t1 := hg_t1 ▸ Ch.and _
  refine Go.istore (Ls' := #[.val (.int p0), .val (.int p1), .val (.int p2), .val (.int p3), .val (.int p4), .val (.int p5), .val (.int (Int32.ofNat a)), .val (.int (Int32.ofNat b)), .val (.int t0), .val (.int t1), .unset, .unset, .unset, .unset, .unset, .unset, .unset, .unset, .unset, .unset, .unset, .unset]) at_38 rfl ?_
  refine Go.iloadN at_40 rfl ?_
  refine Go.bipush 16 at_41 rfl ?_
  refine Go.iushr at_43 ?_
  refine Go.sipush 255 at_44 rfl ?_
  refine Go.iand at_47 ?_
  refine Go.i2c at_48 ?_
  rw [show ((((p0.toUInt32 >>> ((16 : Int32) &&& 31).toUInt32).toInt32) &&& (255 : Int32)).toUInt32.toUInt16.toUInt32.toInt32) = (((p0.toUInt32 >>> ((16 : Int32) &&& 31).toUInt32).toInt32) &&& (255 : Int32)) from (i2c_mask _)]
  generalize hg_s0 : (((p0.toUInt32 >>> ((16 : Int32) &&& 31).toUInt32).toInt32) &&& (255 : Int32)) = s0
  have o_s0 : Ch s0 := hg_s0 ▸ Ch.and _
  refine Go.istore (Ls' := #[.val (.int p0), .val (.int p1), .val (.int p2), .val (.int p3), .val (.int p4), .val (.int p5), .val (.int (Int32.ofNat a)), .val (.int (Int32.ofNat b)), .val (.int t0), .val (.int t1), .val (.int s0), .unset, .unset, .unset, .unset, .unset, .unset, .unset, .unset, .unset, .unset, .unset]) at_49 rfl ?_
  refine Go.iloadN at_51 rfl ?_
  refine Go.bipush 24 at_52 rfl ?_
  refine Go.iushr at_54 ?_
  refine Go.sipush 255 at_55 rfl ?_
  refine Go.iand at_58 ?_
  refine Go.i2c at_59 ?_
  rw [show ((((p0.toUInt32 >>> ((24 : Int32) &&& 31).toUInt32).toInt32) &&& (255 : Int32)).toUInt32.toUInt16.toUInt32.toInt32) = (((p0.toUInt32 >>> ((24 : Int32) &&& 31).toUInt32).toInt32) &&& (255 : Int32)) from (i2c_mask _)]
  generalize hg_s1 : (((p0.toUInt32 >>> ((24 : Int32) &&& 31).toUInt32).toInt32) &&& (255 : Int32)) = s1
  have o_s1 : Ch s1 := hg_s1 ▸ Ch.and _
  refine Go.istore (Ls' := #[.val (.int p0), .val (.int p1), .val (.int p2), .val (.int p3), .val (.int p4), .val (.int p5), .val (.int (Int32.ofNat a)), .val (.int (Int32.ofNat b)), .val (.int t0), .val (.int t1), .val (.int s0), .val (.int s1), .unset, .unset, .unset, .unset, .unset, .unset, .unset, .unset, .unset, .unset]) at_60 rfl ?_
  refine Go.iload at_62 rfl ?_
  refine Go.iconst 1 at_64 rfl ?_
  refine Go.iadd at_65 ?_
  rw [show ((Int32.ofNat a) + (1 : Int32)) = (Int32.ofNat (a + 1)) from (own_of1 _)]
  refine Go.iload at_66 rfl ?_
  refine Go.iadd at_68 ?_
  rw [show ((Int32.ofNat (a + 1)) + (Int32.ofNat b)) = (Int32.ofNat (a + 1 + b)) from (own_ofn _ _)]
  refine Go.istore (Ls' := #[.val (.int p0), .val (.int p1), .val (.int p2), .val (.int p3), .val (.int p4), .val (.int p5), .val (.int (Int32.ofNat a)), .val (.int (Int32.ofNat b)), .val (.int t0), .val (.int t1), .val (.int s0), .val (.int s1), .val (.int (Int32.ofNat (a + 1 + b))), .unset, .unset, .unset, .unset, .unset, .unset, .unset, .unset, .unset]) at_69 rfl ?_
  refine Go.bipush 6 at_71 rfl ?_
  -- at pc 73: pc 73: newarray .newarray .char stack [(.int (6 : Int32))]
  refine Go.newP (I' := IW Z EL s₀ h0.size []) (hI := wE) .char (wd_0 hw) rfl at_73 (by decide) 6 (by decide) (by decide) (by decide) (by decide) fun hp87 ea k_ea e_ea X87 V_ea => ?_
  have K87 : Keep h0 hp87 [] := (Keep.refl _ _).ext X87
  have g_ea : n0 ≤ ea := e_ea ▸ hz
  have l_ea : h0.size ≤ ea := e_ea ▸ hlo
  replace O := O.keep K87 (all0)
  replace V_ea : Arv Z hp87 ea k_ea .char (6 : Int32) [(.int (0 : Int32)), (.int (0 : Int32)), (.int (0 : Int32)), (.int (0 : Int32)), (.int (0 : Int32)), (.int (0 : Int32))] (.int (0 : Int32)) := V_ea.pad (pad_rep [] (.int (0 : Int32)) 6)
  replace hz : n0 ≤ hp87.size := Nat.le_trans hz K87.1
  replace hlo : h0.size ≤ hp87.size := Nat.le_trans hlo K87.1
  refine Go.astore (Ls' := #[.val (.int p0), .val (.int p1), .val (.int p2), .val (.int p3), .val (.int p4), .val (.int p5), .val (.int (Int32.ofNat a)), .val (.int (Int32.ofNat b)), .val (.int t0), .val (.int t1), .val (.int s0), .val (.int s1), .val (.int (Int32.ofNat (a + 1 + b))), .val (.ref ea), .unset, .unset, .unset, .unset, .unset, .unset, .unset, .unset]) at_75 rfl rfl ?_
  refine Go.aload at_77 rfl rfl ?_
  refine Go.iconst 0 at_79 rfl ?_
  refine Go.iconst 0 at_80 rfl ?_
  refine Go.iload at_81 rfl ?_
  refine Go.iload at_83 rfl ?_
  refine Go.iload at_85 rfl ?_
  refine Go.iload at_87 rfl ?_
  refine Go.iload at_89 rfl ?_
  refine Go.iload at_91 rfl ?_
  -- at pc 93: pc 93: invokestatic .invokestatic 7 stack [(.int s1), (.int s0), (.int t1), (.int t0), (.int (Int32.ofNat b)), (.int (Int32.ofNat a)), (.int (0 : Int32)), (.int (0 : Int32)), (.ref ea)]
  refine Go.callS (I' := IW Z EL s₀ h0.size []) (hI := wQ (ws := []) (fun v h' q => by obtain ⟨rfl, rfl⟩ := q; exact Keep.refl _ _) all0) [(.int (0 : Int32)), (.int (Int32.ofNat a)), (.int (Int32.ofNat b)), (.int t0), (.int t1), (.int s0), (.int s1)] [(.int (0 : Int32)), (.ref ea)] (ct_exm l Z a0 hw n0 (0 : Int32) (Int32.ofNat a) (Int32.ofNat b) t0 t1 s0 s1 _ o_t0 o_t1 o_s0 o_s1) (wd_1 hw) (wd_2 hw) (wd_3 hw) (wd_4 hw) (by decide) pd_24 rfl rfl rfl (Nat.le_of_ble_eq_true rfl) (Nat.le_of_ble_eq_true rfl) (Nat.le_of_ble_eq_true rfl) (Nat.le_of_ble_eq_true rfl) at_93 ?_
  rintro _ _ ⟨rfl, rfl⟩
  show GW_law l Z EL s₀ n0 (fun v _ => v = some (.int 1)) h0.size [] hp87 1 6 96 #[.val (.int p0), .val (.int p1), .val (.int p2), .val (.int p3), .val (.int p4), .val (.int p5), .val (.int (Int32.ofNat a)), .val (.int (Int32.ofNat b)), .val (.int t0), .val (.int t1), .val (.int s0), .val (.int s1), .val (.int (Int32.ofNat (a + 1 + b))), .val (.ref ea), .unset, .unset, .unset, .unset, .unset, .unset, .unset, .unset] [(.int (exv (0 : Int32) (Int32.ofNat a) (Int32.ofNat b) t0 t1 s0 s1)), (.int (0 : Int32)), (.ref ea)]
  generalize hg_e0 : (exv (0 : Int32) (Int32.ofNat a) (Int32.ofNat b) t0 t1 s0 s1) = e0
  have o_e0 : Ch e0 := hg_e0 ▸ exv_ch o_t0 o_t1 o_s0 o_s1
  refine Go.castore (I' := IW Z EL s₀ h0.size []) (hI := wI (Sb.arv V_ea (by decide))) V_ea ⟨by decide, by decide⟩ g_ea 0 rfl (Nat.le_of_ble_eq_true rfl) at_96 fun hp89 K89 V_ea_n => ?_
  replace V_ea : Arv Z hp89 ea k_ea .char (6 : Int32) [(.int (nar .char e0)), (.int (0 : Int32)), (.int (0 : Int32)), (.int (0 : Int32)), (.int (0 : Int32)), (.int (0 : Int32))] (.int (0 : Int32)) := V_ea_n
  replace O := O.keep K89 (allS g_ea (all0))
  replace hz : n0 ≤ hp89.size := Nat.le_trans hz K89.1
  replace hlo : h0.size ≤ hp89.size := Nat.le_trans hlo K89.1
  rw [o_e0.nar] at V_ea
  refine Go.aload at_97 rfl rfl ?_
  refine Go.iconst 1 at_99 rfl ?_
  refine Go.iconst 1 at_100 rfl ?_
  refine Go.iload at_101 rfl ?_
  refine Go.iload at_103 rfl ?_
  refine Go.iload at_105 rfl ?_
  refine Go.iload at_107 rfl ?_
  refine Go.iload at_109 rfl ?_
  refine Go.iload at_111 rfl ?_
  -- at pc 113: pc 113: invokestatic .invokestatic 7 stack [(.int s1), (.int s0), (.int t1), (.int t0), (.int (Int32.ofNat b)), (.int (Int32.ofNat a)), (.int (1 : Int32)), (.int (1 : Int32)), (.ref ea)]
  refine Go.callS (I' := IW Z EL s₀ h0.size []) (hI := wQ (ws := []) (fun v h' q => by obtain ⟨rfl, rfl⟩ := q; exact Keep.refl _ _) all0) [(.int (1 : Int32)), (.int (Int32.ofNat a)), (.int (Int32.ofNat b)), (.int t0), (.int t1), (.int s0), (.int s1)] [(.int (1 : Int32)), (.ref ea)] (ct_exm l Z a0 hw n0 (1 : Int32) (Int32.ofNat a) (Int32.ofNat b) t0 t1 s0 s1 _ o_t0 o_t1 o_s0 o_s1) (wd_1 hw) (wd_2 hw) (wd_3 hw) (wd_4 hw) (by decide) pd_24 rfl rfl rfl (Nat.le_of_ble_eq_true rfl) (Nat.le_of_ble_eq_true rfl) (Nat.le_of_ble_eq_true rfl) (Nat.le_of_ble_eq_true rfl) at_113 ?_
  rintro _ _ ⟨rfl, rfl⟩
  show GW_law l Z EL s₀ n0 (fun v _ => v = some (.int 1)) h0.size [] hp89 1 6 116 #[.val (.int p0), .val (.int p1), .val (.int p2), .val (.int p3), .val (.int p4), .val (.int p5), .val (.int (Int32.ofNat a)), .val (.int (Int32.ofNat b)), .val (.int t0), .val (.int t1), .val (.int s0), .val (.int s1), .val (.int (Int32.ofNat (a + 1 + b))), .val (.ref ea), .unset, .unset, .unset, .unset, .unset, .unset, .unset, .unset] [(.int (exv (1 : Int32) (Int32.ofNat a) (Int32.ofNat b) t0 t1 s0 s1)), (.int (1 : Int32)), (.ref ea)]
  generalize hg_e1 : (exv (1 : Int32) (Int32.ofNat a) (Int32.ofNat b) t0 t1 s0 s1) = e1
  have o_e1 : Ch e1 := hg_e1 ▸ exv_ch o_t0 o_t1 o_s0 o_s1
  refine Go.castore (I' := IW Z EL s₀ h0.size []) (hI := wI (Sb.arv V_ea (by decide))) V_ea ⟨by decide, by decide⟩ g_ea 1 rfl (Nat.le_of_ble_eq_true rfl) at_116 fun hp91 K91 V_ea_n => ?_
  replace V_ea : Arv Z hp91 ea k_ea .char (6 : Int32) [(.int e0), (.int (nar .char e1)), (.int (0 : Int32)), (.int (0 : Int32)), (.int (0 : Int32)), (.int (0 : Int32))] (.int (0 : Int32)) := V_ea_n
  replace O := O.keep K91 (allS g_ea (all0))
  replace hz : n0 ≤ hp91.size := Nat.le_trans hz K91.1
  replace hlo : h0.size ≤ hp91.size := Nat.le_trans hlo K91.1
  rw [o_e1.nar] at V_ea
  refine Go.aload at_117 rfl rfl ?_
  refine Go.iconst 2 at_119 rfl ?_
  refine Go.iconst 2 at_120 rfl ?_
  refine Go.iload at_121 rfl ?_
  refine Go.iload at_123 rfl ?_
  refine Go.iload at_125 rfl ?_
  refine Go.iload at_127 rfl ?_
  refine Go.iload at_129 rfl ?_
  refine Go.iload at_131 rfl ?_
  -- at pc 133: pc 133: invokestatic .invokestatic 7 stack [(.int s1), (.int s0), (.int t1), (.int t0), (.int (Int32.ofNat b)), (.int (Int32.ofNat a)), (.int (2 : Int32)), (.int (2 : Int32)), (.ref ea)]
  refine Go.callS (I' := IW Z EL s₀ h0.size []) (hI := wQ (ws := []) (fun v h' q => by obtain ⟨rfl, rfl⟩ := q; exact Keep.refl _ _) all0) [(.int (2 : Int32)), (.int (Int32.ofNat a)), (.int (Int32.ofNat b)), (.int t0), (.int t1), (.int s0), (.int s1)] [(.int (2 : Int32)), (.ref ea)] (ct_exm l Z a0 hw n0 (2 : Int32) (Int32.ofNat a) (Int32.ofNat b) t0 t1 s0 s1 _ o_t0 o_t1 o_s0 o_s1) (wd_1 hw) (wd_2 hw) (wd_3 hw) (wd_4 hw) (by decide) pd_24 rfl rfl rfl (Nat.le_of_ble_eq_true rfl) (Nat.le_of_ble_eq_true rfl) (Nat.le_of_ble_eq_true rfl) (Nat.le_of_ble_eq_true rfl) at_133 ?_
  rintro _ _ ⟨rfl, rfl⟩
  show GW_law l Z EL s₀ n0 (fun v _ => v = some (.int 1)) h0.size [] hp91 1 6 136 #[.val (.int p0), .val (.int p1), .val (.int p2), .val (.int p3), .val (.int p4), .val (.int p5), .val (.int (Int32.ofNat a)), .val (.int (Int32.ofNat b)), .val (.int t0), .val (.int t1), .val (.int s0), .val (.int s1), .val (.int (Int32.ofNat (a + 1 + b))), .val (.ref ea), .unset, .unset, .unset, .unset, .unset, .unset, .unset, .unset] [(.int (exv (2 : Int32) (Int32.ofNat a) (Int32.ofNat b) t0 t1 s0 s1)), (.int (2 : Int32)), (.ref ea)]
  generalize hg_e2 : (exv (2 : Int32) (Int32.ofNat a) (Int32.ofNat b) t0 t1 s0 s1) = e2
  have o_e2 : Ch e2 := hg_e2 ▸ exv_ch o_t0 o_t1 o_s0 o_s1
  refine Go.castore (I' := IW Z EL s₀ h0.size []) (hI := wI (Sb.arv V_ea (by decide))) V_ea ⟨by decide, by decide⟩ g_ea 2 rfl (Nat.le_of_ble_eq_true rfl) at_136 fun hp93 K93 V_ea_n => ?_
  replace V_ea : Arv Z hp93 ea k_ea .char (6 : Int32) [(.int e0), (.int e1), (.int (nar .char e2)), (.int (0 : Int32)), (.int (0 : Int32)), (.int (0 : Int32))] (.int (0 : Int32)) := V_ea_n
  replace O := O.keep K93 (allS g_ea (all0))
  replace hz : n0 ≤ hp93.size := Nat.le_trans hz K93.1
  replace hlo : h0.size ≤ hp93.size := Nat.le_trans hlo K93.1
  rw [o_e2.nar] at V_ea
  refine Go.aload at_137 rfl rfl ?_
  refine Go.iconst 3 at_139 rfl ?_
  refine Go.iconst 3 at_140 rfl ?_
  refine Go.iload at_141 rfl ?_
  refine Go.iload at_143 rfl ?_
  refine Go.iload at_145 rfl ?_
  refine Go.iload at_147 rfl ?_
  refine Go.iload at_149 rfl ?_
  refine Go.iload at_151 rfl ?_
  -- at pc 153: pc 153: invokestatic .invokestatic 7 stack [(.int s1), (.int s0), (.int t1), (.int t0), (.int (Int32.ofNat b)), (.int (Int32.ofNat a)), (.int (3 : Int32)), (.int (3 : Int32)), (.ref ea)]
  refine Go.callS (I' := IW Z EL s₀ h0.size []) (hI := wQ (ws := []) (fun v h' q => by obtain ⟨rfl, rfl⟩ := q; exact Keep.refl _ _) all0) [(.int (3 : Int32)), (.int (Int32.ofNat a)), (.int (Int32.ofNat b)), (.int t0), (.int t1), (.int s0), (.int s1)] [(.int (3 : Int32)), (.ref ea)] (ct_exm l Z a0 hw n0 (3 : Int32) (Int32.ofNat a) (Int32.ofNat b) t0 t1 s0 s1 _ o_t0 o_t1 o_s0 o_s1) (wd_1 hw) (wd_2 hw) (wd_3 hw) (wd_4 hw) (by decide) pd_24 rfl rfl rfl (Nat.le_of_ble_eq_true rfl) (Nat.le_of_ble_eq_true rfl) (Nat.le_of_ble_eq_true rfl) (Nat.le_of_ble_eq_true rfl) at_153 ?_
  rintro _ _ ⟨rfl, rfl⟩
  show GW_law l Z EL s₀ n0 (fun v _ => v = some (.int 1)) h0.size [] hp93 1 6 156 #[.val (.int p0), .val (.int p1), .val (.int p2), .val (.int p3), .val (.int p4), .val (.int p5), .val (.int (Int32.ofNat a)), .val (.int (Int32.ofNat b)), .val (.int t0), .val (.int t1), .val (.int s0), .val (.int s1), .val (.int (Int32.ofNat (a + 1 + b))), .val (.ref ea), .unset, .unset, .unset, .unset, .unset, .unset, .unset, .unset] [(.int (exv (3 : Int32) (Int32.ofNat a) (Int32.ofNat b) t0 t1 s0 s1)), (.int (3 : Int32)), (.ref ea)]
  generalize hg_e3 : (exv (3 : Int32) (Int32.ofNat a) (Int32.ofNat b) t0 t1 s0 s1) = e3
  have o_e3 : Ch e3 := hg_e3 ▸ exv_ch o_t0 o_t1 o_s0 o_s1
  refine Go.castore (I' := IW Z EL s₀ h0.size []) (hI := wI (Sb.arv V_ea (by decide))) V_ea ⟨by decide, by decide⟩ g_ea 3 rfl (Nat.le_of_ble_eq_true rfl) at_156 fun hp95 K95 V_ea_n => ?_
  replace V_ea : Arv Z hp95 ea k_ea .char (6 : Int32) [(.int e0), (.int e1), (.int e2), (.int (nar .char e3)), (.int (0 : Int32)), (.int (0 : Int32))] (.int (0 : Int32)) := V_ea_n
  replace O := O.keep K95 (allS g_ea (all0))
  replace hz : n0 ≤ hp95.size := Nat.le_trans hz K95.1
  replace hlo : h0.size ≤ hp95.size := Nat.le_trans hlo K95.1
  rw [o_e3.nar] at V_ea
  refine Go.aload at_157 rfl rfl ?_
  refine Go.iconst 4 at_159 rfl ?_
  refine Go.iconst 4 at_160 rfl ?_
  refine Go.iload at_161 rfl ?_
  refine Go.iload at_163 rfl ?_
  refine Go.iload at_165 rfl ?_
  refine Go.iload at_167 rfl ?_
  refine Go.iload at_169 rfl ?_
  refine Go.iload at_171 rfl ?_
  -- at pc 173: pc 173: invokestatic .invokestatic 7 stack [(.int s1), (.int s0), (.int t1), (.int t0), (.int (Int32.ofNat b)), (.int (Int32.ofNat a)), (.int (4 : Int32)), (.int (4 : Int32)), (.ref ea)]
  refine Go.callS (I' := IW Z EL s₀ h0.size []) (hI := wQ (ws := []) (fun v h' q => by obtain ⟨rfl, rfl⟩ := q; exact Keep.refl _ _) all0) [(.int (4 : Int32)), (.int (Int32.ofNat a)), (.int (Int32.ofNat b)), (.int t0), (.int t1), (.int s0), (.int s1)] [(.int (4 : Int32)), (.ref ea)] (ct_exm l Z a0 hw n0 (4 : Int32) (Int32.ofNat a) (Int32.ofNat b) t0 t1 s0 s1 _ o_t0 o_t1 o_s0 o_s1) (wd_1 hw) (wd_2 hw) (wd_3 hw) (wd_4 hw) (by decide) pd_24 rfl rfl rfl (Nat.le_of_ble_eq_true rfl) (Nat.le_of_ble_eq_true rfl) (Nat.le_of_ble_eq_true rfl) (Nat.le_of_ble_eq_true rfl) at_173 ?_
  rintro _ _ ⟨rfl, rfl⟩
  show GW_law l Z EL s₀ n0 (fun v _ => v = some (.int 1)) h0.size [] hp95 1 6 176 #[.val (.int p0), .val (.int p1), .val (.int p2), .val (.int p3), .val (.int p4), .val (.int p5), .val (.int (Int32.ofNat a)), .val (.int (Int32.ofNat b)), .val (.int t0), .val (.int t1), .val (.int s0), .val (.int s1), .val (.int (Int32.ofNat (a + 1 + b))), .val (.ref ea), .unset, .unset, .unset, .unset, .unset, .unset, .unset, .unset] [(.int (exv (4 : Int32) (Int32.ofNat a) (Int32.ofNat b) t0 t1 s0 s1)), (.int (4 : Int32)), (.ref ea)]
  generalize hg_e4 : (exv (4 : Int32) (Int32.ofNat a) (Int32.ofNat b) t0 t1 s0 s1) = e4
  have o_e4 : Ch e4 := hg_e4 ▸ exv_ch o_t0 o_t1 o_s0 o_s1
  refine Go.castore (I' := IW Z EL s₀ h0.size []) (hI := wI (Sb.arv V_ea (by decide))) V_ea ⟨by decide, by decide⟩ g_ea 4 rfl (Nat.le_of_ble_eq_true rfl) at_176 fun hp97 K97 V_ea_n => ?_
  replace V_ea : Arv Z hp97 ea k_ea .char (6 : Int32) [(.int e0), (.int e1), (.int e2), (.int e3), (.int (nar .char e4)), (.int (0 : Int32))] (.int (0 : Int32)) := V_ea_n
  replace O := O.keep K97 (allS g_ea (all0))
  replace hz : n0 ≤ hp97.size := Nat.le_trans hz K97.1
  replace hlo : h0.size ≤ hp97.size := Nat.le_trans hlo K97.1
  rw [o_e4.nar] at V_ea
  refine Go.aload at_177 rfl rfl ?_
  refine Go.iconst 5 at_179 rfl ?_
  refine Go.iconst 0 at_180 rfl ?_
  refine Go.castore (I' := IW Z EL s₀ h0.size []) (hI := wI (Sb.arv V_ea (by decide))) V_ea ⟨by decide, by decide⟩ g_ea 5 rfl (Nat.le_of_ble_eq_true rfl) at_181 fun hp98 K98 V_ea_n => ?_
  replace V_ea : Arv Z hp98 ea k_ea .char (6 : Int32) [(.int e0), (.int e1), (.int e2), (.int e3), (.int e4), (.int (nar .char (0 : Int32)))] (.int (0 : Int32)) := V_ea_n
  replace O := O.keep K98 (allS g_ea (all0))
  replace hz : n0 ≤ hp98.size := Nat.le_trans hz K98.1
  replace hlo : h0.size ≤ hp98.size := Nat.le_trans hlo K98.1
  rw [(show nar .char (0 : Int32) = 0 from rfl)] at V_ea
  refine Go.bipush 6 at_182 rfl ?_
  -- at pc 184: pc 184: newarray .newarray .char stack [(.int (6 : Int32))]
  refine Go.newP (I' := IW Z EL s₀ h0.size []) (hI := wE) .char (wd_0 hw) rfl at_184 (by decide) 6 (by decide) (by decide) (by decide) (by decide) fun hp99 qa k_qa e_qa X99 V_qa => ?_
  have K99 : Keep hp98 hp99 [] := (Keep.refl _ _).ext X99
  have g_qa : n0 ≤ qa := e_qa ▸ hz
  have l_qa : h0.size ≤ qa := e_qa ▸ hlo
  have ne_ea_qa : ea ≠ qa := Nat.ne_of_lt (e_qa ▸ V_ea.lt)
  replace O := O.keep K99 (all0)
  replace V_ea := V_ea.keep K99 nin0
  replace V_qa : Arv Z hp99 qa k_qa .char (6 : Int32) [(.int (0 : Int32)), (.int (0 : Int32)), (.int (0 : Int32)), (.int (0 : Int32)), (.int (0 : Int32)), (.int (0 : Int32))] (.int (0 : Int32)) := V_qa.pad (pad_rep [] (.int (0 : Int32)) 6)
  replace hz : n0 ≤ hp99.size := Nat.le_trans hz K99.1
  replace hlo : h0.size ≤ hp99.size := Nat.le_trans hlo K99.1
  refine Go.astore (Ls' := #[.val (.int p0), .val (.int p1), .val (.int p2), .val (.int p3), .val (.int p4), .val (.int p5), .val (.int (Int32.ofNat a)), .val (.int (Int32.ofNat b)), .val (.int t0), .val (.int t1), .val (.int s0), .val (.int s1), .val (.int (Int32.ofNat (a + 1 + b))), .val (.ref ea), .val (.ref qa), .unset, .unset, .unset, .unset, .unset, .unset, .unset]) at_186 rfl rfl ?_
  refine Go.aload at_188 rfl rfl ?_
  refine Go.iconst 0 at_190 rfl ?_
  refine Go.aload at_191 rfl rfl ?_
  refine Go.iconst 0 at_193 rfl ?_
  refine Go.caload (.int e0) V_ea ⟨by decide, by decide⟩ rfl at_194 ?_
  refine Go.castore (I' := IW Z EL s₀ h0.size []) (hI := wI (Sb.arv V_qa (by decide))) V_qa ⟨by decide, by decide⟩ g_qa 0 rfl (Nat.le_of_ble_eq_true rfl) at_195 fun hp100 K100 V_qa_n => ?_
  replace V_qa : Arv Z hp100 qa k_qa .char (6 : Int32) [(.int (nar .char e0)), (.int (0 : Int32)), (.int (0 : Int32)), (.int (0 : Int32)), (.int (0 : Int32)), (.int (0 : Int32))] (.int (0 : Int32)) := V_qa_n
  replace O := O.keep K100 (allS g_qa (all0))
  replace V_ea := V_ea.keep K100 (ninS ne_ea_qa nin0)
  replace hz : n0 ≤ hp100.size := Nat.le_trans hz K100.1
  replace hlo : h0.size ≤ hp100.size := Nat.le_trans hlo K100.1
  rw [o_e0.nar] at V_qa
  refine Go.aload at_196 rfl rfl ?_
  refine Go.iconst 1 at_198 rfl ?_
  refine Go.aload at_199 rfl rfl ?_
  refine Go.iconst 1 at_201 rfl ?_
  refine Go.caload (.int e1) V_ea ⟨by decide, by decide⟩ rfl at_202 ?_
  refine Go.castore (I' := IW Z EL s₀ h0.size []) (hI := wI (Sb.arv V_qa (by decide))) V_qa ⟨by decide, by decide⟩ g_qa 1 rfl (Nat.le_of_ble_eq_true rfl) at_203 fun hp101 K101 V_qa_n => ?_
  replace V_qa : Arv Z hp101 qa k_qa .char (6 : Int32) [(.int e0), (.int (nar .char e1)), (.int (0 : Int32)), (.int (0 : Int32)), (.int (0 : Int32)), (.int (0 : Int32))] (.int (0 : Int32)) := V_qa_n
  replace O := O.keep K101 (allS g_qa (all0))
  replace V_ea := V_ea.keep K101 (ninS ne_ea_qa nin0)
  replace hz : n0 ≤ hp101.size := Nat.le_trans hz K101.1
  replace hlo : h0.size ≤ hp101.size := Nat.le_trans hlo K101.1
  rw [o_e1.nar] at V_qa
  refine Go.aload at_204 rfl rfl ?_
  refine Go.iconst 2 at_206 rfl ?_
  refine Go.aload at_207 rfl rfl ?_
  refine Go.iconst 2 at_209 rfl ?_
  refine Go.caload (.int e2) V_ea ⟨by decide, by decide⟩ rfl at_210 ?_
  refine Go.castore (I' := IW Z EL s₀ h0.size []) (hI := wI (Sb.arv V_qa (by decide))) V_qa ⟨by decide, by decide⟩ g_qa 2 rfl (Nat.le_of_ble_eq_true rfl) at_211 fun hp102 K102 V_qa_n => ?_
  replace V_qa : Arv Z hp102 qa k_qa .char (6 : Int32) [(.int e0), (.int e1), (.int (nar .char e2)), (.int (0 : Int32)), (.int (0 : Int32)), (.int (0 : Int32))] (.int (0 : Int32)) := V_qa_n
  replace O := O.keep K102 (allS g_qa (all0))
  replace V_ea := V_ea.keep K102 (ninS ne_ea_qa nin0)
  replace hz : n0 ≤ hp102.size := Nat.le_trans hz K102.1
  replace hlo : h0.size ≤ hp102.size := Nat.le_trans hlo K102.1
  rw [o_e2.nar] at V_qa
  refine Go.aload at_212 rfl rfl ?_
  refine Go.iconst 3 at_214 rfl ?_
  refine Go.aload at_215 rfl rfl ?_
  refine Go.iconst 3 at_217 rfl ?_
  refine Go.caload (.int e3) V_ea ⟨by decide, by decide⟩ rfl at_218 ?_
  refine Go.castore (I' := IW Z EL s₀ h0.size []) (hI := wI (Sb.arv V_qa (by decide))) V_qa ⟨by decide, by decide⟩ g_qa 3 rfl (Nat.le_of_ble_eq_true rfl) at_219 fun hp103 K103 V_qa_n => ?_
  replace V_qa : Arv Z hp103 qa k_qa .char (6 : Int32) [(.int e0), (.int e1), (.int e2), (.int (nar .char e3)), (.int (0 : Int32)), (.int (0 : Int32))] (.int (0 : Int32)) := V_qa_n
  replace O := O.keep K103 (allS g_qa (all0))
  replace V_ea := V_ea.keep K103 (ninS ne_ea_qa nin0)
  replace hz : n0 ≤ hp103.size := Nat.le_trans hz K103.1
  replace hlo : h0.size ≤ hp103.size := Nat.le_trans hlo K103.1
  rw [o_e3.nar] at V_qa
  refine Go.aload at_220 rfl rfl ?_
  refine Go.iconst 4 at_222 rfl ?_
  refine Go.aload at_223 rfl rfl ?_
  refine Go.iconst 4 at_225 rfl ?_
  refine Go.caload (.int e4) V_ea ⟨by decide, by decide⟩ rfl at_226 ?_
  refine Go.castore (I' := IW Z EL s₀ h0.size []) (hI := wI (Sb.arv V_qa (by decide))) V_qa ⟨by decide, by decide⟩ g_qa 4 rfl (Nat.le_of_ble_eq_true rfl) at_227 fun hp104 K104 V_qa_n => ?_
  replace V_qa : Arv Z hp104 qa k_qa .char (6 : Int32) [(.int e0), (.int e1), (.int e2), (.int e3), (.int (nar .char e4)), (.int (0 : Int32))] (.int (0 : Int32)) := V_qa_n
  replace O := O.keep K104 (allS g_qa (all0))
  replace V_ea := V_ea.keep K104 (ninS ne_ea_qa nin0)
  replace hz : n0 ≤ hp104.size := Nat.le_trans hz K104.1
  replace hlo : h0.size ≤ hp104.size := Nat.le_trans hlo K104.1
  rw [o_e4.nar] at V_qa
  refine Go.aload at_228 rfl rfl ?_
  refine Go.iconst 5 at_230 rfl ?_
  refine Go.aload at_231 rfl rfl ?_
  refine Go.iconst 5 at_233 rfl ?_
  refine Go.caload (.int (0 : Int32)) V_ea ⟨by decide, by decide⟩ rfl at_234 ?_
  refine Go.castore (I' := IW Z EL s₀ h0.size []) (hI := wI (Sb.arv V_qa (by decide))) V_qa ⟨by decide, by decide⟩ g_qa 5 rfl (Nat.le_of_ble_eq_true rfl) at_235 fun hp105 K105 V_qa_n => ?_
  replace V_qa : Arv Z hp105 qa k_qa .char (6 : Int32) [(.int e0), (.int e1), (.int e2), (.int e3), (.int e4), (.int (nar .char (0 : Int32)))] (.int (0 : Int32)) := V_qa_n
  replace O := O.keep K105 (allS g_qa (all0))
  replace V_ea := V_ea.keep K105 (ninS ne_ea_qa nin0)
  replace hz : n0 ≤ hp105.size := Nat.le_trans hz K105.1
  replace hlo : h0.size ≤ hp105.size := Nat.le_trans hlo K105.1
  rw [(show nar .char (0 : Int32) = 0 from rfl)] at V_qa
  refine Go.iloadN at_236 rfl ?_
  refine Go.bipush 7 at_237 rfl ?_
  refine Go.iand at_239 ?_
  refine Go.istore (Ls' := #[.val (.int p0), .val (.int p1), .val (.int p2), .val (.int p3), .val (.int p4), .val (.int p5), .val (.int (Int32.ofNat a)), .val (.int (Int32.ofNat b)), .val (.int t0), .val (.int t1), .val (.int s0), .val (.int s1), .val (.int (Int32.ofNat (a + 1 + b))), .val (.ref ea), .val (.ref qa), .val (.int (p3 &&& (7 : Int32))), .unset, .unset, .unset, .unset, .unset, .unset]) at_240 rfl ?_
  refine Go.iload at_242 rfl ?_
  refine Go.istore (Ls' := #[.val (.int p0), .val (.int p1), .val (.int p2), .val (.int p3), .val (.int p4), .val (.int p5), .val (.int (Int32.ofNat a)), .val (.int (Int32.ofNat b)), .val (.int t0), .val (.int t1), .val (.int s0), .val (.int s1), .val (.int (Int32.ofNat (a + 1 + b))), .val (.ref ea), .val (.ref qa), .val (.int (p3 &&& (7 : Int32))), .val (.int (Int32.ofNat (a + 1 + b))), .unset, .unset, .unset, .unset, .unset]) at_244 rfl ?_
  refine Go.iloadN at_246 rfl ?_
  refine Go.sipush 255 at_247 rfl ?_
  refine Go.iand at_250 ?_
  refine Go.i2c at_251 ?_
  rw [show ((p1 &&& (255 : Int32)).toUInt32.toUInt16.toUInt32.toInt32) = (p1 &&& (255 : Int32)) from (i2c_mask _)]
  generalize hg_x : (p1 &&& (255 : Int32)) = x
  have o_x : Ch x := hg_x ▸ Ch.and _
  refine Go.istore (Ls' := #[.val (.int p0), .val (.int p1), .val (.int p2), .val (.int p3), .val (.int p4), .val (.int p5), .val (.int (Int32.ofNat a)), .val (.int (Int32.ofNat b)), .val (.int t0), .val (.int t1), .val (.int s0), .val (.int s1), .val (.int (Int32.ofNat (a + 1 + b))), .val (.ref ea), .val (.ref qa), .val (.int (p3 &&& (7 : Int32))), .val (.int (Int32.ofNat (a + 1 + b))), .val (.int x), .unset, .unset, .unset, .unset]) at_252 rfl ?_
  refine Go.iload at_254 rfl ?_
  refine Go.iconst 1 at_256 rfl ?_
  -- at pc 257: pc 257: if_icmp .if_icmp .ne 17 stack [(.int (1 : Int32)), (.int (p3 &&& (7 : Int32)))]
  have j405 : ∀ (h : Heap) (q0 q1 q2 q3 q4 q5 : Int32) (m : Nat), m ≤ 6 → Ch q0 → Ch q1 → Ch q2 → Ch q3 → Ch q4 → Ch q5 → n0 ≤ h.size → Old Z n0 h → h0.size ≤ h.size → Arv Z h qa k_qa .char (6 : Int32) [(.int q0), (.int q1), (.int q2), (.int q3), (.int q4), (.int q5)] (.int (0 : Int32)) → Arv Z h ea k_ea .char (6 : Int32) [(.int e0), (.int e1), (.int e2), (.int e3), (.int e4), (.int (0 : Int32))] (.int (0 : Int32)) → GW_law l Z EL s₀ n0 (fun v _ => v = some (.int 1)) h0.size [] h 2 12 405 #[.val (.int p0), .val (.int p1), .val (.int p2), .val (.int p3), .val (.int p4), .val (.int p5), .val (.int (Int32.ofNat a)), .val (.int (Int32.ofNat b)), .val (.int t0), .val (.int t1), .val (.int s0), .val (.int s1), .val (.int (Int32.ofNat (a + 1 + b))), .val (.ref ea), .val (.ref qa), .val (.int (p3 &&& (7 : Int32))), .val (.int (Int32.ofNat m)), .val (.int x), .unset, .unset, .unset, .unset] [] := by
    clear hz O hlo V_qa V_ea
    intro h q0 q1 q2 q3 q4 q5 m hm o_q0 o_q1 o_q2 o_q3 o_q4 o_q5 hz O hlo V_qa V_ea
    refine Go.iload at_405 rfl ?_
    refine Go.iload at_407 rfl ?_
    -- at pc 409: pc 409: if_icmp .if_icmp .ne 72 stack [(.int (Int32.ofNat (a + 1 + b))), (.int (Int32.ofNat m))]
    have j482 : ∀ x' : Int32, ((x' = 1 ∧ (m = a + 1 + b ∧ (0 < a + 1 + b → q0 = e0) ∧ (1 < a + 1 + b → q1 = e1) ∧ (2 < a + 1 + b → q2 = e2) ∧ (3 < a + 1 + b → q3 = e3) ∧ (4 < a + 1 + b → q4 = e4))) ∨ (x' = 0 ∧ ¬ (m = a + 1 + b ∧ (0 < a + 1 + b → q0 = e0) ∧ (1 < a + 1 + b → q1 = e1) ∧ (2 < a + 1 + b → q2 = e2) ∧ (3 < a + 1 + b → q3 = e3) ∧ (4 < a + 1 + b → q4 = e4)))) → GW_law l Z EL s₀ n0 (fun v _ => v = some (.int 1)) h0.size [] h 2 12 482 #[.val (.int p0), .val (.int p1), .val (.int p2), .val (.int p3), .val (.int p4), .val (.int p5), .val (.int (Int32.ofNat a)), .val (.int (Int32.ofNat b)), .val (.int t0), .val (.int t1), .val (.int s0), .val (.int s1), .val (.int (Int32.ofNat (a + 1 + b))), .val (.ref ea), .val (.ref qa), .val (.int (p3 &&& (7 : Int32))), .val (.int (Int32.ofNat m)), .val (.int x), .unset, .unset, .unset, .unset] [.int x'] := by
      intro x' hx'
      refine Go.istore (Ls' := #[.val (.int p0), .val (.int p1), .val (.int p2), .val (.int p3), .val (.int p4), .val (.int p5), .val (.int (Int32.ofNat a)), .val (.int (Int32.ofNat b)), .val (.int t0), .val (.int t1), .val (.int s0), .val (.int s1), .val (.int (Int32.ofNat (a + 1 + b))), .val (.ref ea), .val (.ref qa), .val (.int (p3 &&& (7 : Int32))), .val (.int (Int32.ofNat m)), .val (.int x), .val (.int x'), .unset, .unset, .unset]) at_482 rfl ?_
      refine Go.iconst 2 at_484 rfl ?_
      -- at pc 485: pc 485: newarray .newarray .char stack [(.int (2 : Int32))]
      refine Go.newP (I' := IW Z EL s₀ h0.size []) (hI := wE) .char (wd_0 hw) rfl at_485 (by decide) 2 (by decide) (by decide) (by decide) (by decide) fun hp106 ta k_ta e_ta X106 V_ta => ?_
      have K106 : Keep h hp106 [] := (Keep.refl _ _).ext X106
      have g_ta : n0 ≤ ta := e_ta ▸ hz
      have l_ta : h0.size ≤ ta := e_ta ▸ hlo
      have ne_ea_ta : ea ≠ ta := Nat.ne_of_lt (e_ta ▸ V_ea.lt)
      have ne_qa_ta : qa ≠ ta := Nat.ne_of_lt (e_ta ▸ V_qa.lt)
      replace O := O.keep K106 (all0)
      replace V_qa := V_qa.keep K106 nin0
      replace V_ea := V_ea.keep K106 nin0
      replace V_ta : Arv Z hp106 ta k_ta .char (2 : Int32) [(.int (0 : Int32)), (.int (0 : Int32))] (.int (0 : Int32)) := V_ta.pad (pad_rep [] (.int (0 : Int32)) 2)
      replace hz : n0 ≤ hp106.size := Nat.le_trans hz K106.1
      replace hlo : h0.size ≤ hp106.size := Nat.le_trans hlo K106.1
      refine Go.dup at_487 rfl ?_
      refine Go.iconst 0 at_488 rfl ?_
      refine Go.iload at_489 rfl ?_
      refine Go.castore (I' := IW Z EL s₀ h0.size []) (hI := wI (Sb.arv V_ta (by decide))) V_ta ⟨by decide, by decide⟩ g_ta 0 rfl (Nat.le_of_ble_eq_true rfl) at_491 fun hp107 K107 V_ta_n => ?_
      replace V_ta : Arv Z hp107 ta k_ta .char (2 : Int32) [(.int (nar .char t0)), (.int (0 : Int32))] (.int (0 : Int32)) := V_ta_n
      replace O := O.keep K107 (allS g_ta (all0))
      replace V_qa := V_qa.keep K107 (ninS ne_qa_ta nin0)
      replace V_ea := V_ea.keep K107 (ninS ne_ea_ta nin0)
      replace hz : n0 ≤ hp107.size := Nat.le_trans hz K107.1
      replace hlo : h0.size ≤ hp107.size := Nat.le_trans hlo K107.1
      rw [o_t0.nar] at V_ta
      refine Go.dup at_492 rfl ?_
      refine Go.iconst 1 at_493 rfl ?_
      refine Go.iload at_494 rfl ?_
      refine Go.castore (I' := IW Z EL s₀ h0.size []) (hI := wI (Sb.arv V_ta (by decide))) V_ta ⟨by decide, by decide⟩ g_ta 1 rfl (Nat.le_of_ble_eq_true rfl) at_496 fun hp108 K108 V_ta_n => ?_
      replace V_ta : Arv Z hp108 ta k_ta .char (2 : Int32) [(.int t0), (.int (nar .char t1))] (.int (0 : Int32)) := V_ta_n
      replace O := O.keep K108 (allS g_ta (all0))
      replace V_qa := V_qa.keep K108 (ninS ne_qa_ta nin0)
      replace V_ea := V_ea.keep K108 (ninS ne_ea_ta nin0)
      replace hz : n0 ≤ hp108.size := Nat.le_trans hz K108.1
      replace hlo : h0.size ≤ hp108.size := Nat.le_trans hlo K108.1
      rw [o_t1.nar] at V_ta
      refine Go.astore (Ls' := #[.val (.int p0), .val (.int p1), .val (.int p2), .val (.int p3), .val (.int p4), .val (.int p5), .val (.int (Int32.ofNat a)), .val (.int (Int32.ofNat b)), .val (.int t0), .val (.int t1), .val (.int s0), .val (.int s1), .val (.int (Int32.ofNat (a + 1 + b))), .val (.ref ea), .val (.ref qa), .val (.int (p3 &&& (7 : Int32))), .val (.int (Int32.ofNat m)), .val (.int x), .val (.int x'), .val (.ref ta), .unset, .unset]) at_497 rfl rfl ?_
      refine Go.iconst 2 at_499 rfl ?_
      -- at pc 500: pc 500: newarray .newarray .char stack [(.int (2 : Int32))]
      refine Go.newP (I' := IW Z EL s₀ h0.size []) (hI := wE) .char (wd_0 hw) rfl at_500 (by decide) 2 (by decide) (by decide) (by decide) (by decide) fun hp109 sa k_sa e_sa X109 V_sa => ?_
      have K109 : Keep hp108 hp109 [] := (Keep.refl _ _).ext X109
      have g_sa : n0 ≤ sa := e_sa ▸ hz
      have l_sa : h0.size ≤ sa := e_sa ▸ hlo
      have ne_ea_sa : ea ≠ sa := Nat.ne_of_lt (e_sa ▸ V_ea.lt)
      have ne_qa_sa : qa ≠ sa := Nat.ne_of_lt (e_sa ▸ V_qa.lt)
      have ne_ta_sa : ta ≠ sa := Nat.ne_of_lt (e_sa ▸ V_ta.lt)
      replace O := O.keep K109 (all0)
      replace V_qa := V_qa.keep K109 nin0
      replace V_ea := V_ea.keep K109 nin0
      replace V_ta := V_ta.keep K109 nin0
      replace V_sa : Arv Z hp109 sa k_sa .char (2 : Int32) [(.int (0 : Int32)), (.int (0 : Int32))] (.int (0 : Int32)) := V_sa.pad (pad_rep [] (.int (0 : Int32)) 2)
      replace hz : n0 ≤ hp109.size := Nat.le_trans hz K109.1
      replace hlo : h0.size ≤ hp109.size := Nat.le_trans hlo K109.1
      refine Go.dup at_502 rfl ?_
      refine Go.iconst 0 at_503 rfl ?_
      refine Go.iload at_504 rfl ?_
      refine Go.castore (I' := IW Z EL s₀ h0.size []) (hI := wI (Sb.arv V_sa (by decide))) V_sa ⟨by decide, by decide⟩ g_sa 0 rfl (Nat.le_of_ble_eq_true rfl) at_506 fun hp110 K110 V_sa_n => ?_
      replace V_sa : Arv Z hp110 sa k_sa .char (2 : Int32) [(.int (nar .char s0)), (.int (0 : Int32))] (.int (0 : Int32)) := V_sa_n
      replace O := O.keep K110 (allS g_sa (all0))
      replace V_qa := V_qa.keep K110 (ninS ne_qa_sa nin0)
      replace V_ea := V_ea.keep K110 (ninS ne_ea_sa nin0)
      replace V_ta := V_ta.keep K110 (ninS ne_ta_sa nin0)
      replace hz : n0 ≤ hp110.size := Nat.le_trans hz K110.1
      replace hlo : h0.size ≤ hp110.size := Nat.le_trans hlo K110.1
      rw [o_s0.nar] at V_sa
      refine Go.dup at_507 rfl ?_
      refine Go.iconst 1 at_508 rfl ?_
      refine Go.iload at_509 rfl ?_
      refine Go.castore (I' := IW Z EL s₀ h0.size []) (hI := wI (Sb.arv V_sa (by decide))) V_sa ⟨by decide, by decide⟩ g_sa 1 rfl (Nat.le_of_ble_eq_true rfl) at_511 fun hp111 K111 V_sa_n => ?_
      replace V_sa : Arv Z hp111 sa k_sa .char (2 : Int32) [(.int s0), (.int (nar .char s1))] (.int (0 : Int32)) := V_sa_n
      replace O := O.keep K111 (allS g_sa (all0))
      replace V_qa := V_qa.keep K111 (ninS ne_qa_sa nin0)
      replace V_ea := V_ea.keep K111 (ninS ne_ea_sa nin0)
      replace V_ta := V_ta.keep K111 (ninS ne_ta_sa nin0)
      replace hz : n0 ≤ hp111.size := Nat.le_trans hz K111.1
      replace hlo : h0.size ≤ hp111.size := Nat.le_trans hlo K111.1
      rw [o_s1.nar] at V_sa
      refine Go.astore (Ls' := #[.val (.int p0), .val (.int p1), .val (.int p2), .val (.int p3), .val (.int p4), .val (.int p5), .val (.int (Int32.ofNat a)), .val (.int (Int32.ofNat b)), .val (.int t0), .val (.int t1), .val (.int s0), .val (.int s1), .val (.int (Int32.ofNat (a + 1 + b))), .val (.ref ea), .val (.ref qa), .val (.int (p3 &&& (7 : Int32))), .val (.int (Int32.ofNat m)), .val (.int x), .val (.int x'), .val (.ref ta), .val (.ref sa), .unset]) at_512 rfl rfl ?_
      -- at pc 514: pc 514: new .new 17 stack []
      refine Go.new (I' := IW Z EL s₀ h0.size []) (hI := wE) (wd_8 hw) (wd_9 hw) (wd_10 hw) at_514 (by decide) (by decide) fun hp112 mt e_mt X112 E_mt D112 => ?_
      have K112 : Keep hp111 hp112 [] := (Keep.refl _ _).ext X112
      have g_mt : n0 ≤ mt := e_mt ▸ hz
      have l_mt : h0.size ≤ mt := e_mt ▸ hlo
      have ne_ea_mt : ea ≠ mt := Nat.ne_of_lt (e_mt ▸ V_ea.lt)
      have ne_qa_mt : qa ≠ mt := Nat.ne_of_lt (e_mt ▸ V_qa.lt)
      have ne_ta_mt : ta ≠ mt := Nat.ne_of_lt (e_mt ▸ V_ta.lt)
      have ne_sa_mt : sa ≠ mt := Nat.ne_of_lt (e_mt ▸ V_sa.lt)
      replace O := O.keep K112 (all0)
      replace V_qa := V_qa.keep K112 nin0
      replace V_ea := V_ea.keep K112 nin0
      replace V_ta := V_ta.keep K112 nin0
      replace V_sa := V_sa.keep K112 nin0
      have F_mt_type : Fld Z hp112 mt "com/example/triplecast/triplecast/cli/MediaType" "type" "Ljava/lang/String;" .null := D112 (Or.inr (wd_56 hw)) (ty := (.object "java/lang/String")) (by decide)
      have F_mt_subtype : Fld Z hp112 mt "com/example/triplecast/triplecast/cli/MediaType" "subtype" "Ljava/lang/String;" .null := D112 (Or.inr (wd_58 hw)) (ty := (.object "java/lang/String")) (by decide)
      have F_mt_parameters : Fld Z hp112 mt "com/example/triplecast/triplecast/cli/MediaType" "parameters" "Ljava/util/Map;" .null := D112 (Or.inr (wd_60 hw)) (ty := (.object "java/util/Map")) (by decide)
      replace hz : n0 ≤ hp112.size := Nat.le_trans hz K112.1
      replace hlo : h0.size ≤ hp112.size := Nat.le_trans hlo K112.1
      refine Go.dup at_517 rfl ?_
      refine Go.aload at_518 rfl rfl ?_
      refine Go.iload at_520 rfl ?_
      -- at pc 522: pc 522: invokestatic .invokestatic 19 stack [(.int (Int32.ofNat a)), (.ref ta), (.ref mt), (.ref mt)]
      refine GW.callS [] [] [(.ref ta), (.int (Int32.ofNat a))] [(.ref mt), (.ref mt)] (ctw_strT l Z a0 hw n0 ta k_ta a t0 t1 _ hz O z S_cs hcs V_ta ha o_t0 o_t1) hEL all0 all0 (wd_11 hw) (wd_12 hw) (wd_3 hw) (wd_13 hw) (by decide) pd_25 rfl rfl rfl (Nat.le_of_ble_eq_true rfl) (Nat.le_of_ble_eq_true rfl) (Nat.le_of_ble_eq_true rfl) (Nat.le_of_ble_eq_true rfl) at_522 ?_
      rintro _ hp113 ⟨x1, u1, w1, rfl, K113, B1⟩ hgr113
      replace O := O.keep K113 (all0)
      replace V_qa := V_qa.keep K113 nin0
      replace V_ea := V_ea.keep K113 nin0
      replace V_ta := V_ta.keep K113 nin0
      replace V_sa := V_sa.keep K113 nin0
      replace E_mt := E_mt.keep K113
      replace F_mt_type := F_mt_type.keep K113 nin0
      replace F_mt_subtype := F_mt_subtype.keep K113 nin0
      replace F_mt_parameters := F_mt_parameters.keep K113 nin0
      replace hz : n0 ≤ hp113.size := Nat.le_trans hz K113.1
      replace hlo : h0.size ≤ hp113.size := Nat.le_trans hlo K113.1
      replace hlo : hp113.size ≤ hp113.size := Nat.le_refl _
      show GW_law l Z EL s₀ n0 (fun v _ => v = some (.int 1)) hp113.size [] hp113 8 35 525 #[.val (.int p0), .val (.int p1), .val (.int p2), .val (.int p3), .val (.int p4), .val (.int p5), .val (.int (Int32.ofNat a)), .val (.int (Int32.ofNat b)), .val (.int t0), .val (.int t1), .val (.int s0), .val (.int s1), .val (.int (Int32.ofNat (a + 1 + b))), .val (.ref ea), .val (.ref qa), .val (.int (p3 &&& (7 : Int32))), .val (.int (Int32.ofNat m)), .val (.int x), .val (.int x'), .val (.ref ta), .val (.ref sa), .unset] [(.ref x1), (.ref mt), (.ref mt)]
      refine Go.aload at_525 rfl rfl ?_
      refine Go.iload at_527 rfl ?_
      -- at pc 529: pc 529: invokestatic .invokestatic 19 stack [(.int (Int32.ofNat b)), (.ref sa), (.ref x1), (.ref mt), (.ref mt)]
      refine GW.callS [] [] [(.ref sa), (.int (Int32.ofNat b))] [(.ref x1), (.ref mt), (.ref mt)] (ctw_strT l Z a0 hw n0 sa k_sa b s0 s1 _ hz O z S_cs hcs V_sa hb o_s0 o_s1) hEL all0 all0 (wd_11 hw) (wd_12 hw) (wd_3 hw) (wd_13 hw) (by decide) pd_25 rfl rfl rfl (Nat.le_of_ble_eq_true rfl) (Nat.le_of_ble_eq_true rfl) (Nat.le_of_ble_eq_true rfl) (Nat.le_of_ble_eq_true rfl) at_529 ?_
      rintro _ hp114 ⟨x2, u2, w2, rfl, K114, B2⟩ hgr114
      replace O := O.keep K114 (all0)
      replace V_qa := V_qa.keep K114 nin0
      replace V_ea := V_ea.keep K114 nin0
      replace V_ta := V_ta.keep K114 nin0
      replace V_sa := V_sa.keep K114 nin0
      replace E_mt := E_mt.keep K114
      replace F_mt_type := F_mt_type.keep K114 nin0
      replace F_mt_subtype := F_mt_subtype.keep K114 nin0
      replace F_mt_parameters := F_mt_parameters.keep K114 nin0
      replace B1 := B1.keep K114 nin0 nin0
      replace hz : n0 ≤ hp114.size := Nat.le_trans hz K114.1
      replace hlo : hp113.size ≤ hp114.size := Nat.le_trans hlo K114.1
      replace hlo : hp114.size ≤ hp114.size := Nat.le_refl _
      show GW_law l Z EL s₀ n0 (fun v _ => v = some (.int 1)) hp114.size [] hp114 11 51 532 #[.val (.int p0), .val (.int p1), .val (.int p2), .val (.int p3), .val (.int p4), .val (.int p5), .val (.int (Int32.ofNat a)), .val (.int (Int32.ofNat b)), .val (.int t0), .val (.int t1), .val (.int s0), .val (.int s1), .val (.int (Int32.ofNat (a + 1 + b))), .val (.ref ea), .val (.ref qa), .val (.int (p3 &&& (7 : Int32))), .val (.int (Int32.ofNat m)), .val (.int x), .val (.int x'), .val (.ref ta), .val (.ref sa), .unset] [(.ref x2), (.ref x1), (.ref mt), (.ref mt)]
      refine Go.null at_532 ?_
      -- at pc 533: pc 533: invokespecial .invokespecial 23 stack [.null, (.ref x2), (.ref x1), (.ref mt), (.ref mt)]
      have ne_x1_mt : x1 ≠ mt := (own_exne B1.1 E_mt (by decide))
      have ne_x2_mt : x2 ≠ mt := (own_exne B2.1 E_mt (by decide))
      have ne_u1_mt : u1 ≠ mt := (Ne.symm (Exa.neArv E_mt B1.2.2.2 (wd_9 hw)))
      have ne_u2_mt : u2 ≠ mt := (Ne.symm (Exa.neArv E_mt B2.2.2.2 (wd_9 hw)))
      have ne_ta_mt : ta ≠ mt := (Ne.symm (Exa.neArv E_mt V_ta (wd_9 hw)))
      refine Go.callI (I' := IW Z EL s₀ hp114.size []) (hI := wQ (ws := [mt]) (fun v h' q => by obtain ⟨rfl, K115, F1, F2⟩ := q; exact K115) (allS (Sb.exa E_mt (by decide) (by decide)) all0)) mt [(.ref x1), (.ref x2), .null] [(.ref mt)] (ct_mini l Z a0 hw n0 mt x1 x2 _ g_mt E_mt F_mt_type F_mt_subtype F_mt_parameters) (wd_46 hw) (wd_47 hw) (wd_10 hw) (wd_48 hw) (by decide) pd_26 rfl rfl rfl (Nat.le_of_ble_eq_true rfl) (Nat.le_of_ble_eq_true rfl) (Nat.le_of_ble_eq_true rfl) (Nat.le_of_ble_eq_true rfl) at_533 ?_
      rintro _ hp115 ⟨rfl, K115, F1, F2⟩
      replace O := O.keep K115 (allS g_mt (all0))
      replace V_qa := V_qa.keep K115 (ninS ne_qa_mt nin0)
      replace E_mt := E_mt.keep K115
      replace B1 := B1.keep K115 (ninS ne_x1_mt nin0) (ninS ne_u1_mt nin0)
      replace B2 := B2.keep K115 (ninS ne_x2_mt nin0) (ninS ne_u2_mt nin0)
      replace hz : n0 ≤ hp115.size := Nat.le_trans hz K115.1
      replace hlo : hp114.size ≤ hp115.size := Nat.le_trans hlo K115.1
      show GW_law l Z EL s₀ n0 (fun v _ => v = some (.int 1)) hp114.size [] hp115 11 51 536 #[.val (.int p0), .val (.int p1), .val (.int p2), .val (.int p3), .val (.int p4), .val (.int p5), .val (.int (Int32.ofNat a)), .val (.int (Int32.ofNat b)), .val (.int t0), .val (.int t1), .val (.int s0), .val (.int s1), .val (.int (Int32.ofNat (a + 1 + b))), .val (.ref ea), .val (.ref qa), .val (.int (p3 &&& (7 : Int32))), .val (.int (Int32.ofNat m)), .val (.int x), .val (.int x'), .val (.ref ta), .val (.ref sa), .unset] [(.ref mt)]
      refine Go.astore (Ls' := #[.val (.int p0), .val (.int p1), .val (.int p2), .val (.int p3), .val (.int p4), .val (.int p5), .val (.int (Int32.ofNat a)), .val (.int (Int32.ofNat b)), .val (.int t0), .val (.int t1), .val (.int s0), .val (.int s1), .val (.int (Int32.ofNat (a + 1 + b))), .val (.ref ea), .val (.ref qa), .val (.int (p3 &&& (7 : Int32))), .val (.int (Int32.ofNat m)), .val (.int x), .val (.int x'), .val (.ref ta), .val (.ref sa), .val (.ref mt)]) at_536 rfl rfl ?_
      refine Go.aload at_538 rfl rfl ?_
      refine Go.aload at_540 rfl rfl ?_
      refine Go.iload at_542 rfl ?_
      -- at pc 544: pc 544: invokestatic .invokestatic 19 stack [(.int (Int32.ofNat m)), (.ref qa), (.ref mt)]
      refine GW.callS [] [] [(.ref qa), (.int (Int32.ofNat m))] [(.ref mt)] (ctw_strQ l Z a0 hw n0 qa k_qa m q0 q1 q2 q3 q4 q5 _ hz O z S_cs hcs V_qa hm o_q0 o_q1 o_q2 o_q3 o_q4 o_q5) hEL all0 all0 (wd_11 hw) (wd_12 hw) (wd_3 hw) (wd_13 hw) (by decide) pd_25 rfl rfl rfl (Nat.le_of_ble_eq_true rfl) (Nat.le_of_ble_eq_true rfl) (Nat.le_of_ble_eq_true rfl) (Nat.le_of_ble_eq_true rfl) at_544 ?_
      rintro _ hp116 ⟨x3, u3, w3, rfl, K116, B3⟩ hgr116
      replace O := O.keep K116 (all0)
      replace V_qa := V_qa.keep K116 nin0
      replace E_mt := E_mt.keep K116
      replace B1 := B1.keep K116 nin0 nin0
      replace B2 := B2.keep K116 nin0 nin0
      replace F1 := F1.keep K116 nin0
      replace F2 := F2.keep K116 nin0
      replace hz : n0 ≤ hp116.size := Nat.le_trans hz K116.1
      replace hlo : hp114.size ≤ hp116.size := Nat.le_trans hlo K116.1
      replace hlo : hp116.size ≤ hp116.size := Nat.le_refl _
      show GW_law l Z EL s₀ n0 (fun v _ => v = some (.int 1)) hp116.size [] hp116 14 67 547 #[.val (.int p0), .val (.int p1), .val (.int p2), .val (.int p3), .val (.int p4), .val (.int p5), .val (.int (Int32.ofNat a)), .val (.int (Int32.ofNat b)), .val (.int t0), .val (.int t1), .val (.int s0), .val (.int s1), .val (.int (Int32.ofNat (a + 1 + b))), .val (.ref ea), .val (.ref qa), .val (.int (p3 &&& (7 : Int32))), .val (.int (Int32.ofNat m)), .val (.int x), .val (.int x'), .val (.ref ta), .val (.ref sa), .val (.ref mt)] [(.ref x3), (.ref mt)]
      -- at pc 547: pc 547: invokevirtual .invokevirtual 26 stack [(.ref x3), (.ref mt)]
      refine GW.callV [] [] mt [(.ref x3)] [] (ctw_isM l Z a0 hw n0 mt x1 x2 x3 u1 u2 u3 w1 w2 w3 (([t0, t1].take a).map own_b) (([s0, s1].take b).map own_b) (([q0, q1, q2, q3, q4, q5].take m).map own_b) _ hz O z S_cs hcs E_mt F1 F2 B1 B2 B3 (by rw [List.length_map, List.length_take]; omega) (by rw [List.length_map, List.length_take]; omega) (by rw [List.length_map, List.length_take]; omega)) E_mt hEL all0 all0 (wd_61 hw) (wd_62 hw) (nf_sel (wd_64 hw)) (wd_64 hw) (wd_63 hw) (wd_10 hw) (wd_65 hw) (by decide) pd_27 rfl rfl rfl (Nat.le_of_ble_eq_true rfl) (Nat.le_of_ble_eq_true rfl) (Nat.le_of_ble_eq_true rfl) (Nat.le_of_ble_eq_true rfl) at_547 ?_
      rintro _ hp117 ⟨rfl, K117⟩ hgr117
      replace O := O.keep K117 (all0)
      replace V_qa := V_qa.keep K117 nin0
      replace E_mt := E_mt.keep K117
      replace B1 := B1.keep K117 nin0 nin0
      replace B2 := B2.keep K117 nin0 nin0
      replace F1 := F1.keep K117 nin0
      replace F2 := F2.keep K117 nin0
      replace hz : n0 ≤ hp117.size := Nat.le_trans hz K117.1
      replace hlo : hp116.size ≤ hp117.size := Nat.le_trans hlo K117.1
      replace hlo : hp117.size ≤ hp117.size := Nat.le_refl _
      show GW_law l Z EL s₀ n0 (fun v _ => v = some (.int 1)) hp117.size [] hp117 20 115 550 #[.val (.int p0), .val (.int p1), .val (.int p2), .val (.int p3), .val (.int p4), .val (.int p5), .val (.int (Int32.ofNat a)), .val (.int (Int32.ofNat b)), .val (.int t0), .val (.int t1), .val (.int s0), .val (.int s1), .val (.int (Int32.ofNat (a + 1 + b))), .val (.ref ea), .val (.ref qa), .val (.int (p3 &&& (7 : Int32))), .val (.int (Int32.ofNat m)), .val (.int x), .val (.int x'), .val (.ref ta), .val (.ref sa), .val (.ref mt)] [(.int (if (([q0, q1, q2, q3, q4, q5].take m).map own_b) = ((([] ++ (([t0, t1].take a).map own_b)) ++ [47]) ++ (([s0, s1].take b).map own_b)) then (1 : Int32) else (0 : Int32)))]
      have hmain := own_main ha hb hm hg_e0 hg_e1 hg_e2 hg_e3 hg_e4 o_q0 o_q1 o_q2 o_q3 o_q4 o_q5 o_e0 o_e1 o_e2 o_e3 o_e4
      refine Go.iload at_550 rfl ?_
      -- at pc 552: pc 552: if_icmp .if_icmp .ne 7 stack [(.int x'), (.int (if (([q0, q1, q2, q3, q4, q5].take m).map own_b) = ((([] ++ (([t0, t1].take a).map own_b)) ++ [47]) ++ (([s0, s1].take b).map own_b)) then (1 : Int32) else (0 : Int32)))]
      rcases hx' with ⟨rfl, hq⟩ | ⟨rfl, hq⟩
      · skip
        rw [if_pos (hmain.mpr hq)]
        -- (1 : Int32) = (1 : Int32)
        refine Go.icF at_552 (teq (rfl)).2 ?_
        refine Go.iconst 1 at_555 rfl ?_
        refine Go.goto 560 at_556 (by decide) (by decide) ?_
        -- at pc 560: pc 560: ireturn .ireturn stack [(.int (1 : Int32))]
        exact GW.nreturn .boolean hEL at_560 rfl (by simp) (by decide) (by decide) rfl
      · skip
        rw [if_neg (fun q => hq (hmain.mp q))]
        -- (0 : Int32) = (0 : Int32)
        refine Go.icF at_552 (teq (rfl)).2 ?_
        refine Go.iconst 1 at_555 rfl ?_
        refine Go.goto 560 at_556 (by decide) (by decide) ?_
        -- at pc 560: pc 560: ireturn .ireturn stack [(.int (1 : Int32))]
        exact GW.nreturn .boolean hEL at_560 rfl (by simp) (by decide) (by decide) rfl
    by_cases hmn : m = a + 1 + b
    · -- (Int32.ofNat m) = (Int32.ofNat (a + 1 + b))
      refine Go.icF at_409 (teq ((by rw [hmn]))).2 ?_
      refine Go.aload at_412 rfl rfl ?_
      refine Go.aload at_414 rfl rfl ?_
      refine Go.iconst 0 at_416 rfl ?_
      refine Go.iload at_417 rfl ?_
      -- at pc 419: pc 419: invokestatic .invokestatic 13 stack [(.int (Int32.ofNat (a + 1 + b))), (.int (0 : Int32)), (.ref ea), (.ref qa)]
      refine Go.callS (I' := IW Z EL s₀ h0.size []) (hI := wQ (ws := []) (fun v h' q => by obtain ⟨w0, rfl, hw0, rfl⟩ := q; exact Keep.refl _ _) all0) [(.ref qa), (.ref ea), (.int (0 : Int32)), (.int (Int32.ofNat (a + 1 + b)))] [] (ct_sam l Z a0 hw n0 qa ea k_qa k_ea [(.int q0), (.int q1), (.int q2), (.int q3), (.int q4), (.int q5)] [(.int e0), (.int e1), (.int e2), (.int e3), (.int e4), (.int (0 : Int32))] (0 : Int32) (Int32.ofNat (a + 1 + b)) q0 e0 _ V_qa V_ea ⟨by decide, by decide⟩ rfl rfl) (wd_5 hw) (wd_6 hw) (wd_3 hw) (wd_7 hw) (by decide) pd_28 rfl rfl rfl (Nat.le_of_ble_eq_true rfl) (Nat.le_of_ble_eq_true rfl) (Nat.le_of_ble_eq_true rfl) (Nat.le_of_ble_eq_true rfl) at_419 ?_
      rintro _ _ ⟨w0, rfl, hw0, rfl⟩
      show GW_law l Z EL s₀ n0 (fun v _ => v = some (.int 1)) h0.size [] h 2 12 422 #[.val (.int p0), .val (.int p1), .val (.int p2), .val (.int p3), .val (.int p4), .val (.int p5), .val (.int (Int32.ofNat a)), .val (.int (Int32.ofNat b)), .val (.int t0), .val (.int t1), .val (.int s0), .val (.int s1), .val (.int (Int32.ofNat (a + 1 + b))), .val (.ref ea), .val (.ref qa), .val (.int (p3 &&& (7 : Int32))), .val (.int (Int32.ofNat m)), .val (.int x), .unset, .unset, .unset, .unset] [(.int w0)]
      rcases hw0 with ⟨rfl, g0⟩ | ⟨rfl, g0, g0'⟩
      · skip
        -- not: (1 : Int32) = (0 : Int32)
        refine Go.ifF at_422 (feq (by decide)).1 ?_
        refine Go.aload at_425 rfl rfl ?_
        refine Go.aload at_427 rfl rfl ?_
        refine Go.iconst 1 at_429 rfl ?_
        refine Go.iload at_430 rfl ?_
        -- at pc 432: pc 432: invokestatic .invokestatic 13 stack [(.int (Int32.ofNat (a + 1 + b))), (.int (1 : Int32)), (.ref ea), (.ref qa)]
        refine Go.callS (I' := IW Z EL s₀ h0.size []) (hI := wQ (ws := []) (fun v h' q => by obtain ⟨w1, rfl, hw1, rfl⟩ := q; exact Keep.refl _ _) all0) [(.ref qa), (.ref ea), (.int (1 : Int32)), (.int (Int32.ofNat (a + 1 + b)))] [] (ct_sam l Z a0 hw n0 qa ea k_qa k_ea [(.int q0), (.int q1), (.int q2), (.int q3), (.int q4), (.int q5)] [(.int e0), (.int e1), (.int e2), (.int e3), (.int e4), (.int (0 : Int32))] (1 : Int32) (Int32.ofNat (a + 1 + b)) q1 e1 _ V_qa V_ea ⟨by decide, by decide⟩ rfl rfl) (wd_5 hw) (wd_6 hw) (wd_3 hw) (wd_7 hw) (by decide) pd_28 rfl rfl rfl (Nat.le_of_ble_eq_true rfl) (Nat.le_of_ble_eq_true rfl) (Nat.le_of_ble_eq_true rfl) (Nat.le_of_ble_eq_true rfl) at_432 ?_
        rintro _ _ ⟨w1, rfl, hw1, rfl⟩
        show GW_law l Z EL s₀ n0 (fun v _ => v = some (.int 1)) h0.size [] h 2 12 435 #[.val (.int p0), .val (.int p1), .val (.int p2), .val (.int p3), .val (.int p4), .val (.int p5), .val (.int (Int32.ofNat a)), .val (.int (Int32.ofNat b)), .val (.int t0), .val (.int t1), .val (.int s0), .val (.int s1), .val (.int (Int32.ofNat (a + 1 + b))), .val (.ref ea), .val (.ref qa), .val (.int (p3 &&& (7 : Int32))), .val (.int (Int32.ofNat m)), .val (.int x), .unset, .unset, .unset, .unset] [(.int w1)]
        rcases hw1 with ⟨rfl, g1⟩ | ⟨rfl, g1, g1'⟩
        · skip
          -- not: (1 : Int32) = (0 : Int32)
          refine Go.ifF at_435 (feq (by decide)).1 ?_
          refine Go.aload at_438 rfl rfl ?_
          refine Go.aload at_440 rfl rfl ?_
          refine Go.iconst 2 at_442 rfl ?_
          refine Go.iload at_443 rfl ?_
          -- at pc 445: pc 445: invokestatic .invokestatic 13 stack [(.int (Int32.ofNat (a + 1 + b))), (.int (2 : Int32)), (.ref ea), (.ref qa)]
          refine Go.callS (I' := IW Z EL s₀ h0.size []) (hI := wQ (ws := []) (fun v h' q => by obtain ⟨w2, rfl, hw2, rfl⟩ := q; exact Keep.refl _ _) all0) [(.ref qa), (.ref ea), (.int (2 : Int32)), (.int (Int32.ofNat (a + 1 + b)))] [] (ct_sam l Z a0 hw n0 qa ea k_qa k_ea [(.int q0), (.int q1), (.int q2), (.int q3), (.int q4), (.int q5)] [(.int e0), (.int e1), (.int e2), (.int e3), (.int e4), (.int (0 : Int32))] (2 : Int32) (Int32.ofNat (a + 1 + b)) q2 e2 _ V_qa V_ea ⟨by decide, by decide⟩ rfl rfl) (wd_5 hw) (wd_6 hw) (wd_3 hw) (wd_7 hw) (by decide) pd_28 rfl rfl rfl (Nat.le_of_ble_eq_true rfl) (Nat.le_of_ble_eq_true rfl) (Nat.le_of_ble_eq_true rfl) (Nat.le_of_ble_eq_true rfl) at_445 ?_
          rintro _ _ ⟨w2, rfl, hw2, rfl⟩
          show GW_law l Z EL s₀ n0 (fun v _ => v = some (.int 1)) h0.size [] h 2 12 448 #[.val (.int p0), .val (.int p1), .val (.int p2), .val (.int p3), .val (.int p4), .val (.int p5), .val (.int (Int32.ofNat a)), .val (.int (Int32.ofNat b)), .val (.int t0), .val (.int t1), .val (.int s0), .val (.int s1), .val (.int (Int32.ofNat (a + 1 + b))), .val (.ref ea), .val (.ref qa), .val (.int (p3 &&& (7 : Int32))), .val (.int (Int32.ofNat m)), .val (.int x), .unset, .unset, .unset, .unset] [(.int w2)]
          rcases hw2 with ⟨rfl, g2⟩ | ⟨rfl, g2, g2'⟩
          · skip
            -- not: (1 : Int32) = (0 : Int32)
            refine Go.ifF at_448 (feq (by decide)).1 ?_
            refine Go.aload at_451 rfl rfl ?_
            refine Go.aload at_453 rfl rfl ?_
            refine Go.iconst 3 at_455 rfl ?_
            refine Go.iload at_456 rfl ?_
            -- at pc 458: pc 458: invokestatic .invokestatic 13 stack [(.int (Int32.ofNat (a + 1 + b))), (.int (3 : Int32)), (.ref ea), (.ref qa)]
            refine Go.callS (I' := IW Z EL s₀ h0.size []) (hI := wQ (ws := []) (fun v h' q => by obtain ⟨w3, rfl, hw3, rfl⟩ := q; exact Keep.refl _ _) all0) [(.ref qa), (.ref ea), (.int (3 : Int32)), (.int (Int32.ofNat (a + 1 + b)))] [] (ct_sam l Z a0 hw n0 qa ea k_qa k_ea [(.int q0), (.int q1), (.int q2), (.int q3), (.int q4), (.int q5)] [(.int e0), (.int e1), (.int e2), (.int e3), (.int e4), (.int (0 : Int32))] (3 : Int32) (Int32.ofNat (a + 1 + b)) q3 e3 _ V_qa V_ea ⟨by decide, by decide⟩ rfl rfl) (wd_5 hw) (wd_6 hw) (wd_3 hw) (wd_7 hw) (by decide) pd_28 rfl rfl rfl (Nat.le_of_ble_eq_true rfl) (Nat.le_of_ble_eq_true rfl) (Nat.le_of_ble_eq_true rfl) (Nat.le_of_ble_eq_true rfl) at_458 ?_
            rintro _ _ ⟨w3, rfl, hw3, rfl⟩
            show GW_law l Z EL s₀ n0 (fun v _ => v = some (.int 1)) h0.size [] h 2 12 461 #[.val (.int p0), .val (.int p1), .val (.int p2), .val (.int p3), .val (.int p4), .val (.int p5), .val (.int (Int32.ofNat a)), .val (.int (Int32.ofNat b)), .val (.int t0), .val (.int t1), .val (.int s0), .val (.int s1), .val (.int (Int32.ofNat (a + 1 + b))), .val (.ref ea), .val (.ref qa), .val (.int (p3 &&& (7 : Int32))), .val (.int (Int32.ofNat m)), .val (.int x), .unset, .unset, .unset, .unset] [(.int w3)]
            rcases hw3 with ⟨rfl, g3⟩ | ⟨rfl, g3, g3'⟩
            · skip
              -- not: (1 : Int32) = (0 : Int32)
              refine Go.ifF at_461 (feq (by decide)).1 ?_
              refine Go.aload at_464 rfl rfl ?_
              refine Go.aload at_466 rfl rfl ?_
              refine Go.iconst 4 at_468 rfl ?_
              refine Go.iload at_469 rfl ?_
              -- at pc 471: pc 471: invokestatic .invokestatic 13 stack [(.int (Int32.ofNat (a + 1 + b))), (.int (4 : Int32)), (.ref ea), (.ref qa)]
              refine Go.callS (I' := IW Z EL s₀ h0.size []) (hI := wQ (ws := []) (fun v h' q => by obtain ⟨w4, rfl, hw4, rfl⟩ := q; exact Keep.refl _ _) all0) [(.ref qa), (.ref ea), (.int (4 : Int32)), (.int (Int32.ofNat (a + 1 + b)))] [] (ct_sam l Z a0 hw n0 qa ea k_qa k_ea [(.int q0), (.int q1), (.int q2), (.int q3), (.int q4), (.int q5)] [(.int e0), (.int e1), (.int e2), (.int e3), (.int e4), (.int (0 : Int32))] (4 : Int32) (Int32.ofNat (a + 1 + b)) q4 e4 _ V_qa V_ea ⟨by decide, by decide⟩ rfl rfl) (wd_5 hw) (wd_6 hw) (wd_3 hw) (wd_7 hw) (by decide) pd_28 rfl rfl rfl (Nat.le_of_ble_eq_true rfl) (Nat.le_of_ble_eq_true rfl) (Nat.le_of_ble_eq_true rfl) (Nat.le_of_ble_eq_true rfl) at_471 ?_
              rintro _ _ ⟨w4, rfl, hw4, rfl⟩
              show GW_law l Z EL s₀ n0 (fun v _ => v = some (.int 1)) h0.size [] h 2 12 474 #[.val (.int p0), .val (.int p1), .val (.int p2), .val (.int p3), .val (.int p4), .val (.int p5), .val (.int (Int32.ofNat a)), .val (.int (Int32.ofNat b)), .val (.int t0), .val (.int t1), .val (.int s0), .val (.int s1), .val (.int (Int32.ofNat (a + 1 + b))), .val (.ref ea), .val (.ref qa), .val (.int (p3 &&& (7 : Int32))), .val (.int (Int32.ofNat m)), .val (.int x), .unset, .unset, .unset, .unset] [(.int w4)]
              rcases hw4 with ⟨rfl, g4⟩ | ⟨rfl, g4, g4'⟩
              · skip
                -- not: (1 : Int32) = (0 : Int32)
                refine Go.ifF at_474 (feq (by decide)).1 ?_
                refine Go.iconst 1 at_477 rfl ?_
                refine Go.goto 482 at_478 (by decide) (by decide) ?_
                exact j482 _ (Or.inl ⟨rfl, hmn, fun q => g0 ((own_ltn (n := 0) (by decide) (by omega)).mpr q), fun q => g1 ((own_ltn (n := 1) (by decide) (by omega)).mpr q), fun q => g2 ((own_ltn (n := 2) (by decide) (by omega)).mpr q), fun q => g3 ((own_ltn (n := 3) (by decide) (by omega)).mpr q), fun q => g4 ((own_ltn (n := 4) (by decide) (by omega)).mpr q)⟩)
              · skip
                -- (0 : Int32) = (0 : Int32)
                refine Go.ifT 481 at_474 (teq (rfl)).1 (by decide) (by decide) ?_
                refine Go.iconst 0 at_481 rfl ?_
                exact j482 _ (Or.inr ⟨rfl, fun Q => g4' (Q.2.2.2.2.2 ((own_ltn (n := 4) (by decide) (by omega)).mp g4))⟩)
            · skip
              -- (0 : Int32) = (0 : Int32)
              refine Go.ifT 481 at_461 (teq (rfl)).1 (by decide) (by decide) ?_
              refine Go.iconst 0 at_481 rfl ?_
              exact j482 _ (Or.inr ⟨rfl, fun Q => g3' (Q.2.2.2.2.1 ((own_ltn (n := 3) (by decide) (by omega)).mp g3))⟩)
          · skip
            -- (0 : Int32) = (0 : Int32)
            refine Go.ifT 481 at_448 (teq (rfl)).1 (by decide) (by decide) ?_
            refine Go.iconst 0 at_481 rfl ?_
            exact j482 _ (Or.inr ⟨rfl, fun Q => g2' (Q.2.2.2.1 ((own_ltn (n := 2) (by decide) (by omega)).mp g2))⟩)
        · skip
          -- (0 : Int32) = (0 : Int32)
          refine Go.ifT 481 at_435 (teq (rfl)).1 (by decide) (by decide) ?_
          refine Go.iconst 0 at_481 rfl ?_
          exact j482 _ (Or.inr ⟨rfl, fun Q => g1' (Q.2.2.1 ((own_ltn (n := 1) (by decide) (by omega)).mp g1))⟩)
      · skip
        -- (0 : Int32) = (0 : Int32)
        refine Go.ifT 481 at_422 (teq (rfl)).1 (by decide) (by decide) ?_
        refine Go.iconst 0 at_481 rfl ?_
        exact j482 _ (Or.inr ⟨rfl, fun Q => g0' (Q.2.1 ((own_ltn (n := 0) (by decide) (by omega)).mp g0))⟩)
    · skip
      -- not: (Int32.ofNat m) = (Int32.ofNat (a + 1 + b))
      refine Go.icT 481 at_409 (feq ((fun q => hmn ((own_eqn (by omega) (by omega)).mp q)))).2 (by decide) (by decide) ?_
      refine Go.iconst 0 at_481 rfl ?_
      exact j482 _ (Or.inr ⟨rfl, fun Q => hmn Q.1⟩)
  by_cases m1 : (p3 &&& (7 : Int32)) = (1 : Int32)
  · refine Go.icF at_257 (teq m1).2 ?_
    refine Go.aload at_260 rfl rfl ?_
    refine Go.iloadN at_262 rfl ?_
    refine Go.iconst 3 at_263 rfl ?_
    refine Go.iushr at_264 ?_
    refine Go.iload at_265 rfl ?_
    refine Go.irem at_267 (own_nz (by omega) (by omega)) ?_
    obtain ⟨j, hj, hje⟩ := own_remN p3 (a + 1 + b) (by omega) (by omega)
    rw [hje]
    refine Go.iload at_268 rfl ?_
    rcases (by omega : j = 0 ∨ j = 1 ∨ j = 2 ∨ j = 3 ∨ j = 4) with rfl | rfl | rfl | rfl | rfl
    · skip
      refine Go.castore (I' := IW Z EL s₀ h0.size []) (hI := wI (Sb.arv V_qa (by decide))) V_qa ⟨by decide, by decide⟩ g_qa 0 rfl (Nat.le_of_ble_eq_true rfl) at_270 fun hp123 K123 V_qa_n => ?_
      replace V_qa : Arv Z hp123 qa k_qa .char (6 : Int32) [(.int (nar .char x)), (.int e1), (.int e2), (.int e3), (.int e4), (.int (0 : Int32))] (.int (0 : Int32)) := V_qa_n
      replace O := O.keep K123 (allS g_qa (all0))
      replace V_ea := V_ea.keep K123 (ninS ne_ea_qa nin0)
      replace hz : n0 ≤ hp123.size := Nat.le_trans hz K123.1
      replace hlo : h0.size ≤ hp123.size := Nat.le_trans hlo K123.1
      rw [o_x.nar] at V_qa
      refine Go.goto 405 at_271 (by decide) (by decide) ?_
      exact j405 _ x e1 e2 e3 e4 0 (a + 1 + b) (by omega) o_x o_e1 o_e2 o_e3 o_e4 Ch.zero hz O hlo V_qa V_ea
    · skip
      refine Go.castore (I' := IW Z EL s₀ h0.size []) (hI := wI (Sb.arv V_qa (by decide))) V_qa ⟨by decide, by decide⟩ g_qa 1 rfl (Nat.le_of_ble_eq_true rfl) at_270 fun hp124 K124 V_qa_n => ?_
      replace V_qa : Arv Z hp124 qa k_qa .char (6 : Int32) [(.int e0), (.int (nar .char x)), (.int e2), (.int e3), (.int e4), (.int (0 : Int32))] (.int (0 : Int32)) := V_qa_n
      replace O := O.keep K124 (allS g_qa (all0))
      replace V_ea := V_ea.keep K124 (ninS ne_ea_qa nin0)
      replace hz : n0 ≤ hp124.size := Nat.le_trans hz K124.1
      replace hlo : h0.size ≤ hp124.size := Nat.le_trans hlo K124.1
      rw [o_x.nar] at V_qa
      refine Go.goto 405 at_271 (by decide) (by decide) ?_
      exact j405 _ e0 x e2 e3 e4 0 (a + 1 + b) (by omega) o_e0 o_x o_e2 o_e3 o_e4 Ch.zero hz O hlo V_qa V_ea
    · skip
      refine Go.castore (I' := IW Z EL s₀ h0.size []) (hI := wI (Sb.arv V_qa (by decide))) V_qa ⟨by decide, by decide⟩ g_qa 2 rfl (Nat.le_of_ble_eq_true rfl) at_270 fun hp125 K125 V_qa_n => ?_
      replace V_qa : Arv Z hp125 qa k_qa .char (6 : Int32) [(.int e0), (.int e1), (.int (nar .char x)), (.int e3), (.int e4), (.int (0 : Int32))] (.int (0 : Int32)) := V_qa_n
      replace O := O.keep K125 (allS g_qa (all0))
      replace V_ea := V_ea.keep K125 (ninS ne_ea_qa nin0)
      replace hz : n0 ≤ hp125.size := Nat.le_trans hz K125.1
      replace hlo : h0.size ≤ hp125.size := Nat.le_trans hlo K125.1
      rw [o_x.nar] at V_qa
      refine Go.goto 405 at_271 (by decide) (by decide) ?_
      exact j405 _ e0 e1 x e3 e4 0 (a + 1 + b) (by omega) o_e0 o_e1 o_x o_e3 o_e4 Ch.zero hz O hlo V_qa V_ea
    · skip
      refine Go.castore (I' := IW Z EL s₀ h0.size []) (hI := wI (Sb.arv V_qa (by decide))) V_qa ⟨by decide, by decide⟩ g_qa 3 rfl (Nat.le_of_ble_eq_true rfl) at_270 fun hp126 K126 V_qa_n => ?_
      replace V_qa : Arv Z hp126 qa k_qa .char (6 : Int32) [(.int e0), (.int e1), (.int e2), (.int (nar .char x)), (.int e4), (.int (0 : Int32))] (.int (0 : Int32)) := V_qa_n
      replace O := O.keep K126 (allS g_qa (all0))
      replace V_ea := V_ea.keep K126 (ninS ne_ea_qa nin0)
      replace hz : n0 ≤ hp126.size := Nat.le_trans hz K126.1
      replace hlo : h0.size ≤ hp126.size := Nat.le_trans hlo K126.1
      rw [o_x.nar] at V_qa
      refine Go.goto 405 at_271 (by decide) (by decide) ?_
      exact j405 _ e0 e1 e2 x e4 0 (a + 1 + b) (by omega) o_e0 o_e1 o_e2 o_x o_e4 Ch.zero hz O hlo V_qa V_ea
    · skip
      refine Go.castore (I' := IW Z EL s₀ h0.size []) (hI := wI (Sb.arv V_qa (by decide))) V_qa ⟨by decide, by decide⟩ g_qa 4 rfl (Nat.le_of_ble_eq_true rfl) at_270 fun hp127 K127 V_qa_n => ?_
      replace V_qa : Arv Z hp127 qa k_qa .char (6 : Int32) [(.int e0), (.int e1), (.int e2), (.int e3), (.int (nar .char x)), (.int (0 : Int32))] (.int (0 : Int32)) := V_qa_n
      replace O := O.keep K127 (allS g_qa (all0))
      replace V_ea := V_ea.keep K127 (ninS ne_ea_qa nin0)
      replace hz : n0 ≤ hp127.size := Nat.le_trans hz K127.1
      replace hlo : h0.size ≤ hp127.size := Nat.le_trans hlo K127.1
      rw [o_x.nar] at V_qa
      refine Go.goto 405 at_271 (by decide) (by decide) ?_
      exact j405 _ e0 e1 e2 e3 x 0 (a + 1 + b) (by omega) o_e0 o_e1 o_e2 o_e3 o_x Ch.zero hz O hlo V_qa V_ea
  · refine Go.icT 274 at_257 (feq m1).2 (by decide) (by decide) ?_
    refine Go.iload at_274 rfl ?_
    refine Go.iconst 2 at_276 rfl ?_
    -- at pc 277: pc 277: if_icmp .if_icmp .ne 12 stack [(.int (2 : Int32)), (.int (p3 &&& (7 : Int32)))]
    by_cases m2 : (p3 &&& (7 : Int32)) = (2 : Int32)
    · refine Go.icF at_277 (teq m2).2 ?_
      refine Go.iload at_280 rfl ?_
      refine Go.iconst 1 at_282 rfl ?_
      refine Go.isub at_283 ?_
      rw [show ((Int32.ofNat (a + 1 + b)) - (1 : Int32)) = (Int32.ofNat (a + b)) from (own_sub1 a b)]
      refine Go.istore (Ls' := #[.val (.int p0), .val (.int p1), .val (.int p2), .val (.int p3), .val (.int p4), .val (.int p5), .val (.int (Int32.ofNat a)), .val (.int (Int32.ofNat b)), .val (.int t0), .val (.int t1), .val (.int s0), .val (.int s1), .val (.int (Int32.ofNat (a + 1 + b))), .val (.ref ea), .val (.ref qa), .val (.int (p3 &&& (7 : Int32))), .val (.int (Int32.ofNat (a + b))), .val (.int x), .unset, .unset, .unset, .unset]) at_284 rfl ?_
      refine Go.goto 405 at_286 (by decide) (by decide) ?_
      exact j405 _ e0 e1 e2 e3 e4 0 (a + b) (by omega) o_e0 o_e1 o_e2 o_e3 o_e4 Ch.zero hz O hlo V_qa V_ea
    · refine Go.icT 289 at_277 (feq m2).2 (by decide) (by decide) ?_
      refine Go.iload at_289 rfl ?_
      refine Go.iconst 3 at_291 rfl ?_
      -- at pc 292: pc 292: if_icmp .if_icmp .ne 19 stack [(.int (3 : Int32)), (.int (p3 &&& (7 : Int32)))]
      by_cases m3 : (p3 &&& (7 : Int32)) = (3 : Int32)
      · refine Go.icF at_292 (teq m3).2 ?_
        refine Go.aload at_295 rfl rfl ?_
        refine Go.iload at_297 rfl ?_
        refine Go.iload at_299 rfl ?_
        rcases (by omega : a + 1 + b = 1 ∨ a + 1 + b = 2 ∨ a + 1 + b = 3 ∨ a + 1 + b = 4 ∨ a + 1 + b = 5) with hN | hN | hN | hN | hN
        · skip
          -- n = 1
          refine Go.castore (I' := IW Z EL s₀ h0.size []) (hI := wI (Sb.arv V_qa (by decide))) V_qa (by rw [hN]; exact ⟨by decide, by decide⟩) g_qa 1 (by rw [hN]; rfl) (Nat.le_of_ble_eq_true rfl) at_301 fun hc Kc Vc => ?_
          rw [o_x.nar] at Vc
          replace O := O.keep Kc (allS g_qa (all0))
          replace V_ea := V_ea.keep Kc (ninS ne_ea_qa nin0)
          replace hz : n0 ≤ hc.size := Nat.le_trans hz Kc.1
          replace hlo : h0.size ≤ hc.size := Nat.le_trans hlo Kc.1
          have V_qa := Vc
          show GW_law l Z EL s₀ n0 (fun v _ => v = some (.int 1)) h0.size [] hc 2 12 302 #[.val (.int p0), .val (.int p1), .val (.int p2), .val (.int p3), .val (.int p4), .val (.int p5), .val (.int (Int32.ofNat a)), .val (.int (Int32.ofNat b)), .val (.int t0), .val (.int t1), .val (.int s0), .val (.int s1), .val (.int (Int32.ofNat (a + 1 + b))), .val (.ref ea), .val (.ref qa), .val (.int (p3 &&& (7 : Int32))), .val (.int (Int32.ofNat (a + 1 + b))), .val (.int x), .unset, .unset, .unset, .unset] []
          refine Go.iload at_302 rfl ?_
          refine Go.iconst 1 at_304 rfl ?_
          refine Go.iadd at_305 ?_
          rw [show ((Int32.ofNat (a + 1 + b)) + (1 : Int32)) = (Int32.ofNat (a + 1 + b + 1)) from (own_of1 _)]
          refine Go.istore (Ls' := #[.val (.int p0), .val (.int p1), .val (.int p2), .val (.int p3), .val (.int p4), .val (.int p5), .val (.int (Int32.ofNat a)), .val (.int (Int32.ofNat b)), .val (.int t0), .val (.int t1), .val (.int s0), .val (.int s1), .val (.int (Int32.ofNat (a + 1 + b))), .val (.ref ea), .val (.ref qa), .val (.int (p3 &&& (7 : Int32))), .val (.int (Int32.ofNat (a + 1 + b + 1))), .val (.int x), .unset, .unset, .unset, .unset]) at_306 rfl ?_
          refine Go.goto 405 at_308 (by decide) (by decide) ?_
          exact j405 _ e0 x e2 e3 e4 0 (a + 1 + b + 1) (by omega) o_e0 o_x o_e2 o_e3 o_e4 Ch.zero hz O hlo V_qa V_ea
        · skip
          -- n = 2
          refine Go.castore (I' := IW Z EL s₀ h0.size []) (hI := wI (Sb.arv V_qa (by decide))) V_qa (by rw [hN]; exact ⟨by decide, by decide⟩) g_qa 2 (by rw [hN]; rfl) (Nat.le_of_ble_eq_true rfl) at_301 fun hc Kc Vc => ?_
          rw [o_x.nar] at Vc
          replace O := O.keep Kc (allS g_qa (all0))
          replace V_ea := V_ea.keep Kc (ninS ne_ea_qa nin0)
          replace hz : n0 ≤ hc.size := Nat.le_trans hz Kc.1
          replace hlo : h0.size ≤ hc.size := Nat.le_trans hlo Kc.1
          have V_qa := Vc
          show GW_law l Z EL s₀ n0 (fun v _ => v = some (.int 1)) h0.size [] hc 2 12 302 #[.val (.int p0), .val (.int p1), .val (.int p2), .val (.int p3), .val (.int p4), .val (.int p5), .val (.int (Int32.ofNat a)), .val (.int (Int32.ofNat b)), .val (.int t0), .val (.int t1), .val (.int s0), .val (.int s1), .val (.int (Int32.ofNat (a + 1 + b))), .val (.ref ea), .val (.ref qa), .val (.int (p3 &&& (7 : Int32))), .val (.int (Int32.ofNat (a + 1 + b))), .val (.int x), .unset, .unset, .unset, .unset] []
          refine Go.iload at_302 rfl ?_
          refine Go.iconst 1 at_304 rfl ?_
          refine Go.iadd at_305 ?_
          rw [show ((Int32.ofNat (a + 1 + b)) + (1 : Int32)) = (Int32.ofNat (a + 1 + b + 1)) from (own_of1 _)]
          refine Go.istore (Ls' := #[.val (.int p0), .val (.int p1), .val (.int p2), .val (.int p3), .val (.int p4), .val (.int p5), .val (.int (Int32.ofNat a)), .val (.int (Int32.ofNat b)), .val (.int t0), .val (.int t1), .val (.int s0), .val (.int s1), .val (.int (Int32.ofNat (a + 1 + b))), .val (.ref ea), .val (.ref qa), .val (.int (p3 &&& (7 : Int32))), .val (.int (Int32.ofNat (a + 1 + b + 1))), .val (.int x), .unset, .unset, .unset, .unset]) at_306 rfl ?_
          refine Go.goto 405 at_308 (by decide) (by decide) ?_
          exact j405 _ e0 e1 x e3 e4 0 (a + 1 + b + 1) (by omega) o_e0 o_e1 o_x o_e3 o_e4 Ch.zero hz O hlo V_qa V_ea
        · skip
          -- n = 3
          refine Go.castore (I' := IW Z EL s₀ h0.size []) (hI := wI (Sb.arv V_qa (by decide))) V_qa (by rw [hN]; exact ⟨by decide, by decide⟩) g_qa 3 (by rw [hN]; rfl) (Nat.le_of_ble_eq_true rfl) at_301 fun hc Kc Vc => ?_
          rw [o_x.nar] at Vc
          replace O := O.keep Kc (allS g_qa (all0))
          replace V_ea := V_ea.keep Kc (ninS ne_ea_qa nin0)
          replace hz : n0 ≤ hc.size := Nat.le_trans hz Kc.1
          replace hlo : h0.size ≤ hc.size := Nat.le_trans hlo Kc.1
          have V_qa := Vc
          show GW_law l Z EL s₀ n0 (fun v _ => v = some (.int 1)) h0.size [] hc 2 12 302 #[.val (.int p0), .val (.int p1), .val (.int p2), .val (.int p3), .val (.int p4), .val (.int p5), .val (.int (Int32.ofNat a)), .val (.int (Int32.ofNat b)), .val (.int t0), .val (.int t1), .val (.int s0), .val (.int s1), .val (.int (Int32.ofNat (a + 1 + b))), .val (.ref ea), .val (.ref qa), .val (.int (p3 &&& (7 : Int32))), .val (.int (Int32.ofNat (a + 1 + b))), .val (.int x), .unset, .unset, .unset, .unset] []
          refine Go.iload at_302 rfl ?_
          refine Go.iconst 1 at_304 rfl ?_
          refine Go.iadd at_305 ?_
          rw [show ((Int32.ofNat (a + 1 + b)) + (1 : Int32)) = (Int32.ofNat (a + 1 + b + 1)) from (own_of1 _)]
          refine Go.istore (Ls' := #[.val (.int p0), .val (.int p1), .val (.int p2), .val (.int p3), .val (.int p4), .val (.int p5), .val (.int (Int32.ofNat a)), .val (.int (Int32.ofNat b)), .val (.int t0), .val (.int t1), .val (.int s0), .val (.int s1), .val (.int (Int32.ofNat (a + 1 + b))), .val (.ref ea), .val (.ref qa), .val (.int (p3 &&& (7 : Int32))), .val (.int (Int32.ofNat (a + 1 + b + 1))), .val (.int x), .unset, .unset, .unset, .unset]) at_306 rfl ?_
          refine Go.goto 405 at_308 (by decide) (by decide) ?_
          exact j405 _ e0 e1 e2 x e4 0 (a + 1 + b + 1) (by omega) o_e0 o_e1 o_e2 o_x o_e4 Ch.zero hz O hlo V_qa V_ea
        · skip
          -- n = 4
          refine Go.castore (I' := IW Z EL s₀ h0.size []) (hI := wI (Sb.arv V_qa (by decide))) V_qa (by rw [hN]; exact ⟨by decide, by decide⟩) g_qa 4 (by rw [hN]; rfl) (Nat.le_of_ble_eq_true rfl) at_301 fun hc Kc Vc => ?_
          rw [o_x.nar] at Vc
          replace O := O.keep Kc (allS g_qa (all0))
          replace V_ea := V_ea.keep Kc (ninS ne_ea_qa nin0)
          replace hz : n0 ≤ hc.size := Nat.le_trans hz Kc.1
          replace hlo : h0.size ≤ hc.size := Nat.le_trans hlo Kc.1
          have V_qa := Vc
          show GW_law l Z EL s₀ n0 (fun v _ => v = some (.int 1)) h0.size [] hc 2 12 302 #[.val (.int p0), .val (.int p1), .val (.int p2), .val (.int p3), .val (.int p4), .val (.int p5), .val (.int (Int32.ofNat a)), .val (.int (Int32.ofNat b)), .val (.int t0), .val (.int t1), .val (.int s0), .val (.int s1), .val (.int (Int32.ofNat (a + 1 + b))), .val (.ref ea), .val (.ref qa), .val (.int (p3 &&& (7 : Int32))), .val (.int (Int32.ofNat (a + 1 + b))), .val (.int x), .unset, .unset, .unset, .unset] []
          refine Go.iload at_302 rfl ?_
          refine Go.iconst 1 at_304 rfl ?_
          refine Go.iadd at_305 ?_
          rw [show ((Int32.ofNat (a + 1 + b)) + (1 : Int32)) = (Int32.ofNat (a + 1 + b + 1)) from (own_of1 _)]
          refine Go.istore (Ls' := #[.val (.int p0), .val (.int p1), .val (.int p2), .val (.int p3), .val (.int p4), .val (.int p5), .val (.int (Int32.ofNat a)), .val (.int (Int32.ofNat b)), .val (.int t0), .val (.int t1), .val (.int s0), .val (.int s1), .val (.int (Int32.ofNat (a + 1 + b))), .val (.ref ea), .val (.ref qa), .val (.int (p3 &&& (7 : Int32))), .val (.int (Int32.ofNat (a + 1 + b + 1))), .val (.int x), .unset, .unset, .unset, .unset]) at_306 rfl ?_
          refine Go.goto 405 at_308 (by decide) (by decide) ?_
          exact j405 _ e0 e1 e2 e3 x 0 (a + 1 + b + 1) (by omega) o_e0 o_e1 o_e2 o_e3 o_x Ch.zero hz O hlo V_qa V_ea
        · skip
          -- n = 5
          refine Go.castore (I' := IW Z EL s₀ h0.size []) (hI := wI (Sb.arv V_qa (by decide))) V_qa (by rw [hN]; exact ⟨by decide, by decide⟩) g_qa 5 (by rw [hN]; rfl) (Nat.le_of_ble_eq_true rfl) at_301 fun hc Kc Vc => ?_
          rw [o_x.nar] at Vc
          replace O := O.keep Kc (allS g_qa (all0))
          replace V_ea := V_ea.keep Kc (ninS ne_ea_qa nin0)
          replace hz : n0 ≤ hc.size := Nat.le_trans hz Kc.1
          replace hlo : h0.size ≤ hc.size := Nat.le_trans hlo Kc.1
          have V_qa := Vc
          show GW_law l Z EL s₀ n0 (fun v _ => v = some (.int 1)) h0.size [] hc 2 12 302 #[.val (.int p0), .val (.int p1), .val (.int p2), .val (.int p3), .val (.int p4), .val (.int p5), .val (.int (Int32.ofNat a)), .val (.int (Int32.ofNat b)), .val (.int t0), .val (.int t1), .val (.int s0), .val (.int s1), .val (.int (Int32.ofNat (a + 1 + b))), .val (.ref ea), .val (.ref qa), .val (.int (p3 &&& (7 : Int32))), .val (.int (Int32.ofNat (a + 1 + b))), .val (.int x), .unset, .unset, .unset, .unset] []
          refine Go.iload at_302 rfl ?_
          refine Go.iconst 1 at_304 rfl ?_
          refine Go.iadd at_305 ?_
          rw [show ((Int32.ofNat (a + 1 + b)) + (1 : Int32)) = (Int32.ofNat (a + 1 + b + 1)) from (own_of1 _)]
          refine Go.istore (Ls' := #[.val (.int p0), .val (.int p1), .val (.int p2), .val (.int p3), .val (.int p4), .val (.int p5), .val (.int (Int32.ofNat a)), .val (.int (Int32.ofNat b)), .val (.int t0), .val (.int t1), .val (.int s0), .val (.int s1), .val (.int (Int32.ofNat (a + 1 + b))), .val (.ref ea), .val (.ref qa), .val (.int (p3 &&& (7 : Int32))), .val (.int (Int32.ofNat (a + 1 + b + 1))), .val (.int x), .unset, .unset, .unset, .unset]) at_306 rfl ?_
          refine Go.goto 405 at_308 (by decide) (by decide) ?_
          exact j405 _ e0 e1 e2 e3 e4 x (a + 1 + b + 1) (by omega) o_e0 o_e1 o_e2 o_e3 o_e4 o_x hz O hlo V_qa V_ea
      · refine Go.icT 311 at_292 (feq m3).2 (by decide) (by decide) ?_
        refine Go.iload at_311 rfl ?_
        refine Go.iconst 4 at_313 rfl ?_
        -- at pc 314: pc 314: if_icmp .if_icmp .lt 91 stack [(.int (4 : Int32)), (.int (p3 &&& (7 : Int32)))]
        by_cases m4 : (p3 &&& (7 : Int32)) < (4 : Int32)
        · refine Go.icT 405 at_314 (tlt m4).1 (by decide) (by decide) ?_
          exact j405 _ e0 e1 e2 e3 e4 0 (a + 1 + b) (by omega) o_e0 o_e1 o_e2 o_e3 o_e4 Ch.zero hz O hlo V_qa V_ea
        · refine Go.icF at_314 (flt m4).1 ?_
          refine Go.aload at_317 rfl rfl ?_
          refine Go.iconst 0 at_319 rfl ?_
          refine Go.iload at_320 rfl ?_
          refine Go.sipush 255 at_322 rfl ?_
          refine Go.iand at_325 ?_
          refine Go.i2c at_326 ?_
          rw [show ((p4 &&& (255 : Int32)).toUInt32.toUInt16.toUInt32.toInt32) = (p4 &&& (255 : Int32)) from (i2c_mask _)]
          generalize hg_y0 : (p4 &&& (255 : Int32)) = y0
          have o_y0 : Ch y0 := hg_y0 ▸ Ch.and _
          refine Go.castore (I' := IW Z EL s₀ h0.size []) (hI := wI (Sb.arv V_qa (by decide))) V_qa ⟨by decide, by decide⟩ g_qa 0 rfl (Nat.le_of_ble_eq_true rfl) at_327 fun hp128 K128 V_qa_n => ?_
          replace V_qa : Arv Z hp128 qa k_qa .char (6 : Int32) [(.int (nar .char y0)), (.int e1), (.int e2), (.int e3), (.int e4), (.int (0 : Int32))] (.int (0 : Int32)) := V_qa_n
          replace O := O.keep K128 (allS g_qa (all0))
          replace V_ea := V_ea.keep K128 (ninS ne_ea_qa nin0)
          replace hz : n0 ≤ hp128.size := Nat.le_trans hz K128.1
          replace hlo : h0.size ≤ hp128.size := Nat.le_trans hlo K128.1
          rw [o_y0.nar] at V_qa
          refine Go.aload at_328 rfl rfl ?_
          refine Go.iconst 1 at_330 rfl ?_
          refine Go.iload at_331 rfl ?_
          refine Go.bipush 8 at_333 rfl ?_
          refine Go.iushr at_335 ?_
          refine Go.sipush 255 at_336 rfl ?_
          refine Go.iand at_339 ?_
          refine Go.i2c at_340 ?_
          rw [show ((((p4.toUInt32 >>> ((8 : Int32) &&& 31).toUInt32).toInt32) &&& (255 : Int32)).toUInt32.toUInt16.toUInt32.toInt32) = (((p4.toUInt32 >>> ((8 : Int32) &&& 31).toUInt32).toInt32) &&& (255 : Int32)) from (i2c_mask _)]
          generalize hg_y1 : (((p4.toUInt32 >>> ((8 : Int32) &&& 31).toUInt32).toInt32) &&& (255 : Int32)) = y1
          have o_y1 : Ch y1 := hg_y1 ▸ Ch.and _
          refine Go.castore (I' := IW Z EL s₀ h0.size []) (hI := wI (Sb.arv V_qa (by decide))) V_qa ⟨by decide, by decide⟩ g_qa 1 rfl (Nat.le_of_ble_eq_true rfl) at_341 fun hp129 K129 V_qa_n => ?_
          replace V_qa : Arv Z hp129 qa k_qa .char (6 : Int32) [(.int y0), (.int (nar .char y1)), (.int e2), (.int e3), (.int e4), (.int (0 : Int32))] (.int (0 : Int32)) := V_qa_n
          replace O := O.keep K129 (allS g_qa (all0))
          replace V_ea := V_ea.keep K129 (ninS ne_ea_qa nin0)
          replace hz : n0 ≤ hp129.size := Nat.le_trans hz K129.1
          replace hlo : h0.size ≤ hp129.size := Nat.le_trans hlo K129.1
          rw [o_y1.nar] at V_qa
          refine Go.aload at_342 rfl rfl ?_
          refine Go.iconst 2 at_344 rfl ?_
          refine Go.iload at_345 rfl ?_
          refine Go.bipush 16 at_347 rfl ?_
          refine Go.iushr at_349 ?_
          refine Go.sipush 255 at_350 rfl ?_
          refine Go.iand at_353 ?_
          refine Go.i2c at_354 ?_
          rw [show ((((p4.toUInt32 >>> ((16 : Int32) &&& 31).toUInt32).toInt32) &&& (255 : Int32)).toUInt32.toUInt16.toUInt32.toInt32) = (((p4.toUInt32 >>> ((16 : Int32) &&& 31).toUInt32).toInt32) &&& (255 : Int32)) from (i2c_mask _)]
          generalize hg_y2 : (((p4.toUInt32 >>> ((16 : Int32) &&& 31).toUInt32).toInt32) &&& (255 : Int32)) = y2
          have o_y2 : Ch y2 := hg_y2 ▸ Ch.and _
          refine Go.castore (I' := IW Z EL s₀ h0.size []) (hI := wI (Sb.arv V_qa (by decide))) V_qa ⟨by decide, by decide⟩ g_qa 2 rfl (Nat.le_of_ble_eq_true rfl) at_355 fun hp130 K130 V_qa_n => ?_
          replace V_qa : Arv Z hp130 qa k_qa .char (6 : Int32) [(.int y0), (.int y1), (.int (nar .char y2)), (.int e3), (.int e4), (.int (0 : Int32))] (.int (0 : Int32)) := V_qa_n
          replace O := O.keep K130 (allS g_qa (all0))
          replace V_ea := V_ea.keep K130 (ninS ne_ea_qa nin0)
          replace hz : n0 ≤ hp130.size := Nat.le_trans hz K130.1
          replace hlo : h0.size ≤ hp130.size := Nat.le_trans hlo K130.1
          rw [o_y2.nar] at V_qa
          refine Go.aload at_356 rfl rfl ?_
          refine Go.iconst 3 at_358 rfl ?_
          refine Go.iload at_359 rfl ?_
          refine Go.bipush 24 at_361 rfl ?_
          refine Go.iushr at_363 ?_
          refine Go.sipush 255 at_364 rfl ?_
          refine Go.iand at_367 ?_
          refine Go.i2c at_368 ?_
          rw [show ((((p4.toUInt32 >>> ((24 : Int32) &&& 31).toUInt32).toInt32) &&& (255 : Int32)).toUInt32.toUInt16.toUInt32.toInt32) = (((p4.toUInt32 >>> ((24 : Int32) &&& 31).toUInt32).toInt32) &&& (255 : Int32)) from (i2c_mask _)]
          generalize hg_y3 : (((p4.toUInt32 >>> ((24 : Int32) &&& 31).toUInt32).toInt32) &&& (255 : Int32)) = y3
          have o_y3 : Ch y3 := hg_y3 ▸ Ch.and _
          refine Go.castore (I' := IW Z EL s₀ h0.size []) (hI := wI (Sb.arv V_qa (by decide))) V_qa ⟨by decide, by decide⟩ g_qa 3 rfl (Nat.le_of_ble_eq_true rfl) at_369 fun hp131 K131 V_qa_n => ?_
          replace V_qa : Arv Z hp131 qa k_qa .char (6 : Int32) [(.int y0), (.int y1), (.int y2), (.int (nar .char y3)), (.int e4), (.int (0 : Int32))] (.int (0 : Int32)) := V_qa_n
          replace O := O.keep K131 (allS g_qa (all0))
          replace V_ea := V_ea.keep K131 (ninS ne_ea_qa nin0)
          replace hz : n0 ≤ hp131.size := Nat.le_trans hz K131.1
          replace hlo : h0.size ≤ hp131.size := Nat.le_trans hlo K131.1
          rw [o_y3.nar] at V_qa
          refine Go.aload at_370 rfl rfl ?_
          refine Go.iconst 4 at_372 rfl ?_
          refine Go.iload at_373 rfl ?_
          refine Go.sipush 255 at_375 rfl ?_
          refine Go.iand at_378 ?_
          refine Go.i2c at_379 ?_
          rw [show ((p5 &&& (255 : Int32)).toUInt32.toUInt16.toUInt32.toInt32) = (p5 &&& (255 : Int32)) from (i2c_mask _)]
          generalize hg_y4 : (p5 &&& (255 : Int32)) = y4
          have o_y4 : Ch y4 := hg_y4 ▸ Ch.and _
          refine Go.castore (I' := IW Z EL s₀ h0.size []) (hI := wI (Sb.arv V_qa (by decide))) V_qa ⟨by decide, by decide⟩ g_qa 4 rfl (Nat.le_of_ble_eq_true rfl) at_380 fun hp132 K132 V_qa_n => ?_
          replace V_qa : Arv Z hp132 qa k_qa .char (6 : Int32) [(.int y0), (.int y1), (.int y2), (.int y3), (.int (nar .char y4)), (.int (0 : Int32))] (.int (0 : Int32)) := V_qa_n
          replace O := O.keep K132 (allS g_qa (all0))
          replace V_ea := V_ea.keep K132 (ninS ne_ea_qa nin0)
          replace hz : n0 ≤ hp132.size := Nat.le_trans hz K132.1
          replace hlo : h0.size ≤ hp132.size := Nat.le_trans hlo K132.1
          rw [o_y4.nar] at V_qa
          refine Go.aload at_381 rfl rfl ?_
          refine Go.iconst 5 at_383 rfl ?_
          refine Go.iload at_384 rfl ?_
          refine Go.bipush 8 at_386 rfl ?_
          refine Go.iushr at_388 ?_
          refine Go.sipush 255 at_389 rfl ?_
          refine Go.iand at_392 ?_
          refine Go.i2c at_393 ?_
          rw [show ((((p5.toUInt32 >>> ((8 : Int32) &&& 31).toUInt32).toInt32) &&& (255 : Int32)).toUInt32.toUInt16.toUInt32.toInt32) = (((p5.toUInt32 >>> ((8 : Int32) &&& 31).toUInt32).toInt32) &&& (255 : Int32)) from (i2c_mask _)]
          generalize hg_y5 : (((p5.toUInt32 >>> ((8 : Int32) &&& 31).toUInt32).toInt32) &&& (255 : Int32)) = y5
          have o_y5 : Ch y5 := hg_y5 ▸ Ch.and _
          refine Go.castore (I' := IW Z EL s₀ h0.size []) (hI := wI (Sb.arv V_qa (by decide))) V_qa ⟨by decide, by decide⟩ g_qa 5 rfl (Nat.le_of_ble_eq_true rfl) at_394 fun hp133 K133 V_qa_n => ?_
          replace V_qa : Arv Z hp133 qa k_qa .char (6 : Int32) [(.int y0), (.int y1), (.int y2), (.int y3), (.int y4), (.int (nar .char y5))] (.int (0 : Int32)) := V_qa_n
          replace O := O.keep K133 (allS g_qa (all0))
          replace V_ea := V_ea.keep K133 (ninS ne_ea_qa nin0)
          replace hz : n0 ≤ hp133.size := Nat.le_trans hz K133.1
          replace hlo : h0.size ≤ hp133.size := Nat.le_trans hlo K133.1
          rw [o_y5.nar] at V_qa
          refine Go.iload at_395 rfl ?_
          refine Go.bipush 16 at_397 rfl ?_
          refine Go.iushr at_399 ?_
          refine Go.bipush 7 at_400 rfl ?_
          refine Go.irem at_402 (by decide) ?_
          obtain ⟨j, hj, hje⟩ := own_rem7 p5
          rw [hje]
          refine Go.istore (Ls' := #[.val (.int p0), .val (.int p1), .val (.int p2), .val (.int p3), .val (.int p4), .val (.int p5), .val (.int (Int32.ofNat a)), .val (.int (Int32.ofNat b)), .val (.int t0), .val (.int t1), .val (.int s0), .val (.int s1), .val (.int (Int32.ofNat (a + 1 + b))), .val (.ref ea), .val (.ref qa), .val (.int (p3 &&& (7 : Int32))), .val (.int (Int32.ofNat j)), .val (.int x), .unset, .unset, .unset, .unset]) at_403 rfl ?_
          exact j405 _ y0 y1 y2 y3 y4 y5 j (by omega) o_y0 o_y1 o_y2 o_y3 o_y4 o_y5 hz O hlo V_qa V_ea
set_option maxRecDepth 65536 in
set_option maxHeartbeats 40000000 in
theorem comes_1 {Post : Tables → Env → Array Value → State → Outcome → State → Prop} (hpost : ∀ tb e args s v u, (limb_1_1.after args s (.returned v) u = true ∧ limb_1_2.after args s (.returned v) u = true ∧ True) → ReturnedEndW s (.returned v) u (Jvm.fieldLocs frame_1_writes args s ++ Jvm.arrayLocs frame_1_arrays args s ++ Jvm.staticLocs frame_1_statics s) 48 2304 → Post tb e args s (.returned v) u) :
    ArmFor flags0 classFile x code maxLocals ret World_1 tables_1 room_1 Calls_1 rest_1 Pre_1 Post := by
  intro l hfl _ _ p e ha hc hk s m args below hf hA hF happ hP
  obtain ⟨hcalls, hrest, hpre⟩ := hP
  obtain ⟨-, -, -, hnamed, -, -, -, hat⟩ := (Spec.applies_iff hf).mp happ
  obtain ⟨hg, hn⟩ := and_e (Cond.before_iff.mp (show (Jvm.Cond.and given_1 narrow_1).before args s = true from hpre))
  obtain ⟨gg1, gg2⟩ := and_e hg
  obtain ⟨gg3, gg4⟩ := and_e gg2
  obtain ⟨gg5, gg6⟩ := and_e gg4
  obtain ⟨gg7, gg8⟩ := and_e gg6
  obtain ⟨gg9, gg10⟩ := and_e gg8
  obtain ⟨gg11, gg12⟩ := and_e gg10
  obtain ⟨w0, w1, w2, w3, w4, w5, rfl⟩ : ∃ w0 w1 w2 w3 w4 w5 : Value, args = #[w0, w1, w2, w3, w4, w5] := by
    have hs : args.size = 6 := by simpa [Cond.value, given_1] using gg1
    obtain ⟨L⟩ := args
    match L, hs with
    | [w0, w1, w2, w3, w4, w5], _ => exact ⟨w0, w1, w2, w3, w4, w5, rfl⟩
  have hw := fun d (hd : d ∈ tables_1) => atoms_spec (ws := Jvm.Cond.code x code maxLocals ret :: tables_1) hat d (List.mem_cons_of_mem _ hd)
  have hfit : Fit s := fun {y c} hc i hi => by
    obtain ⟨ha, rfl⟩ := Array.getElem?_eq_some_iff.mp hc
    have q := List.all_eq_true.mp ((Array.all_eq_true_iff_forall_mem.mp hF) _ (Array.getElem_mem ha)) i (List.mem_range.mpr hi)
    simpa [Array.getElem?_eq_getElem hi] using q
  obtain ⟨hsets, hown0⟩ := atoms_of _ (rest_1_c_eq ▸ (show rest_1_c.before _ s = true from hrest))
  have hr0 := Cond.before_iff.mp hown0
  have hcw : Jvm.Lit.compactW.before #[w0, w1, w2, w3, w4, w5] s = true := hsets _ (List.mem_of_getElem? (i := 2) rfl)
  have hCH : CHv s EL s.vm s.heap := CHv.start (ewEL hw) (fun q hq => hcalls.1 q hq) hcw (wd_32 hw) (wd_15 hw)
  obtain ⟨i0, ei0⟩ := is_v gg3
  obtain rfl : w0 = (.int i0) := Option.some.inj ei0
  obtain ⟨i1, ei1⟩ := is_v gg5
  obtain rfl : w1 = (.int i1) := Option.some.inj ei1
  obtain ⟨i2, ei2⟩ := is_v gg7
  obtain rfl : w2 = (.int i2) := Option.some.inj ei2
  obtain ⟨i3, ei3⟩ := is_v gg9
  obtain rfl : w3 = (.int i3) := Option.some.inj ei3
  obtain ⟨i4, ei4⟩ := is_v gg11
  obtain rfl : w4 = (.int i4) := Option.some.inj ei4
  obtain ⟨i5, ei5⟩ := is_v gg12
  obtain rfl : w5 = (.int i5) := Option.some.inj ei5
  have ev := is_v (Cond.before_iff.mp (hsets _ (List.mem_of_getElem? (i := 1) rfl)))
  obtain ⟨z, ev⟩ := ev
  have S0 := Sta.start ev (Or.inl (hsets _ (List.mem_of_getElem? (i := 0) rfl)))
  have nz := not_v (Cond.before_iff.mp (hsets _ (List.mem_of_getElem? (i := 2) rfl)))
  have nz' : ¬ z = 0 := gotF (Cond.eq_ints ev (Term.int_eval _)) nz
  obtain ⟨n, o, h1, h2, h3, _, L, rfl, ⟨N, rfl⟩, -, hq⟩ := (ct_law l s _ hw s.heap.size i0 i1 i2 i3 i4 i5 s.heap (Nat.le_refl _) (Old.start s) z S0 nz') p e ha hc hk s m _ below hf ((Spec.applies_iff_loose hf).mp happ).1 ⟨rfl, State.Warmed39.refl s, rfl, hCH, all0⟩ trivial
  exact ⟨n, _, h1, h2, h3, hpost _ _ _ _ _ _ ⟨Cond.after_iff.mpr rfl, Cond.after_iff.mpr (eq_i res_at (Term.int_eval (1)) rfl), trivial⟩ ⟨hq.1, hq.2.1, hq.2.2.1, (hq.2.2.2.sift fun y hy => Or.inr (N y hy)).mono (by decide) (by decide)⟩⟩
theorem main_1_1 : Claimed_1_1 := comes_1 fun _ _ _ _ _ _ h hF => ⟨h.1, hF⟩
theorem main_1_2 : Claimed_1_2 := comes_1 fun _ _ _ _ _ _ h hF => ⟨h.2.1, hF⟩
end Jvm.Pilot.@@N@@
namespace Jvm.Pilot.@@N@@
open Jvm Jvm.ClassFile Sem Op Lib Jvm.Free Jvm.Stand Jvm.Pilot.@@N@@.Jvm.D
/-! MADE BY PROGRAM (witnessworld.py) out of the Statement's table words and the real class files: 27 classes; the members and pool entries that the words name. The judged class is class 1, her method 1. -/
namespace start1
open Jvm.ClassFile
def u (s : String) : CpInfo := .utf8 (stringToUtf16 s)
/-- a pool by its gaps: so many unusable entries, then the entry; so many at the end -/
def gap : Nat → List CpInfo → List CpInfo
  | 0, r => r
  | n + 1, r => .unusable :: gap n r
def poolList (es : List (Nat × CpInfo)) (last : Nat) : List CpInfo := es.foldr (fun e r => gap e.1 (e.2 :: r)) (gap last [])
def pool (es : List (Nat × CpInfo)) (last : Nat) : Array CpInfo := ⟨poolList es last⟩
def fileOf (pool : Array CpInfo) (this : Nat) (attrs : Array Attribute := #[]) (ms : Array MethodInfo := #[]) (fl : Nat := 33) (sup : Nat := 0) (ifs : Array Nat := #[]) (fds : Array FieldInfo := #[]) : ClassFile where
  minorVersion := 0
  majorVersion := 65
  constantPool := pool
  accessFlags := fl
  thisClass := this
  superClass := sup
  interfaces := ifs
  fields := fds
  methods := ms
  attributes := attrs
def plain (name : String) (sup : Option ClassId) : Class where
  name := name
  kind := .ordinary
  loader := none
  accessFlags := 33
  super := sup
  interfaces := #[]
  cf := none
  fields := #[]
  methods := #[]
  instanceTypes := #[]
  staticTypes := #[]
  resolved := #[]
  callSites := []
  init := .initialized
  statics := none
  mirror := none

def pool0 : Array CpInfo := pool [(5, u "<init>"), (0, u "()V"), (1, .class_ 10), (1, u "java/lang/Object")] 113

def k0c0 : Code := { maxStack := 0, maxLocals := 1, code := object_method_1_code, exceptionTable := #[], attributes := #[] }
def k0m0 : Method := { name := "<init>", desc := "()V", sig := { parameters := [], returnType := none }, accessFlags := 1, code := some k0c0 }
/-- java/lang/Object -/
def k0 : Class := { plain "java/lang/Object" none with
  accessFlags := 33
  interfaces := #[]
  cf := some (fileOf pool0 8 #[] #[{ accessFlags := 1, nameIndex := 5, descriptorIndex := 6, attributes := #[] }] 33 0 #[] #[])
  fields := #[]
  methods := #[k0m0]
  instanceTypes := #[]
  staticTypes := #[]
  resolved := Array.replicate 124 none
  statics := none }

def pool1 : Array CpInfo := pool [(2, .class_ 4), (1, u "java/lang/Object"), (0, u "<init>"), (0, u "()V"), (0, .methodref 8 9), (0, .class_ 10), (0, .nameAndType 11 12), (0, u "com/example/triplecast/triplecast/cli/MediaTypeIsPinLaw"), (0, u "ex"), (0, u "(IIICCCC)C"), (0, .methodref 8 14), (0, .nameAndType 15 16), (0, u "same"), (0, u "([C[CII)Z"), (0, .class_ 18), (0, u "com/example/triplecast/triplecast/cli/MediaType"), (0, .methodref 8 20), (0, .nameAndType 21 22), (0, u "str"), (0, u "([CI)Ljava/lang/String;"), (0, .methodref 17 24), (0, .nameAndType 5 25), (0, u "(Ljava/lang/String;Ljava/lang/String;Ljava/util/Map;)V"), (0, .methodref 17 27), (0, .nameAndType 28 29), (0, u "is"), (0, u "(Ljava/lang/String;)Z"), (0, .string 31), (0, u ""), (0, .methodref 33 34), (0, .class_ 35), (0, .nameAndType 36 37), (0, u "java/lang/String"), (0, u "valueOf"), (0, u "(C)Ljava/lang/String;"), (0, .methodref 33 39), (0, .nameAndType 5 40), (0, u "([C)V"), (2, u "law"), (0, u "(IIIIII)Z")] 5

def k1m0 : Method := { name := "<init>", desc := "()V", sig := { parameters := [], returnType := none }, accessFlags := 1, code := none }
def k1c1 : Code := { maxStack := 9, maxLocals := 22, code := code, exceptionTable := #[], attributes := #[] }
def k1m1 : Method := { name := "law", desc := "(IIIIII)Z", sig := { parameters := [.int, .int, .int, .int, .int, .int], returnType := some .boolean }, accessFlags := 9, code := some k1c1 }
def k1c2 : Code := { maxStack := 2, maxLocals := 8, code := method_3_code, exceptionTable := #[], attributes := #[] }
def k1m2 : Method := { name := "ex", desc := "(IIICCCC)C", sig := { parameters := [.int, .int, .int, .char, .char, .char, .char], returnType := some .char }, accessFlags := 10, code := some k1c2 }
def k1c3 : Code := { maxStack := 3, maxLocals := 4, code := method_4_code, exceptionTable := #[], attributes := #[] }
def k1m3 : Method := { name := "same", desc := "([C[CII)Z", sig := { parameters := [(.array .char), (.array .char), .int, .int], returnType := some .boolean }, accessFlags := 10, code := some k1c3 }
def k1c4 : Code := { maxStack := 7, maxLocals := 2, code := method_5_code, exceptionTable := #[], attributes := #[] }
def k1m4 : Method := { name := "str", desc := "([CI)Ljava/lang/String;", sig := { parameters := [(.array .char), .int], returnType := some (.object "java/lang/String") }, accessFlags := 10, code := some k1c4 }
/-- com/example/triplecast/triplecast/cli/MediaTypeIsPinLaw -/
def k1 : Class := { plain "com/example/triplecast/triplecast/cli/MediaTypeIsPinLaw" (some 0) with
  accessFlags := 49
  interfaces := #[]
  cf := some (fileOf pool1 8 #[] #[{ accessFlags := 1, nameIndex := 5, descriptorIndex := 6, attributes := #[] }, { accessFlags := 9, nameIndex := 43, descriptorIndex := 44, attributes := #[] }, { accessFlags := 10, nameIndex := 11, descriptorIndex := 12, attributes := #[] }, { accessFlags := 10, nameIndex := 15, descriptorIndex := 16, attributes := #[] }, { accessFlags := 10, nameIndex := 21, descriptorIndex := 22, attributes := #[] }] 49 2 #[] #[])
  fields := #[]
  methods := #[k1m0, k1m1, k1m2, k1m3, k1m4]
  instanceTypes := #[]
  staticTypes := #[]
  resolved := Array.replicate 50 none
  statics := none }

def pool2 : Array CpInfo := pool [(1, .methodref 2 3), (0, .class_ 4), (0, .nameAndType 5 6), (0, u "java/lang/Object"), (0, u "<init>"), (0, u "()V"), (0, .class_ 8), (0, u "java/lang/Record")] 13

def k2c0 : Code := { maxStack := 1, maxLocals := 1, code := jdk_30_method_1_code, exceptionTable := #[], attributes := #[] }
def k2m0 : Method := { name := "<init>", desc := "()V", sig := { parameters := [], returnType := none }, accessFlags := 4, code := some k2c0 }
/-- java/lang/Record -/
def k2 : Class := { plain "java/lang/Record" (some 0) with
  accessFlags := 1057
  interfaces := #[]
  cf := some (fileOf pool2 7 #[] #[{ accessFlags := 4, nameIndex := 5, descriptorIndex := 6, attributes := #[] }] 1057 2 #[] #[])
  fields := #[]
  methods := #[k2m0]
  instanceTypes := #[]
  staticTypes := #[]
  resolved := Array.replicate 22 none
  statics := none }

def pool3 : Array CpInfo := pool [(1, .methodref 2 3), (0, .class_ 4), (0, .nameAndType 5 6), (0, u "java/lang/Record"), (0, u "<init>"), (0, u "()V"), (0, .fieldref 8 9), (0, .class_ 10), (0, .nameAndType 11 12), (0, u "com/example/triplecast/triplecast/cli/MediaType"), (0, u "type"), (0, u "Ljava/lang/String;"), (0, .fieldref 8 14), (0, .nameAndType 15 12), (0, u "subtype"), (0, .fieldref 8 17), (0, .nameAndType 18 19), (0, u "parameters"), (0, u "Ljava/util/Map;"), (0, .class_ 21), (0, u "com/example/triplecast/triplecast/cli/MediaType$Cursor"), (16, .class_ 39), (0, u "java/lang/StringBuilder"), (0, .methodref 38 3), (2, .methodref 38 44), (0, .nameAndType 45 46), (0, u "append"), (0, u "(Ljava/lang/String;)Ljava/lang/StringBuilder;"), (0, .methodref 38 48), (0, .nameAndType 49 50), (0, u "toString"), (0, u "()Ljava/lang/String;"), (19, u "(Ljava/lang/Object;)Z"), (13, .class_ 85), (0, u "java/lang/String"), (0, .string 87), (0, u "/"), (0, .methodref 84 89), (0, .nameAndType 90 70), (0, u "equals"), (10, u "is"), (0, u "(Ljava/lang/String;)Z"), (24, u "TOKEN_MARKS"), (3, u "(Ljava/lang/String;Ljava/lang/String;Ljava/util/Map;)V")] 43

def k3c0 : Code := { maxStack := 2, maxLocals := 4, code := prog_6_method_1_code, exceptionTable := #[], attributes := #[] }
def k3m0 : Method := { name := "<init>", desc := "(Ljava/lang/String;Ljava/lang/String;Ljava/util/Map;)V", sig := { parameters := [(.object "java/lang/String"), (.object "java/lang/String"), (.object "java/util/Map")], returnType := none }, accessFlags := 0, code := some k3c0 }
def k3c1 : Code := { maxStack := 3, maxLocals := 2, code := prog_6_method_5_code, exceptionTable := #[], attributes := #[] }
def k3m1 : Method := { name := "is", desc := "(Ljava/lang/String;)Z", sig := { parameters := [(.object "java/lang/String")], returnType := some .boolean }, accessFlags := 0, code := some k3c1 }
/-- com/example/triplecast/triplecast/cli/MediaType -/
def k3 : Class := { plain "com/example/triplecast/triplecast/cli/MediaType" (some 2) with
  accessFlags := 48
  interfaces := #[]
  cf := some (fileOf pool3 8 #[.nestMembers #[20]] #[{ accessFlags := 0, nameIndex := 5, descriptorIndex := 131, attributes := #[] }, { accessFlags := 0, nameIndex := 101, descriptorIndex := 102, attributes := #[] }] 48 2 #[] #[{ accessFlags := 18, nameIndex := 11, descriptorIndex := 12, attributes := #[] }, { accessFlags := 18, nameIndex := 15, descriptorIndex := 12, attributes := #[] }, { accessFlags := 18, nameIndex := 18, descriptorIndex := 19, attributes := #[] }, { accessFlags := 26, nameIndex := 127, descriptorIndex := 12, attributes := #[] }])
  fields := #[{ name := "type", type := (.object "java/lang/String"), accessFlags := 18, slot := 0, constantValue := 0 }, { name := "subtype", type := (.object "java/lang/String"), accessFlags := 18, slot := 1, constantValue := 0 }, { name := "parameters", type := (.object "java/util/Map"), accessFlags := 18, slot := 2, constantValue := 0 }, { name := "TOKEN_MARKS", type := (.object "java/lang/String"), accessFlags := 26, slot := 0, constantValue := 0 }]
  methods := #[k3m0, k3m1]
  instanceTypes := #[(.object "java/lang/String"), (.object "java/lang/String"), (.object "java/util/Map")]
  staticTypes := #[(.object "java/lang/String")]
  resolved := Array.replicate 175 none
  statics := none }

def pool4 : Array CpInfo := pool [(1, .class_ 2), (0, u "java/io/Serializable"), (0, .class_ 4), (0, u "java/lang/Object")] 2

/-- java/io/Serializable -/
def k4 : Class := { plain "java/io/Serializable" (some 0) with
  accessFlags := 1537
  interfaces := #[]
  cf := some (fileOf pool4 1 #[] #[] 1537 3 #[] #[])
  fields := #[]
  methods := #[]
  instanceTypes := #[]
  staticTypes := #[]
  resolved := Array.replicate 7 none
  statics := none }

def pool5 : Array CpInfo := pool [(1, .class_ 2), (0, u "java/lang/Comparable"), (0, .class_ 4), (0, u "java/lang/Object")] 7

/-- java/lang/Comparable -/
def k5 : Class := { plain "java/lang/Comparable" (some 0) with
  accessFlags := 1537
  interfaces := #[]
  cf := some (fileOf pool5 1 #[] #[] 1537 3 #[] #[])
  fields := #[]
  methods := #[]
  instanceTypes := #[]
  staticTypes := #[]
  resolved := Array.replicate 12 none
  statics := none }

def pool6 : Array CpInfo := pool [(2, .class_ 4), (1, u "java/lang/CharSequence"), (42, .class_ 48), (0, u "java/lang/CharSequence$1CodePointIterator"), (10, .class_ 60), (0, u "java/lang/CharSequence$1CharIterator"), (5, .class_ 67), (0, u "java/lang/Object")] 63

/-- java/lang/CharSequence -/
def k6 : Class := { plain "java/lang/CharSequence" (some 0) with
  accessFlags := 1537
  interfaces := #[]
  cf := some (fileOf pool6 2 #[.nestMembers #[47, 59]] #[] 1537 66 #[] #[])
  fields := #[]
  methods := #[]
  instanceTypes := #[]
  staticTypes := #[]
  resolved := Array.replicate 131 none
  statics := none }

def pool7 : Array CpInfo := pool [(1, .class_ 2), (0, u "java/lang/constant/Constable"), (0, .class_ 4), (0, u "java/lang/Object")] 6

/-- java/lang/constant/Constable -/
def k7 : Class := { plain "java/lang/constant/Constable" (some 0) with
  accessFlags := 1537
  interfaces := #[]
  cf := some (fileOf pool7 1 #[] #[] 1537 3 #[] #[])
  fields := #[]
  methods := #[]
  instanceTypes := #[]
  staticTypes := #[]
  resolved := Array.replicate 11 none
  statics := none }

def pool8 : Array CpInfo := pool [(1, .class_ 2), (0, u "java/lang/constant/ConstantDesc"), (0, .class_ 4), (0, u "java/lang/Object")] 32

/-- java/lang/constant/ConstantDesc -/
def k8 : Class := { plain "java/lang/constant/ConstantDesc" (some 0) with
  accessFlags := 1537
  interfaces := #[]
  cf := some (fileOf pool8 1 #[] #[] 1537 3 #[] #[])
  fields := #[]
  methods := #[]
  instanceTypes := #[]
  staticTypes := #[]
  resolved := Array.replicate 37 none
  statics := none }

def pool9 : Array CpInfo := pool [(1, .methodref 2 3), (0, .class_ 4), (0, .nameAndType 5 6), (0, u "java/lang/Object"), (0, u "<init>"), (0, u "()V"), (2, .fieldref 10 11), (0, .class_ 12), (0, .nameAndType 13 14), (0, u "java/lang/String"), (0, u "value"), (0, u "[B"), (0, .fieldref 10 16), (0, .nameAndType 17 18), (0, u "coder"), (0, u "B"), (2, u "hash"), (0, u "I"), (2, u "hashIsZero"), (0, u "Z"), (0, .methodref 10 28), (0, .nameAndType 5 29), (0, u "([CIILjava/lang/Void;)V"), (8, .fieldref 10 39), (0, .nameAndType 40 26), (0, u "COMPACT_STRINGS"), (1, .class_ 44), (1, u "java/lang/StringUTF16"), (0, u "compress"), (1, .methodref 42 48), (0, .nameAndType 49 50), (0, u "coderFromArrayLen"), (0, u "([BI)B"), (2, u "toBytes"), (0, .methodref 55 56), (0, .class_ 57), (0, .nameAndType 58 59), (0, u "java/util/Arrays"), (0, u "copyOfRange"), (0, u "([BII)[B"), (47, .class_ 109), (1, u "java/lang/StringLatin1"), (32, u "()Z"), (34, .methodref 42 178), (0, .nameAndType 45 179), (0, u "([CII)[B"), (13, .class_ 195), (1, u "java/lang/System"), (13, .methodref 10 210), (0, .nameAndType 5 211), (0, u "([BB)V"), (0, .methodref 193 213), (0, .nameAndType 214 215), (0, u "arraycopy"), (0, u "(Ljava/lang/Object;ILjava/lang/Object;II)V"), (118, u "()I"), (0, .methodref 10 336), (0, .nameAndType 17 337), (0, u "()B"), (2, u "()[B"), (28, u "(C)Z"), (119, .methodref 10 490), (0, .nameAndType 5 491), (0, u "(Ljava/lang/AbstractStringBuilder;Ljava/lang/Void;)V"), (1, .nameAndType 494 142), (0, u "isLatin1"), (11, .nameAndType 507 334), (0, u "length"), (24, u "getBytes"), (8, .methodref 107 542), (0, .nameAndType 543 544), (0, u "equals"), (0, u "([B[B)Z"), (4, .methodref 550 506), (0, .class_ 551), (0, u "java/lang/AbstractStringBuilder"), (0, .methodref 550 553), (0, .nameAndType 554 340), (0, u "getValue"), (18, u "(Ljava/lang/Object;)Z"), (1, .class_ 576), (0, u "java/lang/CharSequence"), (22, u "CASE_INSENSITIVE_ORDER"), (0, u "Ljava/util/Comparator;"), (181, u "valueOf"), (0, u "(C)Ljava/lang/String;"), (37, u "([BIB)V"), (188, u "([C)V"), (4, .methodref 107 1016), (0, .nameAndType 1017 369), (0, u "canEncode"), (0, .methodref 107 1019), (0, .nameAndType 53 1020), (0, u "(C)[B"), (26, .methodref 550 493), (53, u "serialPersistentFields"), (0, u "[Ljava/io/ObjectStreamField;"), (0, .class_ 1104), (0, u "java/lang/String$CaseInsensitiveComparator"), (1, .class_ 1107), (0, u "java/io/Serializable"), (0, .class_ 1109), (0, u "java/lang/Comparable"), (0, .class_ 1111), (0, u "java/lang/constant/Constable"), (0, .class_ 1113), (0, u "java/lang/constant/ConstantDesc"), (2, u "serialVersionUID"), (0, u "J"), (3, u "REPL"), (0, u "C"), (2, u "LATIN1"), (1, u "UTF16"), (105, u "(Ljava/lang/StringBuilder;)V")] 217

def k9m0 : Method := { name := "<init>", desc := "()V", sig := { parameters := [], returnType := none }, accessFlags := 1, code := none }
def k9c1 : Code := { maxStack := 5, maxLocals := 2, code := jdk_42_method_3_code, exceptionTable := #[], attributes := #[] }
def k9m1 : Method := { name := "<init>", desc := "([C)V", sig := { parameters := [(.array .char)], returnType := none }, accessFlags := 1, code := some k9c1 }
def k9c2 : Code := { maxStack := 3, maxLocals := 2, code := jdk_42_method_53_code, exceptionTable := #[], attributes := #[] }
def k9m2 : Method := { name := "<init>", desc := "(Ljava/lang/StringBuilder;)V", sig := { parameters := [(.object "java/lang/StringBuilder")], returnType := none }, accessFlags := 1, code := some k9c2 }
def k9c3 : Code := { maxStack := 2, maxLocals := 1, code := jdk_42_method_54_code, exceptionTable := #[], attributes := #[] }
def k9m3 : Method := { name := "length", desc := "()I", sig := { parameters := [], returnType := some .int }, accessFlags := 1, code := some k9c3 }
def k9c4 : Code := { maxStack := 2, maxLocals := 3, code := jdk_42_method_66_code, exceptionTable := #[], attributes := #[] }
def k9m4 : Method := { name := "equals", desc := "(Ljava/lang/Object;)Z", sig := { parameters := [(.object "java/lang/Object")], returnType := some .boolean }, accessFlags := 1, code := some k9c4 }
def k9c5 : Code := { maxStack := 4, maxLocals := 1, code := jdk_42_method_139_code, exceptionTable := #[], attributes := #[] }
def k9m5 : Method := { name := "valueOf", desc := "(C)Ljava/lang/String;", sig := { parameters := [.char], returnType := some (.object "java/lang/String") }, accessFlags := 9, code := some k9c5 }
def k9c6 : Code := { maxStack := 5, maxLocals := 4, code := jdk_42_method_147_code, exceptionTable := #[], attributes := #[] }
def k9m6 : Method := { name := "getBytes", desc := "([BIB)V", sig := { parameters := [(.array .byte), .int, .byte], returnType := none }, accessFlags := 0, code := some k9c6 }
def k9c7 : Code := { maxStack := 4, maxLocals := 6, code := jdk_42_method_149_code, exceptionTable := #[], attributes := #[] }
def k9m7 : Method := { name := "<init>", desc := "([CIILjava/lang/Void;)V", sig := { parameters := [(.array .char), .int, .int, (.object "java/lang/Void")], returnType := none }, accessFlags := 2, code := some k9c7 }
def k9c8 : Code := { maxStack := 5, maxLocals := 5, code := jdk_42_method_150_code, exceptionTable := #[], attributes := #[] }
def k9m8 : Method := { name := "<init>", desc := "(Ljava/lang/AbstractStringBuilder;Ljava/lang/Void;)V", sig := { parameters := [(.object "java/lang/AbstractStringBuilder"), (.object "java/lang/Void")], returnType := none }, accessFlags := 0, code := some k9c8 }
def k9c9 : Code := { maxStack := 2, maxLocals := 3, code := jdk_42_method_151_code, exceptionTable := #[], attributes := #[] }
def k9m9 : Method := { name := "<init>", desc := "([BB)V", sig := { parameters := [(.array .byte), .byte], returnType := none }, accessFlags := 0, code := some k9c9 }
def k9c10 : Code := { maxStack := 1, maxLocals := 1, code := jdk_42_method_152_code, exceptionTable := #[], attributes := #[] }
def k9m10 : Method := { name := "coder", desc := "()B", sig := { parameters := [], returnType := some .byte }, accessFlags := 0, code := some k9c10 }
/-- java/lang/String -/
def k9 : Class := { plain "java/lang/String" (some 0) with
  accessFlags := 49
  interfaces := #[4, 5, 6, 7, 8]
  cf := some (fileOf pool9 10 #[.nestMembers #[1103]] #[{ accessFlags := 1, nameIndex := 5, descriptorIndex := 6, attributes := #[] }, { accessFlags := 1, nameIndex := 5, descriptorIndex := 1010, attributes := #[] }, { accessFlags := 1, nameIndex := 5, descriptorIndex := 1233, attributes := #[] }, { accessFlags := 1, nameIndex := 507, descriptorIndex := 334, attributes := #[] }, { accessFlags := 1, nameIndex := 543, descriptorIndex := 573, attributes := #[] }, { accessFlags := 9, nameIndex := 782, descriptorIndex := 783, attributes := #[] }, { accessFlags := 0, nameIndex := 532, descriptorIndex := 821, attributes := #[] }, { accessFlags := 2, nameIndex := 5, descriptorIndex := 29, attributes := #[] }, { accessFlags := 0, nameIndex := 5, descriptorIndex := 491, attributes := #[] }, { accessFlags := 0, nameIndex := 5, descriptorIndex := 211, attributes := #[] }, { accessFlags := 0, nameIndex := 17, descriptorIndex := 337, attributes := #[] }] 49 2 #[1106, 1108, 575, 1110, 1112] #[{ accessFlags := 18, nameIndex := 13, descriptorIndex := 14, attributes := #[] }, { accessFlags := 18, nameIndex := 17, descriptorIndex := 18, attributes := #[] }, { accessFlags := 2, nameIndex := 21, descriptorIndex := 22, attributes := #[] }, { accessFlags := 2, nameIndex := 25, descriptorIndex := 26, attributes := #[] }, { accessFlags := 26, nameIndex := 1116, descriptorIndex := 1117, attributes := #[] }, { accessFlags := 24, nameIndex := 40, descriptorIndex := 26, attributes := #[] }, { accessFlags := 26, nameIndex := 1101, descriptorIndex := 1102, attributes := #[] }, { accessFlags := 26, nameIndex := 1121, descriptorIndex := 1122, attributes := #[] }, { accessFlags := 25, nameIndex := 599, descriptorIndex := 600, attributes := #[] }, { accessFlags := 24, nameIndex := 1125, descriptorIndex := 18, attributes := #[] }, { accessFlags := 24, nameIndex := 1127, descriptorIndex := 18, attributes := #[] }])
  fields := #[{ name := "value", type := (.array .byte), accessFlags := 18, slot := 0, constantValue := 0 }, { name := "coder", type := .byte, accessFlags := 18, slot := 1, constantValue := 0 }, { name := "hash", type := .int, accessFlags := 2, slot := 2, constantValue := 0 }, { name := "hashIsZero", type := .boolean, accessFlags := 2, slot := 3, constantValue := 0 }, { name := "serialVersionUID", type := .long, accessFlags := 26, slot := 0, constantValue := 0 }, { name := "COMPACT_STRINGS", type := .boolean, accessFlags := 24, slot := 1, constantValue := 0 }, { name := "serialPersistentFields", type := (.array (.object "java/io/ObjectStreamField")), accessFlags := 26, slot := 2, constantValue := 0 }, { name := "REPL", type := .char, accessFlags := 26, slot := 3, constantValue := 0 }, { name := "CASE_INSENSITIVE_ORDER", type := (.object "java/util/Comparator"), accessFlags := 25, slot := 4, constantValue := 0 }, { name := "LATIN1", type := .byte, accessFlags := 24, slot := 5, constantValue := 0 }, { name := "UTF16", type := .byte, accessFlags := 24, slot := 6, constantValue := 0 }]
  methods := #[k9m0, k9m1, k9m2, k9m3, k9m4, k9m5, k9m6, k9m7, k9m8, k9m9, k9m10]
  instanceTypes := #[(.array .byte), .byte, .int, .boolean]
  staticTypes := #[.long, .boolean, (.array (.object "java/io/ObjectStreamField")), .char, (.object "java/util/Comparator"), .byte, .byte]
  resolved := Array.replicate 1451 none
  statics := some 0 }

def pool10 : Array CpInfo := pool [(6, .class_ 8), (1, u "java/lang/Object"), (0, u "<init>"), (0, u "()V"), (1, .class_ 14), (1, u "java/lang/StringUTF16"), (31, u "$assertionsDisabled"), (0, u "Z"), (13, u "HI_BYTE_SHIFT"), (0, u "I"), (2, u "LO_BYTE_SHIFT"), (49, .methodref 12 116), (0, .nameAndType 117 118), (0, u "compress"), (0, u "([CI[BII)I"), (3, u "([CII)[B"), (138, u "coderFromArrayLen"), (0, u "([BI)B"), (106, .class_ 371), (1, u "java/lang/StringUTF16$LinesSpliterator"), (58, u "MAX_LENGTH"), (196, .class_ 628), (0, u "java/lang/StringUTF16$CodePointsSpliterator"), (0, .class_ 630), (0, u "java/lang/StringUTF16$CharsSpliterator")] 4

def k10m0 : Method := { name := "<init>", desc := "()V", sig := { parameters := [], returnType := none }, accessFlags := 0, code := none }
def k10c1 : Code := { maxStack := 2, maxLocals := 2, code := jdk_52_method_15_code, exceptionTable := #[], attributes := #[] }
def k10m1 : Method := { name := "coderFromArrayLen", desc := "([BI)B", sig := { parameters := [(.array .byte), .int], returnType := some .byte }, accessFlags := 8, code := some k10c1 }
def k10c2 : Code := { maxStack := 5, maxLocals := 6, code := jdk_52_method_16_code, exceptionTable := #[], attributes := #[] }
def k10m2 : Method := { name := "compress", desc := "([CII)[B", sig := { parameters := [(.array .char), .int, .int], returnType := some (.array .byte) }, accessFlags := 9, code := some k10c2 }
def k10c3 : Code := { maxStack := 3, maxLocals := 7, code := jdk_52_method_21_code, exceptionTable := #[], attributes := #[] }
def k10m3 : Method := { name := "compress", desc := "([CI[BII)I", sig := { parameters := [(.array .char), .int, (.array .byte), .int, .int], returnType := some .int }, accessFlags := 9, code := some k10c3 }
/-- java/lang/StringUTF16 -/
def k10 : Class := { plain "java/lang/StringUTF16" (some 0) with
  accessFlags := 48
  interfaces := #[]
  cf := some (fileOf pool10 12 #[.nestMembers #[627, 629, 369]] #[{ accessFlags := 0, nameIndex := 9, descriptorIndex := 10, attributes := #[] }, { accessFlags := 8, nameIndex := 261, descriptorIndex := 262, attributes := #[] }, { accessFlags := 9, nameIndex := 117, descriptorIndex := 122, attributes := #[] }, { accessFlags := 9, nameIndex := 117, descriptorIndex := 118, attributes := #[] }] 48 6 #[] #[{ accessFlags := 26, nameIndex := 61, descriptorIndex := 62, attributes := #[] }, { accessFlags := 26, nameIndex := 65, descriptorIndex := 62, attributes := #[] }, { accessFlags := 24, nameIndex := 430, descriptorIndex := 62, attributes := #[] }, { accessFlags := 4120, nameIndex := 46, descriptorIndex := 47, attributes := #[] }])
  fields := #[{ name := "HI_BYTE_SHIFT", type := .int, accessFlags := 26, slot := 0, constantValue := 0 }, { name := "LO_BYTE_SHIFT", type := .int, accessFlags := 26, slot := 1, constantValue := 0 }, { name := "MAX_LENGTH", type := .int, accessFlags := 24, slot := 2, constantValue := 0 }, { name := "$assertionsDisabled", type := .boolean, accessFlags := 4120, slot := 3, constantValue := 0 }]
  methods := #[k10m0, k10m1, k10m2, k10m3]
  instanceTypes := #[]
  staticTypes := #[.int, .int, .int, .boolean]
  resolved := Array.replicate 635 none
  statics := none }

def pool11 : Array CpInfo := pool [(1, .class_ 2), (0, u "java/lang/Appendable"), (0, .class_ 4), (0, u "java/lang/Object")] 9

/-- java/lang/Appendable -/
def k11 : Class := { plain "java/lang/Appendable" (some 0) with
  accessFlags := 1537
  interfaces := #[]
  cf := some (fileOf pool11 1 #[] #[] 1537 3 #[] #[])
  fields := #[]
  methods := #[]
  instanceTypes := #[]
  staticTypes := #[]
  resolved := Array.replicate 14 none
  statics := none }

def pool12 : Array CpInfo := pool [(1, .class_ 2), (0, u "java/lang/String"), (0, .methodref 4 5), (0, .class_ 6), (0, .nameAndType 7 8), (0, u "java/lang/Object"), (0, u "<init>"), (0, u "()V"), (1, .class_ 12), (1, u "java/lang/AbstractStringBuilder"), (0, u "EMPTYVALUE"), (0, u "[B"), (0, .fieldref 10 16), (0, .nameAndType 17 14), (0, u "value"), (0, .fieldref 1 19), (0, .nameAndType 20 21), (0, u "COMPACT_STRINGS"), (0, u "Z"), (0, .fieldref 10 23), (0, .nameAndType 24 25), (0, u "coder"), (0, u "B"), (6, .methodref 1 33), (0, .nameAndType 34 35), (0, u "length"), (0, u "()I"), (4, .methodref 1 41), (0, .nameAndType 24 42), (0, u "()B"), (2, u "append"), (0, u "(Ljava/lang/String;)Ljava/lang/AbstractStringBuilder;"), (1, .class_ 49), (0, u "java/lang/CharSequence"), (19, u "(Ljava/lang/String;)V"), (5, u "maybeLatin1"), (3, .fieldref 10 80), (0, .nameAndType 81 82), (0, u "count"), (0, u "I"), (2, u "isLatin1"), (0, u "()Z"), (13, .methodref 10 101), (0, .nameAndType 102 103), (0, u "ensureCapacityInternal"), (0, u "(I)V"), (104, .methodref 10 209), (0, .nameAndType 210 211), (0, u "putStringAt"), (0, u "(ILjava/lang/String;)V"), (5, u "inflateIfNeededFor"), (2, .nameAndType 221 222), (0, u "getBytes"), (0, u "([BIB)V"), (174, .methodref 10 398), (0, .nameAndType 217 69), (0, .methodref 1 220), (3, u "()[B"), (40, .class_ 445), (0, u "java/lang/Appendable"), (106, u "getValue")] 56

def k12m0 : Method := { name := "<init>", desc := "()V", sig := { parameters := [], returnType := none }, accessFlags := 0, code := none }
def k12c1 : Code := { maxStack := 2, maxLocals := 2, code := jdk_68_method_2_code, exceptionTable := #[], attributes := #[] }
def k12m1 : Method := { name := "<init>", desc := "(I)V", sig := { parameters := [.int], returnType := none }, accessFlags := 0, code := some k12c1 }
def k12c2 : Code := { maxStack := 1, maxLocals := 1, code := jdk_68_method_6_code, exceptionTable := #[], attributes := #[] }
def k12m2 : Method := { name := "length", desc := "()I", sig := { parameters := [], returnType := some .int }, accessFlags := 1, code := some k12c2 }
def k12c3 : Code := { maxStack := 4, maxLocals := 3, code := jdk_68_method_9_code, exceptionTable := #[], attributes := #[] }
def k12m3 : Method := { name := "ensureCapacityInternal", desc := "(I)V", sig := { parameters := [.int], returnType := none }, accessFlags := 2, code := some k12c3 }
def k12c4 : Code := { maxStack := 3, maxLocals := 3, code := jdk_68_method_22_code, exceptionTable := #[], attributes := #[] }
def k12m4 : Method := { name := "append", desc := "(Ljava/lang/String;)Ljava/lang/AbstractStringBuilder;", sig := { parameters := [(.object "java/lang/String")], returnType := some (.object "java/lang/AbstractStringBuilder") }, accessFlags := 1, code := some k12c4 }
def k12c5 : Code := { maxStack := 1, maxLocals := 1, code := jdk_68_method_64_code, exceptionTable := #[], attributes := #[] }
def k12m5 : Method := { name := "getValue", desc := "()[B", sig := { parameters := [], returnType := some (.array .byte) }, accessFlags := 16, code := some k12c5 }
def k12c6 : Code := { maxStack := 1, maxLocals := 1, code := jdk_68_method_68_code, exceptionTable := #[], attributes := #[] }
def k12m6 : Method := { name := "isLatin1", desc := "()Z", sig := { parameters := [], returnType := some .boolean }, accessFlags := 16, code := some k12c6 }
def k12c7 : Code := { maxStack := 2, maxLocals := 2, code := jdk_68_method_71_code, exceptionTable := #[], attributes := #[] }
def k12m7 : Method := { name := "inflateIfNeededFor", desc := "(Ljava/lang/String;)V", sig := { parameters := [(.object "java/lang/String")], returnType := none }, accessFlags := 2, code := some k12c7 }
def k12c8 : Code := { maxStack := 4, maxLocals := 3, code := jdk_68_method_73_code, exceptionTable := #[], attributes := #[] }
def k12m8 : Method := { name := "putStringAt", desc := "(ILjava/lang/String;)V", sig := { parameters := [.int, (.object "java/lang/String")], returnType := none }, accessFlags := 2, code := some k12c8 }
/-- java/lang/AbstractStringBuilder -/
def k12 : Class := { plain "java/lang/AbstractStringBuilder" (some 0) with
  accessFlags := 1056
  interfaces := #[11, 6]
  cf := some (fileOf pool12 10 #[] #[{ accessFlags := 0, nameIndex := 7, descriptorIndex := 8, attributes := #[] }, { accessFlags := 0, nameIndex := 7, descriptorIndex := 103, attributes := #[] }, { accessFlags := 1, nameIndex := 34, descriptorIndex := 35, attributes := #[] }, { accessFlags := 2, nameIndex := 102, descriptorIndex := 103, attributes := #[] }, { accessFlags := 1, nameIndex := 45, descriptorIndex := 46, attributes := #[] }, { accessFlags := 16, nameIndex := 552, descriptorIndex := 403, attributes := #[] }, { accessFlags := 16, nameIndex := 85, descriptorIndex := 86, attributes := #[] }, { accessFlags := 2, nameIndex := 217, descriptorIndex := 69, attributes := #[] }, { accessFlags := 2, nameIndex := 210, descriptorIndex := 211, attributes := #[] }] 1056 4 #[444, 48] #[{ accessFlags := 0, nameIndex := 17, descriptorIndex := 14, attributes := #[] }, { accessFlags := 0, nameIndex := 24, descriptorIndex := 25, attributes := #[] }, { accessFlags := 0, nameIndex := 75, descriptorIndex := 21, attributes := #[] }, { accessFlags := 0, nameIndex := 81, descriptorIndex := 82, attributes := #[] }, { accessFlags := 26, nameIndex := 13, descriptorIndex := 14, attributes := #[] }])
  fields := #[{ name := "value", type := (.array .byte), accessFlags := 0, slot := 0, constantValue := 0 }, { name := "coder", type := .byte, accessFlags := 0, slot := 1, constantValue := 0 }, { name := "maybeLatin1", type := .boolean, accessFlags := 0, slot := 2, constantValue := 0 }, { name := "count", type := .int, accessFlags := 0, slot := 3, constantValue := 0 }, { name := "EMPTYVALUE", type := (.array .byte), accessFlags := 26, slot := 0, constantValue := 0 }]
  methods := #[k12m0, k12m1, k12m2, k12m3, k12m4, k12m5, k12m6, k12m7, k12m8]
  instanceTypes := #[(.array .byte), .byte, .boolean, .int]
  staticTypes := #[(.array .byte)]
  resolved := Array.replicate 609 none
  statics := none }

def pool13 : Array CpInfo := pool [(1, .methodref 2 3), (0, .class_ 4), (0, .nameAndType 5 6), (0, u "java/lang/AbstractStringBuilder"), (0, u "<init>"), (0, u "(I)V"), (11, .class_ 20), (1, u "java/lang/String"), (3, .class_ 26), (1, u "java/lang/StringBuilder"), (0, u "append"), (0, u "(Ljava/lang/String;)Ljava/lang/StringBuilder;"), (0, .methodref 2 30), (0, .nameAndType 27 31), (0, u "(Ljava/lang/String;)Ljava/lang/AbstractStringBuilder;"), (105, .methodref 18 138), (0, .nameAndType 5 139), (0, u "(Ljava/lang/StringBuilder;)V"), (5, u "()V"), (10, u "()I"), (186, .methodref 2 344), (0, .nameAndType 345 156), (0, u "length"), (3, .class_ 350), (0, u "java/lang/Appendable"), (0, .class_ 352), (0, u "java/io/Serializable"), (0, .class_ 354), (0, u "java/lang/Comparable"), (0, .class_ 356), (0, u "java/lang/CharSequence"), (0, u "serialVersionUID"), (0, u "J"), (40, u "toString"), (0, u "()Ljava/lang/String;")] 21

def k13c0 : Code := { maxStack := 2, maxLocals := 1, code := jdk_67_method_1_code, exceptionTable := #[], attributes := #[] }
def k13m0 : Method := { name := "<init>", desc := "()V", sig := { parameters := [], returnType := none }, accessFlags := 1, code := some k13c0 }
def k13c1 : Code := { maxStack := 2, maxLocals := 2, code := jdk_67_method_7_code, exceptionTable := #[], attributes := #[] }
def k13m1 : Method := { name := "append", desc := "(Ljava/lang/String;)Ljava/lang/StringBuilder;", sig := { parameters := [(.object "java/lang/String")], returnType := some (.object "java/lang/StringBuilder") }, accessFlags := 1, code := some k13c1 }
def k13c2 : Code := { maxStack := 3, maxLocals := 1, code := jdk_67_method_42_code, exceptionTable := #[], attributes := #[] }
def k13m2 : Method := { name := "toString", desc := "()Ljava/lang/String;", sig := { parameters := [], returnType := some (.object "java/lang/String") }, accessFlags := 1, code := some k13c2 }
def k13c3 : Code := { maxStack := 1, maxLocals := 1, code := jdk_67_method_93_code, exceptionTable := #[], attributes := #[] }
def k13m3 : Method := { name := "length", desc := "()I", sig := { parameters := [], returnType := some .int }, accessFlags := 4161, code := some k13c3 }
/-- java/lang/StringBuilder -/
def k13 : Class := { plain "java/lang/StringBuilder" (some 12) with
  accessFlags := 49
  interfaces := #[11, 4, 5, 6]
  cf := some (fileOf pool13 24 #[] #[{ accessFlags := 1, nameIndex := 5, descriptorIndex := 145, attributes := #[] }, { accessFlags := 1, nameIndex := 27, descriptorIndex := 28, attributes := #[] }, { accessFlags := 1, nameIndex := 399, descriptorIndex := 400, attributes := #[] }, { accessFlags := 4161, nameIndex := 345, descriptorIndex := 156, attributes := #[] }] 49 2 #[349, 351, 353, 355] #[{ accessFlags := 24, nameIndex := 357, descriptorIndex := 358, attributes := #[] }])
  fields := #[{ name := "serialVersionUID", type := .long, accessFlags := 24, slot := 0, constantValue := 0 }]
  methods := #[k13m0, k13m1, k13m2, k13m3]
  instanceTypes := #[(.array .byte), .byte, .boolean, .int]
  staticTypes := #[.long]
  resolved := Array.replicate 422 none
  statics := none }

def pool14 : Array CpInfo := pool [(2, .class_ 4), (1, u "java/lang/Object"), (0, u "<init>"), (0, u "()V"), (1, .class_ 10), (1, u "java/lang/System"), (0, u "allowSecurityManager"), (0, u "I"), (16, u "cons"), (0, u "Ljava/io/Console;"), (77, .class_ 110), (1, u "java/lang/System$CallersHolder"), (43, u "initialErrStream"), (0, u "Ljava/io/PrintStream;"), (19, u "security"), (0, u "Ljava/lang/SecurityManager;"), (31, .class_ 209), (0, u "java/lang/System$1"), (7, u "props"), (0, u "Ljava/util/Properties;"), (2, u "lineSeparator"), (0, u "Ljava/lang/String;"), (96, .class_ 321), (1, u "java/lang/System$LoggerFinder"), (5, .class_ 328), (0, u "java/lang/System$Logger"), (67, u "err"), (2, u "out"), (91, u "notSupportedJnuEncoding"), (15, u "in"), (17, u "initialIn"), (0, u "Ljava/io/InputStream;"), (35, u "bootLayer"), (0, u "Ljava/lang/ModuleLayer;"), (99, .class_ 664), (0, u "java/lang/System$2"), (9, u "NEVER"), (2, u "MAYBE"), (49, u "arraycopy"), (0, u "(Ljava/lang/Object;ILjava/lang/Object;II)V"), (72, .class_ 802), (0, u "java/lang/System$Logger$Level")] 31

def k14m0 : Method := { name := "<init>", desc := "()V", sig := { parameters := [], returnType := none }, accessFlags := 2, code := none }
def k14m1 : Method := { name := "arraycopy", desc := "(Ljava/lang/Object;ILjava/lang/Object;II)V", sig := { parameters := [(.object "java/lang/Object"), .int, (.object "java/lang/Object"), .int, .int], returnType := none }, accessFlags := 265, code := none }
/-- java/lang/System -/
def k14 : Class := { plain "java/lang/System" (some 0) with
  accessFlags := 49
  interfaces := #[]
  cf := some (fileOf pool14 8 #[.nestMembers #[319, 327, 801, 108, 663, 208]] #[{ accessFlags := 2, nameIndex := 5, descriptorIndex := 6, attributes := #[] }, { accessFlags := 265, nameIndex := 727, descriptorIndex := 728, attributes := #[] }] 49 2 #[] #[{ accessFlags := 25, nameIndex := 507, descriptorIndex := 526, attributes := #[] }, { accessFlags := 25, nameIndex := 399, descriptorIndex := 155, attributes := #[] }, { accessFlags := 25, nameIndex := 396, descriptorIndex := 155, attributes := #[] }, { accessFlags := 10, nameIndex := 525, descriptorIndex := 526, attributes := #[] }, { accessFlags := 26, nameIndex := 674, descriptorIndex := 12, attributes := #[] }, { accessFlags := 26, nameIndex := 677, descriptorIndex := 12, attributes := #[] }, { accessFlags := 10, nameIndex := 11, descriptorIndex := 12, attributes := #[] }, { accessFlags := 74, nameIndex := 175, descriptorIndex := 176, attributes := #[] }, { accessFlags := 10, nameIndex := 491, descriptorIndex := 222, attributes := #[] }, { accessFlags := 74, nameIndex := 29, descriptorIndex := 30, attributes := #[] }, { accessFlags := 74, nameIndex := 154, descriptorIndex := 155, attributes := #[] }, { accessFlags := 10, nameIndex := 217, descriptorIndex := 218, attributes := #[] }, { accessFlags := 10, nameIndex := 221, descriptorIndex := 222, attributes := #[] }, { accessFlags := 8, nameIndex := 562, descriptorIndex := 563, attributes := #[] }])
  fields := #[{ name := "in", type := (.object "java/io/InputStream"), accessFlags := 25, slot := 0, constantValue := 0 }, { name := "out", type := (.object "java/io/PrintStream"), accessFlags := 25, slot := 1, constantValue := 0 }, { name := "err", type := (.object "java/io/PrintStream"), accessFlags := 25, slot := 2, constantValue := 0 }, { name := "initialIn", type := (.object "java/io/InputStream"), accessFlags := 10, slot := 3, constantValue := 0 }, { name := "NEVER", type := .int, accessFlags := 26, slot := 4, constantValue := 0 }, { name := "MAYBE", type := .int, accessFlags := 26, slot := 5, constantValue := 0 }, { name := "allowSecurityManager", type := .int, accessFlags := 10, slot := 6, constantValue := 0 }, { name := "security", type := (.object "java/lang/SecurityManager"), accessFlags := 74, slot := 7, constantValue := 0 }, { name := "notSupportedJnuEncoding", type := (.object "java/lang/String"), accessFlags := 10, slot := 8, constantValue := 0 }, { name := "cons", type := (.object "java/io/Console"), accessFlags := 74, slot := 9, constantValue := 0 }, { name := "initialErrStream", type := (.object "java/io/PrintStream"), accessFlags := 74, slot := 10, constantValue := 0 }, { name := "props", type := (.object "java/util/Properties"), accessFlags := 10, slot := 11, constantValue := 0 }, { name := "lineSeparator", type := (.object "java/lang/String"), accessFlags := 10, slot := 12, constantValue := 0 }, { name := "bootLayer", type := (.object "java/lang/ModuleLayer"), accessFlags := 8, slot := 13, constantValue := 0 }]
  methods := #[k14m0, k14m1]
  instanceTypes := #[]
  staticTypes := #[(.object "java/io/InputStream"), (.object "java/io/PrintStream"), (.object "java/io/PrintStream"), (.object "java/io/InputStream"), .int, .int, .int, (.object "java/lang/SecurityManager"), (.object "java/lang/String"), (.object "java/io/Console"), (.object "java/io/PrintStream"), (.object "java/util/Properties"), (.object "java/lang/String"), (.object "java/lang/ModuleLayer")]
  resolved := Array.replicate 834 none
  statics := none }

def pool15 : Array CpInfo := pool [(2, .class_ 4), (1, u "java/lang/Object"), (0, u "<init>"), (0, u "()V"), (7, .class_ 16), (1, u "java/util/Arrays"), (57, .class_ 76), (1, u "java/util/Arrays$NaturalOrder"), (36, .class_ 115), (1, u "java/util/Arrays$LegacyMergeSort"), (1, u "Z"), (21, u "copyOfRange"), (10, .methodref 151 152), (0, .class_ 153), (0, .nameAndType 154 155), (0, u "java/lang/System"), (0, u "arraycopy"), (0, u "(Ljava/lang/Object;ILjava/lang/Object;II)V"), (148, .methodref 305 306), (0, .class_ 307), (0, .nameAndType 308 309), (0, u "java/lang/Math"), (0, u "min"), (0, u "(II)I"), (29, .methodref 14 340), (0, .nameAndType 341 342), (0, u "copyOfRangeByte"), (0, u "([BII)[B"), (0, .methodref 14 344), (0, .nameAndType 345 346), (0, u "checkLength"), (0, u "(II)V"), (28, .class_ 376), (0, u "java/util/Arrays$ArrayList"), (68, u "$assertionsDisabled"), (269, u "MIN_ARRAY_SORT_GRAN"), (0, u "I"), (2, u "INSERTIONSORT_THRESHOLD"), (255, .class_ 976), (0, u "java/util/Arrays$ArrayItr")] 52

def k15m0 : Method := { name := "<init>", desc := "()V", sig := { parameters := [], returnType := none }, accessFlags := 2, code := none }
def k15c1 : Code := { maxStack := 4, maxLocals := 2, code := jdk_65_method_131_code, exceptionTable := #[], attributes := #[] }
def k15m1 : Method := { name := "checkLength", desc := "(II)V", sig := { parameters := [.int, .int], returnType := none }, accessFlags := 10, code := some k15c1 }
def k15c2 : Code := { maxStack := 3, maxLocals := 3, code := jdk_65_method_132_code, exceptionTable := #[], attributes := #[] }
def k15m2 : Method := { name := "copyOfRange", desc := "([BII)[B", sig := { parameters := [(.array .byte), .int, .int], returnType := some (.array .byte) }, accessFlags := 9, code := some k15c2 }
def k15c3 : Code := { maxStack := 6, maxLocals := 5, code := jdk_65_method_133_code, exceptionTable := #[], attributes := #[] }
def k15m3 : Method := { name := "copyOfRangeByte", desc := "([BII)[B", sig := { parameters := [(.array .byte), .int, .int], returnType := some (.array .byte) }, accessFlags := 10, code := some k15c3 }
/-- java/util/Arrays -/
def k15 : Class := { plain "java/util/Arrays" (some 0) with
  accessFlags := 49
  interfaces := #[]
  cf := some (fileOf pool15 14 #[.nestMembers #[975, 375, 113, 74]] #[{ accessFlags := 2, nameIndex := 5, descriptorIndex := 6, attributes := #[] }, { accessFlags := 10, nameIndex := 345, descriptorIndex := 346, attributes := #[] }, { accessFlags := 9, nameIndex := 139, descriptorIndex := 342, attributes := #[] }, { accessFlags := 10, nameIndex := 341, descriptorIndex := 342, attributes := #[] }] 49 2 #[] #[{ accessFlags := 26, nameIndex := 715, descriptorIndex := 716, attributes := #[] }, { accessFlags := 26, nameIndex := 719, descriptorIndex := 716, attributes := #[] }, { accessFlags := 4120, nameIndex := 445, descriptorIndex := 117, attributes := #[] }])
  fields := #[{ name := "MIN_ARRAY_SORT_GRAN", type := .int, accessFlags := 26, slot := 0, constantValue := 0 }, { name := "INSERTIONSORT_THRESHOLD", type := .int, accessFlags := 26, slot := 1, constantValue := 0 }, { name := "$assertionsDisabled", type := .boolean, accessFlags := 4120, slot := 2, constantValue := 0 }]
  methods := #[k15m0, k15m1, k15m2, k15m3]
  instanceTypes := #[]
  staticTypes := #[.int, .int, .boolean]
  resolved := Array.replicate 1029 none
  statics := none }

def pool16 : Array CpInfo := pool [(1, .class_ 2), (0, u "java/lang/Math"), (1, .class_ 6), (1, u "java/lang/Object"), (0, u "<init>"), (0, u "()V"), (89, .class_ 100), (1, u "java/lang/Math$RandomNumberGeneratorHolder"), (71, u "negativeZeroFloatBits"), (0, u "J"), (2, u "negativeZeroDoubleBits"), (24, u "min"), (43, u "$assertionsDisabled"), (0, u "Z"), (88, u "(II)I"), (2, u "twoToTheDoubleScaleDown"), (0, u "D"), (4, u "twoToTheDoubleScaleUp"), (9, u "E"), (3, u "PI"), (2, u "TAU"), (2, u "DEGREES_TO_RADIANS"), (0, u "RADIANS_TO_DEGREES")] 94

def k16m0 : Method := { name := "<init>", desc := "()V", sig := { parameters := [], returnType := none }, accessFlags := 2, code := none }
def k16c1 : Code := { maxStack := 2, maxLocals := 2, code := jdk_29_method_69_code, exceptionTable := #[], attributes := #[] }
def k16m1 : Method := { name := "min", desc := "(II)I", sig := { parameters := [.int, .int], returnType := some .int }, accessFlags := 9, code := some k16c1 }
/-- java/lang/Math -/
def k16 : Class := { plain "java/lang/Math" (some 0) with
  accessFlags := 49
  interfaces := #[]
  cf := some (fileOf pool16 1 #[.nestMembers #[98]] #[{ accessFlags := 2, nameIndex := 7, descriptorIndex := 8, attributes := #[] }, { accessFlags := 9, nameIndex := 201, descriptorIndex := 335, attributes := #[] }] 49 4 #[] #[{ accessFlags := 25, nameIndex := 354, descriptorIndex := 339, attributes := #[] }, { accessFlags := 25, nameIndex := 358, descriptorIndex := 339, attributes := #[] }, { accessFlags := 25, nameIndex := 361, descriptorIndex := 339, attributes := #[] }, { accessFlags := 26, nameIndex := 364, descriptorIndex := 339, attributes := #[] }, { accessFlags := 26, nameIndex := 365, descriptorIndex := 339, attributes := #[] }, { accessFlags := 26, nameIndex := 172, descriptorIndex := 173, attributes := #[] }, { accessFlags := 26, nameIndex := 176, descriptorIndex := 173, attributes := #[] }, { accessFlags := 8, nameIndex := 344, descriptorIndex := 339, attributes := #[] }, { accessFlags := 8, nameIndex := 338, descriptorIndex := 339, attributes := #[] }, { accessFlags := 4120, nameIndex := 245, descriptorIndex := 246, attributes := #[] }])
  fields := #[{ name := "E", type := .double, accessFlags := 25, slot := 0, constantValue := 0 }, { name := "PI", type := .double, accessFlags := 25, slot := 1, constantValue := 0 }, { name := "TAU", type := .double, accessFlags := 25, slot := 2, constantValue := 0 }, { name := "DEGREES_TO_RADIANS", type := .double, accessFlags := 26, slot := 3, constantValue := 0 }, { name := "RADIANS_TO_DEGREES", type := .double, accessFlags := 26, slot := 4, constantValue := 0 }, { name := "negativeZeroFloatBits", type := .long, accessFlags := 26, slot := 5, constantValue := 0 }, { name := "negativeZeroDoubleBits", type := .long, accessFlags := 26, slot := 6, constantValue := 0 }, { name := "twoToTheDoubleScaleUp", type := .double, accessFlags := 8, slot := 7, constantValue := 0 }, { name := "twoToTheDoubleScaleDown", type := .double, accessFlags := 8, slot := 8, constantValue := 0 }, { name := "$assertionsDisabled", type := .boolean, accessFlags := 4120, slot := 9, constantValue := 0 }]
  methods := #[k16m0, k16m1]
  instanceTypes := #[]
  staticTypes := #[.double, .double, .double, .double, .double, .long, .long, .double, .double, .boolean]
  resolved := Array.replicate 460 none
  statics := none }

def pool17 : Array CpInfo := pool [(4, .class_ 6), (1, u "java/lang/Object"), (0, u "<init>"), (0, u "()V"), (5, .class_ 16), (1, u "java/lang/StringLatin1"), (73, u "canEncode"), (14, u "(C)Z"), (15, u "$assertionsDisabled"), (0, u "Z"), (98, .class_ 223), (1, u "java/lang/StringLatin1$LinesSpliterator"), (57, u "equals"), (0, u "([B[B)Z"), (97, u "toBytes"), (1, u "(C)[B"), (7, .class_ 391), (0, u "java/lang/StringLatin1$CharsSpliterator")] 3

def k17m0 : Method := { name := "<init>", desc := "()V", sig := { parameters := [], returnType := none }, accessFlags := 0, code := none }
def k17c1 : Code := { maxStack := 2, maxLocals := 1, code := jdk_43_method_3_code, exceptionTable := #[], attributes := #[] }
def k17m1 : Method := { name := "canEncode", desc := "(C)Z", sig := { parameters := [.char], returnType := some .boolean }, accessFlags := 9, code := some k17c1 }
def k17c2 : Code := { maxStack := 3, maxLocals := 3, code := jdk_43_method_13_code, exceptionTable := #[], attributes := #[] }
def k17m2 : Method := { name := "equals", desc := "([B[B)Z", sig := { parameters := [(.array .byte), (.array .byte)], returnType := some .boolean }, accessFlags := 9, code := some k17c2 }
def k17c3 : Code := { maxStack := 4, maxLocals := 1, code := jdk_43_method_46_code, exceptionTable := #[], attributes := #[] }
def k17m3 : Method := { name := "toBytes", desc := "(C)[B", sig := { parameters := [.char], returnType := some (.array .byte) }, accessFlags := 9, code := some k17c3 }
/-- java/lang/StringLatin1 -/
def k17 : Class := { plain "java/lang/StringLatin1" (some 0) with
  accessFlags := 48
  interfaces := #[]
  cf := some (fileOf pool17 14 #[.nestMembers #[390, 221]] #[{ accessFlags := 0, nameIndex := 7, descriptorIndex := 8, attributes := #[] }, { accessFlags := 9, nameIndex := 90, descriptorIndex := 105, attributes := #[] }, { accessFlags := 9, nameIndex := 281, descriptorIndex := 282, attributes := #[] }, { accessFlags := 9, nameIndex := 380, descriptorIndex := 382, attributes := #[] }] 48 4 #[] #[{ accessFlags := 4120, nameIndex := 121, descriptorIndex := 122, attributes := #[] }])
  fields := #[{ name := "$assertionsDisabled", type := .boolean, accessFlags := 4120, slot := 0, constantValue := 0 }]
  methods := #[k17m0, k17m1, k17m2, k17m3]
  instanceTypes := #[]
  staticTypes := #[.boolean]
  resolved := Array.replicate 395 none
  statics := none }

def pool18 : Array CpInfo := pool [(2, .class_ 4), (1, u "java/lang/Object"), (0, u "<init>"), (0, u "()V"), (17, .class_ 26), (1, u "jdk/internal/util/Preconditions"), (28, .class_ 56), (0, u "jdk/internal/util/Preconditions$4"), (57, .class_ 115), (0, u "jdk/internal/util/Preconditions$1"), (7, u "SIOOBE_FORMATTER"), (0, u "Ljava/util/function/BiFunction;"), (0, .class_ 126), (0, u "jdk/internal/util/Preconditions$2"), (3, u "AIOOBE_FORMATTER"), (0, .class_ 132), (0, u "jdk/internal/util/Preconditions$3"), (3, u "IOOBE_FORMATTER")] 57

def k18m0 : Method := { name := "<init>", desc := "()V", sig := { parameters := [], returnType := none }, accessFlags := 1, code := none }
/-- jdk/internal/util/Preconditions -/
def k18 : Class := { plain "jdk/internal/util/Preconditions" (some 0) with
  accessFlags := 33
  interfaces := #[]
  cf := some (fileOf pool18 24 #[.nestMembers #[55, 131, 125, 114]] #[{ accessFlags := 1, nameIndex := 5, descriptorIndex := 6, attributes := #[] }] 33 2 #[] #[{ accessFlags := 25, nameIndex := 123, descriptorIndex := 124, attributes := #[] }, { accessFlags := 25, nameIndex := 130, descriptorIndex := 124, attributes := #[] }, { accessFlags := 25, nameIndex := 136, descriptorIndex := 124, attributes := #[] }])
  fields := #[{ name := "SIOOBE_FORMATTER", type := (.object "java/util/function/BiFunction"), accessFlags := 25, slot := 0, constantValue := 0 }, { name := "AIOOBE_FORMATTER", type := (.object "java/util/function/BiFunction"), accessFlags := 25, slot := 1, constantValue := 0 }, { name := "IOOBE_FORMATTER", type := (.object "java/util/function/BiFunction"), accessFlags := 25, slot := 2, constantValue := 0 }]
  methods := #[k18m0]
  instanceTypes := #[]
  staticTypes := #[(.object "java/util/function/BiFunction"), (.object "java/util/function/BiFunction"), (.object "java/util/function/BiFunction")]
  resolved := Array.replicate 194 none
  statics := some 1 }

def pool19 : Array CpInfo := pool [(9, u "<init>"), (6, .class_ 18), (1, u "java/lang/Object"), (0, u "()V"), (1, .class_ 23), (1, u "jdk/internal/util/ArraysSupport"), (0, u "LOG2_ARRAY_LONG_INDEX_SCALE"), (0, u "I"), (2, u "U"), (0, u "Ljdk/internal/misc/Unsafe;"), (8, u "BIG_ENDIAN"), (0, u "Z"), (8, u "LOG2_BYTE_BIT_SIZE"), (4, u "LOG2_ARRAY_INT_INDEX_SCALE"), (54, u "JLA"), (0, u "Ljdk/internal/access/JavaLangAccess;"), (11, u "LOG2_ARRAY_BOOLEAN_INDEX_SCALE"), (9, u "LOG2_ARRAY_BYTE_INDEX_SCALE"), (5, u "LOG2_ARRAY_CHAR_INDEX_SCALE"), (5, u "LOG2_ARRAY_SHORT_INDEX_SCALE"), (18, u "LOG2_ARRAY_FLOAT_INDEX_SCALE"), (24, u "LOG2_ARRAY_DOUBLE_INDEX_SCALE"), (89, u "T_BOOLEAN"), (2, u "T_CHAR"), (1, u "T_FLOAT"), (1, u "T_DOUBLE"), (1, u "T_BYTE"), (1, u "T_SHORT"), (1, u "T_INT"), (1, u "T_LONG"), (1, u "SOFT_MAX_ARRAY_LENGTH")] 83

def k19m0 : Method := { name := "<init>", desc := "()V", sig := { parameters := [], returnType := none }, accessFlags := 2, code := none }
/-- jdk/internal/util/ArraysSupport -/
def k19 : Class := { plain "jdk/internal/util/ArraysSupport" (some 0) with
  accessFlags := 33
  interfaces := #[]
  cf := some (fileOf pool19 21 #[] #[{ accessFlags := 2, nameIndex := 9, descriptorIndex := 19, attributes := #[] }] 33 16 #[] #[{ accessFlags := 24, nameIndex := 28, descriptorIndex := 29, attributes := #[] }, { accessFlags := 26, nameIndex := 38, descriptorIndex := 39, attributes := #[] }, { accessFlags := 25, nameIndex := 121, descriptorIndex := 25, attributes := #[] }, { accessFlags := 25, nameIndex := 131, descriptorIndex := 25, attributes := #[] }, { accessFlags := 25, nameIndex := 137, descriptorIndex := 25, attributes := #[] }, { accessFlags := 25, nameIndex := 143, descriptorIndex := 25, attributes := #[] }, { accessFlags := 25, nameIndex := 53, descriptorIndex := 25, attributes := #[] }, { accessFlags := 25, nameIndex := 24, descriptorIndex := 25, attributes := #[] }, { accessFlags := 25, nameIndex := 162, descriptorIndex := 25, attributes := #[] }, { accessFlags := 25, nameIndex := 187, descriptorIndex := 25, attributes := #[] }, { accessFlags := 26, nameIndex := 48, descriptorIndex := 25, attributes := #[] }, { accessFlags := 25, nameIndex := 277, descriptorIndex := 25, attributes := #[] }, { accessFlags := 25, nameIndex := 280, descriptorIndex := 25, attributes := #[] }, { accessFlags := 25, nameIndex := 282, descriptorIndex := 25, attributes := #[] }, { accessFlags := 25, nameIndex := 284, descriptorIndex := 25, attributes := #[] }, { accessFlags := 25, nameIndex := 286, descriptorIndex := 25, attributes := #[] }, { accessFlags := 25, nameIndex := 288, descriptorIndex := 25, attributes := #[] }, { accessFlags := 25, nameIndex := 290, descriptorIndex := 25, attributes := #[] }, { accessFlags := 25, nameIndex := 292, descriptorIndex := 25, attributes := #[] }, { accessFlags := 26, nameIndex := 108, descriptorIndex := 109, attributes := #[] }, { accessFlags := 25, nameIndex := 294, descriptorIndex := 25, attributes := #[] }])
  fields := #[{ name := "U", type := (.object "jdk/internal/misc/Unsafe"), accessFlags := 24, slot := 0, constantValue := 0 }, { name := "BIG_ENDIAN", type := .boolean, accessFlags := 26, slot := 1, constantValue := 0 }, { name := "LOG2_ARRAY_BOOLEAN_INDEX_SCALE", type := .int, accessFlags := 25, slot := 2, constantValue := 0 }, { name := "LOG2_ARRAY_BYTE_INDEX_SCALE", type := .int, accessFlags := 25, slot := 3, constantValue := 0 }, { name := "LOG2_ARRAY_CHAR_INDEX_SCALE", type := .int, accessFlags := 25, slot := 4, constantValue := 0 }, { name := "LOG2_ARRAY_SHORT_INDEX_SCALE", type := .int, accessFlags := 25, slot := 5, constantValue := 0 }, { name := "LOG2_ARRAY_INT_INDEX_SCALE", type := .int, accessFlags := 25, slot := 6, constantValue := 0 }, { name := "LOG2_ARRAY_LONG_INDEX_SCALE", type := .int, accessFlags := 25, slot := 7, constantValue := 0 }, { name := "LOG2_ARRAY_FLOAT_INDEX_SCALE", type := .int, accessFlags := 25, slot := 8, constantValue := 0 }, { name := "LOG2_ARRAY_DOUBLE_INDEX_SCALE", type := .int, accessFlags := 25, slot := 9, constantValue := 0 }, { name := "LOG2_BYTE_BIT_SIZE", type := .int, accessFlags := 26, slot := 10, constantValue := 0 }, { name := "T_BOOLEAN", type := .int, accessFlags := 25, slot := 11, constantValue := 0 }, { name := "T_CHAR", type := .int, accessFlags := 25, slot := 12, constantValue := 0 }, { name := "T_FLOAT", type := .int, accessFlags := 25, slot := 13, constantValue := 0 }, { name := "T_DOUBLE", type := .int, accessFlags := 25, slot := 14, constantValue := 0 }, { name := "T_BYTE", type := .int, accessFlags := 25, slot := 15, constantValue := 0 }, { name := "T_SHORT", type := .int, accessFlags := 25, slot := 16, constantValue := 0 }, { name := "T_INT", type := .int, accessFlags := 25, slot := 17, constantValue := 0 }, { name := "T_LONG", type := .int, accessFlags := 25, slot := 18, constantValue := 0 }, { name := "JLA", type := (.object "jdk/internal/access/JavaLangAccess"), accessFlags := 26, slot := 19, constantValue := 0 }, { name := "SOFT_MAX_ARRAY_LENGTH", type := .int, accessFlags := 25, slot := 20, constantValue := 0 }]
  methods := #[k19m0]
  instanceTypes := #[]
  staticTypes := #[(.object "jdk/internal/misc/Unsafe"), .boolean, .int, .int, .int, .int, .int, .int, .int, .int, .int, .int, .int, .int, .int, .int, .int, .int, .int, (.object "jdk/internal/access/JavaLangAccess"), .int]
  resolved := Array.replicate 378 none
  statics := none }

def pool20 : Array CpInfo := pool [(1, u "java/lang/Cloneable"), (0, .class_ 1), (0, u "java/lang/Object"), (0, .class_ 3)] 3

/-- java/lang/Cloneable -/
def k20 : Class := { plain "java/lang/Cloneable" (some 0) with
  accessFlags := 1537
  interfaces := #[]
  cf := some (fileOf pool20 2 #[] #[] 1537 4 #[] #[])
  fields := #[]
  methods := #[]
  instanceTypes := #[]
  staticTypes := #[]
  resolved := Array.replicate 8 none
  statics := none }

/-- the primitive byte -/
def k21 : Class := { plain "byte" none with kind := .primitive 'B', accessFlags := 0x411 }
/-- [B -/
def k22 : Class := { plain "[B" (some 0) with kind := .array 21 .byte, interfaces := #[20, 4], accessFlags := 1041 }

/-- the primitive char -/
def k23 : Class := { plain "char" none with kind := .primitive 'C', accessFlags := 0x411 }
/-- [C -/
def k24 : Class := { plain "[C" (some 0) with kind := .array 23 .char, interfaces := #[20, 4], accessFlags := 1041 }

/-- the primitive int -/
def k25 : Class := { plain "int" none with kind := .primitive 'I', accessFlags := 0x411 }
/-- [I -/
def k26 : Class := { plain "[I" (some 0) with kind := .array 25 .int, interfaces := #[20, 4], accessFlags := 1041 }

def heap : Heap := #[{ cls := 9, slots := #[.long 0, .int 1, .null, .int 0, .null, .int 0, .int 0], vm := .statics 9 },
  { cls := 18, slots := #[.null, .null, .null], vm := .statics 18 }]
def classes : Array Class := #[k0, k1, k2, k3, k4, k5, k6, k7, k8, k9, k10, k11, k12, k13, k14, k15, k16, k17, k18, k19, k20, k21, k22, k23, k24, k25, k26]
def interned : List (Array UInt16 × Addr) := []
def slotsUsed : Nat := 10
def theMethod : MethodId := ⟨1, 1⟩
def args0 : Array Value := #[.int 1, .int 2, .int 3, .int 0, .int 5, .int 6]
def aboutOver (below : List Frame) : State where
  vm := { classes := classes, interned := interned.toArray }
  heap := heap
  slotsUsed := slotsUsed
  threads := #[{ frames := .invoking theMethod args0 :: below }]
def below0 : List Frame := [.native { method := ⟨0, 0⟩, args := #[] }]
def about1 : State := aboutOver below0
def p0 : Program := .bare "" "" ""
def e0 : Env := launch0.env 0 0 0
theorem w_frames : about1.frames = Frame.invoking theMethod args0 :: below0 := rfl
set_option maxRecDepth 65536 in
theorem w_args : argsFit about1.vm theMethod args0 = true := by decide +kernel
set_option maxRecDepth 65536 in
theorem w_heap : heapFits about1 = true := by decide +kernel
set_option maxRecDepth 65536 in
theorem w_runnable : about1.curStatus? = some .runnable := by decide +kernel
set_option maxRecDepth 65536 in
theorem w_alone : about1.alone = true := by decide +kernel
set_option maxRecDepth 65536 in
theorem w_named : about1.methodNamed? x = some theMethod := by decide +kernel
set_option maxRecDepth 65536 in
theorem w_hears : about1.hears theMethod below0 = true := by decide +kernel
set_option maxRecDepth 65536 in
theorem w_ripe : about1.ripe theMethod args0 below0 = true := by decide +kernel
theorem w_running : about1.status = .running := rfl
set_option maxRecDepth 65536 in
theorem w_room : about1.hasRoom e0.platform room_1 = true :=
  launch0.hasRoom_least _ room_1 (by decide +kernel) (by decide +kernel) (by decide +kernel) (by decide +kernel) (by decide +kernel) (by decide +kernel)
theorem allAtoms_all (ts : List Jvm.Cond) (a : Array Jvm.Value) (st : Jvm.State) : (allAtoms ts).before a st = ts.all (fun c => c.before a st) := by
  induction ts with
  | nil => rfl
  | cons c t ih =>
    show (Jvm.Cond.and c (allAtoms t)).before a st = _
    rw [Jvm.Cond.before_and, ih, List.all_cons]
def words1 : List Jvm.Cond := Jvm.Cond.code x code maxLocals ret :: tables_1
/-- a 'code' word, met by the world's own term for the bytes: nothing is compared byte by byte -/
theorem code_word {y : MethodName} {bytes : ByteArray} {mx : Nat} {rt : Option FieldType} {a : Array Value} {s : State} {m : MethodId} {meth : Method} {c : Code} (h1 : s.methodNamed? y = some m) (h2 : s.vm.method? m = some meth) (h3 : meth.code = some c) (h4 : c.code = bytes)
    (h5 : (c.maxLocals == mx && c.exceptionTable.isEmpty && decide (c.maxStack ≤ mostOperands) && decide (meth.sig.returnType = rt) && !meth.locks && decide (parseMethodDescriptor y.desc = some meth.sig)) = true) : (Jvm.Cond.code y bytes mx rt).before a s = true := by
  simp only [Bool.and_eq_true, beq_iff_eq, Bool.not_eq_true', decide_eq_true_eq] at h5
  obtain ⟨⟨⟨⟨⟨g1, g2⟩, g3⟩, g4⟩, g5⟩, g6⟩ := h5
  simp [Cond.before, Cond.holds, Cond.value, h1, h2, h3, h4, g1, g2, g3, g4, g5, g6]
def isCode : Jvm.Cond → Bool
  | .code _ _ _ _ => true
  | _ => false
theorem all_split {L : List Jvm.Cond} {P : Jvm.Cond → Bool} (h1 : L.all (fun c => isCode c || P c) = true) (h2 : ∀ c ∈ L.filter isCode, P c = true) : L.all P = true := by
  refine List.all_eq_true.mpr fun c hc => ?_
  have h := List.all_eq_true.mp h1 c hc
  rcases Bool.eq_false_or_eq_true (isCode c) with hi | hi
  · exact h2 c (List.mem_filter.mpr ⟨hc, hi⟩)
  · simpa [hi] using h
set_option maxRecDepth 65536 in
theorem w_c0 : (Jvm.Cond.code x code maxLocals ret).before args0 about1 = true := code_word (m := ⟨1, 1⟩) (meth := k1m1) (c := k1c1) (by decide +kernel) rfl rfl rfl (by decide +kernel)
set_option maxRecDepth 65536 in
theorem w_c1 : (Jvm.Cond.code ({ cls := "com/example/triplecast/triplecast/cli/MediaTypeIsPinLaw", name := "ex", desc := "(IIICCCC)C" } : Jvm.MethodName) method_3_code (8 : Nat) (Option.some Jvm.ClassFile.FieldType.char)).before args0 about1 = true := code_word (m := ⟨1, 2⟩) (meth := k1m2) (c := k1c2) (by decide +kernel) rfl rfl rfl (by decide +kernel)
set_option maxRecDepth 65536 in
theorem w_c2 : (Jvm.Cond.code ({ cls := "com/example/triplecast/triplecast/cli/MediaTypeIsPinLaw", name := "same", desc := "([C[CII)Z" } : Jvm.MethodName) method_4_code (4 : Nat) (Option.some Jvm.ClassFile.FieldType.boolean)).before args0 about1 = true := code_word (m := ⟨1, 3⟩) (meth := k1m3) (c := k1c3) (by decide +kernel) rfl rfl rfl (by decide +kernel)
set_option maxRecDepth 65536 in
theorem w_c3 : (Jvm.Cond.code ({ cls := "com/example/triplecast/triplecast/cli/MediaTypeIsPinLaw", name := "str", desc := "([CI)Ljava/lang/String;" } : Jvm.MethodName) method_5_code (2 : Nat) (Option.some (Jvm.ClassFile.FieldType.object "java/lang/String"))).before args0 about1 = true := code_word (m := ⟨1, 4⟩) (meth := k1m4) (c := k1c4) (by decide +kernel) rfl rfl rfl (by decide +kernel)
set_option maxRecDepth 65536 in
theorem w_c4 : (Jvm.Cond.code ({ cls := "java/lang/String", name := "<init>", desc := "([C)V" } : Jvm.MethodName) jdk_42_method_3_code (2 : Nat) (Option.none : Option Jvm.ClassFile.FieldType)).before args0 about1 = true := code_word (m := ⟨9, 1⟩) (meth := k9m1) (c := k9c1) (by decide +kernel) rfl rfl rfl (by decide +kernel)
set_option maxRecDepth 65536 in
theorem w_c5 : (Jvm.Cond.code ({ cls := "java/lang/String", name := "<init>", desc := "([CIILjava/lang/Void;)V" } : Jvm.MethodName) jdk_42_method_149_code (6 : Nat) (Option.none : Option Jvm.ClassFile.FieldType)).before args0 about1 = true := code_word (m := ⟨9, 7⟩) (meth := k9m7) (c := k9c7) (by decide +kernel) rfl rfl rfl (by decide +kernel)
set_option maxRecDepth 65536 in
theorem w_c6 : (Jvm.Cond.code ({ cls := "java/lang/Object", name := "<init>", desc := "()V" } : Jvm.MethodName) object_method_1_code (1 : Nat) (Option.none : Option Jvm.ClassFile.FieldType)).before args0 about1 = true := code_word (m := ⟨0, 0⟩) (meth := k0m0) (c := k0c0) (by decide +kernel) rfl rfl rfl (by decide +kernel)
set_option maxRecDepth 65536 in
theorem w_c7 : (Jvm.Cond.code ({ cls := "java/lang/StringUTF16", name := "compress", desc := "([CII)[B" } : Jvm.MethodName) jdk_52_method_16_code (6 : Nat) (Option.some (Jvm.ClassFile.FieldType.array Jvm.ClassFile.FieldType.byte))).before args0 about1 = true := code_word (m := ⟨10, 2⟩) (meth := k10m2) (c := k10c2) (by decide +kernel) rfl rfl rfl (by decide +kernel)
set_option maxRecDepth 65536 in
theorem w_c8 : (Jvm.Cond.code ({ cls := "java/lang/StringUTF16", name := "compress", desc := "([CI[BII)I" } : Jvm.MethodName) jdk_52_method_21_code (7 : Nat) (Option.some Jvm.ClassFile.FieldType.int)).before args0 about1 = true := code_word (m := ⟨10, 3⟩) (meth := k10m3) (c := k10c3) (by decide +kernel) rfl rfl rfl (by decide +kernel)
set_option maxRecDepth 65536 in
theorem w_c9 : (Jvm.Cond.code ({ cls := "java/lang/StringUTF16", name := "coderFromArrayLen", desc := "([BI)B" } : Jvm.MethodName) jdk_52_method_15_code (2 : Nat) (Option.some Jvm.ClassFile.FieldType.byte)).before args0 about1 = true := code_word (m := ⟨10, 1⟩) (meth := k10m1) (c := k10c1) (by decide +kernel) rfl rfl rfl (by decide +kernel)
set_option maxRecDepth 65536 in
theorem w_c10 : (Jvm.Cond.code ({ cls := "com/example/triplecast/triplecast/cli/MediaType", name := "<init>", desc := "(Ljava/lang/String;Ljava/lang/String;Ljava/util/Map;)V" } : Jvm.MethodName) prog_6_method_1_code (4 : Nat) (Option.none : Option Jvm.ClassFile.FieldType)).before args0 about1 = true := code_word (m := ⟨3, 0⟩) (meth := k3m0) (c := k3c0) (by decide +kernel) rfl rfl rfl (by decide +kernel)
set_option maxRecDepth 65536 in
theorem w_c11 : (Jvm.Cond.code ({ cls := "java/lang/Record", name := "<init>", desc := "()V" } : Jvm.MethodName) jdk_30_method_1_code (1 : Nat) (Option.none : Option Jvm.ClassFile.FieldType)).before args0 about1 = true := code_word (m := ⟨2, 0⟩) (meth := k2m0) (c := k2c0) (by decide +kernel) rfl rfl rfl (by decide +kernel)
set_option maxRecDepth 65536 in
theorem w_c12 : (Jvm.Cond.code ({ cls := "com/example/triplecast/triplecast/cli/MediaType", name := "is", desc := "(Ljava/lang/String;)Z" } : Jvm.MethodName) prog_6_method_5_code (2 : Nat) (Option.some Jvm.ClassFile.FieldType.boolean)).before args0 about1 = true := code_word (m := ⟨3, 1⟩) (meth := k3m1) (c := k3c1) (by decide +kernel) rfl rfl rfl (by decide +kernel)
set_option maxRecDepth 65536 in
theorem w_c13 : (Jvm.Cond.code ({ cls := "java/lang/StringBuilder", name := "<init>", desc := "()V" } : Jvm.MethodName) jdk_67_method_1_code (1 : Nat) (Option.none : Option Jvm.ClassFile.FieldType)).before args0 about1 = true := code_word (m := ⟨13, 0⟩) (meth := k13m0) (c := k13c0) (by decide +kernel) rfl rfl rfl (by decide +kernel)
set_option maxRecDepth 65536 in
theorem w_c14 : (Jvm.Cond.code ({ cls := "java/lang/AbstractStringBuilder", name := "<init>", desc := "(I)V" } : Jvm.MethodName) jdk_68_method_2_code (2 : Nat) (Option.none : Option Jvm.ClassFile.FieldType)).before args0 about1 = true := code_word (m := ⟨12, 1⟩) (meth := k12m1) (c := k12c1) (by decide +kernel) rfl rfl rfl (by decide +kernel)
set_option maxRecDepth 65536 in
theorem w_c15 : (Jvm.Cond.code ({ cls := "java/lang/StringBuilder", name := "append", desc := "(Ljava/lang/String;)Ljava/lang/StringBuilder;" } : Jvm.MethodName) jdk_67_method_7_code (2 : Nat) (Option.some (Jvm.ClassFile.FieldType.object "java/lang/StringBuilder"))).before args0 about1 = true := code_word (m := ⟨13, 1⟩) (meth := k13m1) (c := k13c1) (by decide +kernel) rfl rfl rfl (by decide +kernel)
set_option maxRecDepth 65536 in
theorem w_c16 : (Jvm.Cond.code ({ cls := "java/lang/AbstractStringBuilder", name := "append", desc := "(Ljava/lang/String;)Ljava/lang/AbstractStringBuilder;" } : Jvm.MethodName) jdk_68_method_22_code (3 : Nat) (Option.some (Jvm.ClassFile.FieldType.object "java/lang/AbstractStringBuilder"))).before args0 about1 = true := code_word (m := ⟨12, 4⟩) (meth := k12m4) (c := k12c4) (by decide +kernel) rfl rfl rfl (by decide +kernel)
set_option maxRecDepth 65536 in
theorem w_c17 : (Jvm.Cond.code ({ cls := "java/lang/String", name := "length", desc := "()I" } : Jvm.MethodName) jdk_42_method_54_code (1 : Nat) (Option.some Jvm.ClassFile.FieldType.int)).before args0 about1 = true := code_word (m := ⟨9, 3⟩) (meth := k9m3) (c := k9c3) (by decide +kernel) rfl rfl rfl (by decide +kernel)
set_option maxRecDepth 65536 in
theorem w_c18 : (Jvm.Cond.code ({ cls := "java/lang/String", name := "coder", desc := "()B" } : Jvm.MethodName) jdk_42_method_152_code (1 : Nat) (Option.some Jvm.ClassFile.FieldType.byte)).before args0 about1 = true := code_word (m := ⟨9, 10⟩) (meth := k9m10) (c := k9c10) (by decide +kernel) rfl rfl rfl (by decide +kernel)
set_option maxRecDepth 65536 in
theorem w_c19 : (Jvm.Cond.code ({ cls := "java/lang/AbstractStringBuilder", name := "ensureCapacityInternal", desc := "(I)V" } : Jvm.MethodName) jdk_68_method_9_code (3 : Nat) (Option.none : Option Jvm.ClassFile.FieldType)).before args0 about1 = true := code_word (m := ⟨12, 3⟩) (meth := k12m3) (c := k12c3) (by decide +kernel) rfl rfl rfl (by decide +kernel)
set_option maxRecDepth 65536 in
theorem w_c20 : (Jvm.Cond.code ({ cls := "java/lang/AbstractStringBuilder", name := "putStringAt", desc := "(ILjava/lang/String;)V" } : Jvm.MethodName) jdk_68_method_73_code (3 : Nat) (Option.none : Option Jvm.ClassFile.FieldType)).before args0 about1 = true := code_word (m := ⟨12, 8⟩) (meth := k12m8) (c := k12c8) (by decide +kernel) rfl rfl rfl (by decide +kernel)
set_option maxRecDepth 65536 in
theorem w_c21 : (Jvm.Cond.code ({ cls := "java/lang/AbstractStringBuilder", name := "inflateIfNeededFor", desc := "(Ljava/lang/String;)V" } : Jvm.MethodName) jdk_68_method_71_code (2 : Nat) (Option.none : Option Jvm.ClassFile.FieldType)).before args0 about1 = true := code_word (m := ⟨12, 7⟩) (meth := k12m7) (c := k12c7) (by decide +kernel) rfl rfl rfl (by decide +kernel)
set_option maxRecDepth 65536 in
theorem w_c22 : (Jvm.Cond.code ({ cls := "java/lang/String", name := "getBytes", desc := "([BIB)V" } : Jvm.MethodName) jdk_42_method_147_code (4 : Nat) (Option.none : Option Jvm.ClassFile.FieldType)).before args0 about1 = true := code_word (m := ⟨9, 6⟩) (meth := k9m6) (c := k9c6) (by decide +kernel) rfl rfl rfl (by decide +kernel)
set_option maxRecDepth 65536 in
theorem w_c23 : (Jvm.Cond.code ({ cls := "java/lang/StringBuilder", name := "toString", desc := "()Ljava/lang/String;" } : Jvm.MethodName) jdk_67_method_42_code (1 : Nat) (Option.some (Jvm.ClassFile.FieldType.object "java/lang/String"))).before args0 about1 = true := code_word (m := ⟨13, 2⟩) (meth := k13m2) (c := k13c2) (by decide +kernel) rfl rfl rfl (by decide +kernel)
set_option maxRecDepth 65536 in
theorem w_c24 : (Jvm.Cond.code ({ cls := "java/lang/String", name := "<init>", desc := "(Ljava/lang/StringBuilder;)V" } : Jvm.MethodName) jdk_42_method_53_code (2 : Nat) (Option.none : Option Jvm.ClassFile.FieldType)).before args0 about1 = true := code_word (m := ⟨9, 2⟩) (meth := k9m2) (c := k9c2) (by decide +kernel) rfl rfl rfl (by decide +kernel)
set_option maxRecDepth 65536 in
theorem w_c25 : (Jvm.Cond.code ({ cls := "java/lang/String", name := "<init>", desc := "(Ljava/lang/AbstractStringBuilder;Ljava/lang/Void;)V" } : Jvm.MethodName) jdk_42_method_150_code (5 : Nat) (Option.none : Option Jvm.ClassFile.FieldType)).before args0 about1 = true := code_word (m := ⟨9, 8⟩) (meth := k9m8) (c := k9c8) (by decide +kernel) rfl rfl rfl (by decide +kernel)
set_option maxRecDepth 65536 in
theorem w_c26 : (Jvm.Cond.code ({ cls := "java/lang/AbstractStringBuilder", name := "getValue", desc := "()[B" } : Jvm.MethodName) jdk_68_method_64_code (1 : Nat) (Option.some (Jvm.ClassFile.FieldType.array Jvm.ClassFile.FieldType.byte))).before args0 about1 = true := code_word (m := ⟨12, 5⟩) (meth := k12m5) (c := k12c5) (by decide +kernel) rfl rfl rfl (by decide +kernel)
set_option maxRecDepth 65536 in
theorem w_c27 : (Jvm.Cond.code ({ cls := "java/lang/StringBuilder", name := "length", desc := "()I" } : Jvm.MethodName) jdk_67_method_93_code (1 : Nat) (Option.some Jvm.ClassFile.FieldType.int)).before args0 about1 = true := code_word (m := ⟨13, 3⟩) (meth := k13m3) (c := k13c3) (by decide +kernel) rfl rfl rfl (by decide +kernel)
set_option maxRecDepth 65536 in
theorem w_c28 : (Jvm.Cond.code ({ cls := "java/lang/AbstractStringBuilder", name := "length", desc := "()I" } : Jvm.MethodName) jdk_68_method_6_code (1 : Nat) (Option.some Jvm.ClassFile.FieldType.int)).before args0 about1 = true := code_word (m := ⟨12, 2⟩) (meth := k12m2) (c := k12c2) (by decide +kernel) rfl rfl rfl (by decide +kernel)
set_option maxRecDepth 65536 in
theorem w_c29 : (Jvm.Cond.code ({ cls := "java/lang/AbstractStringBuilder", name := "isLatin1", desc := "()Z" } : Jvm.MethodName) jdk_68_method_68_code (1 : Nat) (Option.some Jvm.ClassFile.FieldType.boolean)).before args0 about1 = true := code_word (m := ⟨12, 6⟩) (meth := k12m6) (c := k12c6) (by decide +kernel) rfl rfl rfl (by decide +kernel)
set_option maxRecDepth 65536 in
theorem w_c30 : (Jvm.Cond.code ({ cls := "java/util/Arrays", name := "copyOfRange", desc := "([BII)[B" } : Jvm.MethodName) jdk_65_method_132_code (3 : Nat) (Option.some (Jvm.ClassFile.FieldType.array Jvm.ClassFile.FieldType.byte))).before args0 about1 = true := code_word (m := ⟨15, 2⟩) (meth := k15m2) (c := k15c2) (by decide +kernel) rfl rfl rfl (by decide +kernel)
set_option maxRecDepth 65536 in
theorem w_c31 : (Jvm.Cond.code ({ cls := "java/util/Arrays", name := "copyOfRangeByte", desc := "([BII)[B" } : Jvm.MethodName) jdk_65_method_133_code (5 : Nat) (Option.some (Jvm.ClassFile.FieldType.array Jvm.ClassFile.FieldType.byte))).before args0 about1 = true := code_word (m := ⟨15, 3⟩) (meth := k15m3) (c := k15c3) (by decide +kernel) rfl rfl rfl (by decide +kernel)
set_option maxRecDepth 65536 in
theorem w_c32 : (Jvm.Cond.code ({ cls := "java/util/Arrays", name := "checkLength", desc := "(II)V" } : Jvm.MethodName) jdk_65_method_131_code (2 : Nat) (Option.none : Option Jvm.ClassFile.FieldType)).before args0 about1 = true := code_word (m := ⟨15, 1⟩) (meth := k15m1) (c := k15c1) (by decide +kernel) rfl rfl rfl (by decide +kernel)
set_option maxRecDepth 65536 in
theorem w_c33 : (Jvm.Cond.code ({ cls := "java/lang/Math", name := "min", desc := "(II)I" } : Jvm.MethodName) jdk_29_method_69_code (2 : Nat) (Option.some Jvm.ClassFile.FieldType.int)).before args0 about1 = true := code_word (m := ⟨16, 1⟩) (meth := k16m1) (c := k16c1) (by decide +kernel) rfl rfl rfl (by decide +kernel)
set_option maxRecDepth 65536 in
theorem w_c34 : (Jvm.Cond.code ({ cls := "java/lang/String", name := "equals", desc := "(Ljava/lang/Object;)Z" } : Jvm.MethodName) jdk_42_method_66_code (3 : Nat) (Option.some Jvm.ClassFile.FieldType.boolean)).before args0 about1 = true := code_word (m := ⟨9, 4⟩) (meth := k9m4) (c := k9c4) (by decide +kernel) rfl rfl rfl (by decide +kernel)
set_option maxRecDepth 65536 in
theorem w_c35 : (Jvm.Cond.code ({ cls := "java/lang/StringLatin1", name := "equals", desc := "([B[B)Z" } : Jvm.MethodName) jdk_43_method_13_code (3 : Nat) (Option.some Jvm.ClassFile.FieldType.boolean)).before args0 about1 = true := code_word (m := ⟨17, 2⟩) (meth := k17m2) (c := k17c2) (by decide +kernel) rfl rfl rfl (by decide +kernel)
set_option maxRecDepth 65536 in
theorem w_c36 : (Jvm.Cond.code ({ cls := "java/lang/String", name := "valueOf", desc := "(C)Ljava/lang/String;" } : Jvm.MethodName) jdk_42_method_139_code (1 : Nat) (Option.some (Jvm.ClassFile.FieldType.object "java/lang/String"))).before args0 about1 = true := code_word (m := ⟨9, 5⟩) (meth := k9m5) (c := k9c5) (by decide +kernel) rfl rfl rfl (by decide +kernel)
set_option maxRecDepth 65536 in
theorem w_c37 : (Jvm.Cond.code ({ cls := "java/lang/StringLatin1", name := "canEncode", desc := "(C)Z" } : Jvm.MethodName) jdk_43_method_3_code (1 : Nat) (Option.some Jvm.ClassFile.FieldType.boolean)).before args0 about1 = true := code_word (m := ⟨17, 1⟩) (meth := k17m1) (c := k17c1) (by decide +kernel) rfl rfl rfl (by decide +kernel)
set_option maxRecDepth 65536 in
theorem w_c38 : (Jvm.Cond.code ({ cls := "java/lang/StringLatin1", name := "toBytes", desc := "(C)[B" } : Jvm.MethodName) jdk_43_method_46_code (1 : Nat) (Option.some (Jvm.ClassFile.FieldType.array Jvm.ClassFile.FieldType.byte))).before args0 about1 = true := code_word (m := ⟨17, 3⟩) (meth := k17m3) (c := k17c3) (by decide +kernel) rfl rfl rfl (by decide +kernel)
set_option maxRecDepth 65536 in
theorem w_c39 : (Jvm.Cond.code ({ cls := "java/lang/String", name := "<init>", desc := "([BB)V" } : Jvm.MethodName) jdk_42_method_151_code (3 : Nat) (Option.none : Option Jvm.ClassFile.FieldType)).before args0 about1 = true := code_word (m := ⟨9, 9⟩) (meth := k9m9) (c := k9c9) (by decide +kernel) rfl rfl rfl (by decide +kernel)
def codes1 : List Jvm.Cond := [Jvm.Cond.code x code maxLocals ret, Jvm.Cond.code ({ cls := "com/example/triplecast/triplecast/cli/MediaTypeIsPinLaw", name := "ex", desc := "(IIICCCC)C" } : Jvm.MethodName) method_3_code (8 : Nat) (Option.some Jvm.ClassFile.FieldType.char), Jvm.Cond.code ({ cls := "com/example/triplecast/triplecast/cli/MediaTypeIsPinLaw", name := "same", desc := "([C[CII)Z" } : Jvm.MethodName) method_4_code (4 : Nat) (Option.some Jvm.ClassFile.FieldType.boolean), Jvm.Cond.code ({ cls := "com/example/triplecast/triplecast/cli/MediaTypeIsPinLaw", name := "str", desc := "([CI)Ljava/lang/String;" } : Jvm.MethodName) method_5_code (2 : Nat) (Option.some (Jvm.ClassFile.FieldType.object "java/lang/String")), Jvm.Cond.code ({ cls := "java/lang/String", name := "<init>", desc := "([C)V" } : Jvm.MethodName) jdk_42_method_3_code (2 : Nat) (Option.none : Option Jvm.ClassFile.FieldType), Jvm.Cond.code ({ cls := "java/lang/String", name := "<init>", desc := "([CIILjava/lang/Void;)V" } : Jvm.MethodName) jdk_42_method_149_code (6 : Nat) (Option.none : Option Jvm.ClassFile.FieldType), Jvm.Cond.code ({ cls := "java/lang/Object", name := "<init>", desc := "()V" } : Jvm.MethodName) object_method_1_code (1 : Nat) (Option.none : Option Jvm.ClassFile.FieldType), Jvm.Cond.code ({ cls := "java/lang/StringUTF16", name := "compress", desc := "([CII)[B" } : Jvm.MethodName) jdk_52_method_16_code (6 : Nat) (Option.some (Jvm.ClassFile.FieldType.array Jvm.ClassFile.FieldType.byte)), Jvm.Cond.code ({ cls := "java/lang/StringUTF16", name := "compress", desc := "([CI[BII)I" } : Jvm.MethodName) jdk_52_method_21_code (7 : Nat) (Option.some Jvm.ClassFile.FieldType.int), Jvm.Cond.code ({ cls := "java/lang/StringUTF16", name := "coderFromArrayLen", desc := "([BI)B" } : Jvm.MethodName) jdk_52_method_15_code (2 : Nat) (Option.some Jvm.ClassFile.FieldType.byte), Jvm.Cond.code ({ cls := "com/example/triplecast/triplecast/cli/MediaType", name := "<init>", desc := "(Ljava/lang/String;Ljava/lang/String;Ljava/util/Map;)V" } : Jvm.MethodName) prog_6_method_1_code (4 : Nat) (Option.none : Option Jvm.ClassFile.FieldType), Jvm.Cond.code ({ cls := "java/lang/Record", name := "<init>", desc := "()V" } : Jvm.MethodName) jdk_30_method_1_code (1 : Nat) (Option.none : Option Jvm.ClassFile.FieldType), Jvm.Cond.code ({ cls := "com/example/triplecast/triplecast/cli/MediaType", name := "is", desc := "(Ljava/lang/String;)Z" } : Jvm.MethodName) prog_6_method_5_code (2 : Nat) (Option.some Jvm.ClassFile.FieldType.boolean), Jvm.Cond.code ({ cls := "java/lang/StringBuilder", name := "<init>", desc := "()V" } : Jvm.MethodName) jdk_67_method_1_code (1 : Nat) (Option.none : Option Jvm.ClassFile.FieldType), Jvm.Cond.code ({ cls := "java/lang/AbstractStringBuilder", name := "<init>", desc := "(I)V" } : Jvm.MethodName) jdk_68_method_2_code (2 : Nat) (Option.none : Option Jvm.ClassFile.FieldType), Jvm.Cond.code ({ cls := "java/lang/StringBuilder", name := "append", desc := "(Ljava/lang/String;)Ljava/lang/StringBuilder;" } : Jvm.MethodName) jdk_67_method_7_code (2 : Nat) (Option.some (Jvm.ClassFile.FieldType.object "java/lang/StringBuilder")), Jvm.Cond.code ({ cls := "java/lang/AbstractStringBuilder", name := "append", desc := "(Ljava/lang/String;)Ljava/lang/AbstractStringBuilder;" } : Jvm.MethodName) jdk_68_method_22_code (3 : Nat) (Option.some (Jvm.ClassFile.FieldType.object "java/lang/AbstractStringBuilder")), Jvm.Cond.code ({ cls := "java/lang/String", name := "length", desc := "()I" } : Jvm.MethodName) jdk_42_method_54_code (1 : Nat) (Option.some Jvm.ClassFile.FieldType.int), Jvm.Cond.code ({ cls := "java/lang/String", name := "coder", desc := "()B" } : Jvm.MethodName) jdk_42_method_152_code (1 : Nat) (Option.some Jvm.ClassFile.FieldType.byte), Jvm.Cond.code ({ cls := "java/lang/AbstractStringBuilder", name := "ensureCapacityInternal", desc := "(I)V" } : Jvm.MethodName) jdk_68_method_9_code (3 : Nat) (Option.none : Option Jvm.ClassFile.FieldType), Jvm.Cond.code ({ cls := "java/lang/AbstractStringBuilder", name := "putStringAt", desc := "(ILjava/lang/String;)V" } : Jvm.MethodName) jdk_68_method_73_code (3 : Nat) (Option.none : Option Jvm.ClassFile.FieldType), Jvm.Cond.code ({ cls := "java/lang/AbstractStringBuilder", name := "inflateIfNeededFor", desc := "(Ljava/lang/String;)V" } : Jvm.MethodName) jdk_68_method_71_code (2 : Nat) (Option.none : Option Jvm.ClassFile.FieldType), Jvm.Cond.code ({ cls := "java/lang/String", name := "getBytes", desc := "([BIB)V" } : Jvm.MethodName) jdk_42_method_147_code (4 : Nat) (Option.none : Option Jvm.ClassFile.FieldType), Jvm.Cond.code ({ cls := "java/lang/StringBuilder", name := "toString", desc := "()Ljava/lang/String;" } : Jvm.MethodName) jdk_67_method_42_code (1 : Nat) (Option.some (Jvm.ClassFile.FieldType.object "java/lang/String")), Jvm.Cond.code ({ cls := "java/lang/String", name := "<init>", desc := "(Ljava/lang/StringBuilder;)V" } : Jvm.MethodName) jdk_42_method_53_code (2 : Nat) (Option.none : Option Jvm.ClassFile.FieldType), Jvm.Cond.code ({ cls := "java/lang/String", name := "<init>", desc := "(Ljava/lang/AbstractStringBuilder;Ljava/lang/Void;)V" } : Jvm.MethodName) jdk_42_method_150_code (5 : Nat) (Option.none : Option Jvm.ClassFile.FieldType), Jvm.Cond.code ({ cls := "java/lang/AbstractStringBuilder", name := "getValue", desc := "()[B" } : Jvm.MethodName) jdk_68_method_64_code (1 : Nat) (Option.some (Jvm.ClassFile.FieldType.array Jvm.ClassFile.FieldType.byte)), Jvm.Cond.code ({ cls := "java/lang/StringBuilder", name := "length", desc := "()I" } : Jvm.MethodName) jdk_67_method_93_code (1 : Nat) (Option.some Jvm.ClassFile.FieldType.int), Jvm.Cond.code ({ cls := "java/lang/AbstractStringBuilder", name := "length", desc := "()I" } : Jvm.MethodName) jdk_68_method_6_code (1 : Nat) (Option.some Jvm.ClassFile.FieldType.int), Jvm.Cond.code ({ cls := "java/lang/AbstractStringBuilder", name := "isLatin1", desc := "()Z" } : Jvm.MethodName) jdk_68_method_68_code (1 : Nat) (Option.some Jvm.ClassFile.FieldType.boolean), Jvm.Cond.code ({ cls := "java/util/Arrays", name := "copyOfRange", desc := "([BII)[B" } : Jvm.MethodName) jdk_65_method_132_code (3 : Nat) (Option.some (Jvm.ClassFile.FieldType.array Jvm.ClassFile.FieldType.byte)), Jvm.Cond.code ({ cls := "java/util/Arrays", name := "copyOfRangeByte", desc := "([BII)[B" } : Jvm.MethodName) jdk_65_method_133_code (5 : Nat) (Option.some (Jvm.ClassFile.FieldType.array Jvm.ClassFile.FieldType.byte)), Jvm.Cond.code ({ cls := "java/util/Arrays", name := "checkLength", desc := "(II)V" } : Jvm.MethodName) jdk_65_method_131_code (2 : Nat) (Option.none : Option Jvm.ClassFile.FieldType), Jvm.Cond.code ({ cls := "java/lang/Math", name := "min", desc := "(II)I" } : Jvm.MethodName) jdk_29_method_69_code (2 : Nat) (Option.some Jvm.ClassFile.FieldType.int), Jvm.Cond.code ({ cls := "java/lang/String", name := "equals", desc := "(Ljava/lang/Object;)Z" } : Jvm.MethodName) jdk_42_method_66_code (3 : Nat) (Option.some Jvm.ClassFile.FieldType.boolean), Jvm.Cond.code ({ cls := "java/lang/StringLatin1", name := "equals", desc := "([B[B)Z" } : Jvm.MethodName) jdk_43_method_13_code (3 : Nat) (Option.some Jvm.ClassFile.FieldType.boolean), Jvm.Cond.code ({ cls := "java/lang/String", name := "valueOf", desc := "(C)Ljava/lang/String;" } : Jvm.MethodName) jdk_42_method_139_code (1 : Nat) (Option.some (Jvm.ClassFile.FieldType.object "java/lang/String")), Jvm.Cond.code ({ cls := "java/lang/StringLatin1", name := "canEncode", desc := "(C)Z" } : Jvm.MethodName) jdk_43_method_3_code (1 : Nat) (Option.some Jvm.ClassFile.FieldType.boolean), Jvm.Cond.code ({ cls := "java/lang/StringLatin1", name := "toBytes", desc := "(C)[B" } : Jvm.MethodName) jdk_43_method_46_code (1 : Nat) (Option.some (Jvm.ClassFile.FieldType.array Jvm.ClassFile.FieldType.byte)), Jvm.Cond.code ({ cls := "java/lang/String", name := "<init>", desc := "([BB)V" } : Jvm.MethodName) jdk_42_method_151_code (3 : Nat) (Option.none : Option Jvm.ClassFile.FieldType)]
set_option maxRecDepth 65536 in
theorem codes_eq : words1.filter isCode = codes1 := rfl
theorem w_codes : ∀ c ∈ words1.filter isCode, c.before args0 about1 = true := by
  rw [codes_eq]
  intro c hc
  simp only [codes1, List.mem_cons, List.not_mem_nil, or_false] at hc
  rcases hc with rfl | rfl | rfl | rfl | rfl | rfl | rfl | rfl | rfl | rfl | rfl | rfl | rfl | rfl | rfl | rfl | rfl | rfl | rfl | rfl | rfl | rfl | rfl | rfl | rfl | rfl | rfl | rfl | rfl | rfl | rfl | rfl | rfl | rfl | rfl | rfl | rfl | rfl | rfl | rfl
  · exact w_c0
  · exact w_c1
  · exact w_c2
  · exact w_c3
  · exact w_c4
  · exact w_c5
  · exact w_c6
  · exact w_c7
  · exact w_c8
  · exact w_c9
  · exact w_c10
  · exact w_c11
  · exact w_c12
  · exact w_c13
  · exact w_c14
  · exact w_c15
  · exact w_c16
  · exact w_c17
  · exact w_c18
  · exact w_c19
  · exact w_c20
  · exact w_c21
  · exact w_c22
  · exact w_c23
  · exact w_c24
  · exact w_c25
  · exact w_c26
  · exact w_c27
  · exact w_c28
  · exact w_c29
  · exact w_c30
  · exact w_c31
  · exact w_c32
  · exact w_c33
  · exact w_c34
  · exact w_c35
  · exact w_c36
  · exact w_c37
  · exact w_c38
  · exact w_c39
set_option maxRecDepth 65536 in
theorem w_t1 : (words1.take 24).all (fun c => isCode c || c.before args0 about1) = true := by decide +kernel
set_option maxRecDepth 65536 in
theorem w_t2 : ((words1.drop 24).take 24).all (fun c => isCode c || c.before args0 about1) = true := by decide +kernel
set_option maxRecDepth 65536 in
theorem w_t3 : (((words1.drop 24).drop 24).take 24).all (fun c => isCode c || c.before args0 about1) = true := by decide +kernel
set_option maxRecDepth 65536 in
theorem w_t4 : ((((words1.drop 24).drop 24).drop 24).take 24).all (fun c => isCode c || c.before args0 about1) = true := by decide +kernel
set_option maxRecDepth 65536 in
theorem w_t5 : (((((words1.drop 24).drop 24).drop 24).drop 24).take 24).all (fun c => isCode c || c.before args0 about1) = true := by decide +kernel
set_option maxRecDepth 65536 in
theorem w_t6 : ((((((words1.drop 24).drop 24).drop 24).drop 24).drop 24).take 24).all (fun c => isCode c || c.before args0 about1) = true := by decide +kernel
set_option maxRecDepth 65536 in
theorem w_t7 : (((((((words1.drop 24).drop 24).drop 24).drop 24).drop 24).drop 24).take 24).all (fun c => isCode c || c.before args0 about1) = true := by decide +kernel
set_option maxRecDepth 65536 in
theorem w_t8 : ((((((((words1.drop 24).drop 24).drop 24).drop 24).drop 24).drop 24).drop 24).take 24).all (fun c => isCode c || c.before args0 about1) = true := by decide +kernel
set_option maxRecDepth 65536 in
theorem w_t9 : ((((((((words1.drop 24).drop 24).drop 24).drop 24).drop 24).drop 24).drop 24).drop 24).all (fun c => isCode c || c.before args0 about1) = true := by decide +kernel
theorem w_tables : (allAtoms (Jvm.Cond.code x code maxLocals ret :: tables_1)).before args0 about1 = true := by
  rw [allAtoms_all]
  show words1.all (fun c => c.before args0 about1) = true
  refine all_split ?_ w_codes
  rw [← List.take_append_drop 24 words1, List.all_append, w_t1, ← List.take_append_drop 24 (words1.drop 24), List.all_append, w_t2, ← List.take_append_drop 24 ((words1.drop 24).drop 24), List.all_append, w_t3, ← List.take_append_drop 24 (((words1.drop 24).drop 24).drop 24), List.all_append, w_t4, ← List.take_append_drop 24 ((((words1.drop 24).drop 24).drop 24).drop 24), List.all_append, w_t5, ← List.take_append_drop 24 (((((words1.drop 24).drop 24).drop 24).drop 24).drop 24), List.all_append, w_t6, ← List.take_append_drop 24 ((((((words1.drop 24).drop 24).drop 24).drop 24).drop 24).drop 24), List.all_append, w_t7, ← List.take_append_drop 24 (((((((words1.drop 24).drop 24).drop 24).drop 24).drop 24).drop 24).drop 24), List.all_append, w_t8, w_t9]
  rfl
set_option maxRecDepth 65536 in
theorem w_rest : rest_1_c.before args0 about1 = true := by decide +kernel
set_option maxRecDepth 65536 in
theorem w_case : (Jvm.Cond.and given_1 narrow_1).before args0 about1 = true := by decide +kernel
set_option maxRecDepth 65536 in
theorem w_consts : constsHeld consts_1 about1 := Jvm.Lit.constsHeldB_iff.mp (by decide +kernel)
theorem w_applies : (headSpec (Jvm.Cond.code x code maxLocals ret :: tables_1) room_1).applies x e0.platform about1 = true :=
  (Spec.applies_iff w_frames).mpr ⟨w_running, w_runnable, w_alone, w_named, w_hears, w_ripe, w_room, w_tables⟩
theorem atStart : AtStart classFile x code maxLocals ret World_1 tables_1 room_1 Calls_1 rest_1 Pre_1 launch0 p0 e0 about1 theMethod args0 below0 :=
  ⟨lists_1, trivial, launch0.admits_env _ _ _, launch0.least_env, fairChoices_fair.cas, fairChoices_fair.clock, w_frames, w_args, w_heap, w_applies, ⟨w_consts, trivial⟩, w_rest, w_case⟩
end start1
theorem witness_1 : WitnessClaimed_1 := ⟨start1.p0, start1.e0, start1.about1, start1.theMethod, start1.args0, start1.below0, start1.atStart⟩
end Jvm.Pilot.@@N@@
