import JvmDerived
import JvmDerived.Pilot.@@N@@Statement
import JvmDerived.Pilot.@@N@@Code
set_option linter.unusedVariables false
set_option linter.unusedSimpArgs false
namespace Jvm.Own
open Jvm Jvm.ClassFile Sem Op Lib Jvm.Free Jvm.Stand Jvm.LawKit Jvm.RoadKit Bundle
/-- from pc, with these locals and this stack, over the heap h, the body runs to its return, and Q holds of what it returns and of the heap it leaves -/
def Go (l : Launch) (Z : State) (n0 : Nat) (R : Room) (own nm : String) (code : ByteArray) (mL : Nat) (ret : Option FieldType) (I : State → Heap → Prop) (F : State → Option Value → State → List Loc → Prop)
    (h : Heap) (cells slots pc : Nat) (Ls : Array Slot) (st : List Value) : Prop :=
  ∀ (p : Program) (e : Env) (s : State) (m : MethodId) (args : Array Value) (below : List Frame) (meth : Method) (c : Code) (T : State) (locs : List Loc),
    p.tables.exec = Jvm.exec → Z.Warmed39 s.vm → s.vm.findClass own = some m.cls → meth.name = nm → c.code = code → c.maxLocals = mL → meth.sig.returnType = ret → meth.locks = false →
    Stand p l e R s m args below meth c T locs cells slots → Fr n0 locs → T.heap = h → I s h →
    ∃ s₂ v L, Steps p.tables e below (T.setTop (mkF m pc Ls st)) s₂ ∧ s₂.status = .running ∧ Ended s₂ below (.returned v) ∧ F s v s₂ L
/-- nothing is asked beside -/
abbrev IN : State → Heap → Prop := fun _ _ => True
/-- the end of a walk that interns nothing -/
def FN (n0 : Nat) (R : Room) (Q : Option Value → Heap → Prop) : State → Option Value → State → List Loc → Prop := fun s v s₂ L => Fr n0 L ∧ Q v s₂.heap ∧ FrameEnd s (.returned v) s₂ L R.cells R.slots
/-- a body's contract: called with as' over the heap h0 it returns, and Q holds -/
def Ct (l : Launch) (Z : State) (n0 : Nat) (own nm ds : String) (ws : List Cond) (code : ByteArray) (mL : Nat) (ret : Option FieldType) (rm : Room) (as' : Array Value) (h0 : Heap) (Q : Option Value → Heap → Prop) : Prop :=
  MetFree l (⟨own, nm, ds⟩ : MethodName) (head1 (Cond.code (⟨own, nm, ds⟩ : MethodName) code mL ret :: ws) rm) (fun a U => a = as' ∧ Z.Warmed39 U.vm ∧ U.heap = h0) (fun _ _ _ _ _ => True)
    (fun _ U o U' => ∃ v L, o = .returned v ∧ (Fr n0 L ∧ Q v U'.heap) ∧ FrameEnd U o U' L rm.cells rm.slots)
theorem cat_ref {v : Value} (h : v.isRef = true) : v.category = 1 := by cases v <;> simp_all [Value.isRef, Value.category]
theorem fits_ref' {v : Value} {C : String} (h : v.isRef = true) : fits (.object C) v = true := by cases v <;> simp_all [Value.isRef, fits]
theorem st_at {Ls Ls' : Array Slot} {k : Nat} {v : Value} {o : Slot} (hold : Ls[k]? = some o) (ho : One o) (hv : v.category = 1) (e : Ls.setIfInBounds k (.val v) = Ls') : storeLocals Ls k v = some Ls' := by rw [XS.store1 hold ho hv, e]
/-- null, or an object of just that class -/
def Nul (Z : State) (h : Heap) (v : Value) (C : String) : Prop := v = .null ∨ ∃ a, v = .ref a ∧ Exa Z h a C
theorem Nul.keep {Z : State} {h h' : Heap} {v : Value} {C : String} {ws : List Addr} (F : Nul Z h v C) (K : Keep h h' ws) : Nul Z h' v C := F.imp id fun ⟨a, e, E⟩ => ⟨a, e, E.keep K⟩
theorem Nul.isRef {Z : State} {h : Heap} {v : Value} {C : String} (F : Nul Z h v C) : v.isRef = true := by rcases F with rfl | ⟨a, rfl, -⟩ <;> rfl
theorem Nul.ins {Z : State} {h : Heap} {v : Value} {C : String} (F : Nul Z h v C) : v = .null ∨ ∃ a, v = .ref a ∧ Ins Z h a C true := F.imp id fun ⟨a, e, E⟩ => ⟨a, e, Ins.self E⟩
/-- a private method of a class that can be made selects itself -/
theorem sel_priv {Z : State} {a0 : Array Value} {y : MethodName} {n : Nat} (wi : (Cond.instantiable y.cls n).before a0 Z = true) (wm : (Cond.instanceMethod y).before a0 Z = true) (wp : (Cond.privateMethod y).before a0 Z = true) (hy : y.cls ≠ "java/lang/invoke/MethodHandle" ∧ y.cls ≠ "java/lang/invoke/VarHandle") : (Cond.selects y.cls y y).before a0 Z = true := by
  obtain ⟨mk, meth, hnamed, hmeth, -, -⟩ := Cond.instanceMethod_spec wm
  obtain ⟨c, k, hc, hk, -, hi, -, -⟩ := Cond.instantiable_spec wi
  have hfound := State.methodFound?_of_named hnamed hy
  have hc' := findClass_of_methodNamed hnamed
  cases hc.symm.trans hc'
  have hsel : selectMethod {} Z.vm mk.cls mk = .method mk := selectMethod_private hmeth (Cond.privateMethod_at wp mk meth hnamed hmeth)
  have hni : k.isInterface = false := by simp only [Bool.or_eq_false_iff] at hi; exact hi.1
  simp [Cond.before, Cond.holds, Cond.value, hc', hfound, hnamed, hsel, hk, hni]
/-- a call that is paid: by whatever theorem -/
def Pays (l : Launch) (Z : State) (n0 : Nat) (R : Room) (y : MethodName) (len W : Nat) (as' : Array Value) (h : Heap) (kc ks : Nat) (Q : Option Value → Heap → Prop) : Prop :=
  ∀ (p : Program) (e : Env) (below : List Frame) (s : State) (args : Array Value), Z.Warmed39 s.vm →
    Back l R p e below s args y len W (fun A a => a = as' ∧ A.U.heap = h ∧ A.cells + kc ≤ R.cells ∧ A.slots + ks ≤ R.slots) (fun A _ v B => ∃ L, (Fr n0 L ∧ Q v B.U.heap) ∧ B.locs = A.locs ++ L ∧ B.cells = A.cells + kc ∧ B.slots = A.slots + ks)
theorem nI {h : Heap} {ws : List Addr} : ∀ (s : State) (h' : Heap), Keep h h' ws → IN s h → IN s h' := fun _ _ _ _ => trivial
theorem nE {h : Heap} : ∀ (s : State) (h' : Heap), Ext h h' → h.size < h'.size → IN s h → IN s h' := fun _ _ _ _ _ => trivial
theorem nQ {h : Heap} {Q : Option Value → Heap → Prop} : ∀ (v : Option Value) (s : State) (h' : Heap), Q v h' → IN s h → IN s h' := fun _ _ _ _ _ => trivial
section Go
variable {l : Launch} {Z : State} {n0 : Nat} {R : Room} {own nm : String} {code : ByteArray} {mL : Nat} {ret : Option FieldType} {Q : Option Value → Heap → Prop} {I I' : State → Heap → Prop} {F : State → Option Value → State → List Loc → Prop} {h : Heap} {cells slots pc : Nat} {Ls : Array Slot} {st rest : List Value} {a0 : Array Value}
theorem Ct.of_go {ds : String} {ws : List Cond} {rm : Room} {as' : Array Value} {h0 : Heap} (hp : plainFor (⟨own, nm, ds⟩ : MethodName) = true) (hef : ∀ m, entryFrame m as' mL = mkF m 0 Ls []) (hg : Go l Z n0 rm own nm code mL ret IN (FN n0 rm Q) h0 0 0 0 Ls []) : Ct l Z n0 own nm ds ws code mL ret rm as' h0 Q := by
  refine MetFree.of_bodySF hp hisR ?_
  intro p e s m args below meth c s₁ Bd hml hP hK
  obtain ⟨rfl, hZ, hh⟩ := hP
  have hown : s.vm.findClass own = some m.cls := findClass_of_methodNamed Bd.named
  have hnm := (name_of_methodNamed Bd.named Bd.method).1
  have X0 : Stand p l e rm s m args below meth c s₁ [] 0 0 := Stand.of_body Bd
  have e0 : s₁.heap = h0 := by rw [← hh, Bd.state]; rfl
  obtain ⟨s₂, v, L, h1, h2, h3, h4, h5, h6⟩ := hg p e s m args below meth c s₁ [] Bd.exec hZ hown hnm Bd.bytes hml Bd.returns Bd.notSynchronized X0 (Fr.nil n0) e0 trivial
  exact ⟨s₂, _, castTop (hef m) h1, h2, h3, v, L, rfl, ⟨h4, h5⟩, h6⟩
theorem Ct.mono {ds : String} {ws : List Cond} {rm : Room} {as' : Array Value} {h0 : Heap} {Q' : Option Value → Heap → Prop} (C : Ct l Z n0 own nm ds ws code mL ret rm as' h0 Q) (hq : ∀ v h, Q v h → Q' v h) : Ct l Z n0 own nm ds ws code mL ret rm as' h0 Q' := by
  intro p e ha hc hk s m args below hf happ hP hK
  obtain ⟨n, o, h1, h2, h3, v, L, h4, ⟨h5, h6⟩, h7⟩ := C p e ha hc hk s m args below hf happ hP hK
  exact ⟨n, o, h1, h2, h3, v, L, h4, ⟨h5, hq _ _ h6⟩, h7⟩
theorem Go.more {cells' slots' : Nat} (hg : Go l Z n0 R own nm code mL ret I F h cells' slots' pc Ls st) (hc : cells ≤ cells') (hs : slots ≤ slots') : Go l Z n0 R own nm code mL ret I F h cells slots pc Ls st := by
  intro p e s m args below meth c T locs hx hZ ho hn hc' hm hr hk X N eT hJ
  exact hg p e s m args below meth c T locs hx hZ ho hn hc' hm hr hk (X.more hc hs) N eT hJ
theorem Go.castL {Ls' : Array Slot} (q : Ls = Ls') (hg : Go l Z n0 R own nm code mL ret I F h cells slots pc Ls' st) : Go l Z n0 R own nm code mL ret I F h cells slots pc Ls st := q ▸ hg
/-- a step that leaves the heap as it is -/
theorem Go.pure {pc' : Nat} {Ls' : Array Slot} {st' : List Value}
    (H : ∀ {p : Program} {e : Env} {s : State} {m : MethodId} {args : Array Value} {below : List Frame} {meth : Method} {c : Code} {T : State} {locs : List Loc} {target : State}, p.tables.exec = Jvm.exec → Z.Warmed39 s.vm → s.vm.findClass own = some m.cls → c.code = code →
      Stand p l e R s m args below meth c T locs cells slots → T.heap = h → Steps p.tables e below (T.setTop (mkF m pc' Ls' st')) target → Steps p.tables e below (T.setTop (mkF m pc Ls st)) target)
    (hr : Go l Z n0 R own nm code mL ret I F h cells slots pc' Ls' st') : Go l Z n0 R own nm code mL ret I F h cells slots pc Ls st := by
  intro p e s m args below meth c T locs hx hZ ho hn hc hm hr' hk X N eT hJ
  obtain ⟨s₂, v, L, h1, r⟩ := hr p e s m args below meth c T locs hx hZ ho hn hc hm hr' hk X N eT hJ
  exact ⟨s₂, v, L, H hx hZ ho hc X eT h1, r⟩
/-- a step over the tables that leaves the heap as it is -/
theorem Go.warm {pc' : Nat} {Ls' : Array Slot} {st' : List Value}
    (H : ∀ {p : Program} {e : Env} {s : State} {m : MethodId} {args : Array Value} {below : List Frame} {meth : Method} {c : Code} {T : State} {locs : List Loc}, p.tables.exec = Jvm.exec → Z.Warmed39 s.vm → s.vm.findClass own = some m.cls → c.code = code → c.maxLocals = mL →
      Stand p l e R s m args below meth c T locs cells slots → T.heap = h → ∃ T', Stand p l e R s m args below meth c T' locs cells slots ∧ T'.heap = h ∧ ∀ target, Steps p.tables e below (T'.setTop (mkF m pc' Ls' st')) target → Steps p.tables e below (T.setTop (mkF m pc Ls st)) target)
    (hr : Go l Z n0 R own nm code mL ret I F h cells slots pc' Ls' st') : Go l Z n0 R own nm code mL ret I F h cells slots pc Ls st := by
  intro p e s m args below meth c T locs hx hZ ho hn hc hm hr' hk X N eT hJ
  obtain ⟨T', X', e', stp⟩ := H hx hZ ho hc hm X eT
  obtain ⟨s₂, v, L, h1, r⟩ := hr p e s m args below meth c T' locs hx hZ ho hn hc hm hr' hk X' N e' hJ
  exact ⟨s₂, v, L, stp _ h1, r⟩
/-! plain steps -/
theorem Go.iloadN {k : Fin 4} {v : Int32} (hd : decode code pc = .ok (.iload_n k, 1)) (hl : Ls[k.val]? = some (.val (.int v))) (hr : Go l Z n0 R own nm code mL ret I F h cells slots (pc + 1) Ls (.int v :: st)) : Go l Z n0 R own nm code mL ret I F h cells slots pc Ls st := Go.pure (fun hx _ _ hc X _ k => XS.iloadN X.here hx rfl (hb hc hd) hl k) hr
theorem Go.iload {k : Nat} {v : Int32} (hd : decode code pc = .ok (.iload k, 2)) (hl : Ls[k]? = some (.val (.int v))) (hr : Go l Z n0 R own nm code mL ret I F h cells slots (pc + 2) Ls (.int v :: st)) : Go l Z n0 R own nm code mL ret I F h cells slots pc Ls st := Go.pure (fun hx _ _ hc X _ k => XS.iload X.here hx rfl (hb hc hd) hl k) hr
theorem Go.lloadN {k : Fin 4} {v : Int64} (hd : decode code pc = .ok (.lload_n k, 1)) (hl : Ls[k.val]? = some (.val (.long v))) (hr : Go l Z n0 R own nm code mL ret I F h cells slots (pc + 1) Ls (.long v :: st)) : Go l Z n0 R own nm code mL ret I F h cells slots pc Ls st := Go.pure (fun hx _ _ hc X _ k => XT.lloadN X.here hx rfl (hb hc hd) hl k) hr
theorem Go.lload {k : Nat} {v : Int64} (hd : decode code pc = .ok (.lload k, 2)) (hl : Ls[k]? = some (.val (.long v))) (hr : Go l Z n0 R own nm code mL ret I F h cells slots (pc + 2) Ls (.long v :: st)) : Go l Z n0 R own nm code mL ret I F h cells slots pc Ls st := Go.pure (fun hx _ _ hc X _ k => XT.lload X.here hx rfl (hb hc hd) hl k) hr
theorem Go.aloadN {k : Fin 4} {v : Value} (hd : decode code pc = .ok (.aload_n k, 1)) (hl : Ls[k.val]? = some (.val v)) (hv : v.isRef = true) (hr : Go l Z n0 R own nm code mL ret I F h cells slots (pc + 1) Ls (v :: st)) : Go l Z n0 R own nm code mL ret I F h cells slots pc Ls st := Go.pure (fun hx _ _ hc X _ k => XS.aloadN X.here hx rfl (hb hc hd) hl hv k) hr
theorem Go.aload {k : Nat} {v : Value} (hd : decode code pc = .ok (.aload k, 2)) (hl : Ls[k]? = some (.val v)) (hv : v.isRef = true) (hr : Go l Z n0 R own nm code mL ret I F h cells slots (pc + 2) Ls (v :: st)) : Go l Z n0 R own nm code mL ret I F h cells slots pc Ls st := Go.pure (fun hx _ _ hc X _ k => XS.aload X.here hx rfl (hb hc hd) hl hv k) hr
theorem Go.istoreN {k : Fin 4} {x : Int32} {Ls' : Array Slot} (hd : decode code pc = .ok (.istore_n k, 1)) (hl : storeLocals Ls k.val (.int x) = some Ls') (hr : Go l Z n0 R own nm code mL ret I F h cells slots (pc + 1) Ls' st) : Go l Z n0 R own nm code mL ret I F h cells slots pc Ls (.int x :: st) := Go.pure (fun hx _ _ hc X _ k => XS.istoreN X.here hx rfl (hb hc hd) rfl hl k) hr
theorem Go.istore {k : Nat} {x : Int32} {Ls' : Array Slot} (hd : decode code pc = .ok (.istore k, 2)) (hl : storeLocals Ls k (.int x) = some Ls') (hr : Go l Z n0 R own nm code mL ret I F h cells slots (pc + 2) Ls' st) : Go l Z n0 R own nm code mL ret I F h cells slots pc Ls (.int x :: st) := Go.pure (fun hx _ _ hc X _ k => XS.istore X.here hx rfl (hb hc hd) rfl hl k) hr
theorem Go.lstoreN {k : Fin 4} {x : Int64} {Ls' : Array Slot} (hd : decode code pc = .ok (.lstore_n k, 1)) (hl : storeLocals Ls k.val (.long x) = some Ls') (hr : Go l Z n0 R own nm code mL ret I F h cells slots (pc + 1) Ls' st) : Go l Z n0 R own nm code mL ret I F h cells slots pc Ls (.long x :: st) := Go.pure (fun hx _ _ hc X _ k => XT.lstoreN X.here hx rfl (hb hc hd) rfl hl k) hr
theorem Go.lstore {k : Nat} {x : Int64} {Ls' : Array Slot} (hd : decode code pc = .ok (.lstore k, 2)) (hl : storeLocals Ls k (.long x) = some Ls') (hr : Go l Z n0 R own nm code mL ret I F h cells slots (pc + 2) Ls' st) : Go l Z n0 R own nm code mL ret I F h cells slots pc Ls (.long x :: st) := Go.pure (fun hx _ _ hc X _ k => XT.lstore X.here hx rfl (hb hc hd) rfl hl k) hr
theorem Go.astoreN {k : Fin 4} {x : Value} {Ls' : Array Slot} (hd : decode code pc = .ok (.astore_n k, 1)) (hv : x.isRef = true) (hl : storeLocals Ls k.val x = some Ls') (hr : Go l Z n0 R own nm code mL ret I F h cells slots (pc + 1) Ls' st) : Go l Z n0 R own nm code mL ret I F h cells slots pc Ls (x :: st) := Go.pure (fun hx _ _ hc X _ k => XS.astoreN X.here hx rfl (hb hc hd) rfl hv hl k) hr
theorem Go.astore {k : Nat} {x : Value} {Ls' : Array Slot} (hd : decode code pc = .ok (.astore k, 2)) (hv : x.isRef = true) (hl : storeLocals Ls k x = some Ls') (hr : Go l Z n0 R own nm code mL ret I F h cells slots (pc + 2) Ls' st) : Go l Z n0 R own nm code mL ret I F h cells slots pc Ls (x :: st) := Go.pure (fun hx _ _ hc X _ k => XS.astore X.here hx rfl (hb hc hd) rfl hv hl k) hr
theorem Go.iconst {i : Int} (z : Int32) (hd : decode code pc = .ok (.iconst i, 1)) (hz : Int32.ofInt i = z) (hr : Go l Z n0 R own nm code mL ret I F h cells slots (pc + 1) Ls (.int z :: st)) : Go l Z n0 R own nm code mL ret I F h cells slots pc Ls st := by subst hz; exact Go.pure (fun hx _ _ hc X _ k => XS.iconst X.here hx rfl (hb hc hd) k) hr
theorem Go.bipush {i : Int} (z : Int32) (hd : decode code pc = .ok (.bipush i, 2)) (hz : (Int8.ofInt i).toInt32 = z) (hr : Go l Z n0 R own nm code mL ret I F h cells slots (pc + 2) Ls (.int z :: st)) : Go l Z n0 R own nm code mL ret I F h cells slots pc Ls st := by subst hz; exact Go.pure (fun hx _ _ hc X _ k => XS.bipush X.here hx rfl (hb hc hd) k) hr
theorem Go.sipush {i : Int} (z : Int32) (hd : decode code pc = .ok (.sipush i, 3)) (hz : (Int16.ofInt i).toInt32 = z) (hr : Go l Z n0 R own nm code mL ret I F h cells slots (pc + 3) Ls (.int z :: st)) : Go l Z n0 R own nm code mL ret I F h cells slots pc Ls st := by subst hz; exact Go.pure (fun hx _ _ hc X _ k => XS.sipush X.here hx rfl (hb hc hd) k) hr
theorem Go.null (hd : decode code pc = .ok (.aconst_null, 1)) (hr : Go l Z n0 R own nm code mL ret I F h cells slots (pc + 1) Ls (.null :: st)) : Go l Z n0 R own nm code mL ret I F h cells slots pc Ls st := Go.pure (fun hx _ _ hc X _ k => XS.aconstNull X.here hx rfl (hb hc hd) k) hr
theorem Go.iadd {x y : Int32} (hd : decode code pc = .ok (.iadd, 1)) (hr : Go l Z n0 R own nm code mL ret I F h cells slots (pc + 1) Ls (.int (x + y) :: st)) : Go l Z n0 R own nm code mL ret I F h cells slots pc Ls (.int y :: .int x :: st) := Go.pure (fun hx _ _ hc X _ k => XS.iadd X.here hx rfl (hb hc hd) rfl k) hr
theorem Go.isub {x y : Int32} (hd : decode code pc = .ok (.isub, 1)) (hr : Go l Z n0 R own nm code mL ret I F h cells slots (pc + 1) Ls (.int (x - y) :: st)) : Go l Z n0 R own nm code mL ret I F h cells slots pc Ls (.int y :: .int x :: st) := Go.pure (fun hx _ _ hc X _ k => XS.isub X.here hx rfl (hb hc hd) rfl k) hr
theorem Go.imul {x y : Int32} (hd : decode code pc = .ok (.imul, 1)) (hr : Go l Z n0 R own nm code mL ret I F h cells slots (pc + 1) Ls (.int (x * y) :: st)) : Go l Z n0 R own nm code mL ret I F h cells slots pc Ls (.int y :: .int x :: st) := Go.pure (fun hx _ _ hc X _ k => XS.imul X.here hx rfl (hb hc hd) rfl k) hr
theorem Go.idiv {x y : Int32} (hd : decode code pc = .ok (.idiv, 1)) (hy : y ≠ 0) (hr : Go l Z n0 R own nm code mL ret I F h cells slots (pc + 1) Ls (.int (x / y) :: st)) : Go l Z n0 R own nm code mL ret I F h cells slots pc Ls (.int y :: .int x :: st) := Go.pure (fun hx _ _ hc X _ k => XS.idiv X.here hx rfl (hb hc hd) rfl hy k) hr
theorem Go.irem {x y : Int32} (hd : decode code pc = .ok (.irem, 1)) (hy : y ≠ 0) (hr : Go l Z n0 R own nm code mL ret I F h cells slots (pc + 1) Ls (.int (x % y) :: st)) : Go l Z n0 R own nm code mL ret I F h cells slots pc Ls (.int y :: .int x :: st) := Go.pure (fun hx _ _ hc X _ k => iremM X hx (g := mkF _ pc Ls _) rfl (hb hc hd) rfl hy k) hr
theorem Go.ineg {x : Int32} (hd : decode code pc = .ok (.ineg, 1)) (hr : Go l Z n0 R own nm code mL ret I F h cells slots (pc + 1) Ls (.int (-x) :: st)) : Go l Z n0 R own nm code mL ret I F h cells slots pc Ls (.int x :: st) := Go.pure (fun hx _ _ hc X _ k => XS.ineg X.here hx rfl (hb hc hd) rfl k) hr
theorem Go.iand {x y : Int32} (hd : decode code pc = .ok (.iand, 1)) (hr : Go l Z n0 R own nm code mL ret I F h cells slots (pc + 1) Ls (.int (x &&& y) :: st)) : Go l Z n0 R own nm code mL ret I F h cells slots pc Ls (.int y :: .int x :: st) := Go.pure (fun hx _ _ hc X _ k => XS.iand X.here hx rfl (hb hc hd) rfl k) hr
theorem Go.ior {x y : Int32} (hd : decode code pc = .ok (.ior, 1)) (hr : Go l Z n0 R own nm code mL ret I F h cells slots (pc + 1) Ls (.int (x ||| y) :: st)) : Go l Z n0 R own nm code mL ret I F h cells slots pc Ls (.int y :: .int x :: st) := Go.pure (fun hx _ _ hc X _ k => XT.ior X.here hx rfl (hb hc hd) rfl k) hr
theorem Go.ixor {x y : Int32} (hd : decode code pc = .ok (.ixor, 1)) (hr : Go l Z n0 R own nm code mL ret I F h cells slots (pc + 1) Ls (.int (x ^^^ y) :: st)) : Go l Z n0 R own nm code mL ret I F h cells slots pc Ls (.int y :: .int x :: st) := Go.pure (fun hx _ _ hc X _ k => XT.ixor X.here hx rfl (hb hc hd) rfl k) hr
theorem Go.ishl {x y : Int32} (hd : decode code pc = .ok (.ishl, 1)) (hr : Go l Z n0 R own nm code mL ret I F h cells slots (pc + 1) Ls (.int (x <<< (y &&& 31)) :: st)) : Go l Z n0 R own nm code mL ret I F h cells slots pc Ls (.int y :: .int x :: st) := Go.pure (fun hx _ _ hc X _ k => XT.ishl X.here hx rfl (hb hc hd) rfl k) hr
theorem Go.ishr {x y : Int32} (hd : decode code pc = .ok (.ishr, 1)) (hr : Go l Z n0 R own nm code mL ret I F h cells slots (pc + 1) Ls (.int (x >>> (y &&& 31)) :: st)) : Go l Z n0 R own nm code mL ret I F h cells slots pc Ls (.int y :: .int x :: st) := Go.pure (fun hx _ _ hc X _ k => XT.ishr X.here hx rfl (hb hc hd) rfl k) hr
theorem Go.iushr {x y : Int32} (hd : decode code pc = .ok (.iushr, 1)) (hr : Go l Z n0 R own nm code mL ret I F h cells slots (pc + 1) Ls (.int ((x.toUInt32 >>> (y &&& 31).toUInt32).toInt32) :: st)) : Go l Z n0 R own nm code mL ret I F h cells slots pc Ls (.int y :: .int x :: st) := Go.pure (fun hx _ _ hc X _ k => XT.iushr X.here hx rfl (hb hc hd) rfl k) hr
theorem Go.i2c {x : Int32} (hd : decode code pc = .ok (.i2c, 1)) (hr : Go l Z n0 R own nm code mL ret I F h cells slots (pc + 1) Ls (.int x.toUInt32.toUInt16.toUInt32.toInt32 :: st)) : Go l Z n0 R own nm code mL ret I F h cells slots pc Ls (.int x :: st) := Go.pure (fun hx _ _ hc X _ k => XT.i2c X.here hx rfl (hb hc hd) rfl k) hr
theorem Go.i2b {x : Int32} (hd : decode code pc = .ok (.i2b, 1)) (hr : Go l Z n0 R own nm code mL ret I F h cells slots (pc + 1) Ls (.int x.toInt8.toInt32 :: st)) : Go l Z n0 R own nm code mL ret I F h cells slots pc Ls (.int x :: st) := Go.pure (fun hx _ _ hc X _ k => XT.i2b X.here hx rfl (hb hc hd) rfl k) hr
theorem Go.i2s {x : Int32} (hd : decode code pc = .ok (.i2s, 1)) (hr : Go l Z n0 R own nm code mL ret I F h cells slots (pc + 1) Ls (.int x.toInt16.toInt32 :: st)) : Go l Z n0 R own nm code mL ret I F h cells slots pc Ls (.int x :: st) := Go.pure (fun hx _ _ hc X _ k => XT.i2s X.here hx rfl (hb hc hd) rfl k) hr
theorem Go.iinc {k : Nat} {cst : Int} {x : Int32} {Ls' : Array Slot} (z : Int32) (hz : Int32.ofInt cst = z) (hd : decode code pc = .ok (.iinc k cst, 3)) (hl : Ls[k]? = some (.val (.int x))) (hl' : storeLocals Ls k (.int (x + z)) = some Ls') (hr : Go l Z n0 R own nm code mL ret I F h cells slots (pc + 3) Ls' st) : Go l Z n0 R own nm code mL ret I F h cells slots pc Ls st := by subst hz; exact Go.pure (fun hx _ _ hc X _ k => XS.iinc X.here hx rfl (hb hc hd) hl hl' k) hr
theorem Go.dup {x : Value} (hd : decode code pc = .ok (.dup, 1)) (hc : x.category = 1) (hr : Go l Z n0 R own nm code mL ret I F h cells slots (pc + 1) Ls (x :: x :: st)) : Go l Z n0 R own nm code mL ret I F h cells slots pc Ls (x :: st) := Go.pure (fun hx _ _ hc' X _ k => XS.dup X.here hx rfl (hb hc' hd) rfl hc k) hr
theorem Go.pop {x : Value} (hd : decode code pc = .ok (.pop, 1)) (hc : x.category = 1) (hr : Go l Z n0 R own nm code mL ret I F h cells slots (pc + 1) Ls st) : Go l Z n0 R own nm code mL ret I F h cells slots pc Ls (x :: st) := Go.pure (fun hx _ _ hc' X _ k => XT.pop X.here hx rfl (hb hc' hd) rfl hc k) hr
theorem Go.dupX1 {x y : Value} (hd : decode code pc = .ok (.dup_x1, 1)) (hc : x.category = 1) (hc2 : y.category = 1) (hr : Go l Z n0 R own nm code mL ret I F h cells slots (pc + 1) Ls (x :: y :: x :: st)) : Go l Z n0 R own nm code mL ret I F h cells slots pc Ls (x :: y :: st) := Go.pure (fun hx _ _ hc' X _ k => XT.dupX1 X.here hx rfl (hb hc' hd) rfl hc hc2 k) hr
theorem Go.dup2 {x y : Value} (hd : decode code pc = .ok (.dup2, 1)) (hc : x.category = 1) (hc2 : y.category = 1) (hr : Go l Z n0 R own nm code mL ret I F h cells slots (pc + 1) Ls (x :: y :: x :: y :: st)) : Go l Z n0 R own nm code mL ret I F h cells slots pc Ls (x :: y :: st) := Go.pure (fun hx _ _ hc' X _ k => XT.dup2 X.here hx rfl (hb hc' hd) rfl hc hc2 k) hr
/-! branches -/
theorem Go.goto {o : Int} (pc' : Nat) (hd : decode code pc = .ok (.goto o, 3)) (ho : 0 ≤ (pc : Int) + o) (hp : ((pc : Int) + o).toNat = pc') (hr : Go l Z n0 R own nm code mL ret I F h cells slots pc' Ls st) : Go l Z n0 R own nm code mL ret I F h cells slots pc Ls st := Go.pure (fun hx _ _ hc X _ k => XS.goto X.here hx rfl (pc0 := pc) rfl (hb hc hd) ho hp k) hr
theorem Go.ifT {cd : ClassFile.Cond} {x : Int32} {o : Int} (pc' : Nat) (hd : decode code pc = .ok (.ifCond cd o, 3)) (hc : if_icmp.holds cd x 0 = true) (ho : 0 ≤ (pc : Int) + o) (hp : ((pc : Int) + o).toNat = pc') (hr : Go l Z n0 R own nm code mL ret I F h cells slots pc' Ls st) : Go l Z n0 R own nm code mL ret I F h cells slots pc Ls (.int x :: st) := Go.pure (fun hx _ _ hc' X _ k => XS.ifYes X.here hx rfl (pc0 := pc) rfl (hb hc' hd) rfl ((if0 _ _).trans hc) ho hp k) hr
theorem Go.ifF {cd : ClassFile.Cond} {x : Int32} {o : Int} (hd : decode code pc = .ok (.ifCond cd o, 3)) (hc : if_icmp.holds cd x 0 = false) (hr : Go l Z n0 R own nm code mL ret I F h cells slots (pc + 3) Ls st) : Go l Z n0 R own nm code mL ret I F h cells slots pc Ls (.int x :: st) := Go.pure (fun hx _ _ hc' X _ k => XS.ifNo X.here hx rfl (hb hc' hd) rfl ((if0 _ _).trans hc) k) hr
theorem Go.icT {cd : ClassFile.Cond} {x y : Int32} {o : Int} (pc' : Nat) (hd : decode code pc = .ok (.if_icmp cd o, 3)) (hc : if_icmp.holds cd x y = true) (ho : 0 ≤ (pc : Int) + o) (hp : ((pc : Int) + o).toNat = pc') (hr : Go l Z n0 R own nm code mL ret I F h cells slots pc' Ls st) : Go l Z n0 R own nm code mL ret I F h cells slots pc Ls (.int y :: .int x :: st) := Go.pure (fun hx _ _ hc' X _ k => XS.icmpYes X.here hx rfl (pc0 := pc) rfl (hb hc' hd) rfl hc ho hp k) hr
theorem Go.icF {cd : ClassFile.Cond} {x y : Int32} {o : Int} (hd : decode code pc = .ok (.if_icmp cd o, 3)) (hc : if_icmp.holds cd x y = false) (hr : Go l Z n0 R own nm code mL ret I F h cells slots (pc + 3) Ls st) : Go l Z n0 R own nm code mL ret I F h cells slots pc Ls (.int y :: .int x :: st) := Go.pure (fun hx _ _ hc' X _ k => XS.icmpNo X.here hx rfl (hb hc' hd) rfl hc k) hr
theorem Go.nullT {o : Int} (pc' : Nat) (hd : decode code pc = .ok (.ifnull o, 3)) (ho : 0 ≤ (pc : Int) + o) (hp : ((pc : Int) + o).toNat = pc') (hr : Go l Z n0 R own nm code mL ret I F h cells slots pc' Ls st) : Go l Z n0 R own nm code mL ret I F h cells slots pc Ls (.null :: st) := Go.pure (fun hx _ _ hc' X _ k => XS.ifnullYes X.here hx rfl (pc0 := pc) rfl (hb hc' hd) rfl ho hp k) hr
theorem Go.nullF {o : Int} {b : Addr} (hd : decode code pc = .ok (.ifnull o, 3)) (hr : Go l Z n0 R own nm code mL ret I F h cells slots (pc + 3) Ls st) : Go l Z n0 R own nm code mL ret I F h cells slots pc Ls (.ref b :: st) := Go.pure (fun hx _ _ hc' X _ k => XS.ifnullNo X.here hx rfl (hb hc' hd) rfl k) hr
theorem Go.nnT {o : Int} {b : Addr} (pc' : Nat) (hd : decode code pc = .ok (.ifnonnull o, 3)) (ho : 0 ≤ (pc : Int) + o) (hp : ((pc : Int) + o).toNat = pc') (hr : Go l Z n0 R own nm code mL ret I F h cells slots pc' Ls st) : Go l Z n0 R own nm code mL ret I F h cells slots pc Ls (.ref b :: st) := Go.pure (fun hx _ _ hc' X _ k => XT.ifnonnullYes X.here hx rfl (pc0 := pc) rfl (hb hc' hd) rfl ho hp k) hr
theorem Go.nnF {o : Int} (hd : decode code pc = .ok (.ifnonnull o, 3)) (hr : Go l Z n0 R own nm code mL ret I F h cells slots (pc + 3) Ls st) : Go l Z n0 R own nm code mL ret I F h cells slots pc Ls (.null :: st) := Go.pure (fun hx _ _ hc' X _ k => XT.ifnonnullNo X.here hx rfl (hb hc' hd) rfl k) hr
theorem Go.acmp {cd : ACond} {x y : Value} {o : Int} (pc' : Nat) (same : Bool) (hd : decode code pc = .ok (.if_acmp cd o, 3)) (h1 : x.isRef = true) (h2 : y.isRef = true) (hq : decide (x = y) = same) (ho : 0 ≤ (pc : Int) + o) (hp : pc' = if acV cd same = true then ((pc : Int) + o).toNat else pc + 3) (hr : Go l Z n0 R own nm code mL ret I F h cells slots pc' Ls st) : Go l Z n0 R own nm code mL ret I F h cells slots pc Ls (y :: x :: st) :=
  Go.pure (fun hx _ _ hc' X _ k => Jvm.RoadKit.acmp (g := mkF _ pc Ls _) X hx rfl h1 h2 (pc0 := pc) (same := same) rfl (hb hc' hd) rfl hq ho hp k) hr
/-! constants of the pool -/
theorem Go.ldc {index : Nat} {v : Int32} (w : (Cond.constant own index v).before a0 Z = true) (hd : decode code pc = .ok (.ldc index, 2)) (hr : Go l Z n0 R own nm code mL ret I F h cells slots (pc + 2) Ls (.int v :: st)) : Go l Z n0 R own nm code mL ret I F h cells slots pc Ls st := Go.pure (fun hx hZ ho hc X _ k => X.ldcInt hx ho (mvT hZ w) (g := mkF _ pc Ls st) rfl (hb hc hd) _ k) hr
theorem Go.ldcw {index : Nat} {v : Int32} (w : (Cond.constant own index v).before a0 Z = true) (hd : decode code pc = .ok (.ldc_w index, 3)) (hr : Go l Z n0 R own nm code mL ret I F h cells slots (pc + 3) Ls (.int v :: st)) : Go l Z n0 R own nm code mL ret I F h cells slots pc Ls st := Go.pure (fun hx hZ ho hc X _ k => X.ldcwInt hx ho (mvT hZ w) (g := mkF _ pc Ls st) rfl (hb hc hd) _ k) hr
/-! fields -/
theorem Go.getF {R0 O n d : String} {index : Nat} {a : Addr} {v : Value} (w : (Cond.fieldLink own index R0 n d).before a0 Z = true) (via : Via Z R0 O n d) (FF : Fld Z h a O n d v) (hd : decode code pc = .ok (.getfield index, 3)) (hr : Go l Z n0 R own nm code mL ret I F h cells slots (pc + 3) Ls (v :: st)) : Go l Z n0 R own nm code mL ret I F h cells slots pc Ls (.ref a :: st) :=
  Go.warm (fun hx hZ ho hc _ X eT => Jvm.RoadKit.getF X hx hZ ho (host := "") (Or.inl w) via eT FF (g := mkF _ pc Ls _) rfl rfl (hb hc hd)) hr
theorem Go.getFN {R0 O n d host : String} {index : Nat} {a : Addr} {v : Value} (w : (Cond.fieldLinkNest own index R0 n d host).before a0 Z = true) (via : Via Z R0 O n d) (FF : Fld Z h a O n d v) (hd : decode code pc = .ok (.getfield index, 3)) (hr : Go l Z n0 R own nm code mL ret I F h cells slots (pc + 3) Ls (v :: st)) : Go l Z n0 R own nm code mL ret I F h cells slots pc Ls (.ref a :: st) :=
  Go.warm (fun hx hZ ho hc _ X eT => Jvm.RoadKit.getF X hx hZ ho (Or.inr w) via eT FF (g := mkF _ pc Ls _) rfl rfl (hb hc hd)) hr
theorem Go.getS {R0 O n d : String} {index : Nat} {v : Value} (w : (Cond.fieldLink own index R0 n d).before a0 Z = true) (via : Via Z R0 O n d) (FF : Sta Z h O n d v) (hd : decode code pc = .ok (.getstatic index, 3)) (hr : Go l Z n0 R own nm code mL ret I F h cells slots (pc + 3) Ls (v :: st)) : Go l Z n0 R own nm code mL ret I F h cells slots pc Ls st :=
  Go.warm (fun hx hZ ho hc _ X eT => Jvm.RoadKit.getS2 X hx hZ ho (host := "") (Or.inl w) via eT FF (g := mkF _ pc Ls st) rfl (hb hc hd)) hr
theorem Go.putF {R0 O n d C : String} {index kk : Nat} {ty : FieldType} {a : Addr} {v old : Value} (w : (Cond.fieldLink own index R0 n d).before a0 Z = true) (via : Via Z R0 O n d) (FF : Fld Z h a O n d old) (E : Exa Z h a C) (L : (Cond.lays C O n d).before a0 Z = true ∨ ((Cond.laysFinal C O n d).before a0 Z = true ∧ own = O ∧ nm = "<init>")) (wi : (Cond.instantiable C kk).before a0 Z = true)
    (hty : parseFieldDescriptor d = some ty) (hnw : narrow ty v = v) (hf : fits ty v = true) (q : n0 ≤ a) (hd : decode code pc = .ok (.putfield index, 3)) (hI : ∀ (s : State) (h' : Heap), Keep h h' [a] → I s h → I' s h') (hr : ∀ h', Wr h h' a (Jvm.RoadKit.slotOf Z O n d) v → Go l Z n0 R own nm code mL ret I' F h' cells slots (pc + 3) Ls st) : Go l Z n0 R own nm code mL ret I F h cells slots pc Ls (v :: .ref a :: st) := by
  intro p e s m args below meth c T locs hx hZ ho hn hc hm hr' hk X N eT hJ
  obtain ⟨T', h', X', e', W', stp⟩ := Jvm.RoadKit.putF X hx hZ ho (host := "") (Or.inl w) via eT FF E (L.imp id fun z => ⟨z.1, z.2.1, hn.trans z.2.2⟩) wi hty hnw hf (g := mkF m pc Ls (v :: .ref a :: st)) rfl rfl (hb hc hd)
  obtain ⟨s₂, v, L, h1, r⟩ := hr h' W' p e s m args below meth c T' _ hx hZ ho hn hc hm hr' hk X' (Fr.snoc X' N q) e' (hI s h' (Keep.of_wr W') hJ)
  exact ⟨s₂, v, L, stp _ h1, r⟩
/-- a field of a narrow kind -/
theorem Go.putFN {R0 O n d C : String} {index kk : Nat} {ty : FieldType} {a : Addr} {v v' old : Value} (w : (Cond.fieldLink own index R0 n d).before a0 Z = true) (via : Via Z R0 O n d) (FF : Fld Z h a O n d old) (E : Exa Z h a C) (L : (Cond.lays C O n d).before a0 Z = true ∨ ((Cond.laysFinal C O n d).before a0 Z = true ∧ own = O ∧ nm = "<init>")) (wi : (Cond.instantiable C kk).before a0 Z = true)
    (hty : parseFieldDescriptor d = some ty) (hnw : narrow ty v = v') (hf : fits ty v' = true) (q : n0 ≤ a) (hd : decode code pc = .ok (.putfield index, 3)) (hI : ∀ (s : State) (h' : Heap), Keep h h' [a] → I s h → I' s h') (hr : ∀ h', Wr h h' a (Jvm.RoadKit.slotOf Z O n d) v' → Go l Z n0 R own nm code mL ret I' F h' cells slots (pc + 3) Ls st) : Go l Z n0 R own nm code mL ret I F h cells slots pc Ls (v :: .ref a :: st) := by
  intro p e s m args below meth c T locs hx hZ ho hn hc hm hr' hk X N eT hJ
  obtain ⟨T', h', X', e', W', stp⟩ := Jvm.RoadKit.putFN X hx hZ ho w via eT FF E (L.imp id fun z => ⟨z.1, z.2.1, hn.trans z.2.2⟩) wi hty hnw hf (g := mkF m pc Ls (v :: .ref a :: st)) rfl rfl (hb hc hd)
  obtain ⟨s₂, v, L, h1, r⟩ := hr h' W' p e s m args below meth c T' _ hx hZ ho hn hc hm hr' hk X' (Fr.snoc X' N q) e' (hI s h' (Keep.of_wr W') hJ)
  exact ⟨s₂, v, L, stp _ h1, r⟩
/-! making -/
theorem Go.new {C : String} {index n : Nat} (w : (Cond.classLink own index C).before a0 Z = true) (wi : (Cond.instantiable C n).before a0 Z = true) (wz : (Cond.initialized C).before a0 Z = true) (hd : decode code pc = .ok (.new index, 3)) (hc1 : cells + 1 ≤ R.cells) (hl : slots + n ≤ R.slots)
    (hI : ∀ (s : State) (h' : Heap), Ext h h' → h.size < h'.size → I s h → I' s h') (hr : ∀ (h' : Heap) (b : Addr), b = h.size → Ext h h' → Exa Z h' b C → (∀ {O nm d : String} {ty : FieldType}, Laid Z a0 C O nm d → parseFieldDescriptor d = some ty → Fld Z h' b O nm d (defaultValue ty)) → Go l Z n0 R own nm code mL ret I' F h' (cells + 1) (slots + n) (pc + 3) Ls (.ref b :: st)) : Go l Z n0 R own nm code mL ret I F h cells slots pc Ls st := by
  intro p e s m args below meth c T locs hx hZ ho hn hc hm hr' hk X N eT hJ
  obtain ⟨T', h', X', e', E', A', D', -, stp⟩ := newO X hx hZ ho w wi wz eT (g := mkF m pc Ls st) rfl (hb hc hd) hc1 hl
  obtain ⟨s₂, v, L, h1, r⟩ := hr h' _ rfl E' A' D' p e s m args below meth c T' _ hx hZ ho hn hc hm hr' hk X' N e' (hI s h' E' A'.lt hJ)
  exact ⟨s₂, v, L, stp _ h1, r⟩
theorem Go.newP {aty : ArrayType} (ty : FieldType) {n : Int32} (w : (Cond.arrayClass ty).before a0 Z = true) (hty : newarray.typeOf aty = ty) (hd : decode code pc = .ok (.newarray aty, 2)) (hn0 : ¬ n < 0) (cap : Nat) (hcap : n.toNatClampNeg ≤ cap) (hb0 : cap * 8 ≤ 536870912) (hc1 : cells + 1 ≤ R.cells) (hl : slots + cap ≤ R.slots)
    (hI : ∀ (s : State) (h' : Heap), Ext h h' → h.size < h'.size → I s h → I' s h') (hr : ∀ (h' : Heap) (b : Addr) (k : ClassId), b = h.size → Ext h h' → Arv Z h' b k ty n [] (defaultValue ty) → Go l Z n0 R own nm code mL ret I' F h' (cells + 1) (slots + cap) (pc + 2) Ls (.ref b :: st)) : Go l Z n0 R own nm code mL ret I F h cells slots pc Ls (.int n :: st) := by
  subst hty
  intro p e s m args below meth c T locs hx hZ ho hn hc hm hr' hk X N eT hJ
  obtain ⟨T', h', k, X', e', E', A', stp⟩ := Jvm.RoadKit.newP X hx hZ w eT (g := mkF m pc Ls (.int n :: st)) rfl (hb hc hd) rfl hn0 hcap hb0 hc1 hl
  obtain ⟨s₂, v, L, h1, r⟩ := hr h' _ k rfl E' (Arv.new A' hn0) p e s m args below meth c T' _ hx hZ ho hn hc hm hr' hk X' N e' (hI s h' E' A'.lt hJ)
  exact ⟨s₂, v, L, stp _ h1, r⟩
theorem Go.newR {C : String} {index : Nat} {n : Int32} (w : (Cond.classLink own index C).before a0 Z = true) (w2 : (Cond.arrayOver (.object C)).before a0 Z = true) (hd : decode code pc = .ok (.anewarray index, 3)) (hn0 : ¬ n < 0) (cap : Nat) (hcap : n.toNatClampNeg ≤ cap) (hb0 : cap * 8 ≤ 536870912) (hc1 : cells + 1 ≤ R.cells) (hl : slots + cap ≤ R.slots)
    (hI : ∀ (s : State) (h' : Heap), Ext h h' → h.size < h'.size → I s h → I' s h') (hr : ∀ (h' : Heap) (b : Addr) (k : ClassId), b = h.size → Ext h h' → Arv Z h' b k (.object C) n [] .null → Ovr Z k C → Go l Z n0 R own nm code mL ret I' F h' (cells + 1) (slots + cap) (pc + 3) Ls (.ref b :: st)) : Go l Z n0 R own nm code mL ret I F h cells slots pc Ls (.int n :: st) := by
  intro p e s m args below meth c T locs hx hZ ho hn hc hm hr' hk X N eT hJ
  obtain ⟨T', h', k, X', e', E', A', O', stp⟩ := Jvm.RoadKit.newR X hx hZ ho w w2 eT (g := mkF m pc Ls (.int n :: st)) rfl (hb hc hd) rfl hn0 hcap hb0 hc1 hl
  obtain ⟨s₂, v, L, h1, r⟩ := hr h' _ k rfl E' (Arv.new A' hn0) O' p e s m args below meth c T' _ hx hZ ho hn hc hm hr' hk X' N e' (hI s h' E' A'.lt hJ)
  exact ⟨s₂, v, L, stp _ h1, r⟩
theorem Go.newPE {aty : ArrayType} (ty : FieldType) (ad : String) {n : Int32} (w : (Cond.arrayClass ty).before a0 Z = true) (hty : newarray.typeOf aty = ty) (had : "[" ++ ty.toString = ad) (hd : decode code pc = .ok (.newarray aty, 2)) (hn0 : ¬ n < 0) (cap : Nat) (hcap : n.toNatClampNeg ≤ cap) (hb0 : cap * 8 ≤ 536870912) (hc1 : cells + 1 ≤ R.cells) (hl : slots + cap ≤ R.slots)
    (hI : ∀ (s : State) (h' : Heap), Ext h h' → h.size < h'.size → I s h → I' s h') (hr : ∀ (h' : Heap) (b : Addr) (k : ClassId), b = h.size → Ext h h' → Arv Z h' b k ty n [] (defaultValue ty) → Exa Z h' b ad → Go l Z n0 R own nm code mL ret I' F h' (cells + 1) (slots + cap) (pc + 2) Ls (.ref b :: st)) : Go l Z n0 R own nm code mL ret I F h cells slots pc Ls (.int n :: st) := by
  subst hty
  intro p e s m args below meth c T locs hx hZ ho hn hc hm hr' hk X N eT hJ
  obtain ⟨T', h', k, X', e', E', A', X2, stp⟩ := Jvm.RoadKit.newPE X hx hZ w eT (g := mkF m pc Ls (.int n :: st)) rfl (hb hc hd) rfl hn0 hcap hb0 hc1 hl had
  obtain ⟨s₂, v, L, h1, r⟩ := hr h' _ k rfl E' (Arv.new A' hn0) X2 p e s m args below meth c T' _ hx hZ ho hn hc hm hr' hk X' N e' (hI s h' E' A'.lt hJ)
  exact ⟨s₂, v, L, stp _ h1, r⟩
theorem Go.newRA {C : String} {ty : FieldType} {index : Nat} {n : Int32} (w : (Cond.classLink own index C).before a0 Z = true) (w2 : (Cond.arrayOver (.array ty)).before a0 Z = true) (hC : (FieldType.array ty).toString = C) (hd : decode code pc = .ok (.anewarray index, 3)) (hn0 : ¬ n < 0) (cap : Nat) (hcap : n.toNatClampNeg ≤ cap) (hb0 : cap * 8 ≤ 536870912) (hc1 : cells + 1 ≤ R.cells) (hl : slots + cap ≤ R.slots)
    (hI : ∀ (s : State) (h' : Heap), Ext h h' → h.size < h'.size → I s h → I' s h') (hr : ∀ (h' : Heap) (b : Addr) (k : ClassId), b = h.size → Ext h h' → Arv Z h' b k (.array ty) n [] .null → OvrA Z k ty C → Go l Z n0 R own nm code mL ret I' F h' (cells + 1) (slots + cap) (pc + 3) Ls (.ref b :: st)) : Go l Z n0 R own nm code mL ret I F h cells slots pc Ls (.int n :: st) := by
  intro p e s m args below meth c T locs hx hZ ho hn hc hm hr' hk X N eT hJ
  obtain ⟨T', h', k, X', e', E', A', -, O', stp⟩ := Jvm.RoadKit.newRA X hx hZ ho hC w w2 eT (g := mkF m pc Ls (.int n :: st)) rfl (hb hc hd) rfl hn0 hcap hb0 hc1 hl rfl
  obtain ⟨s₂, v, L, h1, r⟩ := hr h' _ k rfl E' (Arv.new A' hn0) O' p e s m args below meth c T' _ hx hZ ho hn hc hm hr' hk X' N e' (hI s h' E' A'.lt hJ)
  exact ⟨s₂, v, L, stp _ h1, r⟩
theorem Go.initO {idx : Nat} {a : Addr} (w1 : (Cond.methodLink own idx Lib.objectInit).before a0 Z = true) (w2 : (Cond.instanceMethod Lib.objectInit).before a0 Z = true) (w3 : (Cond.code Lib.objectInit ⟨#[0xb1]⟩ 1 none).before a0 Z = true) (hd : decode code pc = .ok (.invokespecial idx, 3)) (hsz : Ls.size = mL) (hf : 1 ≤ R.frames) (hl : (st.map fun v => v.category).sum + 12 ≤ R.locals)
    (hr : Go l Z n0 R own nm code mL ret I F h cells slots (pc + 3) Ls st) : Go l Z n0 R own nm code mL ret I F h cells slots pc Ls (.ref a :: st) :=
  Go.warm (fun {p e s m args below meth c T locs} hx hZ ho hc hm X eT => Jvm.RoadKit.initO X hx hZ ho w1 w2 w3 eT (g := mkF m pc Ls (.ref a :: st)) rfl (hsz.trans hm.symm) rfl (hb hc hd) hf (W := (st.map fun v => v.category).sum) (by show 2 * 0 + _ ≤ _; omega) hl) hr
/-! arrays -/
theorem Arv.read {Z : State} {h : Heap} {a : Addr} {k : ClassId} {ty : FieldType} {z j : Int32} {vs : List Value} {dv v : Value} (V : Arv Z h a k ty z vs dv) (q : ¬ j < 0 ∧ j < z) (u : vs.getD j.toNatClampNeg dv = v) : ∃ c : Cell, Arr Z h a c ty ∧ ¬ (j < 0 ∨ c.slots.size ≤ j.toNatClampNeg) ∧ c.slots[j.toNatClampNeg]? = some v := by
  obtain ⟨c, A, q1, S, q3, H, G⟩ := V
  have hin := inb_of S q
  exact ⟨c, A, hin, H.at hin u⟩
theorem Arv.write {Z : State} {h h' : Heap} {a : Addr} {k : ClassId} {ty : FieldType} {z j : Int32} {vs : List Value} {dv v : Value} (V : Arv Z h a k ty z vs dv) (hv : fits ty v = true) (W : Wr h h' a j.toNatClampNeg v) (i : Nat) (hj : j.toNatClampNeg = i) (hi : i < vs.length) : Arv Z h' a k ty z (vs.set i v) dv := by
  obtain ⟨c, A, q1, S, q3, H, G⟩ := V
  exact Arv.set A q1 S q3 H G hv W i hj hi
theorem Go.arraylength {a : Addr} {k : ClassId} {ty : FieldType} {z : Int32} {vs : List Value} {dv : Value} (V : Arv Z h a k ty z vs dv) (hd : decode code pc = .ok (.arraylength, 1)) (hr : Go l Z n0 R own nm code mL ret I F h cells slots (pc + 1) Ls (.int z :: st)) : Go l Z n0 R own nm code mL ret I F h cells slots pc Ls (.ref a :: st) := by
  obtain ⟨c, A, q1, S, q3, H, G⟩ := V
  exact Go.pure (fun hx hZ ho hc X eT k => X.arraylength hx (by rw [eT]; exact A.1) (State.isArrayOf_alike hZ.alike A.2.1) (g := mkF _ pc Ls _) rfl rfl (hb hc hd) _ (by rw [len_of S q3]; exact k)) hr
theorem Go.caload {a : Addr} {k : ClassId} {z j : Int32} {vs : List Value} {dv : Value} (v : Value) (V : Arv Z h a k .char z vs dv) (q : ¬ j < 0 ∧ j < z) (u : vs.getD j.toNatClampNeg dv = v) (hd : decode code pc = .ok (.caload, 1)) (hr : Go l Z n0 R own nm code mL ret I F h cells slots (pc + 1) Ls (v :: st)) : Go l Z n0 R own nm code mL ret I F h cells slots pc Ls (.int j :: .ref a :: st) := by
  obtain ⟨c, A, hin, hat⟩ := Arv.read V q u
  exact Go.pure (fun hx hZ ho hc X eT k => X.caload hx (by rw [eT]; exact A.1) (State.isArrayOf_alike hZ.alike A.2.1) A.2.2 hin hat (g := mkF _ pc Ls _) rfl rfl (hb hc hd) _ k) hr
theorem Go.iaload {a : Addr} {k : ClassId} {z j : Int32} {vs : List Value} {dv : Value} (v : Value) (V : Arv Z h a k .int z vs dv) (q : ¬ j < 0 ∧ j < z) (u : vs.getD j.toNatClampNeg dv = v) (hd : decode code pc = .ok (.iaload, 1)) (hr : Go l Z n0 R own nm code mL ret I F h cells slots (pc + 1) Ls (v :: st)) : Go l Z n0 R own nm code mL ret I F h cells slots pc Ls (.int j :: .ref a :: st) := by
  obtain ⟨c, A, hin, hat⟩ := Arv.read V q u
  exact Go.pure (fun hx hZ ho hc X eT k => X.iaload hx (by rw [eT]; exact A.1) (State.isArrayOf_alike hZ.alike A.2.1) A.2.2 hin hat (g := mkF _ pc Ls _) rfl rfl (hb hc hd) _ k) hr
theorem Go.baload {a : Addr} {k : ClassId} {z j : Int32} {vs : List Value} {dv : Value} (v : Value) (V : Arv Z h a k .byte z vs dv) (q : ¬ j < 0 ∧ j < z) (u : vs.getD j.toNatClampNeg dv = v) (hd : decode code pc = .ok (.baload, 1)) (hr : Go l Z n0 R own nm code mL ret I F h cells slots (pc + 1) Ls (v :: st)) : Go l Z n0 R own nm code mL ret I F h cells slots pc Ls (.int j :: .ref a :: st) := by
  obtain ⟨c, A, hin, hat⟩ := Arv.read V q u
  exact Go.pure (fun hx hZ ho hc X eT k => X.baloadBytes hx (by rw [eT]; exact A.1) (State.isArrayOf_alike hZ.alike A.2.1) A.2.2 hin hat (g := mkF _ pc Ls _) rfl rfl (hb hc hd) _ k) hr
theorem Go.aaload {a : Addr} {k : ClassId} {ty : FieldType} {z j : Int32} {vs : List Value} {dv : Value} (v : Value) (V : Arv Z h a k ty z vs dv) (hty : ty.isReference = true) (q : ¬ j < 0 ∧ j < z) (u : vs.getD j.toNatClampNeg dv = v) (hd : decode code pc = .ok (.aaload, 1)) (hr : Go l Z n0 R own nm code mL ret I F h cells slots (pc + 1) Ls (v :: st)) : Go l Z n0 R own nm code mL ret I F h cells slots pc Ls (.int j :: .ref a :: st) := by
  obtain ⟨c, A, hin, hat⟩ := Arv.read V q u
  exact Go.pure (fun hx hZ ho hc X eT k => X.aaload hx (by rw [eT]; exact A.1) (State.isArrayOf_alike hZ.alike A.2.1) hty A.2.2 hin hat (g := mkF _ pc Ls _) rfl rfl (hb hc hd) _ k) hr
theorem Go.aaloadC {a : Addr} {c0 : Cell} {ty : FieldType} {j : Int32} (v : Value) (A : Arr Z h a c0 ty) (hty : ty.isReference = true) (hin : ¬ (j < 0 ∨ c0.slots.size ≤ j.toNatClampNeg)) (hat : c0.slots[j.toNatClampNeg]? = some v) (hd : decode code pc = .ok (.aaload, 1)) (hr : Go l Z n0 R own nm code mL ret I F h cells slots (pc + 1) Ls (v :: st)) : Go l Z n0 R own nm code mL ret I F h cells slots pc Ls (.int j :: .ref a :: st) :=
  Go.pure (fun hx hZ ho hc X eT k => X.aaload hx (by rw [eT]; exact A.1) (State.isArrayOf_alike hZ.alike A.2.1) hty A.2.2 hin hat (g := mkF _ pc Ls _) rfl rfl (hb hc hd) _ k) hr
theorem Go.castore {a : Addr} {k : ClassId} {z j x : Int32} {vs : List Value} {dv : Value} (V : Arv Z h a k .char z vs dv) (q : ¬ j < 0 ∧ j < z) (g : n0 ≤ a) (i : Nat) (hj : j.toNatClampNeg = i) (hi : i < vs.length) (hd : decode code pc = .ok (.castore, 1)) (hI : ∀ (s : State) (h' : Heap), Keep h h' [a] → I s h → I' s h') (hr : ∀ h', Keep h h' [a] → Arv Z h' a k .char z (vs.set i (.int (nar .char x))) dv → Go l Z n0 R own nm code mL ret I' F h' cells slots (pc + 1) Ls st) : Go l Z n0 R own nm code mL ret I F h cells slots pc Ls (.int x :: .int j :: .ref a :: st) := by
  have V0 := V
  obtain ⟨c0, A, q1, S, q3, H, G⟩ := V0
  intro p e s m args below meth c T locs hx hZ ho hn hc hm hr' hk X N eT hJ
  obtain ⟨T', h', X', e', W', stp⟩ := stC X hx hZ eT A (inb_of S q) (g := mkF m pc Ls (.int x :: .int j :: .ref a :: st)) rfl rfl (hb hc hd)
  obtain ⟨s₂, v, L, h1, r⟩ := hr h' (Keep.of_wr W') (Arv.write V (fits_nar_char _) W' i hj hi) p e s m args below meth c T' _ hx hZ ho hn hc hm hr' hk X' (Fr.snoc X' N g) e' (hI s h' (Keep.of_wr W') hJ)
  exact ⟨s₂, v, L, stp _ h1, r⟩
theorem Go.bastore {a : Addr} {k : ClassId} {z j x : Int32} {vs : List Value} {dv : Value} (V : Arv Z h a k .byte z vs dv) (q : ¬ j < 0 ∧ j < z) (g : n0 ≤ a) (i : Nat) (hj : j.toNatClampNeg = i) (hi : i < vs.length) (hd : decode code pc = .ok (.bastore, 1)) (hI : ∀ (s : State) (h' : Heap), Keep h h' [a] → I s h → I' s h') (hr : ∀ h', Keep h h' [a] → Arv Z h' a k .byte z (vs.set i (.int (nar .byte x))) dv → Go l Z n0 R own nm code mL ret I' F h' cells slots (pc + 1) Ls st) : Go l Z n0 R own nm code mL ret I F h cells slots pc Ls (.int x :: .int j :: .ref a :: st) := by
  have V0 := V
  obtain ⟨c0, A, q1, S, q3, H, G⟩ := V0
  intro p e s m args below meth c T locs hx hZ ho hn hc hm hr' hk X N eT hJ
  obtain ⟨T', h', X', e', W', stp⟩ := stB X hx hZ eT A (inb_of S q) (g := mkF m pc Ls (.int x :: .int j :: .ref a :: st)) rfl rfl (hb hc hd)
  obtain ⟨s₂, v, L, h1, r⟩ := hr h' (Keep.of_wr W') (Arv.write V (fits_nar_byte _) W' i hj hi) p e s m args below meth c T' _ hx hZ ho hn hc hm hr' hk X' (Fr.snoc X' N g) e' (hI s h' (Keep.of_wr W') hJ)
  exact ⟨s₂, v, L, stp _ h1, r⟩
theorem Go.iastore {a : Addr} {k : ClassId} {z j x : Int32} {vs : List Value} {dv : Value} (V : Arv Z h a k .int z vs dv) (q : ¬ j < 0 ∧ j < z) (g : n0 ≤ a) (i : Nat) (hj : j.toNatClampNeg = i) (hi : i < vs.length) (hd : decode code pc = .ok (.iastore, 1)) (hI : ∀ (s : State) (h' : Heap), Keep h h' [a] → I s h → I' s h') (hr : ∀ h', Keep h h' [a] → Arv Z h' a k .int z (vs.set i (.int x)) dv → Go l Z n0 R own nm code mL ret I' F h' cells slots (pc + 1) Ls st) : Go l Z n0 R own nm code mL ret I F h cells slots pc Ls (.int x :: .int j :: .ref a :: st) := by
  have V0 := V
  obtain ⟨c0, A, q1, S, q3, H, G⟩ := V0
  intro p e s m args below meth c T locs hx hZ ho hn hc hm hr' hk X N eT hJ
  obtain ⟨T', h', X', e', W', stp⟩ := stI X hx hZ eT A (inb_of S q) (g := mkF m pc Ls (.int x :: .int j :: .ref a :: st)) rfl rfl (hb hc hd)
  obtain ⟨s₂, v, L, h1, r⟩ := hr h' (Keep.of_wr W') (Arv.write V rfl W' i hj hi) p e s m args below meth c T' _ hx hZ ho hn hc hm hr' hk X' (Fr.snoc X' N g) e' (hI s h' (Keep.of_wr W') hJ)
  exact ⟨s₂, v, L, stp _ h1, r⟩
theorem Go.aastore {a : Addr} {k : ClassId} {ty : FieldType} {z j : Int32} {x : Value} {vs : List Value} {dv : Value} (V : Arv Z h a k ty z vs dv) (hty : ty.isReference = true) (hx' : fits ty x = true) (FF : ∀ c : Cell, Arr Z h a c ty → c.cls = k → Sto Z h a x) (q : ¬ j < 0 ∧ j < z) (g : n0 ≤ a) (i : Nat) (hj : j.toNatClampNeg = i) (hi : i < vs.length) (hd : decode code pc = .ok (.aastore, 1)) (hI : ∀ (s : State) (h' : Heap), Keep h h' [a] → I s h → I' s h') (hr : ∀ h', Keep h h' [a] → Arv Z h' a k ty z (vs.set i x) dv → Go l Z n0 R own nm code mL ret I' F h' cells slots (pc + 1) Ls st) : Go l Z n0 R own nm code mL ret I F h cells slots pc Ls (x :: .int j :: .ref a :: st) := by
  have V0 := V
  obtain ⟨c0, A, q1, S, q3, H, G⟩ := V0
  intro p e s m args below meth c T locs hx hZ ho hn hc hm hr' hk X N eT hJ
  obtain ⟨T', h', X', e', W', stp⟩ := stR X hx hZ eT A (inb_of S q) hty (FF c0 A q1) (g := mkF m pc Ls (x :: .int j :: .ref a :: st)) rfl rfl (hb hc hd)
  obtain ⟨s₂, v, L, h1, r⟩ := hr h' (Keep.of_wr W') (Arv.write V hx' W' i hj hi) p e s m args below meth c T' _ hx hZ ho hn hc hm hr' hk X' (Fr.snoc X' N g) e' (hI s h' (Keep.of_wr W') hJ)
  exact ⟨s₂, v, L, stp _ h1, r⟩
/-! casts -/
theorem Go.castY {K : String} {index : Nat} {a : Addr} (w : (Cond.classLink own index K).before a0 Z = true) (FF : Ins Z h a K true) (hd : decode code pc = .ok (.checkcast index, 3)) (hr : Go l Z n0 R own nm code mL ret I F h cells slots (pc + 3) Ls (.ref a :: st)) : Go l Z n0 R own nm code mL ret I F h cells slots pc Ls (.ref a :: st) :=
  Go.warm (fun hx hZ ho hc _ X eT => Jvm.RoadKit.castY X hx hZ ho w eT FF (g := mkF _ pc Ls (.ref a :: st)) rfl rfl (hb hc hd)) hr
theorem Go.castNull {index : Nat} (hd : decode code pc = .ok (.checkcast index, 3)) (hr : Go l Z n0 R own nm code mL ret I F h cells slots (pc + 3) Ls (.null :: st)) : Go l Z n0 R own nm code mL ret I F h cells slots pc Ls (.null :: st) :=
  Go.pure (fun hx _ _ hc X _ k => X.checkcastNull hx (g := mkF _ pc Ls (.null :: st)) rfl rfl (hb hc hd) _ k) hr
theorem Go.castV {K : String} {index : Nat} {v : Value} (w : (Cond.classLink own index K).before a0 Z = true) (FF : v = .null ∨ ∃ a, v = .ref a ∧ Ins Z h a K true) (hd : decode code pc = .ok (.checkcast index, 3)) (hr : Go l Z n0 R own nm code mL ret I F h cells slots (pc + 3) Ls (v :: st)) : Go l Z n0 R own nm code mL ret I F h cells slots pc Ls (v :: st) := by
  rcases FF with rfl | ⟨a, rfl, I0⟩
  · exact Go.castNull hd hr
  · exact Go.castY w I0 hd hr
theorem Go.instY {K : String} {index : Nat} {a : Addr} (w : (Cond.classLink own index K).before a0 Z = true) (FF : Ins Z h a K true) (hd : decode code pc = .ok (.instanceof index, 3)) (hr : Go l Z n0 R own nm code mL ret I F h cells slots (pc + 3) Ls (.int 1 :: st)) : Go l Z n0 R own nm code mL ret I F h cells slots pc Ls (.ref a :: st) :=
  Go.warm (fun hx hZ ho hc _ X eT => Jvm.RoadKit.instY X hx hZ ho w eT FF (g := mkF _ pc Ls (.ref a :: st)) rfl rfl (hb hc hd)) hr
/-! returns -/
theorem Go.return_ (hd : decode code pc = .ok (.return_, 1)) (hret : ret = none) (hc1 : cells ≤ R.cells) (hs1 : slots ≤ R.slots) (hQ : Q none h) : Go l Z n0 R own nm code mL ret I (FN n0 R Q) h cells slots pc Ls [] := by
  intro p e s m args below meth c T locs hx hZ ho hn hc hm hr' hk X N eT hJ
  obtain ⟨fs, hr, hrun, hended, hW, hsame⟩ := X.leave (v := none) (fun _ => rfl) hk
  exact ⟨_, none, locs, X.returnOut hx (hr'.trans hret) (hb hc hd) hr, hrun, hended, N, (by show Q _ T.heap; rw [eT]; exact hQ), ⟨_, rfl⟩, hW, hsame.mono hc1 hs1⟩
theorem Go.areturn {v : Value} {t : FieldType} (hd : decode code pc = .ok (.areturn, 1)) (hret : ret = some t) (ht : t.isReference = true) (hv : v.isRef = true) (hc1 : cells ≤ R.cells) (hs1 : slots ≤ R.slots) (hQ : Q (some v) h) : Go l Z n0 R own nm code mL ret I (FN n0 R Q) h cells slots pc Ls (v :: st) := by
  intro p e s m args below meth c T locs hx hZ ho hn hc hm hr' hk X N eT hJ
  obtain ⟨fs, hr, hrun, hended, hW, hsame⟩ := X.leave (v := some v) (fun h => by rw [hr', hret] at h; cases h) hk
  have hnw : narrow t v = v := by cases t <;> first | rfl | (cases ht; done)
  exact ⟨_, some v, locs, retOut X hx (hr'.trans hret) hnw (Or.inr (Or.inr (Or.inr (Or.inr ⟨rfl, ht, hv⟩)))) (hb hc hd) hr, hrun, hended, N, (by show Q _ T.heap; rw [eT]; exact hQ), ⟨_, rfl⟩, hW, hsame.mono hc1 hs1⟩
theorem Go.ireturn {z : Int32} (hd : decode code pc = .ok (.ireturn, 1)) (hret : ret = some .int) (hc1 : cells ≤ R.cells) (hs1 : slots ≤ R.slots) (hQ : Q (some (.int z)) h) : Go l Z n0 R own nm code mL ret I (FN n0 R Q) h cells slots pc Ls (.int z :: st) := by
  intro p e s m args below meth c T locs hx hZ ho hn hc hm hr' hk X N eT hJ
  obtain ⟨fs, hr, hrun, hended, hW, hsame⟩ := X.leave (v := some (.int z)) (fun h => by rw [hr', hret] at h; cases h) hk
  exact ⟨_, some (.int z), locs, retOut X hx (hr'.trans hret) rfl (Or.inl ⟨rfl, Or.inl rfl, z, rfl⟩) (hb hc hd) hr, hrun, hended, N, (by show Q _ T.heap; rw [eT]; exact hQ), ⟨_, rfl⟩, hW, hsame.mono hc1 hs1⟩
/-- a boolean, byte, char or short -/
theorem Go.nreturn {z : Int32} (t : FieldType) (hd : decode code pc = .ok (.ireturn, 1)) (hret : ret = some t) (ht : t = .boolean ∨ t = .byte ∨ t = .char ∨ t = .short) (hc1 : cells ≤ R.cells) (hs1 : slots ≤ R.slots) (hQ : Q (some (.int (nar t z))) h) : Go l Z n0 R own nm code mL ret I (FN n0 R Q) h cells slots pc Ls (.int z :: st) := by
  intro p e s m args below meth c T locs hx hZ ho hn hc hm hr' hk X N eT hJ
  obtain ⟨fs, hr, hrun, hended, hW, hsame⟩ := X.leave (v := some (.int (nar t z))) (fun h => by rw [hr', hret] at h; cases h) hk
  exact ⟨_, some (.int (nar t z)), locs, retN X hx (hr'.trans hret) ht (hb hc hd) hr, hrun, hended, N, (by show Q _ T.heap; rw [eT]; exact hQ), ⟨_, rfl⟩, hW, hsame.mono hc1 hs1⟩
/-! calls, each by the callee's contract -/
theorem Go.callS {o' n' d' : String} {bytes : ByteArray} {mL' index : Nat} {rt : Option FieldType} {rm : Room} (as' rest : List Value) {Q' : Option Value → Heap → Prop} {ps : List FieldType} {r : Option FieldType}
    (hC : Ct l Z n0 o' n' d' [] bytes mL' rt rm as'.toArray h Q') (w1 : (Cond.methodLink own index (⟨o', n', d'⟩ : MethodName)).before a0 Z = true) (w2 : (Cond.static (⟨o', n', d'⟩ : MethodName)).before a0 Z = true) (w3 : (Cond.initialized o').before a0 Z = true) (w4 : (Cond.code (⟨o', n', d'⟩ : MethodName) bytes mL' rt).before a0 Z = true)
    (hy : o' ≠ "java/lang/invoke/MethodHandle" ∧ o' ≠ "java/lang/invoke/VarHandle") (hpd : parseMethodDescriptor d' = some ⟨ps, r⟩) (hlen : as'.length = ps.length) (hst : st = as'.reverse ++ rest) (hsz : Ls.size = mL) (hf : rm.frames + 1 ≤ R.frames) (hlo : (rest.map fun v => v.category).sum + (mL' + 11) + rm.locals ≤ R.locals) (hc1 : cells + rm.cells ≤ R.cells) (hs1 : slots + rm.slots ≤ R.slots)
    (hd : decode code pc = .ok (.invokestatic index, 3)) (hI : ∀ (v : Option Value) (s : State) (h' : Heap), Q' v h' → I s h → I' s h') (hr : ∀ v h', Q' v h' → Go l Z n0 R own nm code mL ret I' F h' (cells + rm.cells) (slots + rm.slots) (pc + 3) Ls (v.toList ++ rest)) : Go l Z n0 R own nm code mL ret I F h cells slots pc Ls st := by
  intro p e s m args below meth c T locs hx hZ ho hn hc hm hr' hk X N eT hJ
  obtain ⟨v, _, ⟨T', L', k', n''⟩, -, X', ⟨Lc, ⟨N', hQ'⟩, l1, l2, l3⟩, stp⟩ := Jvm.LawKit.callS X hx (y := (⟨o', n', d'⟩ : MethodName)) ho (mvT hZ w1) (mvT hZ w2) (mvT hZ w3) (mvT hZ w4) hy (backOf (Q := fun v h L => Fr n0 L ∧ Q' v h) (W := (rest.map fun v => v.category).sum) hC hZ w4 w3 hf hlo) (g := mkF m pc Ls st) rfl (hsz.trans hm.symm) (argsL := as') (rest := rest) (lenOf hpd hlen) hst (by show 2 * 0 + _ ≤ _; omega) (hb hc hd) (fun _ _ => ⟨rfl, eT, hc1, hs1⟩)
  dsimp only [Pt.U, Pt.locs, Pt.cells, Pt.slots] at X' l1 l2 l3 stp hQ'
  subst l1 l2 l3
  obtain ⟨s₂, v2, L, h1, r⟩ := hr v T'.heap hQ' p e s m args below meth c T' _ hx hZ ho hn hc hm hr' hk X' (Fr.app N N') rfl (hI v s T'.heap hQ' hJ)
  exact ⟨s₂, v2, L, stp _ h1, r⟩
/-- a constructor -/
theorem Go.callI {o' d' : String} {bytes : ByteArray} {mL' index : Nat} {rm : Room} (a : Addr) (as' rest : List Value) {Q' : Option Value → Heap → Prop} {ps : List FieldType} {r : Option FieldType}
    (hC : Ct l Z n0 o' "<init>" d' [] bytes mL' none rm (.ref a :: as').toArray h Q') (w1 : (Cond.methodLink own index (⟨o', "<init>", d'⟩ : MethodName)).before a0 Z = true) (w2 : (Cond.instanceMethod (⟨o', "<init>", d'⟩ : MethodName)).before a0 Z = true) (w3 : (Cond.initialized o').before a0 Z = true) (w4 : (Cond.code (⟨o', "<init>", d'⟩ : MethodName) bytes mL' none).before a0 Z = true)
    (hy : o' ≠ "java/lang/invoke/MethodHandle" ∧ o' ≠ "java/lang/invoke/VarHandle") (hpd : parseMethodDescriptor d' = some ⟨ps, r⟩) (hlen : as'.length = ps.length) (hst : st = as'.reverse ++ .ref a :: rest) (hsz : Ls.size = mL) (hf : rm.frames + 1 ≤ R.frames) (hlo : (rest.map fun v => v.category).sum + (mL' + 11) + rm.locals ≤ R.locals) (hc1 : cells + rm.cells ≤ R.cells) (hs1 : slots + rm.slots ≤ R.slots)
    (hd : decode code pc = .ok (.invokespecial index, 3)) (hI : ∀ (v : Option Value) (s : State) (h' : Heap), Q' v h' → I s h → I' s h') (hr : ∀ v h', Q' v h' → Go l Z n0 R own nm code mL ret I' F h' (cells + rm.cells) (slots + rm.slots) (pc + 3) Ls (v.toList ++ rest)) : Go l Z n0 R own nm code mL ret I F h cells slots pc Ls st := by
  intro p e s m args below meth c T locs hx hZ ho hn hc hm hr' hk X N eT hJ
  obtain ⟨v, _, ⟨T', L', k', n''⟩, -, X', ⟨Lc, ⟨N', hQ'⟩, l1, l2, l3⟩, stp⟩ := X.specialBack hx (y := (⟨o', "<init>", d'⟩ : MethodName)) rfl ho (mvT hZ w1) (mvT hZ w2) (mvT hZ w4) hy (backOf (Q := fun v h L => Fr n0 L ∧ Q' v h) (W := (rest.map fun v => v.category).sum) hC hZ w4 w3 hf hlo) (g := mkF m pc Ls st) rfl (hsz.trans hm.symm) (Steps.refl _) (a := a) (argsL := as') (rest := rest) (lenOf hpd hlen) hst (by show 2 * 0 + _ ≤ _; omega) (hb hc hd) (fun _ _ => ⟨rfl, eT, hc1, hs1⟩)
  dsimp only [Pt.U, Pt.locs, Pt.cells, Pt.slots] at X' l1 l2 l3 stp hQ'
  subst l1 l2 l3
  obtain ⟨s₂, v2, L, h1, r⟩ := hr v T'.heap hQ' p e s m args below meth c T' _ hx hZ ho hn hc hm hr' hk X' (Fr.app N N') rfl (hI v s T'.heap hQ' hJ)
  exact ⟨s₂, v2, L, stp.trans h1, r⟩
/-- an instance method that the class which the link names declares -/
theorem Go.callV {o' n' d' C oz : String} {bytes : ByteArray} {mL' index : Nat} {rt : Option FieldType} {rm : Room} (a : Addr) (as' rest : List Value) {Q' : Option Value → Heap → Prop} {ps : List FieldType} {r : Option FieldType}
    (hC : Ct l Z n0 oz n' d' [] bytes mL' rt rm (.ref a :: as').toArray h Q') (E : Exa Z h a C) (w1 : (Cond.methodLink own index (⟨o', n', d'⟩ : MethodName)).before a0 Z = true) (w2 : (Cond.declares (⟨o', n', d'⟩ : MethodName)).before a0 Z = true) (nf : ∀ s : State, Z.Warmed39 s.vm → NotFace s (⟨o', n', d'⟩ : MethodName)) (w3 : (Cond.selects C (⟨o', n', d'⟩ : MethodName) (⟨oz, n', d'⟩ : MethodName)).before a0 Z = true) (w4 : (Cond.instanceMethod (⟨oz, n', d'⟩ : MethodName)).before a0 Z = true) (w5 : (Cond.initialized oz).before a0 Z = true) (w6 : (Cond.code (⟨oz, n', d'⟩ : MethodName) bytes mL' rt).before a0 Z = true)
    (hy : o' ≠ "java/lang/invoke/MethodHandle" ∧ o' ≠ "java/lang/invoke/VarHandle") (hpd : parseMethodDescriptor d' = some ⟨ps, r⟩) (hlen : as'.length = ps.length) (hst : st = as'.reverse ++ .ref a :: rest) (hsz : Ls.size = mL) (hf : rm.frames + 1 ≤ R.frames) (hlo : (rest.map fun v => v.category).sum + (mL' + 11) + rm.locals ≤ R.locals) (hc1 : cells + rm.cells ≤ R.cells) (hs1 : slots + rm.slots ≤ R.slots)
    (hd : decode code pc = .ok (.invokevirtual index, 3)) (hI : ∀ (v : Option Value) (s : State) (h' : Heap), Q' v h' → I s h → I' s h') (hr : ∀ v h', Q' v h' → Go l Z n0 R own nm code mL ret I' F h' (cells + rm.cells) (slots + rm.slots) (pc + 3) Ls (v.toList ++ rest)) : Go l Z n0 R own nm code mL ret I F h cells slots pc Ls st := by
  intro p e s m args below meth c T locs hx hZ ho hn hc hm hr' hk X N eT hJ
  obtain ⟨cq, kq, qa, qb, qc⟩ := isOf hZ eT E
  obtain ⟨v, _, ⟨T', L', k', n''⟩, -, X', ⟨Lc, ⟨N', hQ'⟩, l1, l2, l3⟩, stp⟩ := X.virtualBack hx (y := (⟨o', n', d'⟩ : MethodName)) (z := (⟨oz, n', d'⟩ : MethodName)) ho (mvT hZ w1) (mvT hZ w2) (nf s hZ) (mvT hZ w3) (mvT hZ w4) hy (backOf (Q := fun v h L => Fr n0 L ∧ Q' v h) (W := (rest.map fun v => v.category).sum) hC hZ w6 w5 hf hlo) qa qc (g := mkF m pc Ls st) rfl (hsz.trans hm.symm) (Steps.refl _) (argsL := as') (rest := rest) (lenOf hpd hlen) hst (by show 2 * 0 + _ ≤ _; omega) (hb hc hd) (fun _ _ => ⟨rfl, eT, hc1, hs1⟩)
  dsimp only [Pt.U, Pt.locs, Pt.cells, Pt.slots] at X' l1 l2 l3 stp hQ'
  subst l1 l2 l3
  obtain ⟨s₂, v2, L, h1, r⟩ := hr v T'.heap hQ' p e s m args below meth c T' _ hx hZ ho hn hc hm hr' hk X' (Fr.app N N') rfl (hI v s T'.heap hQ' hJ)
  exact ⟨s₂, v2, L, stp.trans h1, r⟩
theorem nf_sel {C o' n' d' : String} (w3 : (Cond.selects C (⟨o', n', d'⟩ : MethodName) (⟨o', n', d'⟩ : MethodName)).before a0 Z = true) : ∀ s : State, Z.Warmed39 s.vm → NotFace s (⟨o', n', d'⟩ : MethodName) := fun s hZ => notFace_of_selects (args := #[]) (mvT hZ w3)
theorem nf_sup {o' n' d' S : String} (w : (Cond.superclass o' S).before a0 Z = true) : ∀ s : State, Z.Warmed39 s.vm → NotFace s (⟨o', n', d'⟩ : MethodName) := fun s hZ => nf_super (args := #[]) (mvT hZ w)
/-- an instance method that a superclass of the class which the link names declares -/
theorem Go.callU {o' ow n' d' C oz : String} {bytes : ByteArray} {mL' index : Nat} {rt : Option FieldType} {rm : Room} (a : Addr) (as' rest : List Value) {Q' : Option Value → Heap → Prop} {ps : List FieldType} {r : Option FieldType}
    (hC : Ct l Z n0 oz n' d' [] bytes mL' rt rm (.ref a :: as').toArray h Q') (E : Exa Z h a C) (w1 : (Cond.methodLink own index (⟨o', n', d'⟩ : MethodName)).before a0 Z = true) (w2 : (Cond.sameMethod o' ow n' d').before a0 Z = true) (w2' : (Cond.declares (⟨ow, n', d'⟩ : MethodName)).before a0 Z = true) (w3 : (Cond.selects C (⟨o', n', d'⟩ : MethodName) (⟨oz, n', d'⟩ : MethodName)).before a0 Z = true) (w4 : (Cond.instanceMethod (⟨oz, n', d'⟩ : MethodName)).before a0 Z = true) (w5 : (Cond.initialized oz).before a0 Z = true) (w6 : (Cond.code (⟨oz, n', d'⟩ : MethodName) bytes mL' rt).before a0 Z = true)
    (hy : ow ≠ "java/lang/invoke/MethodHandle" ∧ ow ≠ "java/lang/invoke/VarHandle") (hpd : parseMethodDescriptor d' = some ⟨ps, r⟩) (hlen : as'.length = ps.length) (hst : st = as'.reverse ++ .ref a :: rest) (hsz : Ls.size = mL) (hf : rm.frames + 1 ≤ R.frames) (hlo : (rest.map fun v => v.category).sum + (mL' + 11) + rm.locals ≤ R.locals) (hc1 : cells + rm.cells ≤ R.cells) (hs1 : slots + rm.slots ≤ R.slots)
    (hd : decode code pc = .ok (.invokevirtual index, 3)) (hI : ∀ (v : Option Value) (s : State) (h' : Heap), Q' v h' → I s h → I' s h') (hr : ∀ v h', Q' v h' → Go l Z n0 R own nm code mL ret I' F h' (cells + rm.cells) (slots + rm.slots) (pc + 3) Ls (v.toList ++ rest)) : Go l Z n0 R own nm code mL ret I F h cells slots pc Ls st := by
  intro p e s m args below meth c T locs hx hZ ho hn hc hm hr' hk X N eT hJ
  obtain ⟨cq, kq, qa, qb, qc⟩ := isOf hZ eT E
  obtain ⟨v, _, ⟨T', L', k', n''⟩, -, X', ⟨Lc, ⟨N', hQ'⟩, l1, l2, l3⟩, stp⟩ := X.virtualBackUp hx (x := (⟨o', n', d'⟩ : MethodName)) (y := (⟨oz, n', d'⟩ : MethodName)) ho (mvT hZ w1) (mvT hZ w2) (mvT hZ w2') hy (mvT hZ w3) (mvT hZ w4) (backOf (Q := fun v h L => Fr n0 L ∧ Q' v h) (W := (rest.map fun v => v.category).sum) hC hZ w6 w5 hf hlo) qa qc (g := mkF m pc Ls st) rfl (hsz.trans hm.symm) (Steps.refl _) (argsL := as') (rest := rest) (lenOf hpd hlen) hst (by show 2 * 0 + _ ≤ _; omega) (hb hc hd) (fun _ _ => ⟨rfl, eT, hc1, hs1⟩)
  dsimp only [Pt.U, Pt.locs, Pt.cells, Pt.slots] at X' l1 l2 l3 stp hQ'
  subst l1 l2 l3
  obtain ⟨s₂, v2, L, h1, r⟩ := hr v T'.heap hQ' p e s m args below meth c T' _ hx hZ ho hn hc hm hr' hk X' (Fr.app N N') rfl (hI v s T'.heap hQ' hJ)
  exact ⟨s₂, v2, L, stp.trans h1, r⟩
/-- a private instance method, by invokevirtual -/
theorem Go.callP {o' n' d' : String} {bytes : ByteArray} {mL' index : Nat} {rt : Option FieldType} {rm : Room} (a : Addr) (as' rest : List Value) {Q' : Option Value → Heap → Prop} {ps : List FieldType} {r : Option FieldType} {C : String}
    (hC : Ct l Z n0 o' n' d' [] bytes mL' rt rm (.ref a :: as').toArray h Q') (E : Exa Z h a C) (w1 : (Cond.methodLink own index (⟨o', n', d'⟩ : MethodName)).before a0 Z = true) (w2 : (Cond.instanceMethod (⟨o', n', d'⟩ : MethodName)).before a0 Z = true) (w3 : (Cond.selects o' (⟨o', n', d'⟩ : MethodName) (⟨o', n', d'⟩ : MethodName)).before a0 Z = true) (w4 : (Cond.privateMethod (⟨o', n', d'⟩ : MethodName)).before a0 Z = true) (w5 : (Cond.initialized o').before a0 Z = true) (w6 : (Cond.code (⟨o', n', d'⟩ : MethodName) bytes mL' rt).before a0 Z = true)
    (hy : o' ≠ "java/lang/invoke/MethodHandle" ∧ o' ≠ "java/lang/invoke/VarHandle") (hpd : parseMethodDescriptor d' = some ⟨ps, r⟩) (hlen : as'.length = ps.length) (hst : st = as'.reverse ++ .ref a :: rest) (hsz : Ls.size = mL) (hf : rm.frames + 1 ≤ R.frames) (hlo : (rest.map fun v => v.category).sum + (mL' + 11) + rm.locals ≤ R.locals) (hc1 : cells + rm.cells ≤ R.cells) (hs1 : slots + rm.slots ≤ R.slots)
    (hd : decode code pc = .ok (.invokevirtual index, 3)) (hI : ∀ (v : Option Value) (s : State) (h' : Heap), Q' v h' → I s h → I' s h') (hr : ∀ v h', Q' v h' → Go l Z n0 R own nm code mL ret I' F h' (cells + rm.cells) (slots + rm.slots) (pc + 3) Ls (v.toList ++ rest)) : Go l Z n0 R own nm code mL ret I F h cells slots pc Ls st := by
  intro p e s m args below meth c T locs hx hZ ho hn hc hm hr' hk X N eT hJ
  obtain ⟨cq, qa, qb⟩ := E.cell
  obtain ⟨v, _, ⟨T', L', k', n''⟩, -, X', ⟨Lc, ⟨N', hQ'⟩, l1, l2, l3⟩, stp⟩ := X.privateBack hx (y := (⟨o', n', d'⟩ : MethodName)) ho (mvT hZ w1) (mvT hZ w2) (mvT hZ w3) (Cond.privateMethod_at (mvP hZ w4 (args := #[]))) (mvT hZ w6) hy (backOf (Q := fun v h L => Fr n0 L ∧ Q' v h) (W := (rest.map fun v => v.category).sum) hC hZ w6 w5 hf hlo) (g := mkF m pc Ls st) rfl (hsz.trans hm.symm) (Steps.refl _) (a := a) (by rw [eT]; exact qa) qb (argsL := as') (rest := rest) (lenOf hpd hlen) hst (by show 2 * 0 + _ ≤ _; omega) (hb hc hd) (fun _ _ => ⟨rfl, eT, hc1, hs1⟩)
  dsimp only [Pt.U, Pt.locs, Pt.cells, Pt.slots] at X' l1 l2 l3 stp hQ'
  subst l1 l2 l3
  obtain ⟨s₂, v2, L, h1, r⟩ := hr v T'.heap hQ' p e s m args below meth c T' _ hx hZ ho hn hc hm hr' hk X' (Fr.app N N') rfl (hI v s T'.heap hQ' hJ)
  exact ⟨s₂, v2, L, stp.trans h1, r⟩
/-- an interface's method -/
theorem Go.callF {o' n' d' C oz : String} {bytes : ByteArray} {mL' index count : Nat} {rt : Option FieldType} {rm : Room} (a : Addr) (as' rest : List Value) {Q' : Option Value → Heap → Prop} {ps : List FieldType} {r : Option FieldType}
    (hC : Ct l Z n0 oz n' d' [] bytes mL' rt rm (.ref a :: as').toArray h Q') (E : Exa Z h a C) (w1 : (Cond.methodLink own index (⟨o', n', d'⟩ : MethodName)).before a0 Z = true) (w2 : (Cond.declares (⟨o', n', d'⟩ : MethodName)).before a0 Z = true) (w2' : (Cond.interfaceMethod o' o' n' d').before a0 Z = true) (w3 : (Cond.selects C (⟨o', n', d'⟩ : MethodName) (⟨oz, n', d'⟩ : MethodName)).before a0 Z = true) (w4 : (Cond.instanceMethod (⟨oz, n', d'⟩ : MethodName)).before a0 Z = true) (w4' : (Cond.publicMethod (⟨oz, n', d'⟩ : MethodName)).before a0 Z = true) (w4'' : (Cond.unhidden C n' d').before a0 Z = true) (wc : (Cond.castable C o').before a0 Z = true) (w5 : (Cond.initialized oz).before a0 Z = true) (w6 : (Cond.code (⟨oz, n', d'⟩ : MethodName) bytes mL' rt).before a0 Z = true)
    (hy : o' ≠ "java/lang/invoke/MethodHandle" ∧ o' ≠ "java/lang/invoke/VarHandle") (hpd : parseMethodDescriptor d' = some ⟨ps, r⟩) (hlen : as'.length = ps.length) (hst : st = as'.reverse ++ .ref a :: rest) (hsz : Ls.size = mL) (hf : rm.frames + 1 ≤ R.frames) (hlo : (rest.map fun v => v.category).sum + (mL' + 11) + rm.locals ≤ R.locals) (hc1 : cells + rm.cells ≤ R.cells) (hs1 : slots + rm.slots ≤ R.slots)
    (hd : decode code pc = .ok (.invokeinterface index count, 5)) (hI : ∀ (v : Option Value) (s : State) (h' : Heap), Q' v h' → I s h → I' s h') (hr : ∀ v h', Q' v h' → Go l Z n0 R own nm code mL ret I' F h' (cells + rm.cells) (slots + rm.slots) (pc + 5) Ls (v.toList ++ rest)) : Go l Z n0 R own nm code mL ret I F h cells slots pc Ls st := by
  intro p e s m args below meth c T locs hx hZ ho hn hc hm hr' hk X N eT hJ
  obtain ⟨cq, kq, qa, qb, qc⟩ := isOf hZ eT E
  obtain ⟨v, _, ⟨T', L', k', n''⟩, -, X', ⟨Lc, ⟨N', hQ'⟩, l1, l2, l3⟩, stp⟩ := X.interfaceBack hx (xi := (⟨o', n', d'⟩ : MethodName)) (y := (⟨oz, n', d'⟩ : MethodName)) ho (mvT hZ w1) (mvT hZ w2) (mvT hZ w2' (by simp [Cond.onTables, Cond.keepsFace, Cond.keeps, Cond.steady, Cond.faceAtom, hy.1, hy.2])) (mvT hZ w3) (mvT hZ w4) (mvT hZ w4') (mvT hZ w4'') (mvT hZ wc) hy (backOf (Q := fun v h L => Fr n0 L ∧ Q' v h) (W := (rest.map fun v => v.category).sum) hC hZ w6 w5 hf hlo) qa qb qc (g := mkF m pc Ls st) rfl (hsz.trans hm.symm) (Steps.refl _) (argsL := as') (rest := rest) (lenOf hpd hlen) hst (by show 2 * 0 + _ ≤ _; omega) (hb hc hd) (fun _ _ => ⟨rfl, eT, hc1, hs1⟩)
  dsimp only [Pt.U, Pt.locs, Pt.cells, Pt.slots] at X' l1 l2 l3 stp hQ'
  subst l1 l2 l3
  obtain ⟨s₂, v2, L, h1, r⟩ := hr v T'.heap hQ' p e s m args below meth c T' _ hx hZ ho hn hc hm hr' hk X' (Fr.app N N') rfl (hI v s T'.heap hQ' hJ)
  exact ⟨s₂, v2, L, stp.trans h1, r⟩
/-! calls that are paid otherwise -/
theorem Go.callIP {o' d' : String} {bytes : ByteArray} {mL' index : Nat} {kc ks W : Nat} (a : Addr) (as' rest : List Value) {Q' : Option Value → Heap → Prop} {ps : List FieldType} {r : Option FieldType}
    (hC : Pays l Z n0 R (⟨o', "<init>", d'⟩ : MethodName) 3 W (.ref a :: as').toArray h kc ks Q') (w1 : (Cond.methodLink own index (⟨o', "<init>", d'⟩ : MethodName)).before a0 Z = true) (w2 : (Cond.instanceMethod (⟨o', "<init>", d'⟩ : MethodName)).before a0 Z = true) (w3 : (Cond.initialized o').before a0 Z = true) (w4 : (Cond.code (⟨o', "<init>", d'⟩ : MethodName) bytes mL' none).before a0 Z = true)
    (hy : o' ≠ "java/lang/invoke/MethodHandle" ∧ o' ≠ "java/lang/invoke/VarHandle") (hpd : parseMethodDescriptor d' = some ⟨ps, r⟩) (hlen : as'.length = ps.length) (hst : st = as'.reverse ++ .ref a :: rest) (hsz : Ls.size = mL) (hW : (rest.map fun v => v.category).sum ≤ W) (hc1 : cells + kc ≤ R.cells) (hs1 : slots + ks ≤ R.slots)
    (hd : decode code pc = .ok (.invokespecial index, 3)) (hI : ∀ (v : Option Value) (s : State) (h' : Heap), Q' v h' → I s h → I' s h') (hr : ∀ v h', Q' v h' → Go l Z n0 R own nm code mL ret I' F h' (cells + kc) (slots + ks) (pc + 3) Ls (v.toList ++ rest)) : Go l Z n0 R own nm code mL ret I F h cells slots pc Ls st := by
  intro p e s m args below meth c T locs hx hZ ho hn hc hm hr' hk X N eT hJ
  obtain ⟨v, _, ⟨T', L', k', n''⟩, -, X', ⟨Lc, ⟨N', hQ'⟩, l1, l2, l3⟩, stp⟩ := X.specialBack hx (y := (⟨o', "<init>", d'⟩ : MethodName)) rfl ho (mvT hZ w1) (mvT hZ w2) (mvT hZ w4) hy (hC p e below s args hZ) (g := mkF m pc Ls st) rfl (hsz.trans hm.symm) (Steps.refl _) (a := a) (argsL := as') (rest := rest) (lenOf hpd hlen) hst (by show 2 * 0 + _ ≤ _; omega) (hb hc hd) (fun _ _ => ⟨rfl, eT, hc1, hs1⟩)
  dsimp only [Pt.U, Pt.locs, Pt.cells, Pt.slots] at X' l1 l2 l3 stp hQ'
  subst l1 l2 l3
  obtain ⟨s₂, v2, L, h1, r⟩ := hr v T'.heap hQ' p e s m args below meth c T' _ hx hZ ho hn hc hm hr' hk X' (Fr.app N N') rfl (hI v s T'.heap hQ' hJ)
  exact ⟨s₂, v2, L, stp.trans h1, r⟩
theorem Go.callVP {o' n' d' C oz : String} {bytes : ByteArray} {mL' index : Nat} {rt : Option FieldType} {kc ks W : Nat} (a : Addr) (as' rest : List Value) {Q' : Option Value → Heap → Prop} {ps : List FieldType} {r : Option FieldType}
    (hC : Pays l Z n0 R (⟨oz, n', d'⟩ : MethodName) 3 W (.ref a :: as').toArray h kc ks Q') (E : Exa Z h a C) (w1 : (Cond.methodLink own index (⟨o', n', d'⟩ : MethodName)).before a0 Z = true) (w2 : (Cond.declares (⟨o', n', d'⟩ : MethodName)).before a0 Z = true) (nf : ∀ s : State, Z.Warmed39 s.vm → NotFace s (⟨o', n', d'⟩ : MethodName)) (w3 : (Cond.selects C (⟨o', n', d'⟩ : MethodName) (⟨oz, n', d'⟩ : MethodName)).before a0 Z = true) (w4 : (Cond.instanceMethod (⟨oz, n', d'⟩ : MethodName)).before a0 Z = true) (w5 : (Cond.initialized oz).before a0 Z = true) (w6 : (Cond.code (⟨oz, n', d'⟩ : MethodName) bytes mL' rt).before a0 Z = true)
    (hy : o' ≠ "java/lang/invoke/MethodHandle" ∧ o' ≠ "java/lang/invoke/VarHandle") (hpd : parseMethodDescriptor d' = some ⟨ps, r⟩) (hlen : as'.length = ps.length) (hst : st = as'.reverse ++ .ref a :: rest) (hsz : Ls.size = mL) (hW : (rest.map fun v => v.category).sum ≤ W) (hc1 : cells + kc ≤ R.cells) (hs1 : slots + ks ≤ R.slots)
    (hd : decode code pc = .ok (.invokevirtual index, 3)) (hI : ∀ (v : Option Value) (s : State) (h' : Heap), Q' v h' → I s h → I' s h') (hr : ∀ v h', Q' v h' → Go l Z n0 R own nm code mL ret I' F h' (cells + kc) (slots + ks) (pc + 3) Ls (v.toList ++ rest)) : Go l Z n0 R own nm code mL ret I F h cells slots pc Ls st := by
  intro p e s m args below meth c T locs hx hZ ho hn hc hm hr' hk X N eT hJ
  obtain ⟨cq, kq, qa, qb, qc⟩ := isOf hZ eT E
  obtain ⟨v, _, ⟨T', L', k', n''⟩, -, X', ⟨Lc, ⟨N', hQ'⟩, l1, l2, l3⟩, stp⟩ := X.virtualBack hx (y := (⟨o', n', d'⟩ : MethodName)) (z := (⟨oz, n', d'⟩ : MethodName)) ho (mvT hZ w1) (mvT hZ w2) (nf s hZ) (mvT hZ w3) (mvT hZ w4) hy (hC p e below s args hZ) qa qc (g := mkF m pc Ls st) rfl (hsz.trans hm.symm) (Steps.refl _) (argsL := as') (rest := rest) (lenOf hpd hlen) hst (by show 2 * 0 + _ ≤ _; omega) (hb hc hd) (fun _ _ => ⟨rfl, eT, hc1, hs1⟩)
  dsimp only [Pt.U, Pt.locs, Pt.cells, Pt.slots] at X' l1 l2 l3 stp hQ'
  subst l1 l2 l3
  obtain ⟨s₂, v2, L, h1, r⟩ := hr v T'.heap hQ' p e s m args below meth c T' _ hx hZ ho hn hc hm hr' hk X' (Fr.app N N') rfl (hI v s T'.heap hQ' hJ)
  exact ⟨s₂, v2, L, stp.trans h1, r⟩
theorem Go.callSP {o' n' d' : String} {bytes : ByteArray} {mL' index : Nat} {rt : Option FieldType} {kc ks W : Nat} (as' rest : List Value) {Q' : Option Value → Heap → Prop} {ps : List FieldType} {r : Option FieldType}
    (hC : Pays l Z n0 R (⟨o', n', d'⟩ : MethodName) 3 W as'.toArray h kc ks Q') (w1 : (Cond.methodLink own index (⟨o', n', d'⟩ : MethodName)).before a0 Z = true) (w2 : (Cond.static (⟨o', n', d'⟩ : MethodName)).before a0 Z = true) (w3 : (Cond.initialized o').before a0 Z = true) (w4 : (Cond.code (⟨o', n', d'⟩ : MethodName) bytes mL' rt).before a0 Z = true)
    (hy : o' ≠ "java/lang/invoke/MethodHandle" ∧ o' ≠ "java/lang/invoke/VarHandle") (hpd : parseMethodDescriptor d' = some ⟨ps, r⟩) (hlen : as'.length = ps.length) (hst : st = as'.reverse ++ rest) (hsz : Ls.size = mL) (hW : (rest.map fun v => v.category).sum ≤ W) (hc1 : cells + kc ≤ R.cells) (hs1 : slots + ks ≤ R.slots)
    (hd : decode code pc = .ok (.invokestatic index, 3)) (hI : ∀ (v : Option Value) (s : State) (h' : Heap), Q' v h' → I s h → I' s h') (hr : ∀ v h', Q' v h' → Go l Z n0 R own nm code mL ret I' F h' (cells + kc) (slots + ks) (pc + 3) Ls (v.toList ++ rest)) : Go l Z n0 R own nm code mL ret I F h cells slots pc Ls st := by
  intro p e s m args below meth c T locs hx hZ ho hn hc hm hr' hk X N eT hJ
  obtain ⟨v, _, ⟨T', L', k', n''⟩, -, X', ⟨Lc, ⟨N', hQ'⟩, l1, l2, l3⟩, stp⟩ := Jvm.LawKit.callS X hx (y := (⟨o', n', d'⟩ : MethodName)) ho (mvT hZ w1) (mvT hZ w2) (mvT hZ w3) (mvT hZ w4) hy (hC p e below s args hZ) (g := mkF m pc Ls st) rfl (hsz.trans hm.symm) (argsL := as') (rest := rest) (lenOf hpd hlen) hst (by show 2 * 0 + _ ≤ _; omega) (hb hc hd) (fun _ _ => ⟨rfl, eT, hc1, hs1⟩)
  dsimp only [Pt.U, Pt.locs, Pt.cells, Pt.slots] at X' l1 l2 l3 stp hQ'
  subst l1 l2 l3
  obtain ⟨s₂, v2, L, h1, r⟩ := hr v T'.heap hQ' p e s m args below meth c T' _ hx hZ ho hn hc hm hr' hk X' (Fr.app N N') rfl (hI v s T'.heap hQ' hJ)
  exact ⟨s₂, v2, L, stp _ h1, r⟩
end Go
end Jvm.Own
namespace Jvm.Own
open Jvm Jvm.ClassFile Sem Op Lib Jvm.Free Jvm.Stand Jvm.LawKit Jvm.RoadKit Bundle
/-- a class that is there and is no interface -/
def Ord (Z : State) (C : String) : Prop := ∃ c k, Z.vm.findClass C = some c ∧ Z.vm.classes[c]? = some k ∧ k.isInterface = false
theorem Ord.sel {Z : State} {a0 : Array Value} {C : String} {x y : MethodName} (w : (Cond.selects C x y).before a0 Z = true) : Ord Z y.cls := by
  obtain ⟨c, r, mm, h1, h2, h3, h4, k, h5, h6⟩ := Cond.selects_spec w
  exact ⟨mm.cls, k, findClass_of_methodNamed h3, h5, h6⟩
theorem Ord.nf {Z : State} {o' n' d' : String} (F : Ord Z o') : ∀ s : State, Z.Warmed39 s.vm → NotFace s (⟨o', n', d'⟩ : MethodName) := by
  intro s hZ r0 h0
  obtain ⟨c, k, h1, h2, h3⟩ := F
  have q := findClass_of_methodNamed h0
  rw [hZ.alike.findClass] at q
  cases h1.symm.trans q
  obtain ⟨k', q1, q2⟩ := hZ.alike.2.2 _ _ h2
  exact ⟨k', q1, by rw [q2]; exact h3⟩
theorem sel_priv2 {Z : State} {a0 : Array Value} {y : MethodName} (F : Ord Z y.cls) (wm : (Cond.instanceMethod y).before a0 Z = true) (wp : (Cond.privateMethod y).before a0 Z = true) (hy : y.cls ≠ "java/lang/invoke/MethodHandle" ∧ y.cls ≠ "java/lang/invoke/VarHandle") : (Cond.selects y.cls y y).before a0 Z = true := by
  obtain ⟨mk, meth, hnamed, hmeth, -, -⟩ := Cond.instanceMethod_spec wm
  obtain ⟨c, k, hc, hk, hni⟩ := F
  have hfound := State.methodFound?_of_named hnamed hy
  have hc' := findClass_of_methodNamed hnamed
  cases hc.symm.trans hc'
  have hsel : selectMethod {} Z.vm mk.cls mk = .method mk := selectMethod_private hmeth (Cond.privateMethod_at wp mk meth hnamed hmeth)
  simp [Cond.before, Cond.holds, Cond.value, hc', hfound, hnamed, hsel, hk, hni]
theorem same_self {Z : State} {a0 : Array Value} {y : MethodName} (F : Ord Z y.cls) (wm : (Cond.instanceMethod y).before a0 Z = true) (hy : y.cls ≠ "java/lang/invoke/MethodHandle" ∧ y.cls ≠ "java/lang/invoke/VarHandle") : (Cond.sameMethod y.cls y.cls y.name y.desc).before a0 Z = true := by
  obtain ⟨mk, meth, hnamed, hmeth, -, -⟩ := Cond.instanceMethod_spec wm
  obtain ⟨c, k, hc, hk, hni⟩ := F
  have hfound := State.methodFound?_of_named hnamed hy
  have hc' := findClass_of_methodNamed hnamed
  cases hc.symm.trans hc'
  simp [Cond.before, Cond.holds, Cond.value, hc', hfound, hnamed, hk, hni]
section Go
variable {l : Launch} {Z : State} {n0 : Nat} {R : Room} {own nm : String} {code : ByteArray} {mL : Nat} {ret : Option FieldType} {Q : Option Value → Heap → Prop} {I I' : State → Heap → Prop} {F : State → Option Value → State → List Loc → Prop} {h : Heap} {cells slots pc : Nat} {Ls : Array Slot} {st rest : List Value} {a0 : Array Value}
/-- invokespecial: a method of the direct superclass -/
theorem Go.callSup {o' n' d' C : String} {bytes : ByteArray} {mL' index : Nat} {rt : Option FieldType} {rm : Room} (a : Addr) (as' rest : List Value) {Q' : Option Value → Heap → Prop} {ps : List FieldType} {r : Option FieldType}
    (hC : Ct l Z n0 o' n' d' [] bytes mL' rt rm (.ref a :: as').toArray h Q') (E : Exa Z h a C) (FO : Ord Z o') (w1 : (Cond.methodLink own index (⟨o', n', d'⟩ : MethodName)).before a0 Z = true) (w2 : (Cond.instanceMethod (⟨o', n', d'⟩ : MethodName)).before a0 Z = true) (w4 : (Cond.superclass own o').before a0 Z = true) (w5 : (Cond.initialized o').before a0 Z = true) (w6 : (Cond.code (⟨o', n', d'⟩ : MethodName) bytes mL' rt).before a0 Z = true) (hni : n' ≠ "<init>")
    (hy : o' ≠ "java/lang/invoke/MethodHandle" ∧ o' ≠ "java/lang/invoke/VarHandle") (hpd : parseMethodDescriptor d' = some ⟨ps, r⟩) (hlen : as'.length = ps.length) (hst : st = as'.reverse ++ .ref a :: rest) (hsz : Ls.size = mL) (hf : rm.frames + 1 ≤ R.frames) (hlo : (rest.map fun v => v.category).sum + (mL' + 11) + rm.locals ≤ R.locals) (hc1 : cells + rm.cells ≤ R.cells) (hs1 : slots + rm.slots ≤ R.slots)
    (hd : decode code pc = .ok (.invokespecial index, 3)) (hI : ∀ (v : Option Value) (s : State) (h' : Heap), Q' v h' → I s h → I' s h') (hr : ∀ v h', Q' v h' → Go l Z n0 R own nm code mL ret I' F h' (cells + rm.cells) (slots + rm.slots) (pc + 3) Ls (v.toList ++ rest)) : Go l Z n0 R own nm code mL ret I F h cells slots pc Ls st := by
  intro p e s m args below meth c T locs hx hZ ho hn hc hm hr' hk X N eT hJ
  obtain ⟨v, _, ⟨T', L', k', n''⟩, -, X', ⟨Lc, ⟨N', hQ'⟩, l1, l2, l3⟩, stp⟩ := Jvm.RoadKit.superBack X hx hZ (K := C) (y := (⟨o', n', d'⟩ : MethodName)) ho w1 (same_self (y := (⟨o', n', d'⟩ : MethodName)) FO w2 hy) w2 w4 hni (backOf (Q := fun v h L => Fr n0 L ∧ Q' v h) (W := (rest.map fun v => v.category).sum) hC hZ w6 w5 hf hlo) eT (Ins.self E) (g := mkF m pc Ls st) rfl (hsz.trans hm.symm) w6 (argsL := as') (rest := rest) (lenOf hpd hlen) hst (by show 2 * 0 + _ ≤ _; omega) (hb hc hd) (fun _ _ => ⟨rfl, eT, hc1, hs1⟩)
  dsimp only [Pt.U, Pt.locs, Pt.cells, Pt.slots] at X' l1 l2 l3 stp hQ'
  subst l1 l2 l3
  obtain ⟨s₂, v2, L, h1, r⟩ := hr v T'.heap hQ' p e s m args below meth c T' _ hx hZ ho hn hc hm hr' hk X' (Fr.app N N') rfl (hI v s T'.heap hQ' hJ)
  exact ⟨s₂, v2, L, stp.trans h1, r⟩
/-- System.arraycopy between arrays of one primitive type -/
theorem Go.copyB {index : Nat} {a b : Addr} {k k' : ClassId} {ty : FieldType} {z z' sp dp nn : Int32} {vs vd : List Value} {dv dd : Value} (us : List Value) (A : Arv Z h a k ty z vs dv) (B : Arv Z h b k' ty z' vd dd) (hty : refKind ty = false)
    (w1 : (Cond.methodLink own index (⟨"java/lang/System", "arraycopy", "(Ljava/lang/Object;ILjava/lang/Object;II)V"⟩ : MethodName)).before a0 Z = true) (w2 : (Cond.native (⟨"java/lang/System", "arraycopy", "(Ljava/lang/Object;ILjava/lang/Object;II)V"⟩ : MethodName)).before a0 Z = true) (w3 : (Cond.static (⟨"java/lang/System", "arraycopy", "(Ljava/lang/Object;ILjava/lang/Object;II)V"⟩ : MethodName)).before a0 Z = true) (w4 : (Cond.initialized "java/lang/System").before a0 Z = true)
    (h1 : ¬ sp < 0) (h2 : ¬ dp < 0) (h3 : ¬ nn < 0) (h4 : sp.toNatClampNeg + nn.toNatClampNeg ≤ z.toNatClampNeg) (h5 : dp.toNatClampNeg + nn.toNatClampNeg ≤ z'.toNatClampNeg) (hus : us = (List.range nn.toNatClampNeg).map fun i => vs.getD (sp.toNatClampNeg + i) dv) (hl : dp.toNatClampNeg + nn.toNatClampNeg ≤ vd.length) (ge : n0 ≤ b)
    (hd : decode code pc = .ok (.invokestatic index, 3)) (hsz : Ls.size = mL) (hf : 1 ≤ R.frames) (hlo : (rest.map fun v => v.category).sum + (nativeFrameWords "java/lang/System" "arraycopy" 5 + 11) ≤ R.locals)
    (hI : ∀ (s : State) (h' : Heap), Keep h h' [b] → I s h → I' s h') (hr : ∀ h', Keep h h' [b] → Arv Z h' b k' ty z' (vd.take dp.toNatClampNeg ++ us ++ vd.drop (dp.toNatClampNeg + nn.toNatClampNeg)) dd → Go l Z n0 R own nm code mL ret I' F h' cells slots (pc + 3) Ls rest) : Go l Z n0 R own nm code mL ret I F h cells slots pc Ls (.int nn :: .int dp :: .ref b :: .int sp :: .ref a :: rest) := by
  intro p e s m args below meth c T locs hx hZ ho hn hc hm hr' hk X N eT hJ
  obtain ⟨T', h', L', X', e', N', K', V', stp⟩ := Jvm.RoadKit.cpA X hx hZ ho w1 w2 w3 w4 eT A B (us := us) (Or.inl ⟨rfl, hty⟩) h1 h2 h3 h4 h5 hus hl N ge (g := mkF m pc Ls (.int nn :: .int dp :: .ref b :: .int sp :: .ref a :: rest)) rfl (hsz.trans hm.symm) (rest := rest) rfl (hb hc hd) hf (W := (rest.map fun v => v.category).sum) (by show 2 * 0 + _ ≤ _; omega) hlo
  obtain ⟨s₂, v2, L, g1, r⟩ := hr h' K' V' p e s m args below meth c T' _ hx hZ ho hn hc hm hr' hk X' N' e' (hI s h' K' hJ)
  exact ⟨s₂, v2, L, stp _ g1, r⟩
end Go
end Jvm.Own
namespace Jvm.Pilot.@@N@@
open Jvm Jvm.ClassFile Sem Op Lib Jvm.Free Jvm.Stand Jvm.LawKit Jvm.RoadKit Bundle Jvm.Own Jvm.Pilot.@@N@@.Jvm.D
theorem wd_0 {Z : State} {a0 : Array Value} (hw : ∀ d ∈ tables_1, d.before a0 Z = true) : (Jvm.Cond.constant "com/example/wee_query/weequery/IntColumnGetPinLaw" (7 : Nat) (2147483647 : Int32)).before a0 Z = true := hw _ (List.mem_of_getElem? (i := 0) rfl)
theorem wd_1 {Z : State} {a0 : Array Value} (hw : ∀ d ∈ tables_1, d.before a0 Z = true) : (Jvm.Cond.classLink "com/example/wee_query/weequery/IntColumnGetPinLaw" (18 : Nat) "com/example/wee_query/weequery/IntColumn$Builder").before a0 Z = true := hw _ (List.mem_of_getElem? (i := 1) rfl)
theorem wd_2 {Z : State} {a0 : Array Value} (hw : ∀ d ∈ tables_1, d.before a0 Z = true) : (Jvm.Cond.instantiable "com/example/wee_query/weequery/IntColumn$Builder" (10 : Nat)).before a0 Z = true := hw _ (List.mem_of_getElem? (i := 2) rfl)
theorem wd_3 {Z : State} {a0 : Array Value} (hw : ∀ d ∈ tables_1, d.before a0 Z = true) : (Jvm.Cond.initialized "com/example/wee_query/weequery/IntColumn$Builder").before a0 Z = true := hw _ (List.mem_of_getElem? (i := 3) rfl)
theorem wd_4 {Z : State} {a0 : Array Value} (hw : ∀ d ∈ tables_1, d.before a0 Z = true) : (Jvm.Cond.methodLink "com/example/wee_query/weequery/IntColumnGetPinLaw" (20 : Nat) ({ cls := "com/example/wee_query/weequery/IntColumn$Builder", name := "<init>", desc := "(ZII)V" } : Jvm.MethodName)).before a0 Z = true := hw _ (List.mem_of_getElem? (i := 4) rfl)
theorem wd_5 {Z : State} {a0 : Array Value} (hw : ∀ d ∈ tables_1, d.before a0 Z = true) : (Jvm.Cond.instanceMethod ({ cls := "com/example/wee_query/weequery/IntColumn$Builder", name := "<init>", desc := "(ZII)V" } : Jvm.MethodName)).before a0 Z = true := hw _ (List.mem_of_getElem? (i := 5) rfl)
theorem wd_6 {Z : State} {a0 : Array Value} (hw : ∀ d ∈ tables_1, d.before a0 Z = true) : (Jvm.Cond.code ({ cls := "com/example/wee_query/weequery/IntColumn$Builder", name := "<init>", desc := "(ZII)V" } : Jvm.MethodName) prog_25_method_1_code (4 : Nat) (Option.none : Option Jvm.ClassFile.FieldType)).before a0 Z = true := hw _ (List.mem_of_getElem? (i := 6) rfl)
theorem wd_7 {Z : State} {a0 : Array Value} (hw : ∀ d ∈ tables_1, d.before a0 Z = true) : (Jvm.Cond.methodLink "com/example/wee_query/weequery/IntColumn$Builder" (3 : Nat) ({ cls := "java/lang/Object", name := "<init>", desc := "()V" } : Jvm.MethodName)).before a0 Z = true := hw _ (List.mem_of_getElem? (i := 7) rfl)
theorem wd_8 {Z : State} {a0 : Array Value} (hw : ∀ d ∈ tables_1, d.before a0 Z = true) : (Jvm.Cond.instanceMethod ({ cls := "java/lang/Object", name := "<init>", desc := "()V" } : Jvm.MethodName)).before a0 Z = true := hw _ (List.mem_of_getElem? (i := 8) rfl)
theorem wd_9 {Z : State} {a0 : Array Value} (hw : ∀ d ∈ tables_1, d.before a0 Z = true) : (Jvm.Cond.code ({ cls := "java/lang/Object", name := "<init>", desc := "()V" } : Jvm.MethodName) object_method_1_code (1 : Nat) (Option.none : Option Jvm.ClassFile.FieldType)).before a0 Z = true := hw _ (List.mem_of_getElem? (i := 9) rfl)
theorem wd_10 {Z : State} {a0 : Array Value} (hw : ∀ d ∈ tables_1, d.before a0 Z = true) : (Jvm.Cond.classLink "com/example/wee_query/weequery/IntColumn$Builder" (9 : Nat) "[C").before a0 Z = true := hw _ (List.mem_of_getElem? (i := 10) rfl)
theorem wd_11 {Z : State} {a0 : Array Value} (hw : ∀ d ∈ tables_1, d.before a0 Z = true) : (Jvm.Cond.arrayOver (Jvm.ClassFile.FieldType.array Jvm.ClassFile.FieldType.char)).before a0 Z = true := hw _ (List.mem_of_getElem? (i := 11) rfl)
theorem wd_12 {Z : State} {a0 : Array Value} (hw : ∀ d ∈ tables_1, d.before a0 Z = true) : (Jvm.Cond.fieldLink "com/example/wee_query/weequery/IntColumn$Builder" (11 : Nat) "com/example/wee_query/weequery/IntColumn$Builder" "pages" "[[C").before a0 Z = true := hw _ (List.mem_of_getElem? (i := 12) rfl)
theorem wd_13 {Z : State} {a0 : Array Value} (hw : ∀ d ∈ tables_1, d.before a0 Z = true) : (Jvm.Cond.lays "com/example/wee_query/weequery/IntColumn$Builder" "com/example/wee_query/weequery/IntColumn$Builder" "pages" "[[C").before a0 Z = true := hw _ (List.mem_of_getElem? (i := 13) rfl)
theorem wd_14 {Z : State} {a0 : Array Value} (hw : ∀ d ∈ tables_1, d.before a0 Z = true) : (Jvm.Cond.classLink "com/example/wee_query/weequery/IntColumn$Builder" (17 : Nat) "[I").before a0 Z = true := hw _ (List.mem_of_getElem? (i := 14) rfl)
theorem wd_15 {Z : State} {a0 : Array Value} (hw : ∀ d ∈ tables_1, d.before a0 Z = true) : (Jvm.Cond.arrayOver (Jvm.ClassFile.FieldType.array Jvm.ClassFile.FieldType.int)).before a0 Z = true := hw _ (List.mem_of_getElem? (i := 15) rfl)
theorem wd_16 {Z : State} {a0 : Array Value} (hw : ∀ d ∈ tables_1, d.before a0 Z = true) : (Jvm.Cond.fieldLink "com/example/wee_query/weequery/IntColumn$Builder" (19 : Nat) "com/example/wee_query/weequery/IntColumn$Builder" "tables" "[[I").before a0 Z = true := hw _ (List.mem_of_getElem? (i := 16) rfl)
theorem wd_17 {Z : State} {a0 : Array Value} (hw : ∀ d ∈ tables_1, d.before a0 Z = true) : (Jvm.Cond.lays "com/example/wee_query/weequery/IntColumn$Builder" "com/example/wee_query/weequery/IntColumn$Builder" "tables" "[[I").before a0 Z = true := hw _ (List.mem_of_getElem? (i := 17) rfl)
theorem wd_18 {Z : State} {a0 : Array Value} (hw : ∀ d ∈ tables_1, d.before a0 Z = true) : (Jvm.Cond.arrayClass Jvm.ClassFile.FieldType.int).before a0 Z = true := hw _ (List.mem_of_getElem? (i := 18) rfl)
theorem wd_19 {Z : State} {a0 : Array Value} (hw : ∀ d ∈ tables_1, d.before a0 Z = true) : (Jvm.Cond.fieldLink "com/example/wee_query/weequery/IntColumn$Builder" (23 : Nat) "com/example/wee_query/weequery/IntColumn$Builder" "tableSizes" "[I").before a0 Z = true := hw _ (List.mem_of_getElem? (i := 19) rfl)
theorem wd_20 {Z : State} {a0 : Array Value} (hw : ∀ d ∈ tables_1, d.before a0 Z = true) : (Jvm.Cond.lays "com/example/wee_query/weequery/IntColumn$Builder" "com/example/wee_query/weequery/IntColumn$Builder" "tableSizes" "[I").before a0 Z = true := hw _ (List.mem_of_getElem? (i := 20) rfl)
theorem wd_21 {Z : State} {a0 : Array Value} (hw : ∀ d ∈ tables_1, d.before a0 Z = true) : (Jvm.Cond.fieldLink "com/example/wee_query/weequery/IntColumn$Builder" (26 : Nat) "com/example/wee_query/weequery/IntColumn$Builder" "width" "I").before a0 Z = true := hw _ (List.mem_of_getElem? (i := 21) rfl)
theorem wd_22 {Z : State} {a0 : Array Value} (hw : ∀ d ∈ tables_1, d.before a0 Z = true) : (Jvm.Cond.laysFinal "com/example/wee_query/weequery/IntColumn$Builder" "com/example/wee_query/weequery/IntColumn$Builder" "width" "I").before a0 Z = true := hw _ (List.mem_of_getElem? (i := 22) rfl)
theorem wd_23 {Z : State} {a0 : Array Value} (hw : ∀ d ∈ tables_1, d.before a0 Z = true) : (Jvm.Cond.methodLink "com/example/wee_query/weequery/IntColumn$Builder" (30 : Nat) ({ cls := "com/example/wee_query/weequery/IntColumn", name := "far", desc := "(I)I" } : Jvm.MethodName)).before a0 Z = true := hw _ (List.mem_of_getElem? (i := 23) rfl)
theorem wd_24 {Z : State} {a0 : Array Value} (hw : ∀ d ∈ tables_1, d.before a0 Z = true) : (Jvm.Cond.static ({ cls := "com/example/wee_query/weequery/IntColumn", name := "far", desc := "(I)I" } : Jvm.MethodName)).before a0 Z = true := hw _ (List.mem_of_getElem? (i := 24) rfl)
theorem wd_25 {Z : State} {a0 : Array Value} (hw : ∀ d ∈ tables_1, d.before a0 Z = true) : (Jvm.Cond.initialized "com/example/wee_query/weequery/IntColumn").before a0 Z = true := hw _ (List.mem_of_getElem? (i := 25) rfl)
theorem wd_26 {Z : State} {a0 : Array Value} (hw : ∀ d ∈ tables_1, d.before a0 Z = true) : (Jvm.Cond.code ({ cls := "com/example/wee_query/weequery/IntColumn", name := "far", desc := "(I)I" } : Jvm.MethodName) prog_24_method_2_code (1 : Nat) (Option.some Jvm.ClassFile.FieldType.int)).before a0 Z = true := hw _ (List.mem_of_getElem? (i := 26) rfl)
theorem wd_27 {Z : State} {a0 : Array Value} (hw : ∀ d ∈ tables_1, d.before a0 Z = true) : (Jvm.Cond.fieldLink "com/example/wee_query/weequery/IntColumn$Builder" (34 : Nat) "com/example/wee_query/weequery/IntColumn$Builder" "far" "I").before a0 Z = true := hw _ (List.mem_of_getElem? (i := 27) rfl)
theorem wd_28 {Z : State} {a0 : Array Value} (hw : ∀ d ∈ tables_1, d.before a0 Z = true) : (Jvm.Cond.laysFinal "com/example/wee_query/weequery/IntColumn$Builder" "com/example/wee_query/weequery/IntColumn$Builder" "far" "I").before a0 Z = true := hw _ (List.mem_of_getElem? (i := 28) rfl)
theorem wd_29 {Z : State} {a0 : Array Value} (hw : ∀ d ∈ tables_1, d.before a0 Z = true) : (Jvm.Cond.fieldLink "com/example/wee_query/weequery/IntColumn$Builder" (36 : Nat) "com/example/wee_query/weequery/IntColumn$Builder" "pageBits" "I").before a0 Z = true := hw _ (List.mem_of_getElem? (i := 29) rfl)
theorem wd_30 {Z : State} {a0 : Array Value} (hw : ∀ d ∈ tables_1, d.before a0 Z = true) : (Jvm.Cond.lays "com/example/wee_query/weequery/IntColumn$Builder" "com/example/wee_query/weequery/IntColumn$Builder" "pageBits" "I").before a0 Z = true := hw _ (List.mem_of_getElem? (i := 30) rfl)
theorem wd_31 {Z : State} {a0 : Array Value} (hw : ∀ d ∈ tables_1, d.before a0 Z = true) : (Jvm.Cond.fieldLink "com/example/wee_query/weequery/IntColumn$Builder" (39 : Nat) "com/example/wee_query/weequery/IntColumn$Builder" "inPage" "I").before a0 Z = true := hw _ (List.mem_of_getElem? (i := 31) rfl)
theorem wd_32 {Z : State} {a0 : Array Value} (hw : ∀ d ∈ tables_1, d.before a0 Z = true) : (Jvm.Cond.lays "com/example/wee_query/weequery/IntColumn$Builder" "com/example/wee_query/weequery/IntColumn$Builder" "inPage" "I").before a0 Z = true := hw _ (List.mem_of_getElem? (i := 32) rfl)
theorem wd_33 {Z : State} {a0 : Array Value} (hw : ∀ d ∈ tables_1, d.before a0 Z = true) : (Jvm.Cond.arrayClass Jvm.ClassFile.FieldType.char).before a0 Z = true := hw _ (List.mem_of_getElem? (i := 33) rfl)
theorem wd_34 {Z : State} {a0 : Array Value} (hw : ∀ d ∈ tables_1, d.before a0 Z = true) : (Jvm.Cond.fieldLink "com/example/wee_query/weequery/IntColumn$Builder" (42 : Nat) "com/example/wee_query/weequery/IntColumn$Builder" "last" "[C").before a0 Z = true := hw _ (List.mem_of_getElem? (i := 34) rfl)
theorem wd_35 {Z : State} {a0 : Array Value} (hw : ∀ d ∈ tables_1, d.before a0 Z = true) : (Jvm.Cond.lays "com/example/wee_query/weequery/IntColumn$Builder" "com/example/wee_query/weequery/IntColumn$Builder" "last" "[C").before a0 Z = true := hw _ (List.mem_of_getElem? (i := 35) rfl)
theorem wd_37 {Z : State} {a0 : Array Value} (hw : ∀ d ∈ tables_1, d.before a0 Z = true) : (Jvm.Cond.methodLink "com/example/wee_query/weequery/IntColumnGetPinLaw" (23 : Nat) ({ cls := "com/example/wee_query/weequery/IntColumn$Builder", name := "add", desc := "(II)V" } : Jvm.MethodName)).before a0 Z = true := hw _ (List.mem_of_getElem? (i := 37) rfl)
theorem wd_38 {Z : State} {a0 : Array Value} (hw : ∀ d ∈ tables_1, d.before a0 Z = true) : (Jvm.Cond.declares ({ cls := "com/example/wee_query/weequery/IntColumn$Builder", name := "add", desc := "(II)V" } : Jvm.MethodName)).before a0 Z = true := hw _ (List.mem_of_getElem? (i := 38) rfl)
theorem wd_39 {Z : State} {a0 : Array Value} (hw : ∀ d ∈ tables_1, d.before a0 Z = true) : (Jvm.Cond.instanceMethod ({ cls := "com/example/wee_query/weequery/IntColumn$Builder", name := "add", desc := "(II)V" } : Jvm.MethodName)).before a0 Z = true := hw _ (List.mem_of_getElem? (i := 39) rfl)
theorem wd_40 {Z : State} {a0 : Array Value} (hw : ∀ d ∈ tables_1, d.before a0 Z = true) : (Jvm.Cond.selects "com/example/wee_query/weequery/IntColumn$Builder" ({ cls := "com/example/wee_query/weequery/IntColumn$Builder", name := "add", desc := "(II)V" } : Jvm.MethodName) ({ cls := "com/example/wee_query/weequery/IntColumn$Builder", name := "add", desc := "(II)V" } : Jvm.MethodName)).before a0 Z = true := hw _ (List.mem_of_getElem? (i := 40) rfl)
theorem wd_41 {Z : State} {a0 : Array Value} (hw : ∀ d ∈ tables_1, d.before a0 Z = true) : (Jvm.Cond.code ({ cls := "com/example/wee_query/weequery/IntColumn$Builder", name := "add", desc := "(II)V" } : Jvm.MethodName) prog_25_method_6_code (6 : Nat) (Option.none : Option Jvm.ClassFile.FieldType)).before a0 Z = true := hw _ (List.mem_of_getElem? (i := 41) rfl)
theorem wd_42 {Z : State} {a0 : Array Value} (hw : ∀ d ∈ tables_1, d.before a0 Z = true) : (Jvm.Cond.fieldLink "com/example/wee_query/weequery/IntColumn$Builder" (55 : Nat) "com/example/wee_query/weequery/IntColumn$Builder" "size" "I").before a0 Z = true := hw _ (List.mem_of_getElem? (i := 42) rfl)
theorem wd_43 {Z : State} {a0 : Array Value} (hw : ∀ d ∈ tables_1, d.before a0 Z = true) : (Jvm.Cond.lays "com/example/wee_query/weequery/IntColumn$Builder" "com/example/wee_query/weequery/IntColumn$Builder" "size" "I").before a0 Z = true := hw _ (List.mem_of_getElem? (i := 43) rfl)
theorem wd_44 {Z : State} {a0 : Array Value} (hw : ∀ d ∈ tables_1, d.before a0 Z = true) : (Jvm.Cond.methodLink "com/example/wee_query/weequery/IntColumn$Builder" (58 : Nat) ({ cls := "com/example/wee_query/weequery/IntColumn$Builder", name := "startPart", desc := "(II)V" } : Jvm.MethodName)).before a0 Z = true := hw _ (List.mem_of_getElem? (i := 44) rfl)
theorem wd_45 {Z : State} {a0 : Array Value} (hw : ∀ d ∈ tables_1, d.before a0 Z = true) : (Jvm.Cond.instanceMethod ({ cls := "com/example/wee_query/weequery/IntColumn$Builder", name := "startPart", desc := "(II)V" } : Jvm.MethodName)).before a0 Z = true := hw _ (List.mem_of_getElem? (i := 45) rfl)
theorem wd_46 {Z : State} {a0 : Array Value} (hw : ∀ d ∈ tables_1, d.before a0 Z = true) : (Jvm.Cond.privateMethod ({ cls := "com/example/wee_query/weequery/IntColumn$Builder", name := "startPart", desc := "(II)V" } : Jvm.MethodName)).before a0 Z = true := hw _ (List.mem_of_getElem? (i := 46) rfl)
theorem wd_47 {Z : State} {a0 : Array Value} (hw : ∀ d ∈ tables_1, d.before a0 Z = true) : (Jvm.Cond.code ({ cls := "com/example/wee_query/weequery/IntColumn$Builder", name := "startPart", desc := "(II)V" } : Jvm.MethodName) prog_25_method_12_code (4 : Nat) (Option.none : Option Jvm.ClassFile.FieldType)).before a0 Z = true := hw _ (List.mem_of_getElem? (i := 47) rfl)
theorem wd_48 {Z : State} {a0 : Array Value} (hw : ∀ d ∈ tables_1, d.before a0 Z = true) : (Jvm.Cond.fieldLink "com/example/wee_query/weequery/IntColumn$Builder" (45 : Nat) "com/example/wee_query/weequery/IntColumn$Builder" "bases" "[I").before a0 Z = true := hw _ (List.mem_of_getElem? (i := 48) rfl)
theorem wd_49 {Z : State} {a0 : Array Value} (hw : ∀ d ∈ tables_1, d.before a0 Z = true) : (Jvm.Cond.lays "com/example/wee_query/weequery/IntColumn$Builder" "com/example/wee_query/weequery/IntColumn$Builder" "bases" "[I").before a0 Z = true := hw _ (List.mem_of_getElem? (i := 49) rfl)
theorem wd_50 {Z : State} {a0 : Array Value} (hw : ∀ d ∈ tables_1, d.before a0 Z = true) : (Jvm.Cond.methodLink "com/example/wee_query/weequery/IntColumnGetPinLaw" (27 : Nat) ({ cls := "com/example/wee_query/weequery/IntColumn$Builder", name := "get", desc := "(I)I" } : Jvm.MethodName)).before a0 Z = true := hw _ (List.mem_of_getElem? (i := 50) rfl)
theorem wd_51 {Z : State} {a0 : Array Value} (hw : ∀ d ∈ tables_1, d.before a0 Z = true) : (Jvm.Cond.declares ({ cls := "com/example/wee_query/weequery/IntColumn$Builder", name := "get", desc := "(I)I" } : Jvm.MethodName)).before a0 Z = true := hw _ (List.mem_of_getElem? (i := 51) rfl)
theorem wd_52 {Z : State} {a0 : Array Value} (hw : ∀ d ∈ tables_1, d.before a0 Z = true) : (Jvm.Cond.instanceMethod ({ cls := "com/example/wee_query/weequery/IntColumn$Builder", name := "get", desc := "(I)I" } : Jvm.MethodName)).before a0 Z = true := hw _ (List.mem_of_getElem? (i := 52) rfl)
theorem wd_53 {Z : State} {a0 : Array Value} (hw : ∀ d ∈ tables_1, d.before a0 Z = true) : (Jvm.Cond.selects "com/example/wee_query/weequery/IntColumn$Builder" ({ cls := "com/example/wee_query/weequery/IntColumn$Builder", name := "get", desc := "(I)I" } : Jvm.MethodName) ({ cls := "com/example/wee_query/weequery/IntColumn$Builder", name := "get", desc := "(I)I" } : Jvm.MethodName)).before a0 Z = true := hw _ (List.mem_of_getElem? (i := 53) rfl)
theorem wd_54 {Z : State} {a0 : Array Value} (hw : ∀ d ∈ tables_1, d.before a0 Z = true) : (Jvm.Cond.code ({ cls := "com/example/wee_query/weequery/IntColumn$Builder", name := "get", desc := "(I)I" } : Jvm.MethodName) prog_25_method_2_code (4 : Nat) (Option.some Jvm.ClassFile.FieldType.int)).before a0 Z = true := hw _ (List.mem_of_getElem? (i := 54) rfl)
theorem wd_55 {Z : State} {a0 : Array Value} (hw : ∀ d ∈ tables_1, d.before a0 Z = true) : (Jvm.Cond.methodLink "com/example/wee_query/weequery/IntColumnGetPinLaw" (9 : Nat) ({ cls := "java/lang/Math", name := "min", desc := "(II)I" } : Jvm.MethodName)).before a0 Z = true := hw _ (List.mem_of_getElem? (i := 55) rfl)
theorem wd_56 {Z : State} {a0 : Array Value} (hw : ∀ d ∈ tables_1, d.before a0 Z = true) : (Jvm.Cond.static ({ cls := "java/lang/Math", name := "min", desc := "(II)I" } : Jvm.MethodName)).before a0 Z = true := hw _ (List.mem_of_getElem? (i := 56) rfl)
theorem wd_57 {Z : State} {a0 : Array Value} (hw : ∀ d ∈ tables_1, d.before a0 Z = true) : (Jvm.Cond.initialized "java/lang/Math").before a0 Z = true := hw _ (List.mem_of_getElem? (i := 57) rfl)
theorem wd_58 {Z : State} {a0 : Array Value} (hw : ∀ d ∈ tables_1, d.before a0 Z = true) : (Jvm.Cond.code ({ cls := "java/lang/Math", name := "min", desc := "(II)I" } : Jvm.MethodName) jdk_29_method_69_code (2 : Nat) (Option.some Jvm.ClassFile.FieldType.int)).before a0 Z = true := hw _ (List.mem_of_getElem? (i := 58) rfl)
theorem wd_59 {Z : State} {a0 : Array Value} (hw : ∀ d ∈ tables_1, d.before a0 Z = true) : (Jvm.Cond.methodLink "com/example/wee_query/weequery/IntColumnGetPinLaw" (15 : Nat) ({ cls := "java/lang/Math", name := "max", desc := "(II)I" } : Jvm.MethodName)).before a0 Z = true := hw _ (List.mem_of_getElem? (i := 59) rfl)
theorem wd_60 {Z : State} {a0 : Array Value} (hw : ∀ d ∈ tables_1, d.before a0 Z = true) : (Jvm.Cond.static ({ cls := "java/lang/Math", name := "max", desc := "(II)I" } : Jvm.MethodName)).before a0 Z = true := hw _ (List.mem_of_getElem? (i := 60) rfl)
theorem wd_61 {Z : State} {a0 : Array Value} (hw : ∀ d ∈ tables_1, d.before a0 Z = true) : (Jvm.Cond.code ({ cls := "java/lang/Math", name := "max", desc := "(II)I" } : Jvm.MethodName) jdk_29_method_65_code (2 : Nat) (Option.some Jvm.ClassFile.FieldType.int)).before a0 Z = true := hw _ (List.mem_of_getElem? (i := 61) rfl)
theorem wd_62 {Z : State} {a0 : Array Value} (hw : ∀ d ∈ tables_1, d.before a0 Z = true) : (Jvm.Cond.constant "com/example/wee_query/weequery/IntColumnGetPinLaw" (8 : Nat) (65535 : Int32)).before a0 Z = true := hw _ (List.mem_of_getElem? (i := 62) rfl)
theorem wd_63 {Z : State} {a0 : Array Value} (hw : ∀ d ∈ tables_1, d.before a0 Z = true) : (Jvm.Cond.methodLink "com/example/wee_query/weequery/IntColumn$Builder" (61 : Nat) ({ cls := "com/example/wee_query/weequery/IntColumn$Builder", name := "held", desc := "(II)C" } : Jvm.MethodName)).before a0 Z = true := hw _ (List.mem_of_getElem? (i := 63) rfl)
theorem wd_64 {Z : State} {a0 : Array Value} (hw : ∀ d ∈ tables_1, d.before a0 Z = true) : (Jvm.Cond.instanceMethod ({ cls := "com/example/wee_query/weequery/IntColumn$Builder", name := "held", desc := "(II)C" } : Jvm.MethodName)).before a0 Z = true := hw _ (List.mem_of_getElem? (i := 64) rfl)
theorem wd_65 {Z : State} {a0 : Array Value} (hw : ∀ d ∈ tables_1, d.before a0 Z = true) : (Jvm.Cond.privateMethod ({ cls := "com/example/wee_query/weequery/IntColumn$Builder", name := "held", desc := "(II)C" } : Jvm.MethodName)).before a0 Z = true := hw _ (List.mem_of_getElem? (i := 65) rfl)
theorem wd_66 {Z : State} {a0 : Array Value} (hw : ∀ d ∈ tables_1, d.before a0 Z = true) : (Jvm.Cond.code ({ cls := "com/example/wee_query/weequery/IntColumn$Builder", name := "held", desc := "(II)C" } : Jvm.MethodName) prog_25_method_11_code (5 : Nat) (Option.some Jvm.ClassFile.FieldType.char)).before a0 Z = true := hw _ (List.mem_of_getElem? (i := 66) rfl)
theorem pd_0 : parseMethodDescriptor "(I)I" = some ⟨[.int], some .int⟩ := by decide +kernel
theorem pd_1 : parseMethodDescriptor "(II)C" = some ⟨[.int, .int], some .char⟩ := by decide +kernel
theorem pd_2 : parseMethodDescriptor "(II)V" = some ⟨[.int, .int], none⟩ := by decide +kernel
theorem pd_3 : parseMethodDescriptor "(ZII)V" = some ⟨[.boolean, .int, .int], none⟩ := by decide +kernel
theorem pd_4 : parseMethodDescriptor "(II)I" = some ⟨[.int, .int], some .int⟩ := by decide +kernel
abbrev farOf (w : Int32) : Int32 := (1 : Int32) <<< ((w - 1) &&& 31)
abbrev mkOf (w : Int32) : Int32 := ((1 : Int32) <<< (w &&& 31)) - 1
abbrev i2c (x : Int32) : Int32 := x.toUInt32.toUInt16.toUInt32.toInt32
def Wd (w : Int32) : Prop := w = 11 ∨ w = 12 ∨ w = 13 ∨ w = 14 ∨ w = 15 ∨ w = 16
theorem lt0 {x y : Int32} : x < y ↔ x.toInt < y.toInt := Int32.lt_iff_toInt_lt
theorem own_i2c {x : Int32} (h0 : 0 ≤ x.toInt) (h1 : x.toInt < 65536) : i2c x = x := by
  have c := c_i2c x
  apply Int32.toInt_inj.mp
  show (x.toUInt32.toUInt16.toUInt32.toInt32).toInt = x.toInt
  omega
theorem own_pack1 (k : Nat) (w above hd : Int32) (hk : w.toBitVec.toNat % 32 = k) (k1 : k ≤ 16) (k0 : 11 ≤ k) (hm : (mkOf w).toBitVec.toNat = 2 ^ k - 1) (h0 : 0 ≤ hd.toInt) (h1 : hd.toInt < (2 ^ k : Nat)) :
    (nar .char (i2c (hd ||| (above <<< (w &&& 31))))) &&& mkOf w = hd := by
  have a1 := c_ishl above w k hk
  have a2 : (above <<< (w &&& 31)).toInt % ((2 ^ k : Nat) : Int) = 0 := by
    rcases (by omega : k = 11 ∨ k = 12 ∨ k = 13 ∨ k = 14 ∨ k = 15 ∨ k = 16) with rfl | rfl | rfl | rfl | rfl | rfl <;> simp only [Nat.reducePow] at a1 ⊢ <;> omega
  have a3 := c_or' hd (above <<< (w &&& 31)) k (by omega) _ rfl a2 h0 h1
  have a6 := c_mask (nar .char (i2c (hd ||| (above <<< (w &&& 31))))) (mkOf w) k (by omega) hm
  apply Int32.toInt_inj.mp
  rw [a6]
  clear a6 a1 hm
  show (i2c (i2c (hd ||| (above <<< (w &&& 31))))).toInt % _ = _
  generalize (above <<< (w &&& 31)) = y at *
  have a4 : ((i2c (hd ||| y)).toInt - (hd ||| y).toInt) % 65536 = 0 ∧ 0 ≤ (i2c (hd ||| y)).toInt ∧ (i2c (hd ||| y)).toInt < 65536 := c_i2c (hd ||| y)
  have a5 : ((i2c (i2c (hd ||| y))).toInt - (i2c (hd ||| y)).toInt) % 65536 = 0 ∧ 0 ≤ (i2c (i2c (hd ||| y))).toInt ∧ (i2c (i2c (hd ||| y))).toInt < 65536 := c_i2c (i2c (hd ||| y))
  generalize (i2c (i2c (hd ||| y))).toInt = z5 at a5 ⊢
  generalize (i2c (hd ||| y)).toInt = z4 at a4 a5
  generalize (hd ||| y).toInt = z3 at a3 a4
  generalize y.toInt = z2 at a2 a3
  generalize hd.toInt = z1 at *
  rcases (by omega : k = 11 ∨ k = 12 ∨ k = 13 ∨ k = 14 ∨ k = 15 ∨ k = 16) with rfl | rfl | rfl | rfl | rfl | rfl <;> simp only [Nat.reducePow] at a2 h1 ⊢ <;> omega
theorem own_wd {w : Int32} (h : Wd w) : ∃ k : Nat, w.toBitVec.toNat % 32 = k ∧ k ≤ 16 ∧ 11 ≤ k ∧ (mkOf w).toBitVec.toNat = 2 ^ k - 1 ∧ (farOf w).toInt = (2 ^ (k - 1) : Nat) := by
  rcases h with rfl | rfl | rfl | rfl | rfl | rfl
  · exact ⟨11, by decide, by decide, by decide, by decide, by decide⟩
  · exact ⟨12, by decide, by decide, by decide, by decide, by decide⟩
  · exact ⟨13, by decide, by decide, by decide, by decide, by decide⟩
  · exact ⟨14, by decide, by decide, by decide, by decide, by decide⟩
  · exact ⟨15, by decide, by decide, by decide, by decide, by decide⟩
  · exact ⟨16, by decide, by decide, by decide, by decide, by decide⟩
theorem own_farb {w : Int32} (h : Wd w) : 1024 ≤ (farOf w).toInt ∧ (farOf w).toInt ≤ 32768 := by
  rcases h with rfl | rfl | rfl | rfl | rfl | rfl <;> decide
/-- a char that holds hd below what stands above it -/
theorem own_pack {w above hd : Int32} (h : Wd w) (h0 : 0 ≤ hd.toInt) (h1 : hd.toInt < 2 * (farOf w).toInt) : (nar .char (i2c (hd ||| (above <<< (w &&& 31))))) &&& mkOf w = hd := by
  obtain ⟨k, h2, h3, h4, h5, h6⟩ := own_wd h
  refine own_pack1 k w above hd h2 h3 h4 h5 h0 ?_
  rw [h6] at h1
  have : 2 ^ k = 2 * 2 ^ (k - 1) := by rw [← Nat.pow_succ']; congr 1; omega
  rw [this]; push_cast; push_cast at h1; exact h1
/-- what a held char stands for -/
def Dec (w c : Int32) (tb : List Int32) (kept : Int32) : Prop := (c &&& mkOf w < farOf w ∧ c &&& mkOf w = kept) ∨ (¬ c &&& mkOf w < farOf w ∧ ∃ i : Nat, i ≤ 2 ∧ (c &&& mkOf w) - farOf w = Int32.ofNat i ∧ tb[i]? = some kept)
theorem Dec.grow {w c : Int32} {tb tb' : List Int32} {kept : Int32} (D : Dec w c tb kept) (h : ∀ (j : Nat) (x : Int32), tb[j]? = some x → tb'[j]? = some x) : Dec w c tb' kept := D.imp id fun ⟨h1, i, h2, h3, h4⟩ => ⟨h1, i, h2, h3, h _ _ h4⟩
theorem arv_neT {Z : State} {h : Heap} {a b : Addr} {k k' : ClassId} {t t' : FieldType} {z z' : Int32} {vs vs' : List Value} {d d' : Value} (A : Arv Z h a k t z vs d) (B : Arv Z h b k' t' z' vs' d') (ht : t ≠ t') : a ≠ b := fun e => by
  subst e
  obtain ⟨c, ⟨a1, ⟨-, K, a2, cp, a3⟩, -⟩, -⟩ := A
  obtain ⟨c', ⟨b1, ⟨-, K', b2, cp', b3⟩, -⟩, -⟩ := B
  cases a1.symm.trans b1
  cases a2.symm.trans b2
  rw [a3] at b3
  injection b3 with _ b4
  exact ht b4
/-- the table of a part and its size -/
def Tb (Z : State) (n0 : Nat) (h : Heap) (tA ts : Addr) (kt ks : ClassId) (tb : List Int32) : Prop :=
  n0 ≤ tA ∧ n0 ≤ ts ∧ OvrA Z kt .int "[I" ∧ Arv Z h ts ks .int 1 [.int (Int32.ofNat tb.length)] (.int (0 : Int32)) ∧
    ((tb = [] ∧ Arv Z h tA kt (.array .int) 1 [.null] .null) ∨ (tb ≠ [] ∧ ∃ ta kk, n0 ≤ ta ∧ Exa Z h ta "[I" ∧ Arv Z h tA kt (.array .int) 1 [.ref ta] .null ∧ Arv Z h ta kk .int 4 ((tb ++ List.replicate (4 - tb.length) (0 : Int32)).map Value.int) (.int (0 : Int32))))
theorem Tb.keep1 {Z : State} {n0 : Nat} {h h' : Heap} {tA ts x : Addr} {kt ks : ClassId} {tb : List Int32} (F : Tb Z n0 h tA ts kt ks tb) (K : Keep h h' [x])
    (hn : ∀ (b : Addr) (k : ClassId) (ty : FieldType) (z : Int32) (vs : List Value) (dv : Value), Arv Z h b k ty z vs dv → (ty = .array .int ∨ (ty = .int ∧ (z = 4 ∨ b = ts))) → x ≠ b) : Tb Z n0 h' tA ts kt ks tb := by
  obtain ⟨h1, h2, h3, h4, h5⟩ := F
  refine ⟨h1, h2, h3, h4.keep K (ninS (hn _ _ _ _ _ _ h4 (Or.inr ⟨rfl, Or.inr rfl⟩)).symm nin0), h5.imp (fun ⟨e, V⟩ => ⟨e, V.keep K (ninS (hn _ _ _ _ _ _ V (Or.inl rfl)).symm nin0)⟩) fun ⟨e, ta, kk, g, E, V, W⟩ => ⟨e, ta, kk, g, E.keep K, V.keep K (ninS (hn _ _ _ _ _ _ V (Or.inl rfl)).symm nin0), W.keep K (ninS (hn _ _ _ _ _ _ W (Or.inr ⟨rfl, Or.inl rfl⟩)).symm nin0)⟩⟩
theorem Tb.arr {Z : State} {n0 : Nat} {h : Heap} {tA ts : Addr} {kt ks : ClassId} {tb : List Int32} (F : Tb Z n0 h tA ts kt ks tb) : ∃ vs, Arv Z h tA kt (.array .int) 1 vs .null := by
  obtain ⟨-, -, -, -, ⟨-, V⟩ | ⟨-, _, _, -, -, V, -⟩⟩ := F <;> exact ⟨_, V⟩
/-- the builder's fields -/
def Fl (Z : State) (h : Heap) (a la pg tA ts : Addr) (bv : Value) (pb ip sz w : Int32) : Prop :=
  Exa Z h a "com/example/wee_query/weequery/IntColumn$Builder" ∧ Fld Z h a "com/example/wee_query/weequery/IntColumn$Builder" "pages" "[[C" (.ref pg) ∧ Fld Z h a "com/example/wee_query/weequery/IntColumn$Builder" "last" "[C" (.ref la) ∧ Fld Z h a "com/example/wee_query/weequery/IntColumn$Builder" "pageBits" "I" (.int pb) ∧ Fld Z h a "com/example/wee_query/weequery/IntColumn$Builder" "inPage" "I" (.int ip) ∧ Fld Z h a "com/example/wee_query/weequery/IntColumn$Builder" "tables" "[[I" (.ref tA) ∧ Fld Z h a "com/example/wee_query/weequery/IntColumn$Builder" "tableSizes" "[I" (.ref ts) ∧
    Fld Z h a "com/example/wee_query/weequery/IntColumn$Builder" "bases" "[I" bv ∧ Fld Z h a "com/example/wee_query/weequery/IntColumn$Builder" "size" "I" (.int sz) ∧ Fld Z h a "com/example/wee_query/weequery/IntColumn$Builder" "width" "I" (.int w) ∧ Fld Z h a "com/example/wee_query/weequery/IntColumn$Builder" "far" "I" (.int (farOf w))
/-- the bases -/
def Ba (Z : State) (n0 : Nat) (h : Heap) (bv : Value) (ba ts : Addr) (kb : ClassId) (b0 : Int32) : Prop := bv = .null ∨ (bv = .ref ba ∧ n0 ≤ ba ∧ ba ≠ ts ∧ Arv Z h ba kb .int 1 [.int b0] (.int (0 : Int32)))
/-- the builder -/
def Bld (Z : State) (n0 : Nat) (h : Heap) (a la pg tA ts ba : Addr) (kl kp kt ks kb : ClassId) (bv : Value) (b0 n pb ip sz w : Int32) (cs : List Value) (tb : List Int32) : Prop :=
  Fl Z h a la pg tA ts bv pb ip sz w ∧ Ba Z n0 h bv ba ts kb b0 ∧ Tb Z n0 h tA ts kt ks tb ∧ Arv Z h la kl .char n cs (.int (0 : Int32)) ∧ Arv Z h pg kp (.array .char) 1 [.ref la] .null ∧ n0 ≤ a ∧ n0 ≤ la
theorem d_far_0 : decode prog_24_method_2_code 0 = .ok (.iconst 1, 1) := by decide +kernel
theorem d_far_1 : decode prog_24_method_2_code 1 = .ok (.iload_n 0, 1) := by decide +kernel
theorem d_far_2 : decode prog_24_method_2_code 2 = .ok (.iconst 1, 1) := by decide +kernel
theorem d_far_3 : decode prog_24_method_2_code 3 = .ok (.isub, 1) := by decide +kernel
theorem d_far_4 : decode prog_24_method_2_code 4 = .ok (.ishl, 1) := by decide +kernel
theorem d_far_5 : decode prog_24_method_2_code 5 = .ok (.ireturn, 1) := by decide +kernel
abbrev R_far : Room := ({ frames := 0, cells := 0, slots := 0, locals := 0 } : Room)
abbrev GM_far (l : Launch) (Z : State) (n0 : Nat) (Q : Option Value → Heap → Prop) (h : Heap) (cells slots pc : Nat) (Ls : Array Slot) (st : List Value) : Prop := Go l Z n0 R_far "com/example/wee_query/weequery/IntColumn" "far" prog_24_method_2_code 1 (some .int) IN (FN n0 R_far Q) h cells slots pc Ls st
theorem pf_far : plainFor (⟨"com/example/wee_query/weequery/IntColumn", "far", "(I)I"⟩ : MethodName) = true := plainFor_of_name (by first | (simp [plainName, overriddenIn]; done) | decide +kernel)
theorem ct_far (l : Launch) (Z : State) (a0 : Array Value) (hw : ∀ d ∈ tables_1, d.before a0 Z = true) (n0 : Nat) (w : Int32) (h0 : Heap) : Ct l Z n0 "com/example/wee_query/weequery/IntColumn" "far" "(I)I" [] prog_24_method_2_code 1 (some .int) R_far #[.int w] h0 (fun v h => v = some (.int (farOf w)) ∧ h0 = h) := by
  refine Ct.of_go pf_far (Ls := #[.val (.int w)]) (fun m => by first | rfl | (simp [entryFrame, mkF, argsToLocals, Value.category]; done)) ?_
  show GM_far l Z n0 (fun v h => v = some (.int (farOf w)) ∧ h0 = h) h0 0 0 0 #[.val (.int w)] []
  refine Go.iconst 1 d_far_0 rfl ?_
  refine Go.iloadN d_far_1 rfl ?_
  refine Go.iconst 1 d_far_2 rfl ?_
  refine Go.isub d_far_3 ?_
  refine Go.ishl d_far_4 ?_
  -- at pc 5: pc 5: ireturn .ireturn stack [(.int ((1 : Int32) <<< ((w - (1 : Int32)) &&& 31)))]
  exact Go.ireturn d_far_5 rfl (by decide) (by decide) ⟨rfl, rfl⟩
theorem d_min_0 : decode jdk_29_method_69_code 0 = .ok (.iload_n 0, 1) := by decide +kernel
theorem d_min_1 : decode jdk_29_method_69_code 1 = .ok (.iload_n 1, 1) := by decide +kernel
theorem d_min_2 : decode jdk_29_method_69_code 2 = .ok (.if_icmp .gt 7, 3) := by decide +kernel
theorem d_min_5 : decode jdk_29_method_69_code 5 = .ok (.iload_n 0, 1) := by decide +kernel
theorem d_min_6 : decode jdk_29_method_69_code 6 = .ok (.goto 4, 3) := by decide +kernel
theorem d_min_9 : decode jdk_29_method_69_code 9 = .ok (.iload_n 1, 1) := by decide +kernel
theorem d_min_10 : decode jdk_29_method_69_code 10 = .ok (.ireturn, 1) := by decide +kernel
abbrev R_min : Room := ({ frames := 0, cells := 0, slots := 0, locals := 0 } : Room)
abbrev GM_min (l : Launch) (Z : State) (n0 : Nat) (Q : Option Value → Heap → Prop) (h : Heap) (cells slots pc : Nat) (Ls : Array Slot) (st : List Value) : Prop := Go l Z n0 R_min "java/lang/Math" "min" jdk_29_method_69_code 2 (some .int) IN (FN n0 R_min Q) h cells slots pc Ls st
theorem pf_min : plainFor (⟨"java/lang/Math", "min", "(II)I"⟩ : MethodName) = true := Jvm.Free.JP.mathPlain rfl (by decide +kernel)
theorem ct_min (l : Launch) (Z : State) (a0 : Array Value) (hw : ∀ d ∈ tables_1, d.before a0 Z = true) (n0 : Nat) (x y : Int32) (h0 : Heap) : Ct l Z n0 "java/lang/Math" "min" "(II)I" [] jdk_29_method_69_code 2 (some .int) R_min #[.int x, .int y] h0 (fun v h => v = some (.int (if y < x then y else x)) ∧ h0 = h) := by
  refine Ct.of_go pf_min (Ls := #[.val (.int x), .val (.int y)]) (fun m => by first | rfl | (simp [entryFrame, mkF, argsToLocals, Value.category]; done)) ?_
  show GM_min l Z n0 (fun v h => v = some (.int (if y < x then y else x)) ∧ h0 = h) h0 0 0 0 #[.val (.int x), .val (.int y)] []
  refine Go.iloadN d_min_0 rfl ?_
  refine Go.iloadN d_min_1 rfl ?_
  -- at pc 2: pc 2: if_icmp .if_icmp .gt 7 stack [(.int y), (.int x)]
  by_cases hb : y < x
  · refine Go.icT 9 d_min_2 (tlt hb).2.2.1 (by decide) (by decide) ?_
    refine Go.iloadN d_min_9 rfl ?_
    -- at pc 10: pc 10: ireturn .ireturn stack [(.int y)]
    exact Go.ireturn d_min_10 rfl (by decide) (by decide) ⟨by rw [if_pos hb], rfl⟩
  · refine Go.icF d_min_2 (flt hb).2.2.1 ?_
    refine Go.iloadN d_min_5 rfl ?_
    refine Go.goto 10 d_min_6 (by decide) (by decide) ?_
    -- at pc 10: pc 10: ireturn .ireturn stack [(.int x)]
    exact Go.ireturn d_min_10 rfl (by decide) (by decide) ⟨by rw [if_neg hb], rfl⟩
theorem d_max_0 : decode jdk_29_method_65_code 0 = .ok (.iload_n 0, 1) := by decide +kernel
theorem d_max_1 : decode jdk_29_method_65_code 1 = .ok (.iload_n 1, 1) := by decide +kernel
theorem d_max_2 : decode jdk_29_method_65_code 2 = .ok (.if_icmp .lt 7, 3) := by decide +kernel
theorem d_max_5 : decode jdk_29_method_65_code 5 = .ok (.iload_n 0, 1) := by decide +kernel
theorem d_max_6 : decode jdk_29_method_65_code 6 = .ok (.goto 4, 3) := by decide +kernel
theorem d_max_9 : decode jdk_29_method_65_code 9 = .ok (.iload_n 1, 1) := by decide +kernel
theorem d_max_10 : decode jdk_29_method_65_code 10 = .ok (.ireturn, 1) := by decide +kernel
abbrev R_max : Room := ({ frames := 0, cells := 0, slots := 0, locals := 0 } : Room)
abbrev GM_max (l : Launch) (Z : State) (n0 : Nat) (Q : Option Value → Heap → Prop) (h : Heap) (cells slots pc : Nat) (Ls : Array Slot) (st : List Value) : Prop := Go l Z n0 R_max "java/lang/Math" "max" jdk_29_method_65_code 2 (some .int) IN (FN n0 R_max Q) h cells slots pc Ls st
theorem pf_max : plainFor (⟨"java/lang/Math", "max", "(II)I"⟩ : MethodName) = true := Jvm.Free.JP.mathPlain rfl (by decide +kernel)
theorem ct_max (l : Launch) (Z : State) (a0 : Array Value) (hw : ∀ d ∈ tables_1, d.before a0 Z = true) (n0 : Nat) (x y : Int32) (h0 : Heap) : Ct l Z n0 "java/lang/Math" "max" "(II)I" [] jdk_29_method_65_code 2 (some .int) R_max #[.int x, .int y] h0 (fun v h => v = some (.int (if x < y then y else x)) ∧ h0 = h) := by
  refine Ct.of_go pf_max (Ls := #[.val (.int x), .val (.int y)]) (fun m => by first | rfl | (simp [entryFrame, mkF, argsToLocals, Value.category]; done)) ?_
  show GM_max l Z n0 (fun v h => v = some (.int (if x < y then y else x)) ∧ h0 = h) h0 0 0 0 #[.val (.int x), .val (.int y)] []
  refine Go.iloadN d_max_0 rfl ?_
  refine Go.iloadN d_max_1 rfl ?_
  -- at pc 2: pc 2: if_icmp .if_icmp .lt 7 stack [(.int y), (.int x)]
  by_cases hb : x < y
  · refine Go.icT 9 d_max_2 (tlt hb).1 (by decide) (by decide) ?_
    refine Go.iloadN d_max_9 rfl ?_
    -- at pc 10: pc 10: ireturn .ireturn stack [(.int y)]
    exact Go.ireturn d_max_10 rfl (by decide) (by decide) ⟨by rw [if_pos hb], rfl⟩
  · refine Go.icF d_max_2 (flt hb).1 ?_
    refine Go.iloadN d_max_5 rfl ?_
    refine Go.goto 10 d_max_6 (by decide) (by decide) ?_
    -- at pc 10: pc 10: ireturn .ireturn stack [(.int x)]
    exact Go.ireturn d_max_10 rfl (by decide) (by decide) ⟨by rw [if_neg hb], rfl⟩
theorem d_binit_0 : decode prog_25_method_1_code 0 = .ok (.aload_n 0, 1) := by decide +kernel
theorem d_binit_1 : decode prog_25_method_1_code 1 = .ok (.invokespecial 3, 3) := by decide +kernel
theorem d_binit_4 : decode prog_25_method_1_code 4 = .ok (.aload_n 0, 1) := by decide +kernel
theorem d_binit_5 : decode prog_25_method_1_code 5 = .ok (.iconst 1, 1) := by decide +kernel
theorem d_binit_6 : decode prog_25_method_1_code 6 = .ok (.anewarray 9, 3) := by decide +kernel
theorem d_binit_9 : decode prog_25_method_1_code 9 = .ok (.putfield 11, 3) := by decide +kernel
theorem d_binit_12 : decode prog_25_method_1_code 12 = .ok (.aload_n 0, 1) := by decide +kernel
theorem d_binit_13 : decode prog_25_method_1_code 13 = .ok (.iconst 1, 1) := by decide +kernel
theorem d_binit_14 : decode prog_25_method_1_code 14 = .ok (.anewarray 17, 3) := by decide +kernel
theorem d_binit_17 : decode prog_25_method_1_code 17 = .ok (.putfield 19, 3) := by decide +kernel
theorem d_binit_20 : decode prog_25_method_1_code 20 = .ok (.aload_n 0, 1) := by decide +kernel
theorem d_binit_21 : decode prog_25_method_1_code 21 = .ok (.iconst 1, 1) := by decide +kernel
theorem d_binit_22 : decode prog_25_method_1_code 22 = .ok (.newarray .int, 2) := by decide +kernel
theorem d_binit_24 : decode prog_25_method_1_code 24 = .ok (.putfield 23, 3) := by decide +kernel
theorem d_binit_27 : decode prog_25_method_1_code 27 = .ok (.aload_n 0, 1) := by decide +kernel
theorem d_binit_28 : decode prog_25_method_1_code 28 = .ok (.iload_n 2, 1) := by decide +kernel
theorem d_binit_29 : decode prog_25_method_1_code 29 = .ok (.putfield 26, 3) := by decide +kernel
theorem d_binit_32 : decode prog_25_method_1_code 32 = .ok (.aload_n 0, 1) := by decide +kernel
theorem d_binit_33 : decode prog_25_method_1_code 33 = .ok (.iload_n 2, 1) := by decide +kernel
theorem d_binit_34 : decode prog_25_method_1_code 34 = .ok (.invokestatic 30, 3) := by decide +kernel
theorem d_binit_37 : decode prog_25_method_1_code 37 = .ok (.putfield 34, 3) := by decide +kernel
theorem d_binit_40 : decode prog_25_method_1_code 40 = .ok (.aload_n 0, 1) := by decide +kernel
theorem d_binit_41 : decode prog_25_method_1_code 41 = .ok (.iload_n 3, 1) := by decide +kernel
theorem d_binit_42 : decode prog_25_method_1_code 42 = .ok (.ifCond .ne 8, 3) := by decide +kernel
theorem d_binit_45 : decode prog_25_method_1_code 45 = .ok (.bipush 9, 2) := by decide +kernel
theorem d_binit_47 : decode prog_25_method_1_code 47 = .ok (.goto 5, 3) := by decide +kernel
theorem d_binit_50 : decode prog_25_method_1_code 50 = .ok (.bipush 31, 2) := by decide +kernel
theorem d_binit_52 : decode prog_25_method_1_code 52 = .ok (.putfield 36, 3) := by decide +kernel
theorem d_binit_55 : decode prog_25_method_1_code 55 = .ok (.aload_n 0, 1) := by decide +kernel
theorem d_binit_56 : decode prog_25_method_1_code 56 = .ok (.iconst 1, 1) := by decide +kernel
theorem d_binit_57 : decode prog_25_method_1_code 57 = .ok (.aload_n 0, 1) := by decide +kernel
theorem d_binit_58 : decode prog_25_method_1_code 58 = .ok (.getfield 36, 3) := by decide +kernel
theorem d_binit_61 : decode prog_25_method_1_code 61 = .ok (.ishl, 1) := by decide +kernel
theorem d_binit_62 : decode prog_25_method_1_code 62 = .ok (.iconst 1, 1) := by decide +kernel
theorem d_binit_63 : decode prog_25_method_1_code 63 = .ok (.isub, 1) := by decide +kernel
theorem d_binit_64 : decode prog_25_method_1_code 64 = .ok (.putfield 39, 3) := by decide +kernel
theorem d_binit_67 : decode prog_25_method_1_code 67 = .ok (.aload_n 0, 1) := by decide +kernel
theorem d_binit_68 : decode prog_25_method_1_code 68 = .ok (.iload_n 3, 1) := by decide +kernel
theorem d_binit_69 : decode prog_25_method_1_code 69 = .ok (.ifCond .ne 9, 3) := by decide +kernel
theorem d_binit_72 : decode prog_25_method_1_code 72 = .ok (.sipush 512, 3) := by decide +kernel
theorem d_binit_75 : decode prog_25_method_1_code 75 = .ok (.goto 4, 3) := by decide +kernel
theorem d_binit_78 : decode prog_25_method_1_code 78 = .ok (.iload_n 3, 1) := by decide +kernel
theorem d_binit_79 : decode prog_25_method_1_code 79 = .ok (.newarray .char, 2) := by decide +kernel
theorem d_binit_81 : decode prog_25_method_1_code 81 = .ok (.putfield 42, 3) := by decide +kernel
theorem d_binit_84 : decode prog_25_method_1_code 84 = .ok (.aload_n 0, 1) := by decide +kernel
theorem d_binit_85 : decode prog_25_method_1_code 85 = .ok (.getfield 11, 3) := by decide +kernel
theorem d_binit_88 : decode prog_25_method_1_code 88 = .ok (.iconst 0, 1) := by decide +kernel
theorem d_binit_89 : decode prog_25_method_1_code 89 = .ok (.aload_n 0, 1) := by decide +kernel
theorem d_binit_90 : decode prog_25_method_1_code 90 = .ok (.getfield 42, 3) := by decide +kernel
theorem d_binit_93 : decode prog_25_method_1_code 93 = .ok (.aastore, 1) := by decide +kernel
theorem d_binit_94 : decode prog_25_method_1_code 94 = .ok (.iload_n 1, 1) := by decide +kernel
theorem d_binit_95 : decode prog_25_method_1_code 95 = .ok (.ifCond .eq 10, 3) := by decide +kernel
theorem d_binit_98 : decode prog_25_method_1_code 98 = .ok (.aload_n 0, 1) := by decide +kernel
theorem d_binit_99 : decode prog_25_method_1_code 99 = .ok (.iconst 1, 1) := by decide +kernel
theorem d_binit_100 : decode prog_25_method_1_code 100 = .ok (.newarray .int, 2) := by decide +kernel
theorem d_binit_102 : decode prog_25_method_1_code 102 = .ok (.putfield 45, 3) := by decide +kernel
theorem d_binit_105 : decode prog_25_method_1_code 105 = .ok (.return_, 1) := by decide +kernel
abbrev R_binit : Room := ({ frames := 1, cells := 5, slots := 516, locals := 13 } : Room)
abbrev GM_binit (l : Launch) (Z : State) (n0 : Nat) (Q : Option Value → Heap → Prop) (h : Heap) (cells slots pc : Nat) (Ls : Array Slot) (st : List Value) : Prop := Go l Z n0 R_binit "com/example/wee_query/weequery/IntColumn$Builder" "<init>" prog_25_method_1_code 4 none IN (FN n0 R_binit Q) h cells slots pc Ls st
theorem pf_binit : plainFor (⟨"com/example/wee_query/weequery/IntColumn$Builder", "<init>", "(ZII)V"⟩ : MethodName) = true := plainFor_of_name (by first | (simp [plainName, overriddenIn]; done) | decide +kernel)
theorem own_n3 {c : Int32} (h : c = 0 ∨ (¬ c < 3 ∧ ¬ 18 < c)) (h0 : ¬ c = 0) : ¬ c < 0 ∧ c.toNatClampNeg ≤ 512 ∧ ¬ c < 3 := by
  rcases h with h | ⟨h1, h2⟩
  · exact absurd h h0
  · have e3 : (3 : Int32).toInt = 3 := rfl
    have e18 : (18 : Int32).toInt = 18 := rfl
    have e0 : (0 : Int32).toInt = 0 := rfl
    have g1 := fun q => h1 (lt0.mpr q)
    have g2 := fun q => h2 (lt0.mpr q)
    rw [e3] at g1
    rw [e18] at g2
    have k1 : 3 ≤ c.toInt := Int.not_lt.mp g1
    have k2 : c.toInt ≤ 18 := Int.not_lt.mp g2
    refine ⟨fun q => ?_, ?_, h1⟩
    · have q' := lt0.mp q
      omega
    · show c.toInt.toNat ≤ 512
      omega
set_option maxRecDepth 65536 in
set_option maxHeartbeats 40000000 in
theorem ct_binit (l : Launch) (Z : State) (a0 : Array Value) (hw : ∀ d ∈ tables_1, d.before a0 Z = true) (n0 : Nat) (a : Addr) (asc w cap : Int32) (h0 : Heap) (hz : n0 ≤ h0.size) (g_a : n0 ≤ a) (hcap : cap = 0 ∨ (¬ cap < 3 ∧ ¬ 18 < cap)) (E_a : Exa Z h0 a "com/example/wee_query/weequery/IntColumn$Builder") (F_a_pages : Fld Z h0 a "com/example/wee_query/weequery/IntColumn$Builder" "pages" "[[C" .null) (F_a_last : Fld Z h0 a "com/example/wee_query/weequery/IntColumn$Builder" "last" "[C" .null) (F_a_pageBits : Fld Z h0 a "com/example/wee_query/weequery/IntColumn$Builder" "pageBits" "I" (.int (0 : Int32))) (F_a_inPage : Fld Z h0 a "com/example/wee_query/weequery/IntColumn$Builder" "inPage" "I" (.int (0 : Int32))) (F_a_tables : Fld Z h0 a "com/example/wee_query/weequery/IntColumn$Builder" "tables" "[[I" .null) (F_a_tableSizes : Fld Z h0 a "com/example/wee_query/weequery/IntColumn$Builder" "tableSizes" "[I" .null)
    (F_a_bases : Fld Z h0 a "com/example/wee_query/weequery/IntColumn$Builder" "bases" "[I" .null) (F_a_size : Fld Z h0 a "com/example/wee_query/weequery/IntColumn$Builder" "size" "I" (.int (0 : Int32))) (F_a_width : Fld Z h0 a "com/example/wee_query/weequery/IntColumn$Builder" "width" "I" (.int (0 : Int32))) (F_a_far : Fld Z h0 a "com/example/wee_query/weequery/IntColumn$Builder" "far" "I" (.int (0 : Int32))) :
    Ct l Z n0 "com/example/wee_query/weequery/IntColumn$Builder" "<init>" "(ZII)V" [] prog_25_method_1_code 4 none R_binit #[.ref a, .int asc, .int w, .int cap] h0 (fun v h => v = none ∧ n0 ≤ h.size ∧ ∃ (la pg tA ts ba : Addr) (kl kp kt ks kb : ClassId) (bv : Value) (n pb ip : Int32), Bld Z n0 h a la pg tA ts ba kl kp kt ks kb bv 0 n pb ip 0 w [.int (0 : Int32), .int (0 : Int32), .int (0 : Int32)] [] ∧ (asc = 0 → bv = .null) ∧ (¬ asc = 0 → bv = .ref ba) ∧ (pb = 9 ∨ pb = 31) ∧ (ip = 511 ∨ ip = 2147483647) ∧ ¬ n < 3) := by
  refine Ct.of_go pf_binit (Ls := #[.val (.ref a), .val (.int asc), .val (.int w), .val (.int cap)]) (fun m => by first | rfl | (simp [entryFrame, mkF, argsToLocals, Value.category]; done)) ?_
  show GM_binit l Z n0 (fun v h => v = none ∧ n0 ≤ h.size ∧ ∃ (la pg tA ts ba : Addr) (kl kp kt ks kb : ClassId) (bv : Value) (n pb ip : Int32), Bld Z n0 h a la pg tA ts ba kl kp kt ks kb bv 0 n pb ip 0 w [.int (0 : Int32), .int (0 : Int32), .int (0 : Int32)] [] ∧ (asc = 0 → bv = .null) ∧ (¬ asc = 0 → bv = .ref ba) ∧ (pb = 9 ∨ pb = 31) ∧ (ip = 511 ∨ ip = 2147483647) ∧ ¬ n < 3) h0 0 0 0 #[.val (.ref a), .val (.int asc), .val (.int w), .val (.int cap)] []
  refine Go.aloadN d_binit_0 rfl rfl ?_
  refine Go.initO (wd_7 hw) (wd_8 hw) (wd_9 hw) d_binit_1 rfl (by decide) (Nat.le_of_ble_eq_true rfl) ?_
  refine Go.aloadN d_binit_4 rfl rfl ?_
  refine Go.iconst 1 d_binit_5 rfl ?_
  -- at pc 6: pc 6: anewarray .anewarray 9 stack [(.int (1 : Int32)), (.ref a)]
  refine Go.newRA (I' := IN) (hI := nE) (wd_10 hw) (wd_11 hw) rfl d_binit_6 (by decide) 1 (by decide) (by decide) (by decide) (by decide) fun hp1 pg k_pg e_pg X1 V_pg O_pg => ?_
  have K1 : Keep h0 hp1 [] := (Keep.refl _ _).ext X1
  have g_pg : n0 ≤ pg := e_pg ▸ hz
  have ne_a_pg : a ≠ pg := Nat.ne_of_lt (e_pg ▸ E_a.lt)
  replace E_a := E_a.keep K1
  replace F_a_pages := F_a_pages.keep K1 nin0
  replace F_a_last := F_a_last.keep K1 nin0
  replace F_a_pageBits := F_a_pageBits.keep K1 nin0
  replace F_a_inPage := F_a_inPage.keep K1 nin0
  replace F_a_tables := F_a_tables.keep K1 nin0
  replace F_a_tableSizes := F_a_tableSizes.keep K1 nin0
  replace F_a_bases := F_a_bases.keep K1 nin0
  replace F_a_size := F_a_size.keep K1 nin0
  replace F_a_width := F_a_width.keep K1 nin0
  replace F_a_far := F_a_far.keep K1 nin0
  replace V_pg : Arv Z hp1 pg k_pg (.array .char) (1 : Int32) [.null] .null := V_pg.pad (pad_rep [] .null 1)
  replace hz : n0 ≤ hp1.size := Nat.le_trans hz K1.1
  refine Go.putF (I' := IN) (hI := nI) (wd_12 hw) Via.refl F_a_pages E_a (Or.inl (wd_13 hw)) (wd_2 hw) (ty := (.array (.array .char))) (by decide) rfl rfl g_a d_binit_9 fun hp2 W2 => ?_
  have K2 := Keep.of_wr W2
  replace F_a_pages := F_a_pages.same W2
  replace F_a_last := F_a_last.other W2 (Or.inr (slot_ne (Or.inl (wd_35 hw)) (Or.inl (wd_13 hw)) (by decide) (t := (.array .char)) (t' := (.array (.array .char))) (by decide) (by decide)))
  replace F_a_pageBits := F_a_pageBits.other W2 (Or.inr (slot_ne (Or.inl (wd_30 hw)) (Or.inl (wd_13 hw)) (by decide) (t := .int) (t' := (.array (.array .char))) (by decide) (by decide)))
  replace F_a_inPage := F_a_inPage.other W2 (Or.inr (slot_ne (Or.inl (wd_32 hw)) (Or.inl (wd_13 hw)) (by decide) (t := .int) (t' := (.array (.array .char))) (by decide) (by decide)))
  replace F_a_tables := F_a_tables.other W2 (Or.inr (slot_ne (Or.inl (wd_17 hw)) (Or.inl (wd_13 hw)) (by decide) (t := (.array (.array .int))) (t' := (.array (.array .char))) (by decide) (by decide)))
  replace F_a_tableSizes := F_a_tableSizes.other W2 (Or.inr (slot_ne (Or.inl (wd_20 hw)) (Or.inl (wd_13 hw)) (by decide) (t := (.array .int)) (t' := (.array (.array .char))) (by decide) (by decide)))
  replace F_a_bases := F_a_bases.other W2 (Or.inr (slot_ne (Or.inl (wd_49 hw)) (Or.inl (wd_13 hw)) (by decide) (t := (.array .int)) (t' := (.array (.array .char))) (by decide) (by decide)))
  replace F_a_size := F_a_size.other W2 (Or.inr (slot_ne (Or.inl (wd_43 hw)) (Or.inl (wd_13 hw)) (by decide) (t := .int) (t' := (.array (.array .char))) (by decide) (by decide)))
  replace F_a_width := F_a_width.other W2 (Or.inr (slot_ne (Or.inr (wd_22 hw)) (Or.inl (wd_13 hw)) (by decide) (t := .int) (t' := (.array (.array .char))) (by decide) (by decide)))
  replace F_a_far := F_a_far.other W2 (Or.inr (slot_ne (Or.inr (wd_28 hw)) (Or.inl (wd_13 hw)) (by decide) (t := .int) (t' := (.array (.array .char))) (by decide) (by decide)))
  replace E_a := E_a.keep K2
  replace V_pg := V_pg.keep K2 (ninS (Ne.symm ne_a_pg) nin0)
  replace hz : n0 ≤ hp2.size := Nat.le_trans hz K2.1
  refine Go.aloadN d_binit_12 rfl rfl ?_
  refine Go.iconst 1 d_binit_13 rfl ?_
  -- at pc 14: pc 14: anewarray .anewarray 17 stack [(.int (1 : Int32)), (.ref a)]
  refine Go.newRA (I' := IN) (hI := nE) (wd_14 hw) (wd_15 hw) rfl d_binit_14 (by decide) 1 (by decide) (by decide) (by decide) (by decide) fun hp3 tA k_tA e_tA X3 V_tA O_tA => ?_
  have K3 : Keep hp2 hp3 [] := (Keep.refl _ _).ext X3
  have g_tA : n0 ≤ tA := e_tA ▸ hz
  have ne_a_tA : a ≠ tA := Nat.ne_of_lt (e_tA ▸ E_a.lt)
  have ne_pg_tA : pg ≠ tA := Nat.ne_of_lt (e_tA ▸ V_pg.lt)
  replace E_a := E_a.keep K3
  replace F_a_pages := F_a_pages.keep K3 nin0
  replace F_a_last := F_a_last.keep K3 nin0
  replace F_a_pageBits := F_a_pageBits.keep K3 nin0
  replace F_a_inPage := F_a_inPage.keep K3 nin0
  replace F_a_tables := F_a_tables.keep K3 nin0
  replace F_a_tableSizes := F_a_tableSizes.keep K3 nin0
  replace F_a_bases := F_a_bases.keep K3 nin0
  replace F_a_size := F_a_size.keep K3 nin0
  replace F_a_width := F_a_width.keep K3 nin0
  replace F_a_far := F_a_far.keep K3 nin0
  replace V_pg := V_pg.keep K3 nin0
  replace V_tA : Arv Z hp3 tA k_tA (.array .int) (1 : Int32) [.null] .null := V_tA.pad (pad_rep [] .null 1)
  replace hz : n0 ≤ hp3.size := Nat.le_trans hz K3.1
  refine Go.putF (I' := IN) (hI := nI) (wd_16 hw) Via.refl F_a_tables E_a (Or.inl (wd_17 hw)) (wd_2 hw) (ty := (.array (.array .int))) (by decide) rfl rfl g_a d_binit_17 fun hp4 W4 => ?_
  have K4 := Keep.of_wr W4
  replace F_a_pages := F_a_pages.other W4 (Or.inr (slot_ne (Or.inl (wd_13 hw)) (Or.inl (wd_17 hw)) (by decide) (t := (.array (.array .char))) (t' := (.array (.array .int))) (by decide) (by decide)))
  replace F_a_last := F_a_last.other W4 (Or.inr (slot_ne (Or.inl (wd_35 hw)) (Or.inl (wd_17 hw)) (by decide) (t := (.array .char)) (t' := (.array (.array .int))) (by decide) (by decide)))
  replace F_a_pageBits := F_a_pageBits.other W4 (Or.inr (slot_ne (Or.inl (wd_30 hw)) (Or.inl (wd_17 hw)) (by decide) (t := .int) (t' := (.array (.array .int))) (by decide) (by decide)))
  replace F_a_inPage := F_a_inPage.other W4 (Or.inr (slot_ne (Or.inl (wd_32 hw)) (Or.inl (wd_17 hw)) (by decide) (t := .int) (t' := (.array (.array .int))) (by decide) (by decide)))
  replace F_a_tables := F_a_tables.same W4
  replace F_a_tableSizes := F_a_tableSizes.other W4 (Or.inr (slot_ne (Or.inl (wd_20 hw)) (Or.inl (wd_17 hw)) (by decide) (t := (.array .int)) (t' := (.array (.array .int))) (by decide) (by decide)))
  replace F_a_bases := F_a_bases.other W4 (Or.inr (slot_ne (Or.inl (wd_49 hw)) (Or.inl (wd_17 hw)) (by decide) (t := (.array .int)) (t' := (.array (.array .int))) (by decide) (by decide)))
  replace F_a_size := F_a_size.other W4 (Or.inr (slot_ne (Or.inl (wd_43 hw)) (Or.inl (wd_17 hw)) (by decide) (t := .int) (t' := (.array (.array .int))) (by decide) (by decide)))
  replace F_a_width := F_a_width.other W4 (Or.inr (slot_ne (Or.inr (wd_22 hw)) (Or.inl (wd_17 hw)) (by decide) (t := .int) (t' := (.array (.array .int))) (by decide) (by decide)))
  replace F_a_far := F_a_far.other W4 (Or.inr (slot_ne (Or.inr (wd_28 hw)) (Or.inl (wd_17 hw)) (by decide) (t := .int) (t' := (.array (.array .int))) (by decide) (by decide)))
  replace E_a := E_a.keep K4
  replace V_pg := V_pg.keep K4 (ninS (Ne.symm ne_a_pg) nin0)
  replace V_tA := V_tA.keep K4 (ninS (Ne.symm ne_a_tA) nin0)
  replace hz : n0 ≤ hp4.size := Nat.le_trans hz K4.1
  refine Go.aloadN d_binit_20 rfl rfl ?_
  refine Go.iconst 1 d_binit_21 rfl ?_
  -- at pc 22: pc 22: newarray .newarray .int stack [(.int (1 : Int32)), (.ref a)]
  refine Go.newPE (I' := IN) (hI := nE) .int "[I" (wd_18 hw) rfl rfl d_binit_22 (by decide) 1 (by decide) (by decide) (by decide) (by decide) fun hp5 ts k_ts e_ts X5 V_ts E_ts => ?_
  have K5 : Keep hp4 hp5 [] := (Keep.refl _ _).ext X5
  have g_ts : n0 ≤ ts := e_ts ▸ hz
  have ne_a_ts : a ≠ ts := Nat.ne_of_lt (e_ts ▸ E_a.lt)
  have ne_pg_ts : pg ≠ ts := Nat.ne_of_lt (e_ts ▸ V_pg.lt)
  have ne_tA_ts : tA ≠ ts := Nat.ne_of_lt (e_ts ▸ V_tA.lt)
  replace E_a := E_a.keep K5
  replace F_a_pages := F_a_pages.keep K5 nin0
  replace F_a_last := F_a_last.keep K5 nin0
  replace F_a_pageBits := F_a_pageBits.keep K5 nin0
  replace F_a_inPage := F_a_inPage.keep K5 nin0
  replace F_a_tables := F_a_tables.keep K5 nin0
  replace F_a_tableSizes := F_a_tableSizes.keep K5 nin0
  replace F_a_bases := F_a_bases.keep K5 nin0
  replace F_a_size := F_a_size.keep K5 nin0
  replace F_a_width := F_a_width.keep K5 nin0
  replace F_a_far := F_a_far.keep K5 nin0
  replace V_pg := V_pg.keep K5 nin0
  replace V_tA := V_tA.keep K5 nin0
  replace V_ts : Arv Z hp5 ts k_ts .int (1 : Int32) [(.int (0 : Int32))] (.int (0 : Int32)) := V_ts.pad (pad_rep [] (.int (0 : Int32)) 1)
  replace hz : n0 ≤ hp5.size := Nat.le_trans hz K5.1
  refine Go.putF (I' := IN) (hI := nI) (wd_19 hw) Via.refl F_a_tableSizes E_a (Or.inl (wd_20 hw)) (wd_2 hw) (ty := (.array .int)) (by decide) rfl rfl g_a d_binit_24 fun hp6 W6 => ?_
  have K6 := Keep.of_wr W6
  replace F_a_pages := F_a_pages.other W6 (Or.inr (slot_ne (Or.inl (wd_13 hw)) (Or.inl (wd_20 hw)) (by decide) (t := (.array (.array .char))) (t' := (.array .int)) (by decide) (by decide)))
  replace F_a_last := F_a_last.other W6 (Or.inr (slot_ne (Or.inl (wd_35 hw)) (Or.inl (wd_20 hw)) (by decide) (t := (.array .char)) (t' := (.array .int)) (by decide) (by decide)))
  replace F_a_pageBits := F_a_pageBits.other W6 (Or.inr (slot_ne (Or.inl (wd_30 hw)) (Or.inl (wd_20 hw)) (by decide) (t := .int) (t' := (.array .int)) (by decide) (by decide)))
  replace F_a_inPage := F_a_inPage.other W6 (Or.inr (slot_ne (Or.inl (wd_32 hw)) (Or.inl (wd_20 hw)) (by decide) (t := .int) (t' := (.array .int)) (by decide) (by decide)))
  replace F_a_tables := F_a_tables.other W6 (Or.inr (slot_ne (Or.inl (wd_17 hw)) (Or.inl (wd_20 hw)) (by decide) (t := (.array (.array .int))) (t' := (.array .int)) (by decide) (by decide)))
  replace F_a_tableSizes := F_a_tableSizes.same W6
  replace F_a_bases := F_a_bases.other W6 (Or.inr (slot_ne (Or.inl (wd_49 hw)) (Or.inl (wd_20 hw)) (by decide) (t := (.array .int)) (t' := (.array .int)) (by decide) (by decide)))
  replace F_a_size := F_a_size.other W6 (Or.inr (slot_ne (Or.inl (wd_43 hw)) (Or.inl (wd_20 hw)) (by decide) (t := .int) (t' := (.array .int)) (by decide) (by decide)))
  replace F_a_width := F_a_width.other W6 (Or.inr (slot_ne (Or.inr (wd_22 hw)) (Or.inl (wd_20 hw)) (by decide) (t := .int) (t' := (.array .int)) (by decide) (by decide)))
  replace F_a_far := F_a_far.other W6 (Or.inr (slot_ne (Or.inr (wd_28 hw)) (Or.inl (wd_20 hw)) (by decide) (t := .int) (t' := (.array .int)) (by decide) (by decide)))
  replace E_a := E_a.keep K6
  replace V_pg := V_pg.keep K6 (ninS (Ne.symm ne_a_pg) nin0)
  replace V_tA := V_tA.keep K6 (ninS (Ne.symm ne_a_tA) nin0)
  replace V_ts := V_ts.keep K6 (ninS (Ne.symm ne_a_ts) nin0)
  replace E_ts := E_ts.keep K6
  replace hz : n0 ≤ hp6.size := Nat.le_trans hz K6.1
  refine Go.aloadN d_binit_27 rfl rfl ?_
  refine Go.iloadN d_binit_28 rfl ?_
  refine Go.putF (I' := IN) (hI := nI) (wd_21 hw) Via.refl F_a_width E_a (Or.inr ⟨(wd_22 hw), rfl, rfl⟩) (wd_2 hw) (ty := .int) (by decide) rfl rfl g_a d_binit_29 fun hp7 W7 => ?_
  have K7 := Keep.of_wr W7
  replace F_a_pages := F_a_pages.other W7 (Or.inr (slot_ne (Or.inl (wd_13 hw)) (Or.inr (wd_22 hw)) (by decide) (t := (.array (.array .char))) (t' := .int) (by decide) (by decide)))
  replace F_a_last := F_a_last.other W7 (Or.inr (slot_ne (Or.inl (wd_35 hw)) (Or.inr (wd_22 hw)) (by decide) (t := (.array .char)) (t' := .int) (by decide) (by decide)))
  replace F_a_pageBits := F_a_pageBits.other W7 (Or.inr (slot_ne (Or.inl (wd_30 hw)) (Or.inr (wd_22 hw)) (by decide) (t := .int) (t' := .int) (by decide) (by decide)))
  replace F_a_inPage := F_a_inPage.other W7 (Or.inr (slot_ne (Or.inl (wd_32 hw)) (Or.inr (wd_22 hw)) (by decide) (t := .int) (t' := .int) (by decide) (by decide)))
  replace F_a_tables := F_a_tables.other W7 (Or.inr (slot_ne (Or.inl (wd_17 hw)) (Or.inr (wd_22 hw)) (by decide) (t := (.array (.array .int))) (t' := .int) (by decide) (by decide)))
  replace F_a_tableSizes := F_a_tableSizes.other W7 (Or.inr (slot_ne (Or.inl (wd_20 hw)) (Or.inr (wd_22 hw)) (by decide) (t := (.array .int)) (t' := .int) (by decide) (by decide)))
  replace F_a_bases := F_a_bases.other W7 (Or.inr (slot_ne (Or.inl (wd_49 hw)) (Or.inr (wd_22 hw)) (by decide) (t := (.array .int)) (t' := .int) (by decide) (by decide)))
  replace F_a_size := F_a_size.other W7 (Or.inr (slot_ne (Or.inl (wd_43 hw)) (Or.inr (wd_22 hw)) (by decide) (t := .int) (t' := .int) (by decide) (by decide)))
  replace F_a_width := F_a_width.same W7
  replace F_a_far := F_a_far.other W7 (Or.inr (slot_ne (Or.inr (wd_28 hw)) (Or.inr (wd_22 hw)) (by decide) (t := .int) (t' := .int) (by decide) (by decide)))
  replace E_a := E_a.keep K7
  replace V_pg := V_pg.keep K7 (ninS (Ne.symm ne_a_pg) nin0)
  replace V_tA := V_tA.keep K7 (ninS (Ne.symm ne_a_tA) nin0)
  replace V_ts := V_ts.keep K7 (ninS (Ne.symm ne_a_ts) nin0)
  replace E_ts := E_ts.keep K7
  replace hz : n0 ≤ hp7.size := Nat.le_trans hz K7.1
  refine Go.aloadN d_binit_32 rfl rfl ?_
  refine Go.iloadN d_binit_33 rfl ?_
  -- at pc 34: pc 34: invokestatic .invokestatic 30 stack [(.int w), (.ref a)]
  refine Go.callS (I' := IN) (hI := nQ) [(.int w)] [(.ref a)] (ct_far l Z a0 hw n0 w _) (wd_23 hw) (wd_24 hw) (wd_25 hw) (wd_26 hw) (by decide) pd_0 rfl rfl rfl (Nat.le_of_ble_eq_true rfl) (Nat.le_of_ble_eq_true rfl) (Nat.le_of_ble_eq_true rfl) (Nat.le_of_ble_eq_true rfl) d_binit_34 ?_
  rintro _ _ ⟨rfl, rfl⟩
  show GM_binit l Z n0 (fun v h => v = none ∧ n0 ≤ h.size ∧ ∃ (la pg tA ts ba : Addr) (kl kp kt ks kb : ClassId) (bv : Value) (n pb ip : Int32), Bld Z n0 h a la pg tA ts ba kl kp kt ks kb bv 0 n pb ip 0 w [.int (0 : Int32), .int (0 : Int32), .int (0 : Int32)] [] ∧ (asc = 0 → bv = .null) ∧ (¬ asc = 0 → bv = .ref ba) ∧ (pb = 9 ∨ pb = 31) ∧ (ip = 511 ∨ ip = 2147483647) ∧ ¬ n < 3) hp7 3 3 37 #[.val (.ref a), .val (.int asc), .val (.int w), .val (.int cap)] [(.int (farOf w)), (.ref a)]
  refine Go.putF (I' := IN) (hI := nI) (wd_27 hw) Via.refl F_a_far E_a (Or.inr ⟨(wd_28 hw), rfl, rfl⟩) (wd_2 hw) (ty := .int) (by decide) rfl rfl g_a d_binit_37 fun hp9 W9 => ?_
  have K9 := Keep.of_wr W9
  replace F_a_pages := F_a_pages.other W9 (Or.inr (slot_ne (Or.inl (wd_13 hw)) (Or.inr (wd_28 hw)) (by decide) (t := (.array (.array .char))) (t' := .int) (by decide) (by decide)))
  replace F_a_last := F_a_last.other W9 (Or.inr (slot_ne (Or.inl (wd_35 hw)) (Or.inr (wd_28 hw)) (by decide) (t := (.array .char)) (t' := .int) (by decide) (by decide)))
  replace F_a_pageBits := F_a_pageBits.other W9 (Or.inr (slot_ne (Or.inl (wd_30 hw)) (Or.inr (wd_28 hw)) (by decide) (t := .int) (t' := .int) (by decide) (by decide)))
  replace F_a_inPage := F_a_inPage.other W9 (Or.inr (slot_ne (Or.inl (wd_32 hw)) (Or.inr (wd_28 hw)) (by decide) (t := .int) (t' := .int) (by decide) (by decide)))
  replace F_a_tables := F_a_tables.other W9 (Or.inr (slot_ne (Or.inl (wd_17 hw)) (Or.inr (wd_28 hw)) (by decide) (t := (.array (.array .int))) (t' := .int) (by decide) (by decide)))
  replace F_a_tableSizes := F_a_tableSizes.other W9 (Or.inr (slot_ne (Or.inl (wd_20 hw)) (Or.inr (wd_28 hw)) (by decide) (t := (.array .int)) (t' := .int) (by decide) (by decide)))
  replace F_a_bases := F_a_bases.other W9 (Or.inr (slot_ne (Or.inl (wd_49 hw)) (Or.inr (wd_28 hw)) (by decide) (t := (.array .int)) (t' := .int) (by decide) (by decide)))
  replace F_a_size := F_a_size.other W9 (Or.inr (slot_ne (Or.inl (wd_43 hw)) (Or.inr (wd_28 hw)) (by decide) (t := .int) (t' := .int) (by decide) (by decide)))
  replace F_a_width := F_a_width.other W9 (Or.inr (slot_ne (Or.inr (wd_22 hw)) (Or.inr (wd_28 hw)) (by decide) (t := .int) (t' := .int) (by decide) (by decide)))
  replace F_a_far := F_a_far.same W9
  replace E_a := E_a.keep K9
  replace V_pg := V_pg.keep K9 (ninS (Ne.symm ne_a_pg) nin0)
  replace V_tA := V_tA.keep K9 (ninS (Ne.symm ne_a_tA) nin0)
  replace V_ts := V_ts.keep K9 (ninS (Ne.symm ne_a_ts) nin0)
  replace E_ts := E_ts.keep K9
  replace hz : n0 ≤ hp9.size := Nat.le_trans hz K9.1
  refine Go.aloadN d_binit_40 rfl rfl ?_
  refine Go.iloadN d_binit_41 rfl ?_
  -- at pc 42: pc 42: ifCond .ifCond .ne 8 stack [(.int cap), (.ref a)]
  by_cases hcap0 : cap = (0 : Int32)
  · refine Go.ifF d_binit_42 (teq hcap0).2 ?_
    refine Go.bipush 9 d_binit_45 rfl ?_
    refine Go.goto 52 d_binit_47 (by decide) (by decide) ?_
    refine Go.putF (I' := IN) (hI := nI) (wd_29 hw) Via.refl F_a_pageBits E_a (Or.inl (wd_30 hw)) (wd_2 hw) (ty := .int) (by decide) rfl rfl g_a d_binit_52 fun hp10 W10 => ?_
    have K10 := Keep.of_wr W10
    replace F_a_pages := F_a_pages.other W10 (Or.inr (slot_ne (Or.inl (wd_13 hw)) (Or.inl (wd_30 hw)) (by decide) (t := (.array (.array .char))) (t' := .int) (by decide) (by decide)))
    replace F_a_last := F_a_last.other W10 (Or.inr (slot_ne (Or.inl (wd_35 hw)) (Or.inl (wd_30 hw)) (by decide) (t := (.array .char)) (t' := .int) (by decide) (by decide)))
    replace F_a_pageBits := F_a_pageBits.same W10
    replace F_a_inPage := F_a_inPage.other W10 (Or.inr (slot_ne (Or.inl (wd_32 hw)) (Or.inl (wd_30 hw)) (by decide) (t := .int) (t' := .int) (by decide) (by decide)))
    replace F_a_tables := F_a_tables.other W10 (Or.inr (slot_ne (Or.inl (wd_17 hw)) (Or.inl (wd_30 hw)) (by decide) (t := (.array (.array .int))) (t' := .int) (by decide) (by decide)))
    replace F_a_tableSizes := F_a_tableSizes.other W10 (Or.inr (slot_ne (Or.inl (wd_20 hw)) (Or.inl (wd_30 hw)) (by decide) (t := (.array .int)) (t' := .int) (by decide) (by decide)))
    replace F_a_bases := F_a_bases.other W10 (Or.inr (slot_ne (Or.inl (wd_49 hw)) (Or.inl (wd_30 hw)) (by decide) (t := (.array .int)) (t' := .int) (by decide) (by decide)))
    replace F_a_size := F_a_size.other W10 (Or.inr (slot_ne (Or.inl (wd_43 hw)) (Or.inl (wd_30 hw)) (by decide) (t := .int) (t' := .int) (by decide) (by decide)))
    replace F_a_width := F_a_width.other W10 (Or.inr (slot_ne (Or.inr (wd_22 hw)) (Or.inl (wd_30 hw)) (by decide) (t := .int) (t' := .int) (by decide) (by decide)))
    replace F_a_far := F_a_far.other W10 (Or.inr (slot_ne (Or.inr (wd_28 hw)) (Or.inl (wd_30 hw)) (by decide) (t := .int) (t' := .int) (by decide) (by decide)))
    replace E_a := E_a.keep K10
    replace V_pg := V_pg.keep K10 (ninS (Ne.symm ne_a_pg) nin0)
    replace V_tA := V_tA.keep K10 (ninS (Ne.symm ne_a_tA) nin0)
    replace V_ts := V_ts.keep K10 (ninS (Ne.symm ne_a_ts) nin0)
    replace E_ts := E_ts.keep K10
    replace hz : n0 ≤ hp10.size := Nat.le_trans hz K10.1
    refine Go.aloadN d_binit_55 rfl rfl ?_
    refine Go.iconst 1 d_binit_56 rfl ?_
    refine Go.aloadN d_binit_57 rfl rfl ?_
    refine Go.getF (wd_29 hw) Via.refl F_a_pageBits d_binit_58 ?_
    refine Go.ishl d_binit_61 ?_
    refine Go.iconst 1 d_binit_62 rfl ?_
    refine Go.isub d_binit_63 ?_
    refine Go.putF (I' := IN) (hI := nI) (wd_31 hw) Via.refl F_a_inPage E_a (Or.inl (wd_32 hw)) (wd_2 hw) (ty := .int) (by decide) rfl rfl g_a d_binit_64 fun hp11 W11 => ?_
    have K11 := Keep.of_wr W11
    replace F_a_pages := F_a_pages.other W11 (Or.inr (slot_ne (Or.inl (wd_13 hw)) (Or.inl (wd_32 hw)) (by decide) (t := (.array (.array .char))) (t' := .int) (by decide) (by decide)))
    replace F_a_last := F_a_last.other W11 (Or.inr (slot_ne (Or.inl (wd_35 hw)) (Or.inl (wd_32 hw)) (by decide) (t := (.array .char)) (t' := .int) (by decide) (by decide)))
    replace F_a_pageBits := F_a_pageBits.other W11 (Or.inr (slot_ne (Or.inl (wd_30 hw)) (Or.inl (wd_32 hw)) (by decide) (t := .int) (t' := .int) (by decide) (by decide)))
    replace F_a_inPage := F_a_inPage.same W11
    replace F_a_tables := F_a_tables.other W11 (Or.inr (slot_ne (Or.inl (wd_17 hw)) (Or.inl (wd_32 hw)) (by decide) (t := (.array (.array .int))) (t' := .int) (by decide) (by decide)))
    replace F_a_tableSizes := F_a_tableSizes.other W11 (Or.inr (slot_ne (Or.inl (wd_20 hw)) (Or.inl (wd_32 hw)) (by decide) (t := (.array .int)) (t' := .int) (by decide) (by decide)))
    replace F_a_bases := F_a_bases.other W11 (Or.inr (slot_ne (Or.inl (wd_49 hw)) (Or.inl (wd_32 hw)) (by decide) (t := (.array .int)) (t' := .int) (by decide) (by decide)))
    replace F_a_size := F_a_size.other W11 (Or.inr (slot_ne (Or.inl (wd_43 hw)) (Or.inl (wd_32 hw)) (by decide) (t := .int) (t' := .int) (by decide) (by decide)))
    replace F_a_width := F_a_width.other W11 (Or.inr (slot_ne (Or.inr (wd_22 hw)) (Or.inl (wd_32 hw)) (by decide) (t := .int) (t' := .int) (by decide) (by decide)))
    replace F_a_far := F_a_far.other W11 (Or.inr (slot_ne (Or.inr (wd_28 hw)) (Or.inl (wd_32 hw)) (by decide) (t := .int) (t' := .int) (by decide) (by decide)))
    replace E_a := E_a.keep K11
    replace V_pg := V_pg.keep K11 (ninS (Ne.symm ne_a_pg) nin0)
    replace V_tA := V_tA.keep K11 (ninS (Ne.symm ne_a_tA) nin0)
    replace V_ts := V_ts.keep K11 (ninS (Ne.symm ne_a_ts) nin0)
    replace E_ts := E_ts.keep K11
    replace hz : n0 ≤ hp11.size := Nat.le_trans hz K11.1
    refine Go.aloadN d_binit_67 rfl rfl ?_
    refine Go.iloadN d_binit_68 rfl ?_
    -- at pc 69: pc 69: ifCond .ifCond .ne 9 stack [(.int cap), (.ref a)]
    -- cap = (0 : Int32)
    refine Go.ifF d_binit_69 (teq (hcap0)).2 ?_
    refine Go.sipush 512 d_binit_72 rfl ?_
    refine Go.goto 79 d_binit_75 (by decide) (by decide) ?_
    -- at pc 79: pc 79: newarray .newarray .char stack [(.int (512 : Int32)), (.ref a)]
    refine Go.newPE (I' := IN) (hI := nE) .char "[C" (wd_33 hw) rfl rfl d_binit_79 (by decide) 512 (by decide) (by decide) (by decide) (by decide) fun hp12 la k_la e_la X12 V_la E_la => ?_
    have K12 : Keep hp11 hp12 [] := (Keep.refl _ _).ext X12
    have g_la : n0 ≤ la := e_la ▸ hz
    have ne_a_la : a ≠ la := Nat.ne_of_lt (e_la ▸ E_a.lt)
    have ne_pg_la : pg ≠ la := Nat.ne_of_lt (e_la ▸ V_pg.lt)
    have ne_tA_la : tA ≠ la := Nat.ne_of_lt (e_la ▸ V_tA.lt)
    have ne_ts_la : ts ≠ la := Nat.ne_of_lt (e_la ▸ V_ts.lt)
    replace E_a := E_a.keep K12
    replace F_a_pages := F_a_pages.keep K12 nin0
    replace F_a_last := F_a_last.keep K12 nin0
    replace F_a_pageBits := F_a_pageBits.keep K12 nin0
    replace F_a_inPage := F_a_inPage.keep K12 nin0
    replace F_a_tables := F_a_tables.keep K12 nin0
    replace F_a_tableSizes := F_a_tableSizes.keep K12 nin0
    replace F_a_bases := F_a_bases.keep K12 nin0
    replace F_a_size := F_a_size.keep K12 nin0
    replace F_a_width := F_a_width.keep K12 nin0
    replace F_a_far := F_a_far.keep K12 nin0
    replace V_pg := V_pg.keep K12 nin0
    replace V_tA := V_tA.keep K12 nin0
    replace V_ts := V_ts.keep K12 nin0
    replace E_ts := E_ts.keep K12
    replace hz : n0 ≤ hp12.size := Nat.le_trans hz K12.1
    replace V_la : Arv Z _ la k_la .char (512 : Int32) [.int (0 : Int32), .int (0 : Int32), .int (0 : Int32)] (.int (0 : Int32)) := V_la.pad (pad_rep [] _ 3)
    refine Go.putF (I' := IN) (hI := nI) (wd_34 hw) Via.refl F_a_last E_a (Or.inl (wd_35 hw)) (wd_2 hw) (ty := (.array .char)) (by decide) rfl rfl g_a d_binit_81 fun hp13 W13 => ?_
    have K13 := Keep.of_wr W13
    replace F_a_pages := F_a_pages.other W13 (Or.inr (slot_ne (Or.inl (wd_13 hw)) (Or.inl (wd_35 hw)) (by decide) (t := (.array (.array .char))) (t' := (.array .char)) (by decide) (by decide)))
    replace F_a_last := F_a_last.same W13
    replace F_a_pageBits := F_a_pageBits.other W13 (Or.inr (slot_ne (Or.inl (wd_30 hw)) (Or.inl (wd_35 hw)) (by decide) (t := .int) (t' := (.array .char)) (by decide) (by decide)))
    replace F_a_inPage := F_a_inPage.other W13 (Or.inr (slot_ne (Or.inl (wd_32 hw)) (Or.inl (wd_35 hw)) (by decide) (t := .int) (t' := (.array .char)) (by decide) (by decide)))
    replace F_a_tables := F_a_tables.other W13 (Or.inr (slot_ne (Or.inl (wd_17 hw)) (Or.inl (wd_35 hw)) (by decide) (t := (.array (.array .int))) (t' := (.array .char)) (by decide) (by decide)))
    replace F_a_tableSizes := F_a_tableSizes.other W13 (Or.inr (slot_ne (Or.inl (wd_20 hw)) (Or.inl (wd_35 hw)) (by decide) (t := (.array .int)) (t' := (.array .char)) (by decide) (by decide)))
    replace F_a_bases := F_a_bases.other W13 (Or.inr (slot_ne (Or.inl (wd_49 hw)) (Or.inl (wd_35 hw)) (by decide) (t := (.array .int)) (t' := (.array .char)) (by decide) (by decide)))
    replace F_a_size := F_a_size.other W13 (Or.inr (slot_ne (Or.inl (wd_43 hw)) (Or.inl (wd_35 hw)) (by decide) (t := .int) (t' := (.array .char)) (by decide) (by decide)))
    replace F_a_width := F_a_width.other W13 (Or.inr (slot_ne (Or.inr (wd_22 hw)) (Or.inl (wd_35 hw)) (by decide) (t := .int) (t' := (.array .char)) (by decide) (by decide)))
    replace F_a_far := F_a_far.other W13 (Or.inr (slot_ne (Or.inr (wd_28 hw)) (Or.inl (wd_35 hw)) (by decide) (t := .int) (t' := (.array .char)) (by decide) (by decide)))
    replace E_a := E_a.keep K13
    replace V_pg := V_pg.keep K13 (ninS (Ne.symm ne_a_pg) nin0)
    replace V_tA := V_tA.keep K13 (ninS (Ne.symm ne_a_tA) nin0)
    replace V_ts := V_ts.keep K13 (ninS (Ne.symm ne_a_ts) nin0)
    replace E_ts := E_ts.keep K13
    replace V_la := V_la.keep K13 (ninS (Ne.symm ne_a_la) nin0)
    replace E_la := E_la.keep K13
    replace hz : n0 ≤ hp13.size := Nat.le_trans hz K13.1
    refine Go.aloadN d_binit_84 rfl rfl ?_
    refine Go.getF (wd_12 hw) Via.refl F_a_pages d_binit_85 ?_
    refine Go.iconst 0 d_binit_88 rfl ?_
    refine Go.aloadN d_binit_89 rfl rfl ?_
    refine Go.getF (wd_34 hw) Via.refl F_a_last d_binit_90 ?_
    refine Go.aastore (I' := IN) (hI := nI) V_pg rfl rfl (fun c A q => Sto.ofVA A q O_pg (Ins.self E_la)) ⟨by decide, by decide⟩ g_pg 0 rfl (Nat.le_of_ble_eq_true rfl) d_binit_93 fun hp14 K14 V_pg_n => ?_
    replace V_pg : Arv Z hp14 pg k_pg (.array .char) (1 : Int32) [(.ref la)] .null := V_pg_n
    replace E_a := E_a.keep K14
    replace F_a_pages := F_a_pages.keep K14 (ninS ne_a_pg nin0)
    replace F_a_last := F_a_last.keep K14 (ninS ne_a_pg nin0)
    replace F_a_pageBits := F_a_pageBits.keep K14 (ninS ne_a_pg nin0)
    replace F_a_inPage := F_a_inPage.keep K14 (ninS ne_a_pg nin0)
    replace F_a_tables := F_a_tables.keep K14 (ninS ne_a_pg nin0)
    replace F_a_tableSizes := F_a_tableSizes.keep K14 (ninS ne_a_pg nin0)
    replace F_a_bases := F_a_bases.keep K14 (ninS ne_a_pg nin0)
    replace F_a_size := F_a_size.keep K14 (ninS ne_a_pg nin0)
    replace F_a_width := F_a_width.keep K14 (ninS ne_a_pg nin0)
    replace F_a_far := F_a_far.keep K14 (ninS ne_a_pg nin0)
    replace V_tA := V_tA.keep K14 (ninS (Ne.symm ne_pg_tA) nin0)
    replace V_ts := V_ts.keep K14 (ninS (Ne.symm ne_pg_ts) nin0)
    replace E_ts := E_ts.keep K14
    replace V_la := V_la.keep K14 (ninS (Ne.symm ne_pg_la) nin0)
    replace E_la := E_la.keep K14
    replace hz : n0 ≤ hp14.size := Nat.le_trans hz K14.1
    refine Go.iloadN d_binit_94 rfl ?_
    -- at pc 95: pc 95: ifCond .ifCond .eq 10 stack [(.int asc)]
    by_cases hasc : asc = (0 : Int32)
    · refine Go.ifT 105 d_binit_95 (teq hasc).1 (by decide) (by decide) ?_
      exact Go.return_ d_binit_105 rfl (by decide) (by decide) ⟨rfl, hz, la, pg, tA, ts, 0, k_la, k_pg, k_tA, k_ts, 0, .null, 512, 9, 511, ⟨⟨E_a, F_a_pages, F_a_last, F_a_pageBits, F_a_inPage, F_a_tables, F_a_tableSizes, F_a_bases, F_a_size, F_a_width, F_a_far⟩, Or.inl rfl, ⟨g_tA, g_ts, O_tA, V_ts, Or.inl ⟨rfl, V_tA⟩⟩, V_la, V_pg, g_a, g_la⟩, fun _ => rfl, fun q => absurd hasc q, Or.inl rfl, Or.inl rfl, by decide⟩
    · refine Go.ifF d_binit_95 (feq hasc).1 ?_
      refine Go.aloadN d_binit_98 rfl rfl ?_
      refine Go.iconst 1 d_binit_99 rfl ?_
      -- at pc 100: pc 100: newarray .newarray .int stack [(.int (1 : Int32)), (.ref a)]
      refine Go.newPE (I' := IN) (hI := nE) .int "[I" (wd_18 hw) rfl rfl d_binit_100 (by decide) 1 (by decide) (by decide) (by decide) (by decide) fun hp15 ba k_ba e_ba X15 V_ba E_ba => ?_
      have K15 : Keep hp14 hp15 [] := (Keep.refl _ _).ext X15
      have g_ba : n0 ≤ ba := e_ba ▸ hz
      have ne_a_ba : a ≠ ba := Nat.ne_of_lt (e_ba ▸ E_a.lt)
      have ne_pg_ba : pg ≠ ba := Nat.ne_of_lt (e_ba ▸ V_pg.lt)
      have ne_tA_ba : tA ≠ ba := Nat.ne_of_lt (e_ba ▸ V_tA.lt)
      have ne_ts_ba : ts ≠ ba := Nat.ne_of_lt (e_ba ▸ V_ts.lt)
      have ne_la_ba : la ≠ ba := Nat.ne_of_lt (e_ba ▸ V_la.lt)
      replace E_a := E_a.keep K15
      replace F_a_pages := F_a_pages.keep K15 nin0
      replace F_a_last := F_a_last.keep K15 nin0
      replace F_a_pageBits := F_a_pageBits.keep K15 nin0
      replace F_a_inPage := F_a_inPage.keep K15 nin0
      replace F_a_tables := F_a_tables.keep K15 nin0
      replace F_a_tableSizes := F_a_tableSizes.keep K15 nin0
      replace F_a_bases := F_a_bases.keep K15 nin0
      replace F_a_size := F_a_size.keep K15 nin0
      replace F_a_width := F_a_width.keep K15 nin0
      replace F_a_far := F_a_far.keep K15 nin0
      replace V_pg := V_pg.keep K15 nin0
      replace V_tA := V_tA.keep K15 nin0
      replace V_ts := V_ts.keep K15 nin0
      replace E_ts := E_ts.keep K15
      replace V_la := V_la.keep K15 nin0
      replace E_la := E_la.keep K15
      replace V_ba : Arv Z hp15 ba k_ba .int (1 : Int32) [(.int (0 : Int32))] (.int (0 : Int32)) := V_ba.pad (pad_rep [] (.int (0 : Int32)) 1)
      replace hz : n0 ≤ hp15.size := Nat.le_trans hz K15.1
      refine Go.putF (I' := IN) (hI := nI) (wd_48 hw) Via.refl F_a_bases E_a (Or.inl (wd_49 hw)) (wd_2 hw) (ty := (.array .int)) (by decide) rfl rfl g_a d_binit_102 fun hp16 W16 => ?_
      have K16 := Keep.of_wr W16
      replace F_a_pages := F_a_pages.other W16 (Or.inr (slot_ne (Or.inl (wd_13 hw)) (Or.inl (wd_49 hw)) (by decide) (t := (.array (.array .char))) (t' := (.array .int)) (by decide) (by decide)))
      replace F_a_last := F_a_last.other W16 (Or.inr (slot_ne (Or.inl (wd_35 hw)) (Or.inl (wd_49 hw)) (by decide) (t := (.array .char)) (t' := (.array .int)) (by decide) (by decide)))
      replace F_a_pageBits := F_a_pageBits.other W16 (Or.inr (slot_ne (Or.inl (wd_30 hw)) (Or.inl (wd_49 hw)) (by decide) (t := .int) (t' := (.array .int)) (by decide) (by decide)))
      replace F_a_inPage := F_a_inPage.other W16 (Or.inr (slot_ne (Or.inl (wd_32 hw)) (Or.inl (wd_49 hw)) (by decide) (t := .int) (t' := (.array .int)) (by decide) (by decide)))
      replace F_a_tables := F_a_tables.other W16 (Or.inr (slot_ne (Or.inl (wd_17 hw)) (Or.inl (wd_49 hw)) (by decide) (t := (.array (.array .int))) (t' := (.array .int)) (by decide) (by decide)))
      replace F_a_tableSizes := F_a_tableSizes.other W16 (Or.inr (slot_ne (Or.inl (wd_20 hw)) (Or.inl (wd_49 hw)) (by decide) (t := (.array .int)) (t' := (.array .int)) (by decide) (by decide)))
      replace F_a_bases := F_a_bases.same W16
      replace F_a_size := F_a_size.other W16 (Or.inr (slot_ne (Or.inl (wd_43 hw)) (Or.inl (wd_49 hw)) (by decide) (t := .int) (t' := (.array .int)) (by decide) (by decide)))
      replace F_a_width := F_a_width.other W16 (Or.inr (slot_ne (Or.inr (wd_22 hw)) (Or.inl (wd_49 hw)) (by decide) (t := .int) (t' := (.array .int)) (by decide) (by decide)))
      replace F_a_far := F_a_far.other W16 (Or.inr (slot_ne (Or.inr (wd_28 hw)) (Or.inl (wd_49 hw)) (by decide) (t := .int) (t' := (.array .int)) (by decide) (by decide)))
      replace E_a := E_a.keep K16
      replace V_pg := V_pg.keep K16 (ninS (Ne.symm ne_a_pg) nin0)
      replace V_tA := V_tA.keep K16 (ninS (Ne.symm ne_a_tA) nin0)
      replace V_ts := V_ts.keep K16 (ninS (Ne.symm ne_a_ts) nin0)
      replace E_ts := E_ts.keep K16
      replace V_la := V_la.keep K16 (ninS (Ne.symm ne_a_la) nin0)
      replace E_la := E_la.keep K16
      replace V_ba := V_ba.keep K16 (ninS (Ne.symm ne_a_ba) nin0)
      replace E_ba := E_ba.keep K16
      replace hz : n0 ≤ hp16.size := Nat.le_trans hz K16.1
      -- at pc 105: pc 105: return .return_ stack []
      exact Go.return_ d_binit_105 rfl (by decide) (by decide) ⟨rfl, hz, la, pg, tA, ts, ba, k_la, k_pg, k_tA, k_ts, k_ba, .ref ba, 512, 9, 511, ⟨⟨E_a, F_a_pages, F_a_last, F_a_pageBits, F_a_inPage, F_a_tables, F_a_tableSizes, F_a_bases, F_a_size, F_a_width, F_a_far⟩, Or.inr ⟨rfl, g_ba, ne_ts_ba.symm, V_ba⟩, ⟨g_tA, g_ts, O_tA, V_ts, Or.inl ⟨rfl, V_tA⟩⟩, V_la, V_pg, g_a, g_la⟩, fun q => absurd q hasc, fun _ => rfl, Or.inl rfl, Or.inl rfl, by decide⟩
  · refine Go.ifT 50 d_binit_42 (feq hcap0).2 (by decide) (by decide) ?_
    refine Go.bipush 31 d_binit_50 rfl ?_
    refine Go.putF (I' := IN) (hI := nI) (wd_29 hw) Via.refl F_a_pageBits E_a (Or.inl (wd_30 hw)) (wd_2 hw) (ty := .int) (by decide) rfl rfl g_a d_binit_52 fun hp17 W17 => ?_
    have K17 := Keep.of_wr W17
    replace F_a_pages := F_a_pages.other W17 (Or.inr (slot_ne (Or.inl (wd_13 hw)) (Or.inl (wd_30 hw)) (by decide) (t := (.array (.array .char))) (t' := .int) (by decide) (by decide)))
    replace F_a_last := F_a_last.other W17 (Or.inr (slot_ne (Or.inl (wd_35 hw)) (Or.inl (wd_30 hw)) (by decide) (t := (.array .char)) (t' := .int) (by decide) (by decide)))
    replace F_a_pageBits := F_a_pageBits.same W17
    replace F_a_inPage := F_a_inPage.other W17 (Or.inr (slot_ne (Or.inl (wd_32 hw)) (Or.inl (wd_30 hw)) (by decide) (t := .int) (t' := .int) (by decide) (by decide)))
    replace F_a_tables := F_a_tables.other W17 (Or.inr (slot_ne (Or.inl (wd_17 hw)) (Or.inl (wd_30 hw)) (by decide) (t := (.array (.array .int))) (t' := .int) (by decide) (by decide)))
    replace F_a_tableSizes := F_a_tableSizes.other W17 (Or.inr (slot_ne (Or.inl (wd_20 hw)) (Or.inl (wd_30 hw)) (by decide) (t := (.array .int)) (t' := .int) (by decide) (by decide)))
    replace F_a_bases := F_a_bases.other W17 (Or.inr (slot_ne (Or.inl (wd_49 hw)) (Or.inl (wd_30 hw)) (by decide) (t := (.array .int)) (t' := .int) (by decide) (by decide)))
    replace F_a_size := F_a_size.other W17 (Or.inr (slot_ne (Or.inl (wd_43 hw)) (Or.inl (wd_30 hw)) (by decide) (t := .int) (t' := .int) (by decide) (by decide)))
    replace F_a_width := F_a_width.other W17 (Or.inr (slot_ne (Or.inr (wd_22 hw)) (Or.inl (wd_30 hw)) (by decide) (t := .int) (t' := .int) (by decide) (by decide)))
    replace F_a_far := F_a_far.other W17 (Or.inr (slot_ne (Or.inr (wd_28 hw)) (Or.inl (wd_30 hw)) (by decide) (t := .int) (t' := .int) (by decide) (by decide)))
    replace E_a := E_a.keep K17
    replace V_pg := V_pg.keep K17 (ninS (Ne.symm ne_a_pg) nin0)
    replace V_tA := V_tA.keep K17 (ninS (Ne.symm ne_a_tA) nin0)
    replace V_ts := V_ts.keep K17 (ninS (Ne.symm ne_a_ts) nin0)
    replace E_ts := E_ts.keep K17
    replace hz : n0 ≤ hp17.size := Nat.le_trans hz K17.1
    refine Go.aloadN d_binit_55 rfl rfl ?_
    refine Go.iconst 1 d_binit_56 rfl ?_
    refine Go.aloadN d_binit_57 rfl rfl ?_
    refine Go.getF (wd_29 hw) Via.refl F_a_pageBits d_binit_58 ?_
    refine Go.ishl d_binit_61 ?_
    refine Go.iconst 1 d_binit_62 rfl ?_
    refine Go.isub d_binit_63 ?_
    refine Go.putF (I' := IN) (hI := nI) (wd_31 hw) Via.refl F_a_inPage E_a (Or.inl (wd_32 hw)) (wd_2 hw) (ty := .int) (by decide) rfl rfl g_a d_binit_64 fun hp18 W18 => ?_
    have K18 := Keep.of_wr W18
    replace F_a_pages := F_a_pages.other W18 (Or.inr (slot_ne (Or.inl (wd_13 hw)) (Or.inl (wd_32 hw)) (by decide) (t := (.array (.array .char))) (t' := .int) (by decide) (by decide)))
    replace F_a_last := F_a_last.other W18 (Or.inr (slot_ne (Or.inl (wd_35 hw)) (Or.inl (wd_32 hw)) (by decide) (t := (.array .char)) (t' := .int) (by decide) (by decide)))
    replace F_a_pageBits := F_a_pageBits.other W18 (Or.inr (slot_ne (Or.inl (wd_30 hw)) (Or.inl (wd_32 hw)) (by decide) (t := .int) (t' := .int) (by decide) (by decide)))
    replace F_a_inPage := F_a_inPage.same W18
    replace F_a_tables := F_a_tables.other W18 (Or.inr (slot_ne (Or.inl (wd_17 hw)) (Or.inl (wd_32 hw)) (by decide) (t := (.array (.array .int))) (t' := .int) (by decide) (by decide)))
    replace F_a_tableSizes := F_a_tableSizes.other W18 (Or.inr (slot_ne (Or.inl (wd_20 hw)) (Or.inl (wd_32 hw)) (by decide) (t := (.array .int)) (t' := .int) (by decide) (by decide)))
    replace F_a_bases := F_a_bases.other W18 (Or.inr (slot_ne (Or.inl (wd_49 hw)) (Or.inl (wd_32 hw)) (by decide) (t := (.array .int)) (t' := .int) (by decide) (by decide)))
    replace F_a_size := F_a_size.other W18 (Or.inr (slot_ne (Or.inl (wd_43 hw)) (Or.inl (wd_32 hw)) (by decide) (t := .int) (t' := .int) (by decide) (by decide)))
    replace F_a_width := F_a_width.other W18 (Or.inr (slot_ne (Or.inr (wd_22 hw)) (Or.inl (wd_32 hw)) (by decide) (t := .int) (t' := .int) (by decide) (by decide)))
    replace F_a_far := F_a_far.other W18 (Or.inr (slot_ne (Or.inr (wd_28 hw)) (Or.inl (wd_32 hw)) (by decide) (t := .int) (t' := .int) (by decide) (by decide)))
    replace E_a := E_a.keep K18
    replace V_pg := V_pg.keep K18 (ninS (Ne.symm ne_a_pg) nin0)
    replace V_tA := V_tA.keep K18 (ninS (Ne.symm ne_a_tA) nin0)
    replace V_ts := V_ts.keep K18 (ninS (Ne.symm ne_a_ts) nin0)
    replace E_ts := E_ts.keep K18
    replace hz : n0 ≤ hp18.size := Nat.le_trans hz K18.1
    refine Go.aloadN d_binit_67 rfl rfl ?_
    refine Go.iloadN d_binit_68 rfl ?_
    -- at pc 69: pc 69: ifCond .ifCond .ne 9 stack [(.int cap), (.ref a)]
    -- not: cap = (0 : Int32)
    refine Go.ifT 78 d_binit_69 (feq (hcap0)).2 (by decide) (by decide) ?_
    refine Go.iloadN d_binit_78 rfl ?_
    -- at pc 79: pc 79: newarray .newarray .char stack [(.int cap), (.ref a)]
    have h3 := own_n3 hcap hcap0
    refine Go.newPE (I' := IN) (hI := nE) .char "[C" (wd_33 hw) rfl rfl d_binit_79 h3.1 512 h3.2.1 (by decide) (by decide) (by decide) fun hp19 la k_la e_la X19 V_la E_la => ?_
    have K19 : Keep hp18 hp19 [] := (Keep.refl _ _).ext X19
    have g_la : n0 ≤ la := e_la ▸ hz
    have ne_a_la : a ≠ la := Nat.ne_of_lt (e_la ▸ E_a.lt)
    have ne_pg_la : pg ≠ la := Nat.ne_of_lt (e_la ▸ V_pg.lt)
    have ne_tA_la : tA ≠ la := Nat.ne_of_lt (e_la ▸ V_tA.lt)
    have ne_ts_la : ts ≠ la := Nat.ne_of_lt (e_la ▸ V_ts.lt)
    replace E_a := E_a.keep K19
    replace F_a_pages := F_a_pages.keep K19 nin0
    replace F_a_last := F_a_last.keep K19 nin0
    replace F_a_pageBits := F_a_pageBits.keep K19 nin0
    replace F_a_inPage := F_a_inPage.keep K19 nin0
    replace F_a_tables := F_a_tables.keep K19 nin0
    replace F_a_tableSizes := F_a_tableSizes.keep K19 nin0
    replace F_a_bases := F_a_bases.keep K19 nin0
    replace F_a_size := F_a_size.keep K19 nin0
    replace F_a_width := F_a_width.keep K19 nin0
    replace F_a_far := F_a_far.keep K19 nin0
    replace V_pg := V_pg.keep K19 nin0
    replace V_tA := V_tA.keep K19 nin0
    replace V_ts := V_ts.keep K19 nin0
    replace E_ts := E_ts.keep K19
    replace hz : n0 ≤ hp19.size := Nat.le_trans hz K19.1
    replace V_la : Arv Z _ la k_la .char cap [.int (0 : Int32), .int (0 : Int32), .int (0 : Int32)] (.int (0 : Int32)) := V_la.pad (pad_rep [] _ 3)
    refine Go.putF (I' := IN) (hI := nI) (wd_34 hw) Via.refl F_a_last E_a (Or.inl (wd_35 hw)) (wd_2 hw) (ty := (.array .char)) (by decide) rfl rfl g_a d_binit_81 fun hp20 W20 => ?_
    have K20 := Keep.of_wr W20
    replace F_a_pages := F_a_pages.other W20 (Or.inr (slot_ne (Or.inl (wd_13 hw)) (Or.inl (wd_35 hw)) (by decide) (t := (.array (.array .char))) (t' := (.array .char)) (by decide) (by decide)))
    replace F_a_last := F_a_last.same W20
    replace F_a_pageBits := F_a_pageBits.other W20 (Or.inr (slot_ne (Or.inl (wd_30 hw)) (Or.inl (wd_35 hw)) (by decide) (t := .int) (t' := (.array .char)) (by decide) (by decide)))
    replace F_a_inPage := F_a_inPage.other W20 (Or.inr (slot_ne (Or.inl (wd_32 hw)) (Or.inl (wd_35 hw)) (by decide) (t := .int) (t' := (.array .char)) (by decide) (by decide)))
    replace F_a_tables := F_a_tables.other W20 (Or.inr (slot_ne (Or.inl (wd_17 hw)) (Or.inl (wd_35 hw)) (by decide) (t := (.array (.array .int))) (t' := (.array .char)) (by decide) (by decide)))
    replace F_a_tableSizes := F_a_tableSizes.other W20 (Or.inr (slot_ne (Or.inl (wd_20 hw)) (Or.inl (wd_35 hw)) (by decide) (t := (.array .int)) (t' := (.array .char)) (by decide) (by decide)))
    replace F_a_bases := F_a_bases.other W20 (Or.inr (slot_ne (Or.inl (wd_49 hw)) (Or.inl (wd_35 hw)) (by decide) (t := (.array .int)) (t' := (.array .char)) (by decide) (by decide)))
    replace F_a_size := F_a_size.other W20 (Or.inr (slot_ne (Or.inl (wd_43 hw)) (Or.inl (wd_35 hw)) (by decide) (t := .int) (t' := (.array .char)) (by decide) (by decide)))
    replace F_a_width := F_a_width.other W20 (Or.inr (slot_ne (Or.inr (wd_22 hw)) (Or.inl (wd_35 hw)) (by decide) (t := .int) (t' := (.array .char)) (by decide) (by decide)))
    replace F_a_far := F_a_far.other W20 (Or.inr (slot_ne (Or.inr (wd_28 hw)) (Or.inl (wd_35 hw)) (by decide) (t := .int) (t' := (.array .char)) (by decide) (by decide)))
    replace E_a := E_a.keep K20
    replace V_pg := V_pg.keep K20 (ninS (Ne.symm ne_a_pg) nin0)
    replace V_tA := V_tA.keep K20 (ninS (Ne.symm ne_a_tA) nin0)
    replace V_ts := V_ts.keep K20 (ninS (Ne.symm ne_a_ts) nin0)
    replace E_ts := E_ts.keep K20
    replace V_la := V_la.keep K20 (ninS (Ne.symm ne_a_la) nin0)
    replace E_la := E_la.keep K20
    replace hz : n0 ≤ hp20.size := Nat.le_trans hz K20.1
    refine Go.aloadN d_binit_84 rfl rfl ?_
    refine Go.getF (wd_12 hw) Via.refl F_a_pages d_binit_85 ?_
    refine Go.iconst 0 d_binit_88 rfl ?_
    refine Go.aloadN d_binit_89 rfl rfl ?_
    refine Go.getF (wd_34 hw) Via.refl F_a_last d_binit_90 ?_
    refine Go.aastore (I' := IN) (hI := nI) V_pg rfl rfl (fun c A q => Sto.ofVA A q O_pg (Ins.self E_la)) ⟨by decide, by decide⟩ g_pg 0 rfl (Nat.le_of_ble_eq_true rfl) d_binit_93 fun hp21 K21 V_pg_n => ?_
    replace V_pg : Arv Z hp21 pg k_pg (.array .char) (1 : Int32) [(.ref la)] .null := V_pg_n
    replace E_a := E_a.keep K21
    replace F_a_pages := F_a_pages.keep K21 (ninS ne_a_pg nin0)
    replace F_a_last := F_a_last.keep K21 (ninS ne_a_pg nin0)
    replace F_a_pageBits := F_a_pageBits.keep K21 (ninS ne_a_pg nin0)
    replace F_a_inPage := F_a_inPage.keep K21 (ninS ne_a_pg nin0)
    replace F_a_tables := F_a_tables.keep K21 (ninS ne_a_pg nin0)
    replace F_a_tableSizes := F_a_tableSizes.keep K21 (ninS ne_a_pg nin0)
    replace F_a_bases := F_a_bases.keep K21 (ninS ne_a_pg nin0)
    replace F_a_size := F_a_size.keep K21 (ninS ne_a_pg nin0)
    replace F_a_width := F_a_width.keep K21 (ninS ne_a_pg nin0)
    replace F_a_far := F_a_far.keep K21 (ninS ne_a_pg nin0)
    replace V_tA := V_tA.keep K21 (ninS (Ne.symm ne_pg_tA) nin0)
    replace V_ts := V_ts.keep K21 (ninS (Ne.symm ne_pg_ts) nin0)
    replace E_ts := E_ts.keep K21
    replace V_la := V_la.keep K21 (ninS (Ne.symm ne_pg_la) nin0)
    replace E_la := E_la.keep K21
    replace hz : n0 ≤ hp21.size := Nat.le_trans hz K21.1
    refine Go.iloadN d_binit_94 rfl ?_
    -- at pc 95: pc 95: ifCond .ifCond .eq 10 stack [(.int asc)]
    by_cases hasc : asc = (0 : Int32)
    · refine Go.ifT 105 d_binit_95 (teq hasc).1 (by decide) (by decide) ?_
      exact Go.return_ d_binit_105 rfl (by decide) (by decide) ⟨rfl, hz, la, pg, tA, ts, 0, k_la, k_pg, k_tA, k_ts, 0, .null, cap, 31, 2147483647, ⟨⟨E_a, F_a_pages, F_a_last, F_a_pageBits, F_a_inPage, F_a_tables, F_a_tableSizes, F_a_bases, F_a_size, F_a_width, F_a_far⟩, Or.inl rfl, ⟨g_tA, g_ts, O_tA, V_ts, Or.inl ⟨rfl, V_tA⟩⟩, V_la, V_pg, g_a, g_la⟩, fun _ => rfl, fun q => absurd hasc q, Or.inr rfl, Or.inr rfl, h3.2.2⟩
    · refine Go.ifF d_binit_95 (feq hasc).1 ?_
      refine Go.aloadN d_binit_98 rfl rfl ?_
      refine Go.iconst 1 d_binit_99 rfl ?_
      -- at pc 100: pc 100: newarray .newarray .int stack [(.int (1 : Int32)), (.ref a)]
      refine Go.newPE (I' := IN) (hI := nE) .int "[I" (wd_18 hw) rfl rfl d_binit_100 (by decide) 1 (by decide) (by decide) (by decide) (by decide) fun hp22 ba k_ba e_ba X22 V_ba E_ba => ?_
      have K22 : Keep hp21 hp22 [] := (Keep.refl _ _).ext X22
      have g_ba : n0 ≤ ba := e_ba ▸ hz
      have ne_a_ba : a ≠ ba := Nat.ne_of_lt (e_ba ▸ E_a.lt)
      have ne_pg_ba : pg ≠ ba := Nat.ne_of_lt (e_ba ▸ V_pg.lt)
      have ne_tA_ba : tA ≠ ba := Nat.ne_of_lt (e_ba ▸ V_tA.lt)
      have ne_ts_ba : ts ≠ ba := Nat.ne_of_lt (e_ba ▸ V_ts.lt)
      have ne_la_ba : la ≠ ba := Nat.ne_of_lt (e_ba ▸ V_la.lt)
      replace E_a := E_a.keep K22
      replace F_a_pages := F_a_pages.keep K22 nin0
      replace F_a_last := F_a_last.keep K22 nin0
      replace F_a_pageBits := F_a_pageBits.keep K22 nin0
      replace F_a_inPage := F_a_inPage.keep K22 nin0
      replace F_a_tables := F_a_tables.keep K22 nin0
      replace F_a_tableSizes := F_a_tableSizes.keep K22 nin0
      replace F_a_bases := F_a_bases.keep K22 nin0
      replace F_a_size := F_a_size.keep K22 nin0
      replace F_a_width := F_a_width.keep K22 nin0
      replace F_a_far := F_a_far.keep K22 nin0
      replace V_pg := V_pg.keep K22 nin0
      replace V_tA := V_tA.keep K22 nin0
      replace V_ts := V_ts.keep K22 nin0
      replace E_ts := E_ts.keep K22
      replace V_la := V_la.keep K22 nin0
      replace E_la := E_la.keep K22
      replace V_ba : Arv Z hp22 ba k_ba .int (1 : Int32) [(.int (0 : Int32))] (.int (0 : Int32)) := V_ba.pad (pad_rep [] (.int (0 : Int32)) 1)
      replace hz : n0 ≤ hp22.size := Nat.le_trans hz K22.1
      refine Go.putF (I' := IN) (hI := nI) (wd_48 hw) Via.refl F_a_bases E_a (Or.inl (wd_49 hw)) (wd_2 hw) (ty := (.array .int)) (by decide) rfl rfl g_a d_binit_102 fun hp23 W23 => ?_
      have K23 := Keep.of_wr W23
      replace F_a_pages := F_a_pages.other W23 (Or.inr (slot_ne (Or.inl (wd_13 hw)) (Or.inl (wd_49 hw)) (by decide) (t := (.array (.array .char))) (t' := (.array .int)) (by decide) (by decide)))
      replace F_a_last := F_a_last.other W23 (Or.inr (slot_ne (Or.inl (wd_35 hw)) (Or.inl (wd_49 hw)) (by decide) (t := (.array .char)) (t' := (.array .int)) (by decide) (by decide)))
      replace F_a_pageBits := F_a_pageBits.other W23 (Or.inr (slot_ne (Or.inl (wd_30 hw)) (Or.inl (wd_49 hw)) (by decide) (t := .int) (t' := (.array .int)) (by decide) (by decide)))
      replace F_a_inPage := F_a_inPage.other W23 (Or.inr (slot_ne (Or.inl (wd_32 hw)) (Or.inl (wd_49 hw)) (by decide) (t := .int) (t' := (.array .int)) (by decide) (by decide)))
      replace F_a_tables := F_a_tables.other W23 (Or.inr (slot_ne (Or.inl (wd_17 hw)) (Or.inl (wd_49 hw)) (by decide) (t := (.array (.array .int))) (t' := (.array .int)) (by decide) (by decide)))
      replace F_a_tableSizes := F_a_tableSizes.other W23 (Or.inr (slot_ne (Or.inl (wd_20 hw)) (Or.inl (wd_49 hw)) (by decide) (t := (.array .int)) (t' := (.array .int)) (by decide) (by decide)))
      replace F_a_bases := F_a_bases.same W23
      replace F_a_size := F_a_size.other W23 (Or.inr (slot_ne (Or.inl (wd_43 hw)) (Or.inl (wd_49 hw)) (by decide) (t := .int) (t' := (.array .int)) (by decide) (by decide)))
      replace F_a_width := F_a_width.other W23 (Or.inr (slot_ne (Or.inr (wd_22 hw)) (Or.inl (wd_49 hw)) (by decide) (t := .int) (t' := (.array .int)) (by decide) (by decide)))
      replace F_a_far := F_a_far.other W23 (Or.inr (slot_ne (Or.inr (wd_28 hw)) (Or.inl (wd_49 hw)) (by decide) (t := .int) (t' := (.array .int)) (by decide) (by decide)))
      replace E_a := E_a.keep K23
      replace V_pg := V_pg.keep K23 (ninS (Ne.symm ne_a_pg) nin0)
      replace V_tA := V_tA.keep K23 (ninS (Ne.symm ne_a_tA) nin0)
      replace V_ts := V_ts.keep K23 (ninS (Ne.symm ne_a_ts) nin0)
      replace E_ts := E_ts.keep K23
      replace V_la := V_la.keep K23 (ninS (Ne.symm ne_a_la) nin0)
      replace E_la := E_la.keep K23
      replace V_ba := V_ba.keep K23 (ninS (Ne.symm ne_a_ba) nin0)
      replace E_ba := E_ba.keep K23
      replace hz : n0 ≤ hp23.size := Nat.le_trans hz K23.1
      -- at pc 105: pc 105: return .return_ stack []
      exact Go.return_ d_binit_105 rfl (by decide) (by decide) ⟨rfl, hz, la, pg, tA, ts, ba, k_la, k_pg, k_tA, k_ts, k_ba, .ref ba, cap, 31, 2147483647, ⟨⟨E_a, F_a_pages, F_a_last, F_a_pageBits, F_a_inPage, F_a_tables, F_a_tableSizes, F_a_bases, F_a_size, F_a_width, F_a_far⟩, Or.inr ⟨rfl, g_ba, ne_ts_ba.symm, V_ba⟩, ⟨g_tA, g_ts, O_tA, V_ts, Or.inl ⟨rfl, V_tA⟩⟩, V_la, V_pg, g_a, g_la⟩, fun q => absurd q hasc, fun _ => rfl, Or.inr rfl, Or.inr rfl, h3.2.2⟩
theorem d_stp_0 : decode prog_25_method_12_code 0 = .ok (.iload_n 1, 1) := by decide +kernel
theorem d_stp_1 : decode prog_25_method_12_code 1 = .ok (.bipush 9, 2) := by decide +kernel
theorem d_stp_3 : decode prog_25_method_12_code 3 = .ok (.iushr, 1) := by decide +kernel
theorem d_stp_4 : decode prog_25_method_12_code 4 = .ok (.istore_n 3, 1) := by decide +kernel
theorem d_stp_5 : decode prog_25_method_12_code 5 = .ok (.iload_n 3, 1) := by decide +kernel
theorem d_stp_6 : decode prog_25_method_12_code 6 = .ok (.aload_n 0, 1) := by decide +kernel
theorem d_stp_7 : decode prog_25_method_12_code 7 = .ok (.getfield 19, 3) := by decide +kernel
theorem d_stp_10 : decode prog_25_method_12_code 10 = .ok (.arraylength, 1) := by decide +kernel
theorem d_stp_11 : decode prog_25_method_12_code 11 = .ok (.if_icmp .ne 55, 3) := by decide +kernel
theorem d_stp_66 : decode prog_25_method_12_code 66 = .ok (.aload_n 0, 1) := by decide +kernel
theorem d_stp_67 : decode prog_25_method_12_code 67 = .ok (.getfield 45, 3) := by decide +kernel
theorem d_stp_70 : decode prog_25_method_12_code 70 = .ok (.ifnull 10, 3) := by decide +kernel
theorem d_stp_73 : decode prog_25_method_12_code 73 = .ok (.aload_n 0, 1) := by decide +kernel
theorem d_stp_74 : decode prog_25_method_12_code 74 = .ok (.getfield 45, 3) := by decide +kernel
theorem d_stp_77 : decode prog_25_method_12_code 77 = .ok (.iload_n 3, 1) := by decide +kernel
theorem d_stp_78 : decode prog_25_method_12_code 78 = .ok (.iload_n 2, 1) := by decide +kernel
theorem d_stp_79 : decode prog_25_method_12_code 79 = .ok (.iastore, 1) := by decide +kernel
theorem d_stp_80 : decode prog_25_method_12_code 80 = .ok (.aload_n 0, 1) := by decide +kernel
theorem d_stp_81 : decode prog_25_method_12_code 81 = .ok (.getfield 36, 3) := by decide +kernel
theorem d_stp_84 : decode prog_25_method_12_code 84 = .ok (.bipush 9, 2) := by decide +kernel
theorem d_stp_86 : decode prog_25_method_12_code 86 = .ok (.if_icmp .ne 52, 3) := by decide +kernel
theorem d_stp_89 : decode prog_25_method_12_code 89 = .ok (.iload_n 1, 1) := by decide +kernel
theorem d_stp_90 : decode prog_25_method_12_code 90 = .ok (.ifCond .le 48, 3) := by decide +kernel
theorem d_stp_138 : decode prog_25_method_12_code 138 = .ok (.return_, 1) := by decide +kernel
abbrev R_stp : Room := ({ frames := 0, cells := 0, slots := 0, locals := 0 } : Room)
abbrev GM_stp (l : Launch) (Z : State) (n0 : Nat) (Q : Option Value → Heap → Prop) (h : Heap) (cells slots pc : Nat) (Ls : Array Slot) (st : List Value) : Prop := Go l Z n0 R_stp "com/example/wee_query/weequery/IntColumn$Builder" "startPart" prog_25_method_12_code 4 none IN (FN n0 R_stp Q) h cells slots pc Ls st
theorem pf_stp : plainFor (⟨"com/example/wee_query/weequery/IntColumn$Builder", "startPart", "(II)V"⟩ : MethodName) = true := plainFor_of_name (by first | (simp [plainName, overriddenIn]; done) | decide +kernel)
set_option maxRecDepth 65536 in
set_option maxHeartbeats 40000000 in
theorem ct_stp (l : Launch) (Z : State) (a0 : Array Value) (hw : ∀ d ∈ tables_1, d.before a0 Z = true) (n0 : Nat) (a la pg tA ts ba : Addr) (kl kp kt ks kb : ClassId) (bv : Value) (b0 n pb ip sz w : Int32) (cs : List Value) (tb : List Int32) (first : Int32) (h0 : Heap) (hz : n0 ≤ h0.size) (hb : Bld Z n0 h0 a la pg tA ts ba kl kp kt ks kb bv b0 n pb ip sz w cs tb) :
    Ct l Z n0 "com/example/wee_query/weequery/IntColumn$Builder" "startPart" "(II)V" [] prog_25_method_12_code 4 none R_stp #[.ref a, .int (0 : Int32), .int first] h0 (fun v h => v = none ∧ n0 ≤ h.size ∧ Bld Z n0 h a la pg tA ts ba kl kp kt ks kb bv first n pb ip sz w cs tb) := by
  obtain ⟨⟨E_a, F_pages, F_last, F_pageBits, F_inPage, F_tables, F_tableSizes, F_bases, F_size, F_width, F_far⟩, BA, TB, V_la, V_pg, g_a, g_la⟩ := hb
  obtain ⟨vT, V_tA⟩ := TB.arr
  have hbv : bv.isRef = true := by rcases BA with rfl | ⟨rfl, -⟩ <;> rfl
  refine Ct.of_go pf_stp (Ls := #[.val (.ref a), .val (.int (0 : Int32)), .val (.int first), .unset]) (fun m => by first | rfl | (simp [entryFrame, mkF, argsToLocals, Value.category]; done)) ?_
  show GM_stp l Z n0 (fun v h => v = none ∧ n0 ≤ h.size ∧ Bld Z n0 h a la pg tA ts ba kl kp kt ks kb bv first n pb ip sz w cs tb) h0 0 0 0 #[.val (.ref a), .val (.int (0 : Int32)), .val (.int first), .unset] []
  refine Go.iloadN d_stp_0 rfl ?_
  refine Go.bipush 9 d_stp_1 rfl ?_
  refine Go.iushr d_stp_3 ?_
  rw [show ((0 : Int32).toUInt32 >>> ((9 : Int32) &&& 31).toUInt32).toInt32 = (0 : Int32) from (by decide)]
  refine Go.istoreN (Ls' := #[.val (.ref a), .val (.int (0 : Int32)), .val (.int first), .val (.int (0 : Int32))]) d_stp_4 rfl ?_
  refine Go.iloadN d_stp_5 rfl ?_
  refine Go.aloadN d_stp_6 rfl rfl ?_
  refine Go.getF (wd_16 hw) Via.refl F_tables d_stp_7 ?_
  refine Go.arraylength V_tA d_stp_10 ?_
  -- at pc 11: pc 11: if_icmp .if_icmp .ne 55 stack [(.int (1 : Int32)), (.int (0 : Int32))]
  -- not: (0 : Int32) = (1 : Int32)
  refine Go.icT 66 d_stp_11 (feq ((by decide))).2 (by decide) (by decide) ?_
  refine Go.aloadN d_stp_66 rfl rfl ?_
  refine Go.getF (wd_48 hw) Via.refl F_bases d_stp_67 ?_
  -- at pc 70: pc 70: ifnull of bv: split it ('!nul')
  rcases BA with rfl | ⟨rfl, g_ba, n_ba, V_ba⟩
  · skip
    refine Go.nullT 80 d_stp_70 (by decide) (by decide) ?_
    refine Go.aloadN d_stp_80 rfl rfl ?_
    refine Go.getF (wd_29 hw) Via.refl F_pageBits d_stp_81 ?_
    refine Go.bipush 9 d_stp_84 rfl ?_
    -- at pc 86: pc 86: if_icmp .if_icmp .ne 52 stack [(.int (9 : Int32)), (.int pb)]
    by_cases hpb : pb = (9 : Int32)
    · refine Go.icF d_stp_86 (teq hpb).2 ?_
      refine Go.iloadN d_stp_89 rfl ?_
      -- at pc 90: pc 90: ifCond .ifCond .le 48 stack [(.int (0 : Int32))]
      -- not: (0 : Int32) < (0 : Int32)
      refine Go.ifT 138 d_stp_90 (flt ((by decide))).2.2.2 (by decide) (by decide) ?_
      exact Go.return_ d_stp_138 rfl (by decide) (by decide) ⟨rfl, hz, ⟨E_a, F_pages, F_last, F_pageBits, F_inPage, F_tables, F_tableSizes, F_bases, F_size, F_width, F_far⟩, Or.inl rfl, TB, V_la, V_pg, g_a, g_la⟩
    · refine Go.icT 138 d_stp_86 (feq hpb).2 (by decide) (by decide) ?_
      exact Go.return_ d_stp_138 rfl (by decide) (by decide) ⟨rfl, hz, ⟨E_a, F_pages, F_last, F_pageBits, F_inPage, F_tables, F_tableSizes, F_bases, F_size, F_width, F_far⟩, Or.inl rfl, TB, V_la, V_pg, g_a, g_la⟩
  · skip
    have ne_a_ba : a ≠ ba := (Exa.neArv E_a V_ba (wd_2 hw))
    have ne_la_ba : la ≠ ba := (arv_neT V_la V_ba (by decide))
    have ne_pg_ba : pg ≠ ba := (arv_neT V_pg V_ba (by decide))
    have ne_tA_ba : tA ≠ ba := (arv_neT V_tA V_ba (by decide))
    have V_ba0 := V_ba
    refine Go.nullF d_stp_70 ?_
    refine Go.aloadN d_stp_73 rfl rfl ?_
    refine Go.getF (wd_48 hw) Via.refl F_bases d_stp_74 ?_
    refine Go.iloadN d_stp_77 rfl ?_
    refine Go.iloadN d_stp_78 rfl ?_
    refine Go.iastore (I' := IN) (hI := nI) V_ba ⟨by decide, by decide⟩ g_ba 0 rfl (Nat.le_of_ble_eq_true rfl) d_stp_79 fun hp24 K24 V_ba_n => ?_
    replace V_ba : Arv Z hp24 ba kb .int (1 : Int32) [(.int first)] (.int (0 : Int32)) := V_ba_n
    replace E_a := E_a.keep K24
    replace F_pages := F_pages.keep K24 (ninS ne_a_ba nin0)
    replace F_last := F_last.keep K24 (ninS ne_a_ba nin0)
    replace F_pageBits := F_pageBits.keep K24 (ninS ne_a_ba nin0)
    replace F_inPage := F_inPage.keep K24 (ninS ne_a_ba nin0)
    replace F_tables := F_tables.keep K24 (ninS ne_a_ba nin0)
    replace F_tableSizes := F_tableSizes.keep K24 (ninS ne_a_ba nin0)
    replace F_bases := F_bases.keep K24 (ninS ne_a_ba nin0)
    replace F_size := F_size.keep K24 (ninS ne_a_ba nin0)
    replace F_width := F_width.keep K24 (ninS ne_a_ba nin0)
    replace F_far := F_far.keep K24 (ninS ne_a_ba nin0)
    replace V_la := V_la.keep K24 (ninS ne_la_ba nin0)
    replace V_pg := V_pg.keep K24 (ninS ne_pg_ba nin0)
    replace V_tA := V_tA.keep K24 (ninS ne_tA_ba nin0)
    replace hz : n0 ≤ hp24.size := Nat.le_trans hz K24.1
    refine Go.aloadN d_stp_80 rfl rfl ?_
    refine Go.getF (wd_29 hw) Via.refl F_pageBits d_stp_81 ?_
    refine Go.bipush 9 d_stp_84 rfl ?_
    -- at pc 86: pc 86: if_icmp .if_icmp .ne 52 stack [(.int (9 : Int32)), (.int pb)]
    replace TB := TB.keep1 K24 fun b k ty z vs dv V q => by
      rcases q with rfl | ⟨rfl, rfl | rfl⟩
      · exact arv_neT V_ba0 V (by decide)
      · exact arv_ne V_ba0 V (Or.inl (by decide))
      · exact n_ba
    by_cases hpb : pb = (9 : Int32)
    · refine Go.icF d_stp_86 (teq hpb).2 ?_
      refine Go.iloadN d_stp_89 rfl ?_
      -- at pc 90: pc 90: ifCond .ifCond .le 48 stack [(.int (0 : Int32))]
      -- not: (0 : Int32) < (0 : Int32)
      refine Go.ifT 138 d_stp_90 (flt ((by decide))).2.2.2 (by decide) (by decide) ?_
      exact Go.return_ d_stp_138 rfl (by decide) (by decide) ⟨rfl, hz, ⟨E_a, F_pages, F_last, F_pageBits, F_inPage, F_tables, F_tableSizes, F_bases, F_size, F_width, F_far⟩, Or.inr ⟨rfl, g_ba, n_ba, V_ba⟩, TB, V_la, V_pg, g_a, g_la⟩
    · refine Go.icT 138 d_stp_86 (feq hpb).2 (by decide) (by decide) ?_
      exact Go.return_ d_stp_138 rfl (by decide) (by decide) ⟨rfl, hz, ⟨E_a, F_pages, F_last, F_pageBits, F_inPage, F_tables, F_tableSizes, F_bases, F_size, F_width, F_far⟩, Or.inr ⟨rfl, g_ba, n_ba, V_ba⟩, TB, V_la, V_pg, g_a, g_la⟩
theorem ct_stp' (l : Launch) (Z : State) (a0 : Array Value) (hw : ∀ d ∈ tables_1, d.before a0 Z = true) (n0 : Nat) (a la pg tA ts ba : Addr) (kl kp kt ks kb : ClassId) (bv : Value) (b0 n pb ip sz w : Int32) (cs : List Value) (tb : List Int32) (ix : Int32) (hix : ix = 0) (first : Int32) (h0 : Heap) (hz : n0 ≤ h0.size) (hb : Bld Z n0 h0 a la pg tA ts ba kl kp kt ks kb bv b0 n pb ip sz w cs tb) :
    Ct l Z n0 "com/example/wee_query/weequery/IntColumn$Builder" "startPart" "(II)V" [] prog_25_method_12_code 4 none R_stp #[.ref a, .int ix, .int first] h0 (fun v h => v = none ∧ n0 ≤ h.size ∧ Bld Z n0 h a la pg tA ts ba kl kp kt ks kb bv first n pb ip sz w cs tb) := by
  subst hix
  exact ct_stp l Z a0 hw n0 a la pg tA ts ba kl kp kt ks kb bv b0 n pb ip sz w cs tb first h0 hz hb
theorem own_top {w : Int32} (hw : Wd w) (i : Nat) (hi : i ≤ 2) (x : Int32) (hx : x = Int32.ofNat i) : nar .char (i2c ((farOf w + (x + 1)) - 1)) = farOf w + x ∧ nar .char (i2c (farOf w + x)) = farOf w + x ∧ (farOf w + x) - farOf w = x ∧ ¬ (farOf w + x) < farOf w ∧ 0 ≤ (farOf w + x).toInt ∧ (farOf w + x).toInt < 2 * (farOf w).toInt := by
  have hb := own_farb hw
  subst hx
  generalize farOf w = f at hb
  have e : (Int32.ofNat i).toInt = i := Int32.toInt_ofNat_small (by omega)
  have c1 := c_iadd f (Int32.ofNat i)
  have r1 := rng32 (f + Int32.ofNat i)
  have a1 : (f + Int32.ofNat i).toInt = f.toInt + i := by rw [e] at c1; omega
  have a2 : (f + (Int32.ofNat i + 1)) - 1 = f + Int32.ofNat i := by
    rw [← Int32.add_assoc, Int32.add_sub_cancel]
  have a3 : nar .char (i2c (f + Int32.ofNat i)) = f + Int32.ofNat i := by
    show i2c (i2c (f + Int32.ofNat i)) = _
    have b1 : i2c (f + Int32.ofNat i) = f + Int32.ofNat i := own_i2c (by omega) (by omega)
    rw [b1, b1]
  refine ⟨by rw [a2]; exact a3, a3, ?_, ?_, by omega, by omega⟩
  · rw [Int32.add_comm, Int32.add_sub_cancel]
  · rw [lt0]; omega
theorem d_held_0 : decode prog_25_method_11_code 0 = .ok (.aload_n 0, 1) := by decide +kernel
theorem d_held_1 : decode prog_25_method_11_code 1 = .ok (.getfield 23, 3) := by decide +kernel
theorem d_held_4 : decode prog_25_method_11_code 4 = .ok (.iload_n 1, 1) := by decide +kernel
theorem d_held_5 : decode prog_25_method_11_code 5 = .ok (.iaload, 1) := by decide +kernel
theorem d_held_6 : decode prog_25_method_11_code 6 = .ok (.istore_n 3, 1) := by decide +kernel
theorem d_held_7 : decode prog_25_method_11_code 7 = .ok (.aload_n 0, 1) := by decide +kernel
theorem d_held_8 : decode prog_25_method_11_code 8 = .ok (.getfield 19, 3) := by decide +kernel
theorem d_held_11 : decode prog_25_method_11_code 11 = .ok (.iload_n 1, 1) := by decide +kernel
theorem d_held_12 : decode prog_25_method_11_code 12 = .ok (.aaload, 1) := by decide +kernel
theorem d_held_13 : decode prog_25_method_11_code 13 = .ok (.astore 4, 2) := by decide +kernel
theorem d_held_15 : decode prog_25_method_11_code 15 = .ok (.iload_n 3, 1) := by decide +kernel
theorem d_held_16 : decode prog_25_method_11_code 16 = .ok (.ifCond .eq 13, 3) := by decide +kernel
theorem d_held_19 : decode prog_25_method_11_code 19 = .ok (.aload 4, 2) := by decide +kernel
theorem d_held_21 : decode prog_25_method_11_code 21 = .ok (.iload_n 3, 1) := by decide +kernel
theorem d_held_22 : decode prog_25_method_11_code 22 = .ok (.iconst 1, 1) := by decide +kernel
theorem d_held_23 : decode prog_25_method_11_code 23 = .ok (.isub, 1) := by decide +kernel
theorem d_held_24 : decode prog_25_method_11_code 24 = .ok (.iaload, 1) := by decide +kernel
theorem d_held_25 : decode prog_25_method_11_code 25 = .ok (.iload_n 2, 1) := by decide +kernel
theorem d_held_26 : decode prog_25_method_11_code 26 = .ok (.if_icmp .eq 56, 3) := by decide +kernel
theorem d_held_29 : decode prog_25_method_11_code 29 = .ok (.aload 4, 2) := by decide +kernel
theorem d_held_31 : decode prog_25_method_11_code 31 = .ok (.ifnonnull 11, 3) := by decide +kernel
theorem d_held_34 : decode prog_25_method_11_code 34 = .ok (.iconst 4, 1) := by decide +kernel
theorem d_held_35 : decode prog_25_method_11_code 35 = .ok (.newarray .int, 2) := by decide +kernel
theorem d_held_37 : decode prog_25_method_11_code 37 = .ok (.astore 4, 2) := by decide +kernel
theorem d_held_39 : decode prog_25_method_11_code 39 = .ok (.goto 20, 3) := by decide +kernel
theorem d_held_42 : decode prog_25_method_11_code 42 = .ok (.iload_n 3, 1) := by decide +kernel
theorem d_held_43 : decode prog_25_method_11_code 43 = .ok (.aload 4, 2) := by decide +kernel
theorem d_held_45 : decode prog_25_method_11_code 45 = .ok (.arraylength, 1) := by decide +kernel
theorem d_held_46 : decode prog_25_method_11_code 46 = .ok (.if_icmp .ne 13, 3) := by decide +kernel
theorem d_held_59 : decode prog_25_method_11_code 59 = .ok (.aload_n 0, 1) := by decide +kernel
theorem d_held_60 : decode prog_25_method_11_code 60 = .ok (.getfield 19, 3) := by decide +kernel
theorem d_held_63 : decode prog_25_method_11_code 63 = .ok (.iload_n 1, 1) := by decide +kernel
theorem d_held_64 : decode prog_25_method_11_code 64 = .ok (.aload 4, 2) := by decide +kernel
theorem d_held_66 : decode prog_25_method_11_code 66 = .ok (.aastore, 1) := by decide +kernel
theorem d_held_67 : decode prog_25_method_11_code 67 = .ok (.aload 4, 2) := by decide +kernel
theorem d_held_69 : decode prog_25_method_11_code 69 = .ok (.iload_n 3, 1) := by decide +kernel
theorem d_held_70 : decode prog_25_method_11_code 70 = .ok (.iinc 3 1, 3) := by decide +kernel
theorem d_held_73 : decode prog_25_method_11_code 73 = .ok (.iload_n 2, 1) := by decide +kernel
theorem d_held_74 : decode prog_25_method_11_code 74 = .ok (.iastore, 1) := by decide +kernel
theorem d_held_75 : decode prog_25_method_11_code 75 = .ok (.aload_n 0, 1) := by decide +kernel
theorem d_held_76 : decode prog_25_method_11_code 76 = .ok (.getfield 23, 3) := by decide +kernel
theorem d_held_79 : decode prog_25_method_11_code 79 = .ok (.iload_n 1, 1) := by decide +kernel
theorem d_held_80 : decode prog_25_method_11_code 80 = .ok (.iload_n 3, 1) := by decide +kernel
theorem d_held_81 : decode prog_25_method_11_code 81 = .ok (.iastore, 1) := by decide +kernel
theorem d_held_82 : decode prog_25_method_11_code 82 = .ok (.aload_n 0, 1) := by decide +kernel
theorem d_held_83 : decode prog_25_method_11_code 83 = .ok (.getfield 34, 3) := by decide +kernel
theorem d_held_86 : decode prog_25_method_11_code 86 = .ok (.iload_n 3, 1) := by decide +kernel
theorem d_held_87 : decode prog_25_method_11_code 87 = .ok (.iadd, 1) := by decide +kernel
theorem d_held_88 : decode prog_25_method_11_code 88 = .ok (.iconst 1, 1) := by decide +kernel
theorem d_held_89 : decode prog_25_method_11_code 89 = .ok (.isub, 1) := by decide +kernel
theorem d_held_90 : decode prog_25_method_11_code 90 = .ok (.i2c, 1) := by decide +kernel
theorem d_held_91 : decode prog_25_method_11_code 91 = .ok (.ireturn, 1) := by decide +kernel
abbrev R_held : Room := ({ frames := 0, cells := 1, slots := 4, locals := 0 } : Room)
abbrev GM_held (l : Launch) (Z : State) (n0 : Nat) (Q : Option Value → Heap → Prop) (h : Heap) (cells slots pc : Nat) (Ls : Array Slot) (st : List Value) : Prop := Go l Z n0 R_held "com/example/wee_query/weequery/IntColumn$Builder" "held" prog_25_method_11_code 5 (some .char) IN (FN n0 R_held Q) h cells slots pc Ls st
theorem pf_held : plainFor (⟨"com/example/wee_query/weequery/IntColumn$Builder", "held", "(II)C"⟩ : MethodName) = true := plainFor_of_name (by first | (simp [plainName, overriddenIn]; done) | decide +kernel)
/-- what held says of the table -/
def Hd (tb tb' : List Int32) (kept : Int32) (i : Nat) : Prop := i ≤ tb.length ∧ tb'[i]? = some kept ∧ tb'.length ≤ tb.length + 1 ∧ ∀ (j : Nat) (x : Int32), tb[j]? = some x → tb'[j]? = some x
theorem Ba.keep1 {Z : State} {n0 : Nat} {h h' : Heap} {bv : Value} {ba ts x : Addr} {kb : ClassId} {b0 : Int32} (F : Ba Z n0 h bv ba ts kb b0) (K : Keep h h' [x]) (hn : ∀ (k : ClassId) (vs : List Value) (dv : Value), Arv Z h ba k .int 1 vs dv → ba ≠ ts → x ≠ ba) : Ba Z n0 h' bv ba ts kb b0 :=
  F.imp id fun ⟨e, g, q, V⟩ => ⟨e, g, q, V.keep K (ninS (hn _ _ _ V q).symm nin0)⟩
theorem Ba.isRef {Z : State} {n0 : Nat} {h : Heap} {bv : Value} {ba ts : Addr} {kb : ClassId} {b0 : Int32} (F : Ba Z n0 h bv ba ts kb b0) : bv.isRef = true := by rcases F with rfl | ⟨rfl, -⟩ <;> rfl
set_option maxRecDepth 65536 in
set_option maxHeartbeats 40000000 in
theorem ct_held0 (l : Launch) (Z : State) (a0 : Array Value) (hw : ∀ d ∈ tables_1, d.before a0 Z = true) (n0 : Nat) (a la pg tA ts ba : Addr) (kl kp kt ks kb : ClassId) (bv : Value) (b0 n pb ip sz w : Int32) (cs : List Value) (kept : Int32) (h0 : Heap) (hz : n0 ≤ h0.size) (hwd : Wd w) (hb : Bld Z n0 h0 a la pg tA ts ba kl kp kt ks kb bv b0 n pb ip sz w cs []) :
    Ct l Z n0 "com/example/wee_query/weequery/IntColumn$Builder" "held" "(II)C" [] prog_25_method_11_code 5 (some .char) R_held #[.ref a, .int (0 : Int32), .int kept] h0 (fun v h => n0 ≤ h.size ∧ ∃ (tb' : List Int32) (i : Nat), v = some (.int (farOf w + Int32.ofNat i)) ∧ Hd [] tb' kept i ∧ Bld Z n0 h a la pg tA ts ba kl kp kt ks kb bv b0 n pb ip sz w cs tb') := by
  obtain ⟨⟨E_a, F_pages, F_last, F_pageBits, F_inPage, F_tables, F_tableSizes, F_bases, F_size, F_width, F_far⟩, BA, ⟨g_tA, g_ts, O_tA, V_ts, TB⟩, V_la, V_pg, g_a, g_la⟩ := hb
  obtain ⟨-, V_tA⟩ | ⟨h, -⟩ := TB
  · replace V_ts : Arv Z h0 ts ks .int (1 : Int32) [.int (0 : Int32)] (.int (0 : Int32)) := V_ts
    have hbv := BA.isRef
    refine Ct.of_go pf_held (Ls := #[.val (.ref a), .val (.int (0 : Int32)), .val (.int kept), .unset, .unset]) (fun m => by first | rfl | (simp [entryFrame, mkF, argsToLocals, Value.category]; done)) ?_
    show GM_held l Z n0 (fun v h => n0 ≤ h.size ∧ ∃ (tb' : List Int32) (i : Nat), v = some (.int (farOf w + Int32.ofNat i)) ∧ Hd [] tb' kept i ∧ Bld Z n0 h a la pg tA ts ba kl kp kt ks kb bv b0 n pb ip sz w cs tb') h0 0 0 0 #[.val (.ref a), .val (.int (0 : Int32)), .val (.int kept), .unset, .unset] []
    have ne_a_tA : a ≠ tA := (Exa.neArv E_a V_tA (wd_2 hw))
    have ne_la_tA : la ≠ tA := (arv_neT V_la V_tA (by decide))
    have ne_pg_tA : pg ≠ tA := (arv_neT V_pg V_tA (by decide))
    have ne_ts_tA : ts ≠ tA := (arv_neT V_ts V_tA (by decide))
    have ne_a_ts : a ≠ ts := (Exa.neArv E_a V_ts (wd_2 hw))
    have ne_la_ts : la ≠ ts := (arv_neT V_la V_ts (by decide))
    have ne_pg_ts : pg ≠ ts := (arv_neT V_pg V_ts (by decide))
    refine Go.aloadN d_held_0 rfl rfl ?_
    refine Go.getF (wd_19 hw) Via.refl F_tableSizes d_held_1 ?_
    refine Go.iloadN d_held_4 rfl ?_
    refine Go.iaload (.int (0 : Int32)) V_ts ⟨by decide, by decide⟩ rfl d_held_5 ?_
    refine Go.istoreN (Ls' := #[.val (.ref a), .val (.int (0 : Int32)), .val (.int kept), .val (.int (0 : Int32)), .unset]) d_held_6 rfl ?_
    refine Go.aloadN d_held_7 rfl rfl ?_
    refine Go.getF (wd_16 hw) Via.refl F_tables d_held_8 ?_
    refine Go.iloadN d_held_11 rfl ?_
    refine Go.aaload .null V_tA rfl ⟨by decide, by decide⟩ rfl d_held_12 ?_
    refine Go.astore (Ls' := #[.val (.ref a), .val (.int (0 : Int32)), .val (.int kept), .val (.int (0 : Int32)), .val .null]) d_held_13 rfl rfl ?_
    refine Go.iloadN d_held_15 rfl ?_
    -- at pc 16: pc 16: ifCond .ifCond .eq 13 stack [(.int (0 : Int32))]
    -- (0 : Int32) = (0 : Int32)
    refine Go.ifT 29 d_held_16 (teq (rfl)).1 (by decide) (by decide) ?_
    refine Go.aload d_held_29 rfl rfl ?_
    refine Go.nnF d_held_31 ?_
    refine Go.iconst 4 d_held_34 rfl ?_
    -- at pc 35: pc 35: newarray .newarray .int stack [(.int (4 : Int32))]
    refine Go.newPE (I' := IN) (hI := nE) .int "[I" (wd_18 hw) rfl rfl d_held_35 (by decide) 4 (by decide) (by decide) (by decide) (by decide) fun hp25 ta k_ta e_ta X25 V_ta E_ta => ?_
    have K25 : Keep h0 hp25 [] := (Keep.refl _ _).ext X25
    have g_ta : n0 ≤ ta := e_ta ▸ hz
    have ne_a_ta : a ≠ ta := Nat.ne_of_lt (e_ta ▸ E_a.lt)
    have ne_la_ta : la ≠ ta := Nat.ne_of_lt (e_ta ▸ V_la.lt)
    have ne_pg_ta : pg ≠ ta := Nat.ne_of_lt (e_ta ▸ V_pg.lt)
    have ne_tA_ta : tA ≠ ta := Nat.ne_of_lt (e_ta ▸ V_tA.lt)
    have ne_ts_ta : ts ≠ ta := Nat.ne_of_lt (e_ta ▸ V_ts.lt)
    replace E_a := E_a.keep K25
    replace F_pages := F_pages.keep K25 nin0
    replace F_last := F_last.keep K25 nin0
    replace F_pageBits := F_pageBits.keep K25 nin0
    replace F_inPage := F_inPage.keep K25 nin0
    replace F_tables := F_tables.keep K25 nin0
    replace F_tableSizes := F_tableSizes.keep K25 nin0
    replace F_bases := F_bases.keep K25 nin0
    replace F_size := F_size.keep K25 nin0
    replace F_width := F_width.keep K25 nin0
    replace F_far := F_far.keep K25 nin0
    replace V_la := V_la.keep K25 nin0
    replace V_pg := V_pg.keep K25 nin0
    replace V_tA := V_tA.keep K25 nin0
    replace V_ts := V_ts.keep K25 nin0
    replace V_ta : Arv Z hp25 ta k_ta .int (4 : Int32) [(.int (0 : Int32)), (.int (0 : Int32)), (.int (0 : Int32)), (.int (0 : Int32))] (.int (0 : Int32)) := V_ta.pad (pad_rep [] (.int (0 : Int32)) 4)
    replace hz : n0 ≤ hp25.size := Nat.le_trans hz K25.1
    replace BA : Ba Z n0 hp25 bv ba ts kb b0 := BA.imp id fun ⟨e, g, q, V⟩ => ⟨e, g, q, V.keep K25 nin0⟩
    have VtA := V_tA
    refine Go.astore (Ls' := #[.val (.ref a), .val (.int (0 : Int32)), .val (.int kept), .val (.int (0 : Int32)), .val (.ref ta)]) d_held_37 rfl rfl ?_
    refine Go.goto 59 d_held_39 (by decide) (by decide) ?_
    refine Go.aloadN d_held_59 rfl rfl ?_
    refine Go.getF (wd_16 hw) Via.refl F_tables d_held_60 ?_
    refine Go.iloadN d_held_63 rfl ?_
    refine Go.aload d_held_64 rfl rfl ?_
    refine Go.aastore (I' := IN) (hI := nI) V_tA rfl rfl (fun c A q => Sto.ofVA A q O_tA (Ins.self E_ta)) ⟨by decide, by decide⟩ g_tA 0 rfl (Nat.le_of_ble_eq_true rfl) d_held_66 fun hp26 K26 V_tA_n => ?_
    replace V_tA : Arv Z hp26 tA kt (.array .int) (1 : Int32) [(.ref ta)] .null := V_tA_n
    replace E_a := E_a.keep K26
    replace F_pages := F_pages.keep K26 (ninS ne_a_tA nin0)
    replace F_last := F_last.keep K26 (ninS ne_a_tA nin0)
    replace F_pageBits := F_pageBits.keep K26 (ninS ne_a_tA nin0)
    replace F_inPage := F_inPage.keep K26 (ninS ne_a_tA nin0)
    replace F_tables := F_tables.keep K26 (ninS ne_a_tA nin0)
    replace F_tableSizes := F_tableSizes.keep K26 (ninS ne_a_tA nin0)
    replace F_bases := F_bases.keep K26 (ninS ne_a_tA nin0)
    replace F_size := F_size.keep K26 (ninS ne_a_tA nin0)
    replace F_width := F_width.keep K26 (ninS ne_a_tA nin0)
    replace F_far := F_far.keep K26 (ninS ne_a_tA nin0)
    replace V_la := V_la.keep K26 (ninS ne_la_tA nin0)
    replace V_pg := V_pg.keep K26 (ninS ne_pg_tA nin0)
    replace V_ts := V_ts.keep K26 (ninS ne_ts_tA nin0)
    replace V_ta := V_ta.keep K26 (ninS (Ne.symm ne_tA_ta) nin0)
    replace E_ta := E_ta.keep K26
    replace hz : n0 ≤ hp26.size := Nat.le_trans hz K26.1
    replace BA := BA.keep1 K26 fun k vs dv V q => (arv_neT VtA V (by decide))
    have Vta := V_ta
    have lt_ba : bv = .null ∨ ba ≠ ta := by
      rcases BA with rfl | ⟨rfl, g, q, V⟩
      · exact Or.inl rfl
      · exact Or.inr (arv_ne V V_ta (Or.inl (by decide)))
    refine Go.aload d_held_67 rfl rfl ?_
    refine Go.iloadN d_held_69 rfl ?_
    refine Go.iinc (Ls' := #[.val (.ref a), .val (.int (0 : Int32)), .val (.int kept), .val (.int ((0 : Int32) + (1 : Int32))), .val (.ref ta)]) (1 : Int32) rfl d_held_70 rfl rfl ?_
    refine Go.iloadN d_held_73 rfl ?_
    refine Go.iastore (I' := IN) (hI := nI) V_ta ⟨by decide, by decide⟩ g_ta 0 rfl (Nat.le_of_ble_eq_true rfl) d_held_74 fun hp27 K27 V_ta_n => ?_
    replace V_ta : Arv Z hp27 ta k_ta .int (4 : Int32) [(.int kept), (.int (0 : Int32)), (.int (0 : Int32)), (.int (0 : Int32))] (.int (0 : Int32)) := V_ta_n
    replace E_a := E_a.keep K27
    replace F_pages := F_pages.keep K27 (ninS ne_a_ta nin0)
    replace F_last := F_last.keep K27 (ninS ne_a_ta nin0)
    replace F_pageBits := F_pageBits.keep K27 (ninS ne_a_ta nin0)
    replace F_inPage := F_inPage.keep K27 (ninS ne_a_ta nin0)
    replace F_tables := F_tables.keep K27 (ninS ne_a_ta nin0)
    replace F_tableSizes := F_tableSizes.keep K27 (ninS ne_a_ta nin0)
    replace F_bases := F_bases.keep K27 (ninS ne_a_ta nin0)
    replace F_size := F_size.keep K27 (ninS ne_a_ta nin0)
    replace F_width := F_width.keep K27 (ninS ne_a_ta nin0)
    replace F_far := F_far.keep K27 (ninS ne_a_ta nin0)
    replace V_la := V_la.keep K27 (ninS ne_la_ta nin0)
    replace V_pg := V_pg.keep K27 (ninS ne_pg_ta nin0)
    replace V_tA := V_tA.keep K27 (ninS ne_tA_ta nin0)
    replace V_ts := V_ts.keep K27 (ninS ne_ts_ta nin0)
    replace E_ta := E_ta.keep K27
    replace hz : n0 ≤ hp27.size := Nat.le_trans hz K27.1
    replace BA : Ba Z n0 hp27 bv ba ts kb b0 := by
      rcases BA with rfl | ⟨rfl, g, q, V⟩
      · exact Or.inl rfl
      · exact Or.inr ⟨rfl, g, q, V.keep K27 (ninS (lt_ba.resolve_left nofun) nin0)⟩
    have Vts := V_ts
    refine Go.aloadN d_held_75 rfl rfl ?_
    refine Go.getF (wd_19 hw) Via.refl F_tableSizes d_held_76 ?_
    refine Go.iloadN d_held_79 rfl ?_
    refine Go.iloadN d_held_80 rfl ?_
    refine Go.iastore (I' := IN) (hI := nI) V_ts ⟨by decide, by decide⟩ g_ts 0 rfl (Nat.le_of_ble_eq_true rfl) d_held_81 fun hp28 K28 V_ts_n => ?_
    replace V_ts : Arv Z hp28 ts ks .int (1 : Int32) [(.int ((0 : Int32) + (1 : Int32)))] (.int (0 : Int32)) := V_ts_n
    replace E_a := E_a.keep K28
    replace F_pages := F_pages.keep K28 (ninS ne_a_ts nin0)
    replace F_last := F_last.keep K28 (ninS ne_a_ts nin0)
    replace F_pageBits := F_pageBits.keep K28 (ninS ne_a_ts nin0)
    replace F_inPage := F_inPage.keep K28 (ninS ne_a_ts nin0)
    replace F_tables := F_tables.keep K28 (ninS ne_a_ts nin0)
    replace F_tableSizes := F_tableSizes.keep K28 (ninS ne_a_ts nin0)
    replace F_bases := F_bases.keep K28 (ninS ne_a_ts nin0)
    replace F_size := F_size.keep K28 (ninS ne_a_ts nin0)
    replace F_width := F_width.keep K28 (ninS ne_a_ts nin0)
    replace F_far := F_far.keep K28 (ninS ne_a_ts nin0)
    replace V_la := V_la.keep K28 (ninS ne_la_ts nin0)
    replace V_pg := V_pg.keep K28 (ninS ne_pg_ts nin0)
    replace V_tA := V_tA.keep K28 (ninS (Ne.symm ne_ts_tA) nin0)
    replace V_ta := V_ta.keep K28 (ninS (Ne.symm ne_ts_ta) nin0)
    replace E_ta := E_ta.keep K28
    replace hz : n0 ≤ hp28.size := Nat.le_trans hz K28.1
    replace BA := BA.keep1 K28 fun k vs dv V q => q.symm
    refine Go.aloadN d_held_82 rfl rfl ?_
    refine Go.getF (wd_27 hw) Via.refl F_far d_held_83 ?_
    refine Go.iloadN d_held_86 rfl ?_
    refine Go.iadd d_held_87 ?_
    refine Go.iconst 1 d_held_88 rfl ?_
    refine Go.isub d_held_89 ?_
    refine Go.i2c d_held_90 ?_
    -- at pc 91: pc 91: ireturn .ireturn stack [(.int ((((farOf w) + ((0 : Int32) + (1 : Int32))) - (1 : Int32)).toUInt32.toUInt16.toUInt32.toInt32))]
    have top := own_top hwd 0 (by decide) (0 : Int32) rfl
    refine Go.nreturn .char d_held_91 rfl (by simp) (by decide) (by decide) ⟨hz, [kept], 0, ?_, ⟨Nat.le_refl _, rfl, Nat.le_refl _, fun j x q => by simp at q⟩, ⟨E_a, F_pages, F_last, F_pageBits, F_inPage, F_tables, F_tableSizes, F_bases, F_size, F_width, F_far⟩, BA, ⟨g_tA, g_ts, O_tA, V_ts, Or.inr ⟨by simp, ta, k_ta, g_ta, E_ta, V_tA, V_ta⟩⟩, V_la, V_pg, g_a, g_la⟩
    rw [top.1]; rfl
  · exact absurd rfl h
set_option maxRecDepth 65536 in
set_option maxHeartbeats 40000000 in
theorem ct_held1 (l : Launch) (Z : State) (a0 : Array Value) (hw : ∀ d ∈ tables_1, d.before a0 Z = true) (n0 : Nat) (a la pg tA ts ba : Addr) (kl kp kt ks kb : ClassId) (bv : Value) (b0 n pb ip sz w : Int32) (cs : List Value) (x1 x2 kept : Int32) (h0 : Heap) (hz : n0 ≤ h0.size) (hwd : Wd w) (hb : Bld Z n0 h0 a la pg tA ts ba kl kp kt ks kb bv b0 n pb ip sz w cs [x1]) :
    Ct l Z n0 "com/example/wee_query/weequery/IntColumn$Builder" "held" "(II)C" [] prog_25_method_11_code 5 (some .char) R_held #[.ref a, .int (0 : Int32), .int kept] h0 (fun v h => n0 ≤ h.size ∧ ∃ (tb' : List Int32) (i : Nat), v = some (.int (farOf w + Int32.ofNat i)) ∧ Hd [x1] tb' kept i ∧ Bld Z n0 h a la pg tA ts ba kl kp kt ks kb bv b0 n pb ip sz w cs tb') := by
  obtain ⟨⟨E_a, F_pages, F_last, F_pageBits, F_inPage, F_tables, F_tableSizes, F_bases, F_size, F_width, F_far⟩, BA, ⟨g_tA, g_ts, O_tA, V_ts, TB⟩, V_la, V_pg, g_a, g_la⟩ := hb
  obtain ⟨h, -⟩ | ⟨-, ta, kk, g_ta, E_ta, V_tA, V_ta⟩ := TB
  · exact absurd h (by simp)
  · replace V_ts : Arv Z h0 ts ks .int (1 : Int32) [.int (1 : Int32)] (.int (0 : Int32)) := V_ts
    replace V_ta : Arv Z h0 ta kk .int (4 : Int32) [(.int x1), (.int (0 : Int32)), (.int (0 : Int32)), (.int (0 : Int32))] (.int (0 : Int32)) := V_ta
    have hbv := BA.isRef
    refine Ct.of_go pf_held (Ls := #[.val (.ref a), .val (.int (0 : Int32)), .val (.int kept), .unset, .unset]) (fun m => by first | rfl | (simp [entryFrame, mkF, argsToLocals, Value.category]; done)) ?_
    show GM_held l Z n0 (fun v h => n0 ≤ h.size ∧ ∃ (tb' : List Int32) (i : Nat), v = some (.int (farOf w + Int32.ofNat i)) ∧ Hd [x1] tb' kept i ∧ Bld Z n0 h a la pg tA ts ba kl kp kt ks kb bv b0 n pb ip sz w cs tb') h0 0 0 0 #[.val (.ref a), .val (.int (0 : Int32)), .val (.int kept), .unset, .unset] []
    have ne_a_tA : a ≠ tA := (Exa.neArv E_a V_tA (wd_2 hw))
    have ne_la_tA : la ≠ tA := (arv_neT V_la V_tA (by decide))
    have ne_pg_tA : pg ≠ tA := (arv_neT V_pg V_tA (by decide))
    have ne_ts_tA : ts ≠ tA := (arv_neT V_ts V_tA (by decide))
    have ne_a_ts : a ≠ ts := (Exa.neArv E_a V_ts (wd_2 hw))
    have ne_la_ts : la ≠ ts := (arv_neT V_la V_ts (by decide))
    have ne_pg_ts : pg ≠ ts := (arv_neT V_pg V_ts (by decide))
    have ne_a_ta : a ≠ ta := (Exa.neArv E_a V_ta (wd_2 hw))
    have ne_la_ta : la ≠ ta := (arv_neT V_la V_ta (by decide))
    have ne_pg_ta : pg ≠ ta := (arv_neT V_pg V_ta (by decide))
    have ne_ts_ta : ts ≠ ta := (arv_ne V_ts V_ta (Or.inl (by decide)))
    have ne_ta_tA : ta ≠ tA := (arv_neT V_ta V_tA (by decide))
    have lt_ba : bv = .null ∨ ba ≠ ta := by
      rcases BA with rfl | ⟨rfl, g, q, V⟩
      · exact Or.inl rfl
      · exact Or.inr (arv_ne V V_ta (Or.inl (by decide)))
    refine Go.aloadN d_held_0 rfl rfl ?_
    refine Go.getF (wd_19 hw) Via.refl F_tableSizes d_held_1 ?_
    refine Go.iloadN d_held_4 rfl ?_
    refine Go.iaload (.int (1 : Int32)) V_ts ⟨by decide, by decide⟩ rfl d_held_5 ?_
    refine Go.istoreN (Ls' := #[.val (.ref a), .val (.int (0 : Int32)), .val (.int kept), .val (.int (1 : Int32)), .unset]) d_held_6 rfl ?_
    refine Go.aloadN d_held_7 rfl rfl ?_
    refine Go.getF (wd_16 hw) Via.refl F_tables d_held_8 ?_
    refine Go.iloadN d_held_11 rfl ?_
    refine Go.aaload (.ref ta) V_tA rfl ⟨by decide, by decide⟩ rfl d_held_12 ?_
    refine Go.astore (Ls' := #[.val (.ref a), .val (.int (0 : Int32)), .val (.int kept), .val (.int (1 : Int32)), .val (.ref ta)]) d_held_13 rfl rfl ?_
    refine Go.iloadN d_held_15 rfl ?_
    -- at pc 16: pc 16: ifCond .ifCond .eq 13 stack [(.int (1 : Int32))]
    -- not: (1 : Int32) = (0 : Int32)
    refine Go.ifF d_held_16 (feq (by decide)).1 ?_
    refine Go.aload d_held_19 rfl rfl ?_
    refine Go.iloadN d_held_21 rfl ?_
    refine Go.iconst 1 d_held_22 rfl ?_
    refine Go.isub d_held_23 ?_
    rw [show ((1 : Int32) - (1 : Int32)) = (0 : Int32) from (by decide)]
    refine Go.iaload (.int x1) V_ta ⟨by decide, by decide⟩ rfl d_held_24 ?_
    refine Go.iloadN d_held_25 rfl ?_
    -- at pc 26: pc 26: if_icmp .if_icmp .eq 56 stack [(.int kept), (.int x1)]
    by_cases hk : x1 = kept
    · refine Go.icT 82 d_held_26 (teq hk).1 (by decide) (by decide) ?_
      refine Go.aloadN d_held_82 rfl rfl ?_
      refine Go.getF (wd_27 hw) Via.refl F_far d_held_83 ?_
      refine Go.iloadN d_held_86 rfl ?_
      refine Go.iadd d_held_87 ?_
      refine Go.iconst 1 d_held_88 rfl ?_
      refine Go.isub d_held_89 ?_
      refine Go.i2c d_held_90 ?_
      -- at pc 91: pc 91: ireturn .ireturn stack [(.int ((((farOf w) + (1 : Int32)) - (1 : Int32)).toUInt32.toUInt16.toUInt32.toInt32))]
      have top := own_top hwd 0 (by decide) (0 : Int32) rfl
      refine Go.nreturn .char d_held_91 rfl (by simp) (by decide) (by decide) ⟨hz, [x1], 0, ?_, ⟨by simp, by rw [← hk]; rfl, by simp, fun j x q => q⟩, ⟨E_a, F_pages, F_last, F_pageBits, F_inPage, F_tables, F_tableSizes, F_bases, F_size, F_width, F_far⟩, BA, ⟨g_tA, g_ts, O_tA, V_ts, Or.inr ⟨by simp, ta, kk, g_ta, E_ta, V_tA, V_ta⟩⟩, V_la, V_pg, g_a, g_la⟩
      have e1 : (1 : Int32) = (0 : Int32) + 1 := by decide
      exact congrArg (fun q => some (Value.int q)) top.1
    · refine Go.icF d_held_26 (feq hk).1 ?_
      refine Go.aload d_held_29 rfl rfl ?_
      refine Go.nnT 42 d_held_31 (by decide) (by decide) ?_
      refine Go.iloadN d_held_42 rfl ?_
      refine Go.aload d_held_43 rfl rfl ?_
      refine Go.arraylength V_ta d_held_45 ?_
      -- at pc 46: pc 46: if_icmp .if_icmp .ne 13 stack [(.int (4 : Int32)), (.int (1 : Int32))]
      -- not: (1 : Int32) = (4 : Int32)
      refine Go.icT 59 d_held_46 (feq (by decide)).2 (by decide) (by decide) ?_
      have VtA := V_tA
      refine Go.aloadN d_held_59 rfl rfl ?_
      refine Go.getF (wd_16 hw) Via.refl F_tables d_held_60 ?_
      refine Go.iloadN d_held_63 rfl ?_
      refine Go.aload d_held_64 rfl rfl ?_
      refine Go.aastore (I' := IN) (hI := nI) V_tA rfl rfl (fun c A q => Sto.ofVA A q O_tA (Ins.self E_ta)) ⟨by decide, by decide⟩ g_tA 0 rfl (Nat.le_of_ble_eq_true rfl) d_held_66 fun hp29 K29 V_tA_n => ?_
      replace V_tA : Arv Z hp29 tA kt (.array .int) (1 : Int32) [(.ref ta)] .null := V_tA_n
      replace E_a := E_a.keep K29
      replace F_pages := F_pages.keep K29 (ninS ne_a_tA nin0)
      replace F_last := F_last.keep K29 (ninS ne_a_tA nin0)
      replace F_pageBits := F_pageBits.keep K29 (ninS ne_a_tA nin0)
      replace F_inPage := F_inPage.keep K29 (ninS ne_a_tA nin0)
      replace F_tables := F_tables.keep K29 (ninS ne_a_tA nin0)
      replace F_tableSizes := F_tableSizes.keep K29 (ninS ne_a_tA nin0)
      replace F_bases := F_bases.keep K29 (ninS ne_a_tA nin0)
      replace F_size := F_size.keep K29 (ninS ne_a_tA nin0)
      replace F_width := F_width.keep K29 (ninS ne_a_tA nin0)
      replace F_far := F_far.keep K29 (ninS ne_a_tA nin0)
      replace V_la := V_la.keep K29 (ninS ne_la_tA nin0)
      replace V_pg := V_pg.keep K29 (ninS ne_pg_tA nin0)
      replace V_ts := V_ts.keep K29 (ninS ne_ts_tA nin0)
      replace V_ta := V_ta.keep K29 (ninS ne_ta_tA nin0)
      replace E_ta := E_ta.keep K29
      replace hz : n0 ≤ hp29.size := Nat.le_trans hz K29.1
      replace BA := BA.keep1 K29 fun k vs dv V q => (arv_neT VtA V (by decide))
      refine Go.aload d_held_67 rfl rfl ?_
      refine Go.iloadN d_held_69 rfl ?_
      refine Go.iinc (Ls' := #[.val (.ref a), .val (.int (0 : Int32)), .val (.int kept), .val (.int ((1 : Int32) + (1 : Int32))), .val (.ref ta)]) (1 : Int32) rfl d_held_70 rfl rfl ?_
      refine Go.iloadN d_held_73 rfl ?_
      refine Go.iastore (I' := IN) (hI := nI) V_ta ⟨by decide, by decide⟩ g_ta 1 rfl (Nat.le_of_ble_eq_true rfl) d_held_74 fun hp30 K30 V_ta_n => ?_
      replace V_ta : Arv Z hp30 ta kk .int (4 : Int32) [(.int x1), (.int kept), (.int (0 : Int32)), (.int (0 : Int32))] (.int (0 : Int32)) := V_ta_n
      replace E_a := E_a.keep K30
      replace F_pages := F_pages.keep K30 (ninS ne_a_ta nin0)
      replace F_last := F_last.keep K30 (ninS ne_a_ta nin0)
      replace F_pageBits := F_pageBits.keep K30 (ninS ne_a_ta nin0)
      replace F_inPage := F_inPage.keep K30 (ninS ne_a_ta nin0)
      replace F_tables := F_tables.keep K30 (ninS ne_a_ta nin0)
      replace F_tableSizes := F_tableSizes.keep K30 (ninS ne_a_ta nin0)
      replace F_bases := F_bases.keep K30 (ninS ne_a_ta nin0)
      replace F_size := F_size.keep K30 (ninS ne_a_ta nin0)
      replace F_width := F_width.keep K30 (ninS ne_a_ta nin0)
      replace F_far := F_far.keep K30 (ninS ne_a_ta nin0)
      replace V_la := V_la.keep K30 (ninS ne_la_ta nin0)
      replace V_pg := V_pg.keep K30 (ninS ne_pg_ta nin0)
      replace V_tA := V_tA.keep K30 (ninS (Ne.symm ne_ta_tA) nin0)
      replace V_ts := V_ts.keep K30 (ninS ne_ts_ta nin0)
      replace E_ta := E_ta.keep K30
      replace hz : n0 ≤ hp30.size := Nat.le_trans hz K30.1
      replace BA : Ba Z n0 hp30 bv ba ts kb b0 := by
        rcases BA with rfl | ⟨rfl, g, q, V⟩
        · exact Or.inl rfl
        · exact Or.inr ⟨rfl, g, q, V.keep K30 (ninS (lt_ba.resolve_left nofun) nin0)⟩
      refine Go.aloadN d_held_75 rfl rfl ?_
      refine Go.getF (wd_19 hw) Via.refl F_tableSizes d_held_76 ?_
      refine Go.iloadN d_held_79 rfl ?_
      refine Go.iloadN d_held_80 rfl ?_
      refine Go.iastore (I' := IN) (hI := nI) V_ts ⟨by decide, by decide⟩ g_ts 0 rfl (Nat.le_of_ble_eq_true rfl) d_held_81 fun hp31 K31 V_ts_n => ?_
      replace V_ts : Arv Z hp31 ts ks .int (1 : Int32) [(.int ((1 : Int32) + (1 : Int32)))] (.int (0 : Int32)) := V_ts_n
      replace E_a := E_a.keep K31
      replace F_pages := F_pages.keep K31 (ninS ne_a_ts nin0)
      replace F_last := F_last.keep K31 (ninS ne_a_ts nin0)
      replace F_pageBits := F_pageBits.keep K31 (ninS ne_a_ts nin0)
      replace F_inPage := F_inPage.keep K31 (ninS ne_a_ts nin0)
      replace F_tables := F_tables.keep K31 (ninS ne_a_ts nin0)
      replace F_tableSizes := F_tableSizes.keep K31 (ninS ne_a_ts nin0)
      replace F_bases := F_bases.keep K31 (ninS ne_a_ts nin0)
      replace F_size := F_size.keep K31 (ninS ne_a_ts nin0)
      replace F_width := F_width.keep K31 (ninS ne_a_ts nin0)
      replace F_far := F_far.keep K31 (ninS ne_a_ts nin0)
      replace V_la := V_la.keep K31 (ninS ne_la_ts nin0)
      replace V_pg := V_pg.keep K31 (ninS ne_pg_ts nin0)
      replace V_tA := V_tA.keep K31 (ninS (Ne.symm ne_ts_tA) nin0)
      replace V_ta := V_ta.keep K31 (ninS (Ne.symm ne_ts_ta) nin0)
      replace E_ta := E_ta.keep K31
      replace hz : n0 ≤ hp31.size := Nat.le_trans hz K31.1
      replace BA := BA.keep1 K31 fun k vs dv V q => q.symm
      refine Go.aloadN d_held_82 rfl rfl ?_
      refine Go.getF (wd_27 hw) Via.refl F_far d_held_83 ?_
      refine Go.iloadN d_held_86 rfl ?_
      refine Go.iadd d_held_87 ?_
      refine Go.iconst 1 d_held_88 rfl ?_
      refine Go.isub d_held_89 ?_
      refine Go.i2c d_held_90 ?_
      -- at pc 91: pc 91: ireturn .ireturn stack [(.int ((((farOf w) + ((1 : Int32) + (1 : Int32))) - (1 : Int32)).toUInt32.toUInt16.toUInt32.toInt32))]
      have top := own_top hwd 1 (by decide) (1 : Int32) rfl
      refine Go.nreturn .char d_held_91 rfl (by simp) (by decide) (by decide) ⟨hz, [x1] ++ [kept], 1, ?_, ⟨by simp, rfl, by simp, fun j x q => by rw [List.getElem?_append_left (List.getElem?_eq_some_iff.mp q).1]; exact q⟩, ⟨E_a, F_pages, F_last, F_pageBits, F_inPage, F_tables, F_tableSizes, F_bases, F_size, F_width, F_far⟩, BA, ⟨g_tA, g_ts, O_tA, V_ts, Or.inr ⟨by simp, ta, kk, g_ta, E_ta, V_tA, V_ta⟩⟩, V_la, V_pg, g_a, g_la⟩
      rw [top.1]; rfl
set_option maxRecDepth 65536 in
set_option maxHeartbeats 40000000 in
theorem ct_held2 (l : Launch) (Z : State) (a0 : Array Value) (hw : ∀ d ∈ tables_1, d.before a0 Z = true) (n0 : Nat) (a la pg tA ts ba : Addr) (kl kp kt ks kb : ClassId) (bv : Value) (b0 n pb ip sz w : Int32) (cs : List Value) (x1 x2 kept : Int32) (h0 : Heap) (hz : n0 ≤ h0.size) (hwd : Wd w) (hb : Bld Z n0 h0 a la pg tA ts ba kl kp kt ks kb bv b0 n pb ip sz w cs [x1, x2]) :
    Ct l Z n0 "com/example/wee_query/weequery/IntColumn$Builder" "held" "(II)C" [] prog_25_method_11_code 5 (some .char) R_held #[.ref a, .int (0 : Int32), .int kept] h0 (fun v h => n0 ≤ h.size ∧ ∃ (tb' : List Int32) (i : Nat), v = some (.int (farOf w + Int32.ofNat i)) ∧ Hd [x1, x2] tb' kept i ∧ Bld Z n0 h a la pg tA ts ba kl kp kt ks kb bv b0 n pb ip sz w cs tb') := by
  obtain ⟨⟨E_a, F_pages, F_last, F_pageBits, F_inPage, F_tables, F_tableSizes, F_bases, F_size, F_width, F_far⟩, BA, ⟨g_tA, g_ts, O_tA, V_ts, TB⟩, V_la, V_pg, g_a, g_la⟩ := hb
  obtain ⟨h, -⟩ | ⟨-, ta, kk, g_ta, E_ta, V_tA, V_ta⟩ := TB
  · exact absurd h (by simp)
  · replace V_ts : Arv Z h0 ts ks .int (1 : Int32) [.int (2 : Int32)] (.int (0 : Int32)) := V_ts
    replace V_ta : Arv Z h0 ta kk .int (4 : Int32) [(.int x1), (.int x2), (.int (0 : Int32)), (.int (0 : Int32))] (.int (0 : Int32)) := V_ta
    have hbv := BA.isRef
    refine Ct.of_go pf_held (Ls := #[.val (.ref a), .val (.int (0 : Int32)), .val (.int kept), .unset, .unset]) (fun m => by first | rfl | (simp [entryFrame, mkF, argsToLocals, Value.category]; done)) ?_
    show GM_held l Z n0 (fun v h => n0 ≤ h.size ∧ ∃ (tb' : List Int32) (i : Nat), v = some (.int (farOf w + Int32.ofNat i)) ∧ Hd [x1, x2] tb' kept i ∧ Bld Z n0 h a la pg tA ts ba kl kp kt ks kb bv b0 n pb ip sz w cs tb') h0 0 0 0 #[.val (.ref a), .val (.int (0 : Int32)), .val (.int kept), .unset, .unset] []
    have ne_a_tA : a ≠ tA := (Exa.neArv E_a V_tA (wd_2 hw))
    have ne_la_tA : la ≠ tA := (arv_neT V_la V_tA (by decide))
    have ne_pg_tA : pg ≠ tA := (arv_neT V_pg V_tA (by decide))
    have ne_ts_tA : ts ≠ tA := (arv_neT V_ts V_tA (by decide))
    have ne_a_ts : a ≠ ts := (Exa.neArv E_a V_ts (wd_2 hw))
    have ne_la_ts : la ≠ ts := (arv_neT V_la V_ts (by decide))
    have ne_pg_ts : pg ≠ ts := (arv_neT V_pg V_ts (by decide))
    have ne_a_ta : a ≠ ta := (Exa.neArv E_a V_ta (wd_2 hw))
    have ne_la_ta : la ≠ ta := (arv_neT V_la V_ta (by decide))
    have ne_pg_ta : pg ≠ ta := (arv_neT V_pg V_ta (by decide))
    have ne_ts_ta : ts ≠ ta := (arv_ne V_ts V_ta (Or.inl (by decide)))
    have ne_ta_tA : ta ≠ tA := (arv_neT V_ta V_tA (by decide))
    have lt_ba : bv = .null ∨ ba ≠ ta := by
      rcases BA with rfl | ⟨rfl, g, q, V⟩
      · exact Or.inl rfl
      · exact Or.inr (arv_ne V V_ta (Or.inl (by decide)))
    refine Go.aloadN d_held_0 rfl rfl ?_
    refine Go.getF (wd_19 hw) Via.refl F_tableSizes d_held_1 ?_
    refine Go.iloadN d_held_4 rfl ?_
    refine Go.iaload (.int (2 : Int32)) V_ts ⟨by decide, by decide⟩ rfl d_held_5 ?_
    refine Go.istoreN (Ls' := #[.val (.ref a), .val (.int (0 : Int32)), .val (.int kept), .val (.int (2 : Int32)), .unset]) d_held_6 rfl ?_
    refine Go.aloadN d_held_7 rfl rfl ?_
    refine Go.getF (wd_16 hw) Via.refl F_tables d_held_8 ?_
    refine Go.iloadN d_held_11 rfl ?_
    refine Go.aaload (.ref ta) V_tA rfl ⟨by decide, by decide⟩ rfl d_held_12 ?_
    refine Go.astore (Ls' := #[.val (.ref a), .val (.int (0 : Int32)), .val (.int kept), .val (.int (2 : Int32)), .val (.ref ta)]) d_held_13 rfl rfl ?_
    refine Go.iloadN d_held_15 rfl ?_
    -- at pc 16: pc 16: ifCond .ifCond .eq 13 stack [(.int (2 : Int32))]
    -- not: (2 : Int32) = (0 : Int32)
    refine Go.ifF d_held_16 (feq (by decide)).1 ?_
    refine Go.aload d_held_19 rfl rfl ?_
    refine Go.iloadN d_held_21 rfl ?_
    refine Go.iconst 1 d_held_22 rfl ?_
    refine Go.isub d_held_23 ?_
    rw [show ((2 : Int32) - (1 : Int32)) = (1 : Int32) from (by decide)]
    refine Go.iaload (.int x2) V_ta ⟨by decide, by decide⟩ rfl d_held_24 ?_
    refine Go.iloadN d_held_25 rfl ?_
    -- at pc 26: pc 26: if_icmp .if_icmp .eq 56 stack [(.int kept), (.int x2)]
    by_cases hk : x2 = kept
    · refine Go.icT 82 d_held_26 (teq hk).1 (by decide) (by decide) ?_
      refine Go.aloadN d_held_82 rfl rfl ?_
      refine Go.getF (wd_27 hw) Via.refl F_far d_held_83 ?_
      refine Go.iloadN d_held_86 rfl ?_
      refine Go.iadd d_held_87 ?_
      refine Go.iconst 1 d_held_88 rfl ?_
      refine Go.isub d_held_89 ?_
      refine Go.i2c d_held_90 ?_
      -- at pc 91: pc 91: ireturn .ireturn stack [(.int ((((farOf w) + (2 : Int32)) - (1 : Int32)).toUInt32.toUInt16.toUInt32.toInt32))]
      have top := own_top hwd 1 (by decide) (1 : Int32) rfl
      refine Go.nreturn .char d_held_91 rfl (by simp) (by decide) (by decide) ⟨hz, [x1, x2], 1, ?_, ⟨by simp, by rw [← hk]; rfl, by simp, fun j x q => q⟩, ⟨E_a, F_pages, F_last, F_pageBits, F_inPage, F_tables, F_tableSizes, F_bases, F_size, F_width, F_far⟩, BA, ⟨g_tA, g_ts, O_tA, V_ts, Or.inr ⟨by simp, ta, kk, g_ta, E_ta, V_tA, V_ta⟩⟩, V_la, V_pg, g_a, g_la⟩
      have e1 : (2 : Int32) = (1 : Int32) + 1 := by decide
      exact congrArg (fun q => some (Value.int q)) top.1
    · refine Go.icF d_held_26 (feq hk).1 ?_
      refine Go.aload d_held_29 rfl rfl ?_
      refine Go.nnT 42 d_held_31 (by decide) (by decide) ?_
      refine Go.iloadN d_held_42 rfl ?_
      refine Go.aload d_held_43 rfl rfl ?_
      refine Go.arraylength V_ta d_held_45 ?_
      -- at pc 46: pc 46: if_icmp .if_icmp .ne 13 stack [(.int (4 : Int32)), (.int (2 : Int32))]
      -- not: (2 : Int32) = (4 : Int32)
      refine Go.icT 59 d_held_46 (feq (by decide)).2 (by decide) (by decide) ?_
      have VtA := V_tA
      refine Go.aloadN d_held_59 rfl rfl ?_
      refine Go.getF (wd_16 hw) Via.refl F_tables d_held_60 ?_
      refine Go.iloadN d_held_63 rfl ?_
      refine Go.aload d_held_64 rfl rfl ?_
      refine Go.aastore (I' := IN) (hI := nI) V_tA rfl rfl (fun c A q => Sto.ofVA A q O_tA (Ins.self E_ta)) ⟨by decide, by decide⟩ g_tA 0 rfl (Nat.le_of_ble_eq_true rfl) d_held_66 fun hp32 K32 V_tA_n => ?_
      replace V_tA : Arv Z hp32 tA kt (.array .int) (1 : Int32) [(.ref ta)] .null := V_tA_n
      replace E_a := E_a.keep K32
      replace F_pages := F_pages.keep K32 (ninS ne_a_tA nin0)
      replace F_last := F_last.keep K32 (ninS ne_a_tA nin0)
      replace F_pageBits := F_pageBits.keep K32 (ninS ne_a_tA nin0)
      replace F_inPage := F_inPage.keep K32 (ninS ne_a_tA nin0)
      replace F_tables := F_tables.keep K32 (ninS ne_a_tA nin0)
      replace F_tableSizes := F_tableSizes.keep K32 (ninS ne_a_tA nin0)
      replace F_bases := F_bases.keep K32 (ninS ne_a_tA nin0)
      replace F_size := F_size.keep K32 (ninS ne_a_tA nin0)
      replace F_width := F_width.keep K32 (ninS ne_a_tA nin0)
      replace F_far := F_far.keep K32 (ninS ne_a_tA nin0)
      replace V_la := V_la.keep K32 (ninS ne_la_tA nin0)
      replace V_pg := V_pg.keep K32 (ninS ne_pg_tA nin0)
      replace V_ts := V_ts.keep K32 (ninS ne_ts_tA nin0)
      replace V_ta := V_ta.keep K32 (ninS ne_ta_tA nin0)
      replace E_ta := E_ta.keep K32
      replace hz : n0 ≤ hp32.size := Nat.le_trans hz K32.1
      replace BA := BA.keep1 K32 fun k vs dv V q => (arv_neT VtA V (by decide))
      refine Go.aload d_held_67 rfl rfl ?_
      refine Go.iloadN d_held_69 rfl ?_
      refine Go.iinc (Ls' := #[.val (.ref a), .val (.int (0 : Int32)), .val (.int kept), .val (.int ((2 : Int32) + (1 : Int32))), .val (.ref ta)]) (1 : Int32) rfl d_held_70 rfl rfl ?_
      refine Go.iloadN d_held_73 rfl ?_
      refine Go.iastore (I' := IN) (hI := nI) V_ta ⟨by decide, by decide⟩ g_ta 2 rfl (Nat.le_of_ble_eq_true rfl) d_held_74 fun hp33 K33 V_ta_n => ?_
      replace V_ta : Arv Z hp33 ta kk .int (4 : Int32) [(.int x1), (.int x2), (.int kept), (.int (0 : Int32))] (.int (0 : Int32)) := V_ta_n
      replace E_a := E_a.keep K33
      replace F_pages := F_pages.keep K33 (ninS ne_a_ta nin0)
      replace F_last := F_last.keep K33 (ninS ne_a_ta nin0)
      replace F_pageBits := F_pageBits.keep K33 (ninS ne_a_ta nin0)
      replace F_inPage := F_inPage.keep K33 (ninS ne_a_ta nin0)
      replace F_tables := F_tables.keep K33 (ninS ne_a_ta nin0)
      replace F_tableSizes := F_tableSizes.keep K33 (ninS ne_a_ta nin0)
      replace F_bases := F_bases.keep K33 (ninS ne_a_ta nin0)
      replace F_size := F_size.keep K33 (ninS ne_a_ta nin0)
      replace F_width := F_width.keep K33 (ninS ne_a_ta nin0)
      replace F_far := F_far.keep K33 (ninS ne_a_ta nin0)
      replace V_la := V_la.keep K33 (ninS ne_la_ta nin0)
      replace V_pg := V_pg.keep K33 (ninS ne_pg_ta nin0)
      replace V_tA := V_tA.keep K33 (ninS (Ne.symm ne_ta_tA) nin0)
      replace V_ts := V_ts.keep K33 (ninS ne_ts_ta nin0)
      replace E_ta := E_ta.keep K33
      replace hz : n0 ≤ hp33.size := Nat.le_trans hz K33.1
      replace BA : Ba Z n0 hp33 bv ba ts kb b0 := by
        rcases BA with rfl | ⟨rfl, g, q, V⟩
        · exact Or.inl rfl
        · exact Or.inr ⟨rfl, g, q, V.keep K33 (ninS (lt_ba.resolve_left nofun) nin0)⟩
      refine Go.aloadN d_held_75 rfl rfl ?_
      refine Go.getF (wd_19 hw) Via.refl F_tableSizes d_held_76 ?_
      refine Go.iloadN d_held_79 rfl ?_
      refine Go.iloadN d_held_80 rfl ?_
      refine Go.iastore (I' := IN) (hI := nI) V_ts ⟨by decide, by decide⟩ g_ts 0 rfl (Nat.le_of_ble_eq_true rfl) d_held_81 fun hp34 K34 V_ts_n => ?_
      replace V_ts : Arv Z hp34 ts ks .int (1 : Int32) [(.int ((2 : Int32) + (1 : Int32)))] (.int (0 : Int32)) := V_ts_n
      replace E_a := E_a.keep K34
      replace F_pages := F_pages.keep K34 (ninS ne_a_ts nin0)
      replace F_last := F_last.keep K34 (ninS ne_a_ts nin0)
      replace F_pageBits := F_pageBits.keep K34 (ninS ne_a_ts nin0)
      replace F_inPage := F_inPage.keep K34 (ninS ne_a_ts nin0)
      replace F_tables := F_tables.keep K34 (ninS ne_a_ts nin0)
      replace F_tableSizes := F_tableSizes.keep K34 (ninS ne_a_ts nin0)
      replace F_bases := F_bases.keep K34 (ninS ne_a_ts nin0)
      replace F_size := F_size.keep K34 (ninS ne_a_ts nin0)
      replace F_width := F_width.keep K34 (ninS ne_a_ts nin0)
      replace F_far := F_far.keep K34 (ninS ne_a_ts nin0)
      replace V_la := V_la.keep K34 (ninS ne_la_ts nin0)
      replace V_pg := V_pg.keep K34 (ninS ne_pg_ts nin0)
      replace V_tA := V_tA.keep K34 (ninS (Ne.symm ne_ts_tA) nin0)
      replace V_ta := V_ta.keep K34 (ninS (Ne.symm ne_ts_ta) nin0)
      replace E_ta := E_ta.keep K34
      replace hz : n0 ≤ hp34.size := Nat.le_trans hz K34.1
      replace BA := BA.keep1 K34 fun k vs dv V q => q.symm
      refine Go.aloadN d_held_82 rfl rfl ?_
      refine Go.getF (wd_27 hw) Via.refl F_far d_held_83 ?_
      refine Go.iloadN d_held_86 rfl ?_
      refine Go.iadd d_held_87 ?_
      refine Go.iconst 1 d_held_88 rfl ?_
      refine Go.isub d_held_89 ?_
      refine Go.i2c d_held_90 ?_
      -- at pc 91: pc 91: ireturn .ireturn stack [(.int ((((farOf w) + ((2 : Int32) + (1 : Int32))) - (1 : Int32)).toUInt32.toUInt16.toUInt32.toInt32))]
      have top := own_top hwd 2 (by decide) (2 : Int32) rfl
      refine Go.nreturn .char d_held_91 rfl (by simp) (by decide) (by decide) ⟨hz, [x1, x2] ++ [kept], 2, ?_, ⟨by simp, rfl, by simp, fun j x q => by rw [List.getElem?_append_left (List.getElem?_eq_some_iff.mp q).1]; exact q⟩, ⟨E_a, F_pages, F_last, F_pageBits, F_inPage, F_tables, F_tableSizes, F_bases, F_size, F_width, F_far⟩, BA, ⟨g_tA, g_ts, O_tA, V_ts, Or.inr ⟨by simp, ta, kk, g_ta, E_ta, V_tA, V_ta⟩⟩, V_la, V_pg, g_a, g_la⟩
      rw [top.1]; rfl
theorem ct_held (l : Launch) (Z : State) (a0 : Array Value) (hw : ∀ d ∈ tables_1, d.before a0 Z = true) (n0 : Nat) (a la pg tA ts ba : Addr) (kl kp kt ks kb : ClassId) (bv : Value) (b0 n pb ip sz w : Int32) (cs : List Value) (tb : List Int32) (kept : Int32) (h0 : Heap) (hz : n0 ≤ h0.size) (hwd : Wd w) (htb : tb.length ≤ 2) (hb : Bld Z n0 h0 a la pg tA ts ba kl kp kt ks kb bv b0 n pb ip sz w cs tb) :
    Ct l Z n0 "com/example/wee_query/weequery/IntColumn$Builder" "held" "(II)C" [] prog_25_method_11_code 5 (some .char) R_held #[.ref a, .int (0 : Int32), .int kept] h0 (fun v h => n0 ≤ h.size ∧ ∃ (tb' : List Int32) (i : Nat), v = some (.int (farOf w + Int32.ofNat i)) ∧ Hd tb tb' kept i ∧ Bld Z n0 h a la pg tA ts ba kl kp kt ks kb bv b0 n pb ip sz w cs tb') := by
  rcases tb with _ | ⟨x1, _ | ⟨x2, _ | ⟨x3, r⟩⟩⟩
  · exact ct_held0 l Z a0 hw n0 a la pg tA ts ba kl kp kt ks kb bv b0 n pb ip sz w cs kept h0 hz hwd hb
  · exact ct_held1 l Z a0 hw n0 a la pg tA ts ba kl kp kt ks kb bv b0 n pb ip sz w cs x1 0 kept h0 hz hwd hb
  · exact ct_held2 l Z a0 hw n0 a la pg tA ts ba kl kp kt ks kb bv b0 n pb ip sz w cs x1 x2 kept h0 hz hwd hb
  · exact absurd htb (by simp)
def QAdd (Z : State) (n0 : Nat) (a la pg tA ts ba : Addr) (kl kp kt ks kb : ClassId) (bv : Value) (b0 n pb ip sz w : Int32) (cs : List Value) (tb : List Int32) (value : Int32) : Option Value → Heap → Prop := fun v h => v = none ∧ n0 ≤ h.size ∧ ∃ (c b1 : Int32) (tb' : List Int32), Bld Z n0 h a la pg tA ts ba kl kp kt ks kb bv b1 n pb ip (sz + 1) w (cs.set sz.toNatClampNeg (.int c)) tb' ∧ (sz = 0 → b1 = value) ∧ (¬ sz = 0 → b1 = b0) ∧ tb'.length ≤ tb.length + 1 ∧ (∀ (j : Nat) (x : Int32), tb[j]? = some x → tb'[j]? = some x) ∧ Dec w c tb' (if bv = .null then value else value - b1)
theorem d_add_0 : decode prog_25_method_6_code 0 = .ok (.aload_n 0, 1) := by decide +kernel
theorem d_add_1 : decode prog_25_method_6_code 1 = .ok (.dup, 1) := by decide +kernel
theorem d_add_2 : decode prog_25_method_6_code 2 = .ok (.getfield 55, 3) := by decide +kernel
theorem d_add_5 : decode prog_25_method_6_code 5 = .ok (.dup_x1, 1) := by decide +kernel
theorem d_add_6 : decode prog_25_method_6_code 6 = .ok (.iconst 1, 1) := by decide +kernel
theorem d_add_7 : decode prog_25_method_6_code 7 = .ok (.iadd, 1) := by decide +kernel
theorem d_add_8 : decode prog_25_method_6_code 8 = .ok (.putfield 55, 3) := by decide +kernel
theorem d_add_11 : decode prog_25_method_6_code 11 = .ok (.istore_n 3, 1) := by decide +kernel
theorem d_add_12 : decode prog_25_method_6_code 12 = .ok (.iload_n 3, 1) := by decide +kernel
theorem d_add_13 : decode prog_25_method_6_code 13 = .ok (.sipush 511, 3) := by decide +kernel
theorem d_add_16 : decode prog_25_method_6_code 16 = .ok (.iand, 1) := by decide +kernel
theorem d_add_17 : decode prog_25_method_6_code 17 = .ok (.ifCond .ne 9, 3) := by decide +kernel
theorem d_add_20 : decode prog_25_method_6_code 20 = .ok (.aload_n 0, 1) := by decide +kernel
theorem d_add_21 : decode prog_25_method_6_code 21 = .ok (.iload_n 3, 1) := by decide +kernel
theorem d_add_22 : decode prog_25_method_6_code 22 = .ok (.iload_n 1, 1) := by decide +kernel
theorem d_add_23 : decode prog_25_method_6_code 23 = .ok (.invokevirtual 58, 3) := by decide +kernel
theorem d_add_26 : decode prog_25_method_6_code 26 = .ok (.aload_n 0, 1) := by decide +kernel
theorem d_add_27 : decode prog_25_method_6_code 27 = .ok (.getfield 45, 3) := by decide +kernel
theorem d_add_30 : decode prog_25_method_6_code 30 = .ok (.ifnonnull 7, 3) := by decide +kernel
theorem d_add_33 : decode prog_25_method_6_code 33 = .ok (.iload_n 1, 1) := by decide +kernel
theorem d_add_34 : decode prog_25_method_6_code 34 = .ok (.goto 14, 3) := by decide +kernel
theorem d_add_37 : decode prog_25_method_6_code 37 = .ok (.iload_n 1, 1) := by decide +kernel
theorem d_add_38 : decode prog_25_method_6_code 38 = .ok (.aload_n 0, 1) := by decide +kernel
theorem d_add_39 : decode prog_25_method_6_code 39 = .ok (.getfield 45, 3) := by decide +kernel
theorem d_add_42 : decode prog_25_method_6_code 42 = .ok (.iload_n 3, 1) := by decide +kernel
theorem d_add_43 : decode prog_25_method_6_code 43 = .ok (.bipush 9, 2) := by decide +kernel
theorem d_add_45 : decode prog_25_method_6_code 45 = .ok (.iushr, 1) := by decide +kernel
theorem d_add_46 : decode prog_25_method_6_code 46 = .ok (.iaload, 1) := by decide +kernel
theorem d_add_47 : decode prog_25_method_6_code 47 = .ok (.isub, 1) := by decide +kernel
theorem d_add_48 : decode prog_25_method_6_code 48 = .ok (.istore 4, 2) := by decide +kernel
theorem d_add_50 : decode prog_25_method_6_code 50 = .ok (.iload 4, 2) := by decide +kernel
theorem d_add_52 : decode prog_25_method_6_code 52 = .ok (.aload_n 0, 1) := by decide +kernel
theorem d_add_53 : decode prog_25_method_6_code 53 = .ok (.getfield 34, 3) := by decide +kernel
theorem d_add_56 : decode prog_25_method_6_code 56 = .ok (.if_icmp .ge 9, 3) := by decide +kernel
theorem d_add_59 : decode prog_25_method_6_code 59 = .ok (.iload 4, 2) := by decide +kernel
theorem d_add_61 : decode prog_25_method_6_code 61 = .ok (.i2c, 1) := by decide +kernel
theorem d_add_62 : decode prog_25_method_6_code 62 = .ok (.goto 13, 3) := by decide +kernel
theorem d_add_65 : decode prog_25_method_6_code 65 = .ok (.aload_n 0, 1) := by decide +kernel
theorem d_add_66 : decode prog_25_method_6_code 66 = .ok (.iload_n 3, 1) := by decide +kernel
theorem d_add_67 : decode prog_25_method_6_code 67 = .ok (.bipush 9, 2) := by decide +kernel
theorem d_add_69 : decode prog_25_method_6_code 69 = .ok (.iushr, 1) := by decide +kernel
theorem d_add_70 : decode prog_25_method_6_code 70 = .ok (.iload 4, 2) := by decide +kernel
theorem d_add_72 : decode prog_25_method_6_code 72 = .ok (.invokevirtual 61, 3) := by decide +kernel
theorem d_add_75 : decode prog_25_method_6_code 75 = .ok (.istore 5, 2) := by decide +kernel
theorem d_add_77 : decode prog_25_method_6_code 77 = .ok (.aload_n 0, 1) := by decide +kernel
theorem d_add_78 : decode prog_25_method_6_code 78 = .ok (.getfield 42, 3) := by decide +kernel
theorem d_add_81 : decode prog_25_method_6_code 81 = .ok (.iload_n 3, 1) := by decide +kernel
theorem d_add_82 : decode prog_25_method_6_code 82 = .ok (.aload_n 0, 1) := by decide +kernel
theorem d_add_83 : decode prog_25_method_6_code 83 = .ok (.getfield 39, 3) := by decide +kernel
theorem d_add_86 : decode prog_25_method_6_code 86 = .ok (.iand, 1) := by decide +kernel
theorem d_add_87 : decode prog_25_method_6_code 87 = .ok (.iload 5, 2) := by decide +kernel
theorem d_add_89 : decode prog_25_method_6_code 89 = .ok (.iload_n 2, 1) := by decide +kernel
theorem d_add_90 : decode prog_25_method_6_code 90 = .ok (.aload_n 0, 1) := by decide +kernel
theorem d_add_91 : decode prog_25_method_6_code 91 = .ok (.getfield 26, 3) := by decide +kernel
theorem d_add_94 : decode prog_25_method_6_code 94 = .ok (.ishl, 1) := by decide +kernel
theorem d_add_95 : decode prog_25_method_6_code 95 = .ok (.ior, 1) := by decide +kernel
theorem d_add_96 : decode prog_25_method_6_code 96 = .ok (.i2c, 1) := by decide +kernel
theorem d_add_97 : decode prog_25_method_6_code 97 = .ok (.castore, 1) := by decide +kernel
theorem d_add_98 : decode prog_25_method_6_code 98 = .ok (.return_, 1) := by decide +kernel
abbrev R_add : Room := ({ frames := 1, cells := 1, slots := 4, locals := 16 } : Room)
abbrev GM_add (l : Launch) (Z : State) (n0 : Nat) (Q : Option Value → Heap → Prop) (h : Heap) (cells slots pc : Nat) (Ls : Array Slot) (st : List Value) : Prop := Go l Z n0 R_add "com/example/wee_query/weequery/IntColumn$Builder" "add" prog_25_method_6_code 6 none IN (FN n0 R_add Q) h cells slots pc Ls st
theorem pf_add : plainFor (⟨"com/example/wee_query/weequery/IntColumn$Builder", "add", "(II)V"⟩ : MethodName) = true := plainFor_of_name (by first | (simp [plainName, overriddenIn]; done) | decide +kernel)
theorem own_sz {sz : Int32} (h : sz = 0 ∨ sz = 1 ∨ sz = 2) : ((sz.toUInt32 >>> ((9 : Int32) &&& 31).toUInt32).toInt32) = 0 ∧ ¬ sz < 0 ∧ sz.toNatClampNeg < 3 ∧ ((sz &&& 511) = 0 → sz = 0) := by
  rcases h with rfl | rfl | rfl <;> decide
theorem own_ip {sz ip : Int32} (h : sz = 0 ∨ sz = 1 ∨ sz = 2) (hip : ip = 511 ∨ ip = 2147483647) : sz &&& ip = sz := by
  rcases h with rfl | rfl | rfl <;> rcases hip with rfl | rfl <;> decide
theorem own_ltn {sz n : Int32} (h : sz = 0 ∨ sz = 1 ∨ sz = 2) (hn : ¬ n < 3) : sz < n := by
  rw [lt0] at *
  have e3 : (3 : Int32).toInt = 3 := rfl
  have : sz.toInt ≤ 2 := by rcases h with rfl | rfl | rfl <;> decide
  omega
set_option maxRecDepth 65536 in
set_option maxHeartbeats 40000000 in
theorem ct_add (l : Launch) (Z : State) (a0 : Array Value) (hw : ∀ d ∈ tables_1, d.before a0 Z = true) (n0 : Nat) (a la pg tA ts ba : Addr) (kl kp kt ks kb : ClassId) (bv : Value) (b0 n pb ip sz w : Int32) (cs : List Value) (tb : List Int32) (value above : Int32) (h0 : Heap) (hz : n0 ≤ h0.size) (hwd : Wd w) (hsz : sz = 0 ∨ sz = 1 ∨ sz = 2) (htb : tb.length ≤ 2) (hip : ip = 511 ∨ ip = 2147483647) (hn : ¬ n < 3) (hcs : cs.length = 3) (hv : ¬ value < 0) (hvb : bv = .null ∨ sz = 0 ∨ ¬ value - b0 < 0) (hb : Bld Z n0 h0 a la pg tA ts ba kl kp kt ks kb bv b0 n pb ip sz w cs tb) :
    Ct l Z n0 "com/example/wee_query/weequery/IntColumn$Builder" "add" "(II)V" [] prog_25_method_6_code 6 none R_add #[.ref a, .int value, .int above] h0 (QAdd Z n0 a la pg tA ts ba kl kp kt ks kb bv b0 n pb ip sz w cs tb value) := by
  obtain ⟨⟨E_a, F_pages, F_last, F_pageBits, F_inPage, F_tables, F_tableSizes, F_bases, F_size, F_width, F_far⟩, BA, TB, V_la, V_pg, g_a, g_la⟩ := hb
  have hbv := BA.isRef
  have es := own_sz hsz
  refine Ct.of_go pf_add (Ls := #[.val (.ref a), .val (.int value), .val (.int above), .unset, .unset, .unset]) (fun m => by first | rfl | (simp [entryFrame, mkF, argsToLocals, Value.category]; done)) ?_
  show GM_add l Z n0 (QAdd Z n0 a la pg tA ts ba kl kp kt ks kb bv b0 n pb ip sz w cs tb value) h0 0 0 0 #[.val (.ref a), .val (.int value), .val (.int above), .unset, .unset, .unset] []
  have j26 : ∀ (h : Heap) (b1 : Int32), n0 ≤ h.size → Bld Z n0 h a la pg tA ts ba kl kp kt ks kb bv b1 n pb ip (sz + 1) w cs tb → (sz = 0 → b1 = value) → (¬ sz = 0 → b1 = b0) → GM_add l Z n0 (QAdd Z n0 a la pg tA ts ba kl kp kt ks kb bv b0 n pb ip sz w cs tb value) h 0 0 26 #[.val (.ref a), .val (.int value), .val (.int above), .val (.int sz), .unset, .unset] [] := by
    clear E_a F_pages F_last F_pageBits F_inPage F_tables F_tableSizes F_bases F_size F_width F_far BA TB V_la V_pg hz
    intro h b1 hz hb hb1 hb2
    obtain ⟨⟨E_a, F_pages, F_last, F_pageBits, F_inPage, F_tables, F_tableSizes, F_bases, F_size, F_width, F_far⟩, BA, TB, V_la, V_pg, -, -⟩ := hb
    have j48 : ∀ kept : Int32, ¬ kept < 0 → kept = (if bv = .null then value else value - b1) → GM_add l Z n0 (QAdd Z n0 a la pg tA ts ba kl kp kt ks kb bv b0 n pb ip sz w cs tb value) h 0 0 48 #[.val (.ref a), .val (.int value), .val (.int above), .val (.int sz), .unset, .unset] [.int kept] := by
      intro kept hk0 hkept
      refine Go.istore (Ls' := #[.val (.ref a), .val (.int value), .val (.int above), .val (.int sz), .val (.int kept), .unset]) d_add_48 rfl ?_
      have j75 : ∀ (h : Heap) (hd : Int32) (tb' : List Int32), n0 ≤ h.size → Bld Z n0 h a la pg tA ts ba kl kp kt ks kb bv b1 n pb ip (sz + 1) w cs tb' → 0 ≤ hd.toInt → hd.toInt < 2 * (farOf w).toInt → tb'.length ≤ tb.length + 1 → (∀ (j : Nat) (x : Int32), tb[j]? = some x → tb'[j]? = some x) → (∀ c : Int32, c &&& mkOf w = hd → Dec w c tb' kept) → GM_add l Z n0 (QAdd Z n0 a la pg tA ts ba kl kp kt ks kb bv b0 n pb ip sz w cs tb value) h 1 4 75 #[.val (.ref a), .val (.int value), .val (.int above), .val (.int sz), .val (.int kept), .unset] [.int hd] := by
        clear E_a F_pages F_last F_pageBits F_inPage F_tables F_tableSizes F_bases F_size F_width F_far BA TB V_la V_pg hz
        intro h hd tb' hz hb h1 h2 h3 h4 h5
        obtain ⟨⟨E_a, F_pages, F_last, F_pageBits, F_inPage, F_tables, F_tableSizes, F_bases, F_size, F_width, F_far⟩, BA, TB, V_la, V_pg, -, -⟩ := hb
        have ne_a_la : a ≠ la := (Exa.neArv E_a V_la (wd_2 hw))
        have ne_pg_la : pg ≠ la := (arv_neT V_pg V_la (by decide))
        refine Go.istore (Ls' := #[.val (.ref a), .val (.int value), .val (.int above), .val (.int sz), .val (.int kept), .val (.int hd)]) d_add_75 rfl ?_
        refine Go.aloadN d_add_77 rfl rfl ?_
        refine Go.getF (wd_34 hw) Via.refl F_last d_add_78 ?_
        refine Go.iloadN d_add_81 rfl ?_
        refine Go.aloadN d_add_82 rfl rfl ?_
        refine Go.getF (wd_31 hw) Via.refl F_inPage d_add_83 ?_
        refine Go.iand d_add_86 ?_
        rw [show (sz &&& ip) = sz from (own_ip hsz hip)]
        refine Go.iload d_add_87 rfl ?_
        refine Go.iloadN d_add_89 rfl ?_
        refine Go.aloadN d_add_90 rfl rfl ?_
        refine Go.getF (wd_21 hw) Via.refl F_width d_add_91 ?_
        refine Go.ishl d_add_94 ?_
        refine Go.ior d_add_95 ?_
        refine Go.i2c d_add_96 ?_
        generalize hg_cx : ((hd ||| (above <<< (w &&& 31))).toUInt32.toUInt16.toUInt32.toInt32) = cx
        have Vla := V_la
        refine Go.castore (I' := IN) (hI := nI) V_la ⟨es.2.1, own_ltn hsz hn⟩ g_la sz.toNatClampNeg rfl (by rw [hcs]; exact es.2.2.1) d_add_97 fun hp35 K35 V_la_n => ?_
        replace V_la : Arv Z hp35 la kl .char n (cs.set sz.toNatClampNeg (.int (nar .char cx))) (.int (0 : Int32)) := V_la_n
        replace E_a := E_a.keep K35
        replace F_pages := F_pages.keep K35 (ninS ne_a_la nin0)
        replace F_last := F_last.keep K35 (ninS ne_a_la nin0)
        replace F_pageBits := F_pageBits.keep K35 (ninS ne_a_la nin0)
        replace F_inPage := F_inPage.keep K35 (ninS ne_a_la nin0)
        replace F_tables := F_tables.keep K35 (ninS ne_a_la nin0)
        replace F_tableSizes := F_tableSizes.keep K35 (ninS ne_a_la nin0)
        replace F_bases := F_bases.keep K35 (ninS ne_a_la nin0)
        replace F_size := F_size.keep K35 (ninS ne_a_la nin0)
        replace F_width := F_width.keep K35 (ninS ne_a_la nin0)
        replace F_far := F_far.keep K35 (ninS ne_a_la nin0)
        replace V_pg := V_pg.keep K35 (ninS ne_pg_la nin0)
        replace hz : n0 ≤ hp35.size := Nat.le_trans hz K35.1
        replace TB := TB.keep1 K35 fun b k ty z vs dv V q => arv_neT Vla V (by rcases q with rfl | ⟨rfl, -⟩ <;> decide)
        replace BA := BA.keep1 K35 fun k vs dv V q => arv_neT Vla V (by decide)
        exact Go.return_ d_add_98 rfl (by decide) (by decide) ⟨rfl, hz, nar .char cx, b1, tb', ⟨⟨E_a, F_pages, F_last, F_pageBits, F_inPage, F_tables, F_tableSizes, F_bases, F_size, F_width, F_far⟩, BA, TB, V_la, V_pg, g_a, g_la⟩, hb1, hb2, h3, h4, by rw [← hkept]; exact h5 _ (by rw [← hg_cx]; exact own_pack hwd h1 h2)⟩
      refine Go.iload d_add_50 rfl ?_
      refine Go.aloadN d_add_52 rfl rfl ?_
      refine Go.getF (wd_27 hw) Via.refl F_far d_add_53 ?_
      -- at pc 56: pc 56: if_icmp .if_icmp .ge 9 stack [(.int (farOf w)), (.int kept)]
      by_cases hlt : kept < (farOf w)
      · refine Go.icF d_add_56 (tlt hlt).2.1 ?_
        refine Go.iload d_add_59 rfl ?_
        refine Go.i2c d_add_61 ?_
        have hfb := own_farb hwd
        have hk1 : 0 ≤ kept.toInt := by rw [lt0] at hk0; have e0 : (0 : Int32).toInt = 0 := rfl; omega
        have hk2 : kept.toInt < (farOf w).toInt := lt0.mp hlt
        rw [show (kept.toUInt32.toUInt16.toUInt32.toInt32) = kept from (own_i2c hk1 (by omega))]
        refine Go.goto 75 d_add_62 (by decide) (by decide) ?_
        exact (j75 _ kept tb hz ⟨⟨E_a, F_pages, F_last, F_pageBits, F_inPage, F_tables, F_tableSizes, F_bases, F_size, F_width, F_far⟩, BA, TB, V_la, V_pg, g_a, g_la⟩ hk1 (by omega) (by omega) (fun _ _ q => q) (fun c hc => Or.inl ⟨by rw [hc]; exact hlt, hc⟩)).more (by decide) (by decide)
      · refine Go.icT 65 d_add_56 (flt hlt).2.1 (by decide) (by decide) ?_
        refine Go.aloadN d_add_65 rfl rfl ?_
        refine Go.iloadN d_add_66 rfl ?_
        refine Go.bipush 9 d_add_67 rfl ?_
        refine Go.iushr d_add_69 ?_
        rw [show ((sz.toUInt32 >>> ((9 : Int32) &&& 31).toUInt32).toInt32) = (0 : Int32) from es.1]
        refine Go.iload d_add_70 rfl ?_
        -- at pc 72: pc 72: invokevirtual .invokevirtual 61 stack [(.int kept), (.int (0 : Int32)), (.ref a)]
        refine Go.callP (I' := IN) (hI := nQ) a [(.int (0 : Int32)), (.int kept)] [] (ct_held l Z a0 hw n0 a la pg tA ts ba kl kp kt ks kb bv b1 n pb ip (sz + 1) w cs tb kept _ hz hwd htb ⟨⟨E_a, F_pages, F_last, F_pageBits, F_inPage, F_tables, F_tableSizes, F_bases, F_size, F_width, F_far⟩, BA, TB, V_la, V_pg, g_a, g_la⟩) E_a (wd_63 hw) (wd_64 hw) (sel_priv2 (y := (⟨"com/example/wee_query/weequery/IntColumn$Builder", "held", "(II)C"⟩ : MethodName)) (show Ord Z "com/example/wee_query/weequery/IntColumn$Builder" from Ord.sel (wd_40 hw)) (wd_64 hw) (wd_65 hw) (by decide)) (wd_65 hw) (wd_3 hw) (wd_66 hw) (by decide) pd_1 rfl rfl rfl (Nat.le_of_ble_eq_true rfl) (Nat.le_of_ble_eq_true rfl) (Nat.le_of_ble_eq_true rfl) (Nat.le_of_ble_eq_true rfl) d_add_72 ?_
        rintro _ hp36 ⟨hz', tb', i, rfl, ⟨q1, q2, q3, q4⟩, hb'⟩
        show GM_add l Z n0 (QAdd Z n0 a la pg tA ts ba kl kp kt ks kb bv b0 n pb ip sz w cs tb value) hp36 1 4 75 #[.val (.ref a), .val (.int value), .val (.int above), .val (.int sz), .val (.int kept), .unset] [(.int (farOf w + Int32.ofNat i))]
        have top := own_top hwd i (by omega) _ rfl
        exact j75 _ _ tb' hz' hb' top.2.2.2.2.1 top.2.2.2.2.2 q3 q4 (fun c hc => Or.inr ⟨by rw [hc]; exact top.2.2.2.1, i, by omega, by rw [hc]; exact top.2.2.1, q2⟩)
    refine Go.aloadN d_add_26 rfl rfl ?_
    refine Go.getF (wd_48 hw) Via.refl F_bases d_add_27 ?_
    -- at pc 30: pc 30: ifnonnull of bv: split it ('!nul')
    rcases BA with rfl | ⟨rfl, g_ba, n_ba, V_ba⟩
    · skip
      refine Go.nnF d_add_30 ?_
      refine Go.iloadN d_add_33 rfl ?_
      refine Go.goto 48 d_add_34 (by decide) (by decide) ?_
      exact j48 value hv (by rw [if_pos rfl])
    · skip
      refine Go.nnT 37 d_add_30 (by decide) (by decide) ?_
      refine Go.iloadN d_add_37 rfl ?_
      refine Go.aloadN d_add_38 rfl rfl ?_
      refine Go.getF (wd_48 hw) Via.refl F_bases d_add_39 ?_
      refine Go.iloadN d_add_42 rfl ?_
      refine Go.bipush 9 d_add_43 rfl ?_
      refine Go.iushr d_add_45 ?_
      rw [show ((sz.toUInt32 >>> ((9 : Int32) &&& 31).toUInt32).toInt32) = (0 : Int32) from es.1]
      refine Go.iaload (.int b1) V_ba ⟨by decide, by decide⟩ rfl d_add_46 ?_
      refine Go.isub d_add_47 ?_
      refine j48 (value - b1) ?_ (by rw [if_neg nofun])
      by_cases h00 : sz = 0
      · rw [hb1 h00, Int32.sub_self]; decide
      · rw [hb2 h00]
        rcases hvb with q | q | q
        · exact absurd q nofun
        · exact absurd q h00
        · exact q
  have ne_la_a : la ≠ a := (Exa.neArv E_a V_la (wd_2 hw)).symm
  have ne_pg_a : pg ≠ a := (Exa.neArv E_a V_pg (wd_2 hw)).symm
  have E_a0 := E_a
  refine Go.aloadN d_add_0 rfl rfl ?_
  refine Go.dup d_add_1 rfl ?_
  refine Go.getF (wd_42 hw) Via.refl F_size d_add_2 ?_
  refine Go.dupX1 d_add_5 rfl rfl ?_
  refine Go.iconst 1 d_add_6 rfl ?_
  refine Go.iadd d_add_7 ?_
  refine Go.putF (I' := IN) (hI := nI) (wd_42 hw) Via.refl F_size E_a (Or.inl (wd_43 hw)) (wd_2 hw) (ty := .int) (by decide) rfl rfl g_a d_add_8 fun hp37 W37 => ?_
  have K37 := Keep.of_wr W37
  replace F_pages := F_pages.other W37 (Or.inr (slot_ne (Or.inl (wd_13 hw)) (Or.inl (wd_43 hw)) (by decide) (t := (.array (.array .char))) (t' := .int) (by decide) (by decide)))
  replace F_last := F_last.other W37 (Or.inr (slot_ne (Or.inl (wd_35 hw)) (Or.inl (wd_43 hw)) (by decide) (t := (.array .char)) (t' := .int) (by decide) (by decide)))
  replace F_pageBits := F_pageBits.other W37 (Or.inr (slot_ne (Or.inl (wd_30 hw)) (Or.inl (wd_43 hw)) (by decide) (t := .int) (t' := .int) (by decide) (by decide)))
  replace F_inPage := F_inPage.other W37 (Or.inr (slot_ne (Or.inl (wd_32 hw)) (Or.inl (wd_43 hw)) (by decide) (t := .int) (t' := .int) (by decide) (by decide)))
  replace F_tables := F_tables.other W37 (Or.inr (slot_ne (Or.inl (wd_17 hw)) (Or.inl (wd_43 hw)) (by decide) (t := (.array (.array .int))) (t' := .int) (by decide) (by decide)))
  replace F_tableSizes := F_tableSizes.other W37 (Or.inr (slot_ne (Or.inl (wd_20 hw)) (Or.inl (wd_43 hw)) (by decide) (t := (.array .int)) (t' := .int) (by decide) (by decide)))
  replace F_bases := F_bases.other W37 (Or.inr (slot_ne (Or.inl (wd_49 hw)) (Or.inl (wd_43 hw)) (by decide) (t := (.array .int)) (t' := .int) (by decide) (by decide)))
  replace F_size := F_size.same W37
  replace F_width := F_width.other W37 (Or.inr (slot_ne (Or.inr (wd_22 hw)) (Or.inl (wd_43 hw)) (by decide) (t := .int) (t' := .int) (by decide) (by decide)))
  replace F_far := F_far.other W37 (Or.inr (slot_ne (Or.inr (wd_28 hw)) (Or.inl (wd_43 hw)) (by decide) (t := .int) (t' := .int) (by decide) (by decide)))
  replace E_a := E_a.keep K37
  replace V_la := V_la.keep K37 (ninS ne_la_a nin0)
  replace V_pg := V_pg.keep K37 (ninS ne_pg_a nin0)
  replace hz : n0 ≤ hp37.size := Nat.le_trans hz K37.1
  refine Go.istoreN (Ls' := #[.val (.ref a), .val (.int value), .val (.int above), .val (.int sz), .unset, .unset]) d_add_11 rfl ?_
  refine Go.iloadN d_add_12 rfl ?_
  refine Go.sipush 511 d_add_13 rfl ?_
  refine Go.iand d_add_16 ?_
  -- at pc 17: pc 17: ifCond .ifCond .ne 9 stack [(.int (sz &&& (511 : Int32)))]
  replace TB := TB.keep1 K37 fun b k ty z vs dv V q => Exa.neArv E_a0 V (wd_2 hw)
  replace BA := BA.keep1 K37 fun k vs dv V q => Exa.neArv E_a0 V (wd_2 hw)
  by_cases h511 : (sz &&& (511 : Int32)) = (0 : Int32)
  · refine Go.ifF d_add_17 (teq h511).2 ?_
    have hs0 := es.2.2.2 h511
    refine Go.aloadN d_add_20 rfl rfl ?_
    refine Go.iloadN d_add_21 rfl ?_
    refine Go.iloadN d_add_22 rfl ?_
    -- at pc 23: pc 23: invokevirtual .invokevirtual 58 stack [(.int value), (.int sz), (.ref a)]
    refine Go.callP (I' := IN) (hI := nQ) a [(.int sz), (.int value)] [] (ct_stp' l Z a0 hw n0 a la pg tA ts ba kl kp kt ks kb bv b0 n pb ip (sz + 1) w cs tb sz hs0 value _ hz ⟨⟨E_a, F_pages, F_last, F_pageBits, F_inPage, F_tables, F_tableSizes, F_bases, F_size, F_width, F_far⟩, BA, TB, V_la, V_pg, g_a, g_la⟩) E_a (wd_44 hw) (wd_45 hw) (sel_priv2 (y := (⟨"com/example/wee_query/weequery/IntColumn$Builder", "startPart", "(II)V"⟩ : MethodName)) (show Ord Z "com/example/wee_query/weequery/IntColumn$Builder" from Ord.sel (wd_40 hw)) (wd_45 hw) (wd_46 hw) (by decide)) (wd_46 hw) (wd_3 hw) (wd_47 hw) (by decide) pd_2 rfl rfl rfl (Nat.le_of_ble_eq_true rfl) (Nat.le_of_ble_eq_true rfl) (Nat.le_of_ble_eq_true rfl) (Nat.le_of_ble_eq_true rfl) d_add_23 ?_
    rintro _ hp38 ⟨rfl, hz', hb'⟩
    show GM_add l Z n0 (QAdd Z n0 a la pg tA ts ba kl kp kt ks kb bv b0 n pb ip sz w cs tb value) hp38 0 0 26 #[.val (.ref a), .val (.int value), .val (.int above), .val (.int sz), .unset, .unset] []
    exact j26 _ value hz' hb' (fun _ => rfl) (fun q => absurd hs0 q)
  · refine Go.ifT 26 d_add_17 (feq h511).2 (by decide) (by decide) ?_
    exact j26 _ b0 hz ⟨⟨E_a, F_pages, F_last, F_pageBits, F_inPage, F_tables, F_tableSizes, F_bases, F_size, F_width, F_far⟩, BA, TB, V_la, V_pg, g_a, g_la⟩ (fun q => absurd (by rw [q]; decide) h511) (fun _ => rfl)
theorem d_get_0 : decode prog_25_method_2_code 0 = .ok (.iload_n 1, 1) := by decide +kernel
theorem d_get_1 : decode prog_25_method_2_code 1 = .ok (.bipush 9, 2) := by decide +kernel
theorem d_get_3 : decode prog_25_method_2_code 3 = .ok (.iushr, 1) := by decide +kernel
theorem d_get_4 : decode prog_25_method_2_code 4 = .ok (.istore_n 2, 1) := by decide +kernel
theorem d_get_5 : decode prog_25_method_2_code 5 = .ok (.aload_n 0, 1) := by decide +kernel
theorem d_get_6 : decode prog_25_method_2_code 6 = .ok (.getfield 11, 3) := by decide +kernel
theorem d_get_9 : decode prog_25_method_2_code 9 = .ok (.iload_n 1, 1) := by decide +kernel
theorem d_get_10 : decode prog_25_method_2_code 10 = .ok (.aload_n 0, 1) := by decide +kernel
theorem d_get_11 : decode prog_25_method_2_code 11 = .ok (.getfield 36, 3) := by decide +kernel
theorem d_get_14 : decode prog_25_method_2_code 14 = .ok (.iushr, 1) := by decide +kernel
theorem d_get_15 : decode prog_25_method_2_code 15 = .ok (.aaload, 1) := by decide +kernel
theorem d_get_16 : decode prog_25_method_2_code 16 = .ok (.iload_n 1, 1) := by decide +kernel
theorem d_get_17 : decode prog_25_method_2_code 17 = .ok (.aload_n 0, 1) := by decide +kernel
theorem d_get_18 : decode prog_25_method_2_code 18 = .ok (.getfield 39, 3) := by decide +kernel
theorem d_get_21 : decode prog_25_method_2_code 21 = .ok (.iand, 1) := by decide +kernel
theorem d_get_22 : decode prog_25_method_2_code 22 = .ok (.caload, 1) := by decide +kernel
theorem d_get_23 : decode prog_25_method_2_code 23 = .ok (.iconst 1, 1) := by decide +kernel
theorem d_get_24 : decode prog_25_method_2_code 24 = .ok (.aload_n 0, 1) := by decide +kernel
theorem d_get_25 : decode prog_25_method_2_code 25 = .ok (.getfield 26, 3) := by decide +kernel
theorem d_get_28 : decode prog_25_method_2_code 28 = .ok (.ishl, 1) := by decide +kernel
theorem d_get_29 : decode prog_25_method_2_code 29 = .ok (.iconst 1, 1) := by decide +kernel
theorem d_get_30 : decode prog_25_method_2_code 30 = .ok (.isub, 1) := by decide +kernel
theorem d_get_31 : decode prog_25_method_2_code 31 = .ok (.iand, 1) := by decide +kernel
theorem d_get_32 : decode prog_25_method_2_code 32 = .ok (.istore_n 3, 1) := by decide +kernel
theorem d_get_33 : decode prog_25_method_2_code 33 = .ok (.iload_n 3, 1) := by decide +kernel
theorem d_get_34 : decode prog_25_method_2_code 34 = .ok (.aload_n 0, 1) := by decide +kernel
theorem d_get_35 : decode prog_25_method_2_code 35 = .ok (.getfield 34, 3) := by decide +kernel
theorem d_get_38 : decode prog_25_method_2_code 38 = .ok (.if_icmp .lt 17, 3) := by decide +kernel
theorem d_get_41 : decode prog_25_method_2_code 41 = .ok (.aload_n 0, 1) := by decide +kernel
theorem d_get_42 : decode prog_25_method_2_code 42 = .ok (.getfield 19, 3) := by decide +kernel
theorem d_get_45 : decode prog_25_method_2_code 45 = .ok (.iload_n 2, 1) := by decide +kernel
theorem d_get_46 : decode prog_25_method_2_code 46 = .ok (.aaload, 1) := by decide +kernel
theorem d_get_47 : decode prog_25_method_2_code 47 = .ok (.iload_n 3, 1) := by decide +kernel
theorem d_get_48 : decode prog_25_method_2_code 48 = .ok (.aload_n 0, 1) := by decide +kernel
theorem d_get_49 : decode prog_25_method_2_code 49 = .ok (.getfield 34, 3) := by decide +kernel
theorem d_get_52 : decode prog_25_method_2_code 52 = .ok (.isub, 1) := by decide +kernel
theorem d_get_53 : decode prog_25_method_2_code 53 = .ok (.iaload, 1) := by decide +kernel
theorem d_get_54 : decode prog_25_method_2_code 54 = .ok (.istore_n 3, 1) := by decide +kernel
theorem d_get_55 : decode prog_25_method_2_code 55 = .ok (.aload_n 0, 1) := by decide +kernel
theorem d_get_56 : decode prog_25_method_2_code 56 = .ok (.getfield 45, 3) := by decide +kernel
theorem d_get_59 : decode prog_25_method_2_code 59 = .ok (.ifnonnull 7, 3) := by decide +kernel
theorem d_get_62 : decode prog_25_method_2_code 62 = .ok (.iload_n 3, 1) := by decide +kernel
theorem d_get_63 : decode prog_25_method_2_code 63 = .ok (.goto 11, 3) := by decide +kernel
theorem d_get_66 : decode prog_25_method_2_code 66 = .ok (.aload_n 0, 1) := by decide +kernel
theorem d_get_67 : decode prog_25_method_2_code 67 = .ok (.getfield 45, 3) := by decide +kernel
theorem d_get_70 : decode prog_25_method_2_code 70 = .ok (.iload_n 2, 1) := by decide +kernel
theorem d_get_71 : decode prog_25_method_2_code 71 = .ok (.iaload, 1) := by decide +kernel
theorem d_get_72 : decode prog_25_method_2_code 72 = .ok (.iload_n 3, 1) := by decide +kernel
theorem d_get_73 : decode prog_25_method_2_code 73 = .ok (.iadd, 1) := by decide +kernel
theorem d_get_74 : decode prog_25_method_2_code 74 = .ok (.ireturn, 1) := by decide +kernel
abbrev R_get : Room := ({ frames := 0, cells := 0, slots := 0, locals := 0 } : Room)
abbrev GM_get (l : Launch) (Z : State) (n0 : Nat) (Q : Option Value → Heap → Prop) (h : Heap) (cells slots pc : Nat) (Ls : Array Slot) (st : List Value) : Prop := Go l Z n0 R_get "com/example/wee_query/weequery/IntColumn$Builder" "get" prog_25_method_2_code 4 (some .int) IN (FN n0 R_get Q) h cells slots pc Ls st
theorem pf_get : plainFor (⟨"com/example/wee_query/weequery/IntColumn$Builder", "get", "(I)I"⟩ : MethodName) = true := plainFor_of_name (by first | (simp [plainName, overriddenIn]; done) | decide +kernel)
theorem own_get {j pb : Int32} (h : j = 0 ∨ j = 1 ∨ j = 2) (hpb : pb = 9 ∨ pb = 31) : ((j.toUInt32 >>> (pb &&& 31).toUInt32).toInt32) = 0 := by
  rcases h with rfl | rfl | rfl <;> rcases hpb with rfl | rfl <;> decide
theorem own_tab {tb : List Int32} {i : Nat} {x : Int32} (h : tb[i]? = some x) : ((tb ++ List.replicate (4 - tb.length) (0 : Int32)).map Value.int).getD i (.int (0 : Int32)) = .int x := by
  have hi := (List.getElem?_eq_some_iff.mp h).1
  rw [List.getD_eq_getElem?_getD, List.getElem?_map, List.getElem?_append_left hi, h]
  rfl
theorem own_i4 {i : Nat} (h : i ≤ 2) : ¬ Int32.ofNat i < 0 ∧ Int32.ofNat i < 4 ∧ (Int32.ofNat i).toNatClampNeg = i := by
  rcases (by omega : i = 0 ∨ i = 1 ∨ i = 2) with rfl | rfl | rfl <;> decide
set_option maxRecDepth 65536 in
set_option maxHeartbeats 40000000 in
theorem ct_get (l : Launch) (Z : State) (a0 : Array Value) (hw : ∀ d ∈ tables_1, d.before a0 Z = true) (n0 : Nat) (a la pg tA ts ba : Addr) (kl kp kt ks kb : ClassId) (bv : Value) (b0 n pb ip sz w : Int32) (cs : List Value) (tb : List Int32) (j c kept : Int32) (h0 : Heap) (hj : j = 0 ∨ j = 1 ∨ j = 2) (hpb : pb = 9 ∨ pb = 31) (hip : ip = 511 ∨ ip = 2147483647) (hn : ¬ n < 3) (hc : cs.getD j.toNatClampNeg (.int (0 : Int32)) = .int c) (D : Dec w c tb kept) (hb : Bld Z n0 h0 a la pg tA ts ba kl kp kt ks kb bv b0 n pb ip sz w cs tb) :
    Ct l Z n0 "com/example/wee_query/weequery/IntColumn$Builder" "get" "(I)I" [] prog_25_method_2_code 4 (some .int) R_get #[.ref a, .int j] h0 (fun v h => v = some (.int (if bv = .null then kept else b0 + kept)) ∧ h0 = h) := by
  obtain ⟨⟨E_a, F_pages, F_last, F_pageBits, F_inPage, F_tables, F_tableSizes, F_bases, F_size, F_width, F_far⟩, BA, ⟨g_tA, g_ts, O_tA, V_ts, TB⟩, V_la, V_pg, g_a, g_la⟩ := hb
  have hbv := BA.isRef
  have es := own_sz hj
  refine Ct.of_go pf_get (Ls := #[.val (.ref a), .val (.int j), .unset, .unset]) (fun m => by first | rfl | (simp [entryFrame, mkF, argsToLocals, Value.category]; done)) ?_
  show GM_get l Z n0 (fun v h => v = some (.int (if bv = .null then kept else b0 + kept)) ∧ h0 = h) h0 0 0 0 #[.val (.ref a), .val (.int j), .unset, .unset] []
  refine Go.iloadN d_get_0 rfl ?_
  refine Go.bipush 9 d_get_1 rfl ?_
  refine Go.iushr d_get_3 ?_
  rw [show ((j.toUInt32 >>> ((9 : Int32) &&& 31).toUInt32).toInt32) = (0 : Int32) from es.1]
  refine Go.istoreN (Ls' := #[.val (.ref a), .val (.int j), .val (.int (0 : Int32)), .unset]) d_get_4 rfl ?_
  refine Go.aloadN d_get_5 rfl rfl ?_
  refine Go.getF (wd_12 hw) Via.refl F_pages d_get_6 ?_
  refine Go.iloadN d_get_9 rfl ?_
  refine Go.aloadN d_get_10 rfl rfl ?_
  refine Go.getF (wd_29 hw) Via.refl F_pageBits d_get_11 ?_
  refine Go.iushr d_get_14 ?_
  rw [show ((j.toUInt32 >>> (pb &&& 31).toUInt32).toInt32) = (0 : Int32) from (own_get hj hpb)]
  refine Go.aaload (.ref la) V_pg rfl ⟨by decide, by decide⟩ rfl d_get_15 ?_
  refine Go.iloadN d_get_16 rfl ?_
  refine Go.aloadN d_get_17 rfl rfl ?_
  refine Go.getF (wd_31 hw) Via.refl F_inPage d_get_18 ?_
  refine Go.iand d_get_21 ?_
  rw [show (j &&& ip) = j from (own_ip hj hip)]
  refine Go.caload (.int c) V_la ⟨es.2.1, own_ltn hj hn⟩ hc d_get_22 ?_
  refine Go.iconst 1 d_get_23 rfl ?_
  refine Go.aloadN d_get_24 rfl rfl ?_
  refine Go.getF (wd_21 hw) Via.refl F_width d_get_25 ?_
  refine Go.ishl d_get_28 ?_
  refine Go.iconst 1 d_get_29 rfl ?_
  refine Go.isub d_get_30 ?_
  refine Go.iand d_get_31 ?_
  generalize hg_vv : (c &&& (((1 : Int32) <<< (w &&& 31)) - (1 : Int32))) = vv
  refine Go.istoreN (Ls' := #[.val (.ref a), .val (.int j), .val (.int (0 : Int32)), .val (.int vv)]) d_get_32 rfl ?_
  have j55 : GM_get l Z n0 (fun v h => v = some (.int (if bv = .null then kept else b0 + kept)) ∧ h0 = h) h0 0 0 55 #[.val (.ref a), .val (.int j), .val (.int (0 : Int32)), .val (.int kept)] [] := by
    refine Go.aloadN d_get_55 rfl rfl ?_
    refine Go.getF (wd_48 hw) Via.refl F_bases d_get_56 ?_
    -- at pc 59: pc 59: ifnonnull of bv: split it ('!nul')
    rcases BA with rfl | ⟨rfl, g_ba, n_ba, V_ba⟩
    · skip
      refine Go.nnF d_get_59 ?_
      refine Go.iloadN d_get_62 rfl ?_
      refine Go.goto 74 d_get_63 (by decide) (by decide) ?_
      -- at pc 74: pc 74: ireturn .ireturn stack [(.int kept)]
      exact Go.ireturn d_get_74 rfl (by decide) (by decide) ⟨by rw [if_pos rfl], rfl⟩
    · skip
      refine Go.nnT 66 d_get_59 (by decide) (by decide) ?_
      refine Go.aloadN d_get_66 rfl rfl ?_
      refine Go.getF (wd_48 hw) Via.refl F_bases d_get_67 ?_
      refine Go.iloadN d_get_70 rfl ?_
      refine Go.iaload (.int b0) V_ba ⟨by decide, by decide⟩ rfl d_get_71 ?_
      refine Go.iloadN d_get_72 rfl ?_
      refine Go.iadd d_get_73 ?_
      -- at pc 74: pc 74: ireturn .ireturn stack [(.int (b0 + kept))]
      exact Go.ireturn d_get_74 rfl (by decide) (by decide) ⟨by rw [if_neg nofun], rfl⟩
  obtain ⟨d1, d2⟩ | ⟨d1, i, d2, d3, d4⟩ := D
  · rw [show c &&& mkOf w = vv from hg_vv] at d1 d2
    subst d2
    refine Go.iloadN d_get_33 rfl ?_
    refine Go.aloadN d_get_34 rfl rfl ?_
    refine Go.getF (wd_27 hw) Via.refl F_far d_get_35 ?_
    -- at pc 38: pc 38: if_icmp .if_icmp .lt 17 stack [(.int (farOf w)), (.int vv)]
    -- vv < (farOf w)
    refine Go.icT 55 d_get_38 (tlt (d1)).1 (by decide) (by decide) ?_
    exact j55
  · skip
    rw [show c &&& mkOf w = vv from hg_vv] at d1 d3
    refine Go.iloadN d_get_33 rfl ?_
    refine Go.aloadN d_get_34 rfl rfl ?_
    refine Go.getF (wd_27 hw) Via.refl F_far d_get_35 ?_
    -- at pc 38: pc 38: if_icmp .if_icmp .lt 17 stack [(.int (farOf w)), (.int vv)]
    -- not: vv < (farOf w)
    refine Go.icF d_get_38 (flt (d1)).1 ?_
    obtain ⟨e, -⟩ | ⟨-, ta, kk, g_ta, E_ta, V_tA, V_ta⟩ := TB
    · rw [e] at d4; simp at d4
    · skip
      refine Go.aloadN d_get_41 rfl rfl ?_
      refine Go.getF (wd_16 hw) Via.refl F_tables d_get_42 ?_
      refine Go.iloadN d_get_45 rfl ?_
      refine Go.aaload (.ref ta) V_tA rfl ⟨by decide, by decide⟩ rfl d_get_46 ?_
      refine Go.iloadN d_get_47 rfl ?_
      refine Go.aloadN d_get_48 rfl rfl ?_
      refine Go.getF (wd_27 hw) Via.refl F_far d_get_49 ?_
      refine Go.isub d_get_52 ?_
      rw [show (vv - (farOf w)) = (Int32.ofNat i) from d3]
      refine Go.iaload (.int kept) V_ta ⟨(own_i4 d2).1, (own_i4 d2).2.1⟩ (by rw [(own_i4 d2).2.2]; exact own_tab d4) d_get_53 ?_
      refine Go.istoreN (Ls' := #[.val (.ref a), .val (.int j), .val (.int (0 : Int32)), .val (.int kept)]) d_get_54 rfl ?_
      exact j55

abbrev R_law : Room := room_1
abbrev GM_law (l : Launch) (Z : State) (n0 : Nat) (Q : Option Value → Heap → Prop) (h : Heap) (cells slots pc : Nat) (Ls : Array Slot) (st : List Value) : Prop := Go l Z n0 R_law "com/example/wee_query/weequery/IntColumnGetPinLaw" "law" code maxLocals ret IN (FN n0 R_law Q) h cells slots pc Ls st
theorem pf_law : plainFor (⟨"com/example/wee_query/weequery/IntColumnGetPinLaw", "law", "(IIIIII)Z"⟩ : MethodName) = true := plainFor_of_name (by first | (simp [plainName, overriddenIn]; done) | decide +kernel)
theorem own_width (m : Int32) : Wd ((11 : Int32) + ((((m.toUInt32 >>> ((1 : Int32) &&& 31).toUInt32).toInt32) &&& 2147483647) % 6)) := by
  generalize ((m.toUInt32 >>> ((1 : Int32) &&& 31).toUInt32).toInt32) = x
  have h1 := c_mask x 2147483647 31 (by decide) (by decide)
  have h2 := (c_irem (x &&& 2147483647) 6 6 rfl).1 (by omega)
  generalize ((x &&& 2147483647) % 6) = y at *
  have hy : y = 0 ∨ y = 1 ∨ y = 2 ∨ y = 3 ∨ y = 4 ∨ y = 5 := by
    have : y.toInt = 0 ∨ y.toInt = 1 ∨ y.toInt = 2 ∨ y.toInt = 3 ∨ y.toInt = 4 ∨ y.toInt = 5 := by omega
    rcases this with h | h | h | h | h | h
    · exact Or.inl (Int32.toInt_inj.mp h)
    · exact Or.inr (Or.inl (Int32.toInt_inj.mp h))
    · exact Or.inr (Or.inr (Or.inl (Int32.toInt_inj.mp h)))
    · exact Or.inr (Or.inr (Or.inr (Or.inl (Int32.toInt_inj.mp h))))
    · exact Or.inr (Or.inr (Or.inr (Or.inr (Or.inl (Int32.toInt_inj.mp h)))))
    · exact Or.inr (Or.inr (Or.inr (Or.inr (Or.inr (Int32.toInt_inj.mp h)))))
  unfold Wd
  rcases hy with rfl | rfl | rfl | rfl | rfl | rfl <;> decide
theorem own_nn (x m : Int32) (hm : m = 2047 ∨ m = 65535 ∨ m = 2147483647) : ¬ (x &&& m) < 0 := by
  have h := (c_and x m (by rcases hm with rfl | rfl | rfl <;> decide)).1
  rw [lt0]; have e0 : (0 : Int32).toInt = 0 := rfl; omega
theorem own_capb (x : Int32) : ¬ ((3 : Int32) + (x &&& 15)) < 3 ∧ ¬ 18 < ((3 : Int32) + (x &&& 15)) := by
  have h := c_and x 15 (by decide)
  have e15 : (15 : Int32).toInt = 15 := rfl
  have e3 : (3 : Int32).toInt = 3 := rfl
  have e18 : (18 : Int32).toInt = 18 := rfl
  have c := c_iadd 3 (x &&& 15)
  have r := rng32 (3 + (x &&& 15))
  rw [lt0, lt0]
  omega
theorem own_sub {x y : Int32} (hx : ¬ x < 0) (hy : ¬ y < 0) (h : ¬ x < y) : ¬ x - y < 0 := by
  have c := c_isub x y
  have r := rng32 (x - y)
  have rx := rng32 x
  have ry := rng32 y
  have e0 : (0 : Int32).toInt = 0 := rfl
  rw [lt0] at *
  omega
theorem own_back {b x : Int32} : b + (x - b) = x := by rw [Int32.add_comm, Int32.sub_add_cancel]
abbrev mn (x y : Int32) : Int32 := if y < x then y else x
abbrev mx (x y : Int32) : Int32 := if x < y then y else x
theorem own_sorted {x y z : Int32} (hx : ¬ x < 0) (hy : ¬ y < 0) (hz : ¬ z < 0) : ¬ mn x (mn y z) < 0 ∧ ¬ mx x (mx y z) < 0 ∧ ¬ mx (mn x y) (mn (mx x y) z) < 0 ∧ ¬ mx (mn x y) (mn (mx x y) z) < mn x (mn y z) ∧ ¬ mx x (mx y z) < mn x (mn y z) := by
  simp only [mn, mx, lt0] at *
  refine ⟨?_, ?_, ?_, ?_, ?_⟩ <;> (repeat' split) <;> omega
set_option maxRecDepth 65536 in
set_option maxHeartbeats 40000000 in
theorem ct_law (l : Launch) (Z : State) (a0 : Array Value) (hw : ∀ d ∈ tables_1, d.before a0 Z = true) (n0 : Nat) (p0 p1 p2 p3 p4 p5 : Int32) (h0 : Heap) (hz : n0 ≤ h0.size) :
    Ct l Z n0 "com/example/wee_query/weequery/IntColumnGetPinLaw" "law" "(IIIIII)Z" tables_1 code maxLocals ret R_law #[.int p0, .int p1, .int p2, .int p3, .int p4, .int p5] h0 (fun v _ => v = some (.int 1)) := by
  refine Ct.of_go pf_law (Ls := #[.val (.int p0), .val (.int p1), .val (.int p2), .val (.int p3), .val (.int p4), .val (.int p5), .unset, .unset, .unset, .unset, .unset, .unset, .unset, .unset, .unset, .unset, .unset, .unset, .unset]) (fun m => by first | rfl | (simp [entryFrame, mkF, argsToLocals, Value.category, maxLocals]; done)) ?_
  show GM_law l Z n0 (fun v _ => v = some (.int 1)) h0 0 0 0 #[.val (.int p0), .val (.int p1), .val (.int p2), .val (.int p3), .val (.int p4), .val (.int p5), .unset, .unset, .unset, .unset, .unset, .unset, .unset, .unset, .unset, .unset, .unset, .unset, .unset] []
  have j12 : ∀ asc : Int32, GM_law l Z n0 (fun v _ => v = some (.int 1)) h0 0 0 12 #[.val (.int p0), .val (.int p1), .val (.int p2), .val (.int p3), .val (.int p4), .val (.int p5), .unset, .unset, .unset, .unset, .unset, .unset, .unset, .unset, .unset, .unset, .unset, .unset, .unset] [.int asc] := by
    intro asc
    refine Go.istore (Ls' := #[.val (.int p0), .val (.int p1), .val (.int p2), .val (.int p3), .val (.int p4), .val (.int p5), .val (.int asc), .unset, .unset, .unset, .unset, .unset, .unset, .unset, .unset, .unset, .unset, .unset, .unset]) at_12 rfl ?_
    refine Go.bipush 11 at_14 rfl ?_
    refine Go.iload at_16 rfl ?_
    refine Go.iconst 1 at_18 rfl ?_
    refine Go.iushr at_19 ?_
    refine Go.ldc (wd_0 hw) at_20 ?_
    refine Go.iand at_22 ?_
    refine Go.bipush 6 at_23 rfl ?_
    refine Go.irem at_25 (by decide) ?_
    refine Go.iadd at_26 ?_
    have hwd := own_width p4
    generalize hg_w : ((11 : Int32) + ((((p4.toUInt32 >>> ((1 : Int32) &&& 31).toUInt32).toInt32) &&& (2147483647 : Int32)) % (6 : Int32))) = w
    rw [hg_w] at hwd
    refine Go.istore (Ls' := #[.val (.int p0), .val (.int p1), .val (.int p2), .val (.int p3), .val (.int p4), .val (.int p5), .val (.int asc), .val (.int w), .unset, .unset, .unset, .unset, .unset, .unset, .unset, .unset, .unset, .unset, .unset]) at_27 rfl ?_
    refine Go.iload at_29 rfl ?_
    refine Go.bipush 8 at_31 rfl ?_
    refine Go.iushr at_33 ?_
    refine Go.iconst 3 at_34 rfl ?_
    refine Go.iand at_35 ?_
    generalize hg_sel : (((p4.toUInt32 >>> ((8 : Int32) &&& 31).toUInt32).toInt32) &&& (3 : Int32)) = sel
    refine Go.istore (Ls' := #[.val (.int p0), .val (.int p1), .val (.int p2), .val (.int p3), .val (.int p4), .val (.int p5), .val (.int asc), .val (.int w), .val (.int sel), .unset, .unset, .unset, .unset, .unset, .unset, .unset, .unset, .unset, .unset]) at_36 rfl ?_
    have j62 : ∀ mask : Int32, (mask = 2047 ∨ mask = 65535 ∨ mask = 2147483647) → GM_law l Z n0 (fun v _ => v = some (.int 1)) h0 0 0 62 #[.val (.int p0), .val (.int p1), .val (.int p2), .val (.int p3), .val (.int p4), .val (.int p5), .val (.int asc), .val (.int w), .val (.int sel), .unset, .unset, .unset, .unset, .unset, .unset, .unset, .unset, .unset, .unset] [.int mask] := by
      intro mask hmask
      refine Go.istore (Ls' := #[.val (.int p0), .val (.int p1), .val (.int p2), .val (.int p3), .val (.int p4), .val (.int p5), .val (.int asc), .val (.int w), .val (.int sel), .val (.int mask), .unset, .unset, .unset, .unset, .unset, .unset, .unset, .unset, .unset]) at_62 rfl ?_
      refine Go.iloadN at_64 rfl ?_
      refine Go.iload at_65 rfl ?_
      refine Go.iand at_67 ?_
      have hx := own_nn p0 mask hmask
      generalize hg_x : (p0 &&& mask) = x
      rw [hg_x] at hx
      refine Go.istore (Ls' := #[.val (.int p0), .val (.int p1), .val (.int p2), .val (.int p3), .val (.int p4), .val (.int p5), .val (.int asc), .val (.int w), .val (.int sel), .val (.int mask), .val (.int x), .unset, .unset, .unset, .unset, .unset, .unset, .unset, .unset]) at_68 rfl ?_
      refine Go.iloadN at_70 rfl ?_
      refine Go.iload at_71 rfl ?_
      refine Go.iand at_73 ?_
      have hy := own_nn p1 mask hmask
      generalize hg_y : (p1 &&& mask) = y
      rw [hg_y] at hy
      refine Go.istore (Ls' := #[.val (.int p0), .val (.int p1), .val (.int p2), .val (.int p3), .val (.int p4), .val (.int p5), .val (.int asc), .val (.int w), .val (.int sel), .val (.int mask), .val (.int x), .val (.int y), .unset, .unset, .unset, .unset, .unset, .unset, .unset]) at_74 rfl ?_
      refine Go.iloadN at_76 rfl ?_
      refine Go.iload at_77 rfl ?_
      refine Go.iand at_79 ?_
      have hzz := own_nn p2 mask hmask
      generalize hg_z : (p2 &&& mask) = z
      rw [hg_z] at hzz
      refine Go.istore (Ls' := #[.val (.int p0), .val (.int p1), .val (.int p2), .val (.int p3), .val (.int p4), .val (.int p5), .val (.int asc), .val (.int w), .val (.int sel), .val (.int mask), .val (.int x), .val (.int y), .val (.int z), .unset, .unset, .unset, .unset, .unset, .unset]) at_80 rfl ?_
      have j154 : ∀ v0 v1 v2 : Int32, ¬ v0 < 0 → ¬ v1 < 0 → ¬ v2 < 0 → (asc = 0 ∨ (¬ v1 < v0 ∧ ¬ v2 < v0)) → GM_law l Z n0 (fun v _ => v = some (.int 1)) h0 0 0 154 #[.val (.int p0), .val (.int p1), .val (.int p2), .val (.int p3), .val (.int p4), .val (.int p5), .val (.int asc), .val (.int w), .val (.int sel), .val (.int mask), .val (.int x), .val (.int y), .val (.int z), .val (.int v0), .val (.int v1), .val (.int v2), .unset, .unset, .unset] [] := by
        intro v0 v1 v2 n_v0 n_v1 n_v2 hsort
        have j174 : ∀ cap : Int32, (cap = 0 ∨ (¬ cap < 3 ∧ ¬ 18 < cap)) → GM_law l Z n0 (fun v _ => v = some (.int 1)) h0 0 0 174 #[.val (.int p0), .val (.int p1), .val (.int p2), .val (.int p3), .val (.int p4), .val (.int p5), .val (.int asc), .val (.int w), .val (.int sel), .val (.int mask), .val (.int x), .val (.int y), .val (.int z), .val (.int v0), .val (.int v1), .val (.int v2), .unset, .unset, .unset] [.int cap] := by
          intro cap hcap
          refine Go.istore (Ls' := #[.val (.int p0), .val (.int p1), .val (.int p2), .val (.int p3), .val (.int p4), .val (.int p5), .val (.int asc), .val (.int w), .val (.int sel), .val (.int mask), .val (.int x), .val (.int y), .val (.int z), .val (.int v0), .val (.int v1), .val (.int v2), .val (.int cap), .unset, .unset]) at_174 rfl ?_
          refine Go.iconst 1 at_176 rfl ?_
          refine Go.bipush 16 at_177 rfl ?_
          refine Go.iload at_179 rfl ?_
          refine Go.isub at_181 ?_
          refine Go.ishl at_182 ?_
          refine Go.iconst 1 at_183 rfl ?_
          refine Go.isub at_184 ?_
          generalize hg_mm : (((1 : Int32) <<< (((16 : Int32) - w) &&& 31)) - (1 : Int32)) = mm
          refine Go.istore (Ls' := #[.val (.int p0), .val (.int p1), .val (.int p2), .val (.int p3), .val (.int p4), .val (.int p5), .val (.int asc), .val (.int w), .val (.int sel), .val (.int mask), .val (.int x), .val (.int y), .val (.int z), .val (.int v0), .val (.int v1), .val (.int v2), .val (.int cap), .val (.int mm), .unset]) at_185 rfl ?_
          -- at pc 187: pc 187: new .new 18 stack []
          refine Go.new (I' := IN) (hI := nE) (wd_1 hw) (wd_2 hw) (wd_3 hw) at_187 (by decide) (by decide) fun hp39 a e_a X39 E_a D39 => ?_
          have K39 : Keep h0 hp39 [] := (Keep.refl _ _).ext X39
          have g_a : n0 ≤ a := e_a ▸ hz
          have F_a_pages : Fld Z hp39 a "com/example/wee_query/weequery/IntColumn$Builder" "pages" "[[C" .null := D39 (Or.inl (wd_13 hw)) (ty := (.array (.array .char))) (by decide)
          have F_a_tables : Fld Z hp39 a "com/example/wee_query/weequery/IntColumn$Builder" "tables" "[[I" .null := D39 (Or.inl (wd_17 hw)) (ty := (.array (.array .int))) (by decide)
          have F_a_tableSizes : Fld Z hp39 a "com/example/wee_query/weequery/IntColumn$Builder" "tableSizes" "[I" .null := D39 (Or.inl (wd_20 hw)) (ty := (.array .int)) (by decide)
          have F_a_width : Fld Z hp39 a "com/example/wee_query/weequery/IntColumn$Builder" "width" "I" (.int (0 : Int32)) := D39 (Or.inr (wd_22 hw)) (ty := .int) (by decide)
          have F_a_far : Fld Z hp39 a "com/example/wee_query/weequery/IntColumn$Builder" "far" "I" (.int (0 : Int32)) := D39 (Or.inr (wd_28 hw)) (ty := .int) (by decide)
          have F_a_pageBits : Fld Z hp39 a "com/example/wee_query/weequery/IntColumn$Builder" "pageBits" "I" (.int (0 : Int32)) := D39 (Or.inl (wd_30 hw)) (ty := .int) (by decide)
          have F_a_inPage : Fld Z hp39 a "com/example/wee_query/weequery/IntColumn$Builder" "inPage" "I" (.int (0 : Int32)) := D39 (Or.inl (wd_32 hw)) (ty := .int) (by decide)
          have F_a_last : Fld Z hp39 a "com/example/wee_query/weequery/IntColumn$Builder" "last" "[C" .null := D39 (Or.inl (wd_35 hw)) (ty := (.array .char)) (by decide)
          have F_a_size : Fld Z hp39 a "com/example/wee_query/weequery/IntColumn$Builder" "size" "I" (.int (0 : Int32)) := D39 (Or.inl (wd_43 hw)) (ty := .int) (by decide)
          have F_a_bases : Fld Z hp39 a "com/example/wee_query/weequery/IntColumn$Builder" "bases" "[I" .null := D39 (Or.inl (wd_49 hw)) (ty := (.array .int)) (by decide)
          replace hz : n0 ≤ hp39.size := Nat.le_trans hz K39.1
          refine Go.dup at_190 rfl ?_
          refine Go.iload at_191 rfl ?_
          refine Go.iload at_193 rfl ?_
          refine Go.iload at_195 rfl ?_
          -- at pc 197: pc 197: invokespecial .invokespecial 20 stack [(.int cap), (.int w), (.int asc), (.ref a), (.ref a)]
          refine Go.callI (I' := IN) (hI := nQ) a [(.int asc), (.int w), (.int cap)] [(.ref a)] (ct_binit l Z a0 hw n0 a asc w cap _ hz g_a hcap E_a F_a_pages F_a_last F_a_pageBits F_a_inPage F_a_tables F_a_tableSizes F_a_bases F_a_size F_a_width F_a_far) (wd_4 hw) (wd_5 hw) (wd_3 hw) (wd_6 hw) (by decide) pd_3 rfl rfl rfl (Nat.le_of_ble_eq_true rfl) (Nat.le_of_ble_eq_true rfl) (Nat.le_of_ble_eq_true rfl) (Nat.le_of_ble_eq_true rfl) at_197 ?_
          rintro _ hp40 ⟨rfl, hz1, la, pg, tA, ts, ba, kl, kp, kt, ks, kb, bv, n, pb, ip, hb0, hbn, hbr, hpb, hip, hn⟩
          show GM_law l Z n0 (fun v _ => v = some (.int 1)) hp40 6 526 200 #[.val (.int p0), .val (.int p1), .val (.int p2), .val (.int p3), .val (.int p4), .val (.int p5), .val (.int asc), .val (.int w), .val (.int sel), .val (.int mask), .val (.int x), .val (.int y), .val (.int z), .val (.int v0), .val (.int v1), .val (.int v2), .val (.int cap), .val (.int mm), .unset] [(.ref a)]
          have hbv : bv = .null ∨ (bv ≠ .null ∧ ¬ v1 < v0 ∧ ¬ v2 < v0) := by
            by_cases ha : asc = 0
            · exact Or.inl (hbn ha)
            · exact Or.inr ⟨by rw [hbr ha]; nofun, hsort.resolve_left ha⟩
          have E_a := hb0.1.1
          refine Go.astore (Ls' := #[.val (.int p0), .val (.int p1), .val (.int p2), .val (.int p3), .val (.int p4), .val (.int p5), .val (.int asc), .val (.int w), .val (.int sel), .val (.int mask), .val (.int x), .val (.int y), .val (.int z), .val (.int v0), .val (.int v1), .val (.int v2), .val (.int cap), .val (.int mm), .val (.ref a)]) at_200 rfl rfl ?_
          refine Go.aload at_202 rfl rfl ?_
          refine Go.iload at_204 rfl ?_
          refine Go.iloadN at_206 rfl ?_
          refine Go.iload at_207 rfl ?_
          refine Go.iand at_209 ?_
          -- at pc 210: pc 210: invokevirtual .invokevirtual 23 stack [(.int (p3 &&& mm)), (.int v0), (.ref a)]
          refine Go.callV (I' := IN) (hI := nQ) a [(.int v0), (.int (p3 &&& mm))] [] (ct_add l Z a0 hw n0 a la pg tA ts ba kl kp kt ks kb bv 0 n pb ip 0 w _ [] v0 _ _ hz1 hwd (Or.inl rfl) (by decide) hip hn rfl n_v0 (Or.inr (Or.inl rfl)) hb0) E_a (wd_37 hw) (wd_38 hw) (nf_sel (wd_40 hw)) (wd_40 hw) (wd_39 hw) (wd_3 hw) (wd_41 hw) (by decide) pd_2 rfl rfl rfl (Nat.le_of_ble_eq_true rfl) (Nat.le_of_ble_eq_true rfl) (Nat.le_of_ble_eq_true rfl) (Nat.le_of_ble_eq_true rfl) at_210 ?_
          rintro _ hp41 ⟨rfl, hz2, c0, b1, tb1, hb1, e1, -, q1, -, D0⟩
          show GM_law l Z n0 (fun v _ => v = some (.int 1)) hp41 7 530 213 #[.val (.int p0), .val (.int p1), .val (.int p2), .val (.int p3), .val (.int p4), .val (.int p5), .val (.int asc), .val (.int w), .val (.int sel), .val (.int mask), .val (.int x), .val (.int y), .val (.int z), .val (.int v0), .val (.int v1), .val (.int v2), .val (.int cap), .val (.int mm), .val (.ref a)] []
          have e1 := (e1 rfl).symm
          subst e1
          have E_a := hb1.1.1
          refine Go.aload at_213 rfl rfl ?_
          refine Go.iload at_215 rfl ?_
          refine Go.iloadN at_217 rfl ?_
          refine Go.iconst 5 at_218 rfl ?_
          refine Go.iushr at_219 ?_
          refine Go.iload at_220 rfl ?_
          refine Go.iand at_222 ?_
          -- at pc 223: pc 223: invokevirtual .invokevirtual 23 stack [(.int (((p3.toUInt32 >>> ((5 : Int32) &&& 31).toUInt32).toInt32) &&& mm)), (.int v1), (.ref a)]
          refine Go.callV (I' := IN) (hI := nQ) a [(.int v1), (.int (((p3.toUInt32 >>> ((5 : Int32) &&& 31).toUInt32).toInt32) &&& mm))] [] (ct_add l Z a0 hw n0 a la pg tA ts ba kl kp kt ks kb bv v0 n pb ip (0 + 1) w _ tb1 v1 _ _ hz2 hwd (Or.inr (Or.inl rfl)) (by simp at q1; omega) hip hn rfl n_v1 (hbv.imp id fun q => Or.inr (own_sub n_v1 n_v0 q.2.1)) hb1) E_a (wd_37 hw) (wd_38 hw) (nf_sel (wd_40 hw)) (wd_40 hw) (wd_39 hw) (wd_3 hw) (wd_41 hw) (by decide) pd_2 rfl rfl rfl (Nat.le_of_ble_eq_true rfl) (Nat.le_of_ble_eq_true rfl) (Nat.le_of_ble_eq_true rfl) (Nat.le_of_ble_eq_true rfl) at_223 ?_
          rintro _ hp42 ⟨rfl, hz3, c1, b2, tb2, hb2, -, e2, q2, m2, D1⟩
          show GM_law l Z n0 (fun v _ => v = some (.int 1)) hp42 8 534 226 #[.val (.int p0), .val (.int p1), .val (.int p2), .val (.int p3), .val (.int p4), .val (.int p5), .val (.int asc), .val (.int w), .val (.int sel), .val (.int mask), .val (.int x), .val (.int y), .val (.int z), .val (.int v0), .val (.int v1), .val (.int v2), .val (.int cap), .val (.int mm), .val (.ref a)] []
          have e2 := (e2 (by decide)).symm
          subst e2
          have E_a := hb2.1.1
          refine Go.aload at_226 rfl rfl ?_
          refine Go.iload at_228 rfl ?_
          refine Go.iloadN at_230 rfl ?_
          refine Go.bipush 10 at_231 rfl ?_
          refine Go.iushr at_233 ?_
          refine Go.iload at_234 rfl ?_
          refine Go.iand at_236 ?_
          -- at pc 237: pc 237: invokevirtual .invokevirtual 23 stack [(.int (((p3.toUInt32 >>> ((10 : Int32) &&& 31).toUInt32).toInt32) &&& mm)), (.int v2), (.ref a)]
          refine Go.callV (I' := IN) (hI := nQ) a [(.int v2), (.int (((p3.toUInt32 >>> ((10 : Int32) &&& 31).toUInt32).toInt32) &&& mm))] [] (ct_add l Z a0 hw n0 a la pg tA ts ba kl kp kt ks kb bv v0 n pb ip (0 + 1 + 1) w _ tb2 v2 _ _ hz3 hwd (Or.inr (Or.inr rfl)) (by simp at q1; omega) hip hn rfl n_v2 (hbv.imp id fun q => Or.inr (own_sub n_v2 n_v0 q.2.2)) hb2) E_a (wd_37 hw) (wd_38 hw) (nf_sel (wd_40 hw)) (wd_40 hw) (wd_39 hw) (wd_3 hw) (wd_41 hw) (by decide) pd_2 rfl rfl rfl (Nat.le_of_ble_eq_true rfl) (Nat.le_of_ble_eq_true rfl) (Nat.le_of_ble_eq_true rfl) (Nat.le_of_ble_eq_true rfl) at_237 ?_
          rintro _ hp43 ⟨rfl, hz4, c2, b3, tb3, hb3, -, e3, q3, m3, D2⟩
          show GM_law l Z n0 (fun v _ => v = some (.int 1)) hp43 9 538 240 #[.val (.int p0), .val (.int p1), .val (.int p2), .val (.int p3), .val (.int p4), .val (.int p5), .val (.int asc), .val (.int w), .val (.int sel), .val (.int mask), .val (.int x), .val (.int y), .val (.int z), .val (.int v0), .val (.int v1), .val (.int v2), .val (.int cap), .val (.int mm), .val (.ref a)] []
          have e3 := (e3 (by decide)).symm
          subst e3
          have E_a := hb3.1.1
          refine Go.aload at_240 rfl rfl ?_
          refine Go.iconst 0 at_242 rfl ?_
          -- at pc 243: pc 243: invokevirtual .invokevirtual 27 stack [(.int (0 : Int32)), (.ref a)]
          have back : ∀ v : Int32, (if bv = .null then (if bv = .null then v else v - v0) else v0 + (if bv = .null then v else v - v0)) = v := by
            intro v
            by_cases hb : bv = .null
            · rw [if_pos hb, if_pos hb]
            · rw [if_neg hb, if_neg hb, own_back]
          refine Go.callV (I' := IN) (hI := nQ) a [(.int (0 : Int32))] [] (ct_get l Z a0 hw n0 a la pg tA ts ba kl kp kt ks kb bv v0 n pb ip (0 + 1 + 1 + 1) w _ tb3 0 c0 _ _ (Or.inl rfl) hpb hip hn rfl ((D0.grow m2).grow m3) hb3) E_a (wd_50 hw) (wd_51 hw) (nf_sel (wd_53 hw)) (wd_53 hw) (wd_52 hw) (wd_3 hw) (wd_54 hw) (by decide) pd_0 rfl rfl rfl (Nat.le_of_ble_eq_true rfl) (Nat.le_of_ble_eq_true rfl) (Nat.le_of_ble_eq_true rfl) (Nat.le_of_ble_eq_true rfl) at_243 ?_
          rintro _ _ ⟨rfl, rfl⟩
          rw [back v0]
          show GM_law l Z n0 (fun v _ => v = some (.int 1)) hp43 9 538 246 #[.val (.int p0), .val (.int p1), .val (.int p2), .val (.int p3), .val (.int p4), .val (.int p5), .val (.int asc), .val (.int w), .val (.int sel), .val (.int mask), .val (.int x), .val (.int y), .val (.int z), .val (.int v0), .val (.int v1), .val (.int v2), .val (.int cap), .val (.int mm), .val (.ref a)] [(.int v0)]
          refine Go.iload at_246 rfl ?_
          -- at pc 248: pc 248: if_icmp .if_icmp .ne 29 stack [(.int v0), (.int v0)]
          -- v0 = v0
          refine Go.icF at_248 (teq (rfl)).2 ?_
          refine Go.aload at_251 rfl rfl ?_
          refine Go.iconst 1 at_253 rfl ?_
          -- at pc 254: pc 254: invokevirtual .invokevirtual 27 stack [(.int (1 : Int32)), (.ref a)]
          refine Go.callV (I' := IN) (hI := nQ) a [(.int (1 : Int32))] [] (ct_get l Z a0 hw n0 a la pg tA ts ba kl kp kt ks kb bv v0 n pb ip (0 + 1 + 1 + 1) w _ tb3 1 c1 _ _ (Or.inr (Or.inl rfl)) hpb hip hn rfl (D1.grow m3) hb3) E_a (wd_50 hw) (wd_51 hw) (nf_sel (wd_53 hw)) (wd_53 hw) (wd_52 hw) (wd_3 hw) (wd_54 hw) (by decide) pd_0 rfl rfl rfl (Nat.le_of_ble_eq_true rfl) (Nat.le_of_ble_eq_true rfl) (Nat.le_of_ble_eq_true rfl) (Nat.le_of_ble_eq_true rfl) at_254 ?_
          rintro _ _ ⟨rfl, rfl⟩
          rw [back v1]
          show GM_law l Z n0 (fun v _ => v = some (.int 1)) hp43 9 538 257 #[.val (.int p0), .val (.int p1), .val (.int p2), .val (.int p3), .val (.int p4), .val (.int p5), .val (.int asc), .val (.int w), .val (.int sel), .val (.int mask), .val (.int x), .val (.int y), .val (.int z), .val (.int v0), .val (.int v1), .val (.int v2), .val (.int cap), .val (.int mm), .val (.ref a)] [(.int v1)]
          refine Go.iload at_257 rfl ?_
          -- at pc 259: pc 259: if_icmp .if_icmp .ne 18 stack [(.int v1), (.int v1)]
          -- v1 = v1
          refine Go.icF at_259 (teq (rfl)).2 ?_
          refine Go.aload at_262 rfl rfl ?_
          refine Go.iconst 2 at_264 rfl ?_
          -- at pc 265: pc 265: invokevirtual .invokevirtual 27 stack [(.int (2 : Int32)), (.ref a)]
          refine Go.callV (I' := IN) (hI := nQ) a [(.int (2 : Int32))] [] (ct_get l Z a0 hw n0 a la pg tA ts ba kl kp kt ks kb bv v0 n pb ip (0 + 1 + 1 + 1) w _ tb3 2 c2 _ _ (Or.inr (Or.inr rfl)) hpb hip hn rfl D2 hb3) E_a (wd_50 hw) (wd_51 hw) (nf_sel (wd_53 hw)) (wd_53 hw) (wd_52 hw) (wd_3 hw) (wd_54 hw) (by decide) pd_0 rfl rfl rfl (Nat.le_of_ble_eq_true rfl) (Nat.le_of_ble_eq_true rfl) (Nat.le_of_ble_eq_true rfl) (Nat.le_of_ble_eq_true rfl) at_265 ?_
          rintro _ _ ⟨rfl, rfl⟩
          rw [back v2]
          show GM_law l Z n0 (fun v _ => v = some (.int 1)) hp43 9 538 268 #[.val (.int p0), .val (.int p1), .val (.int p2), .val (.int p3), .val (.int p4), .val (.int p5), .val (.int asc), .val (.int w), .val (.int sel), .val (.int mask), .val (.int x), .val (.int y), .val (.int z), .val (.int v0), .val (.int v1), .val (.int v2), .val (.int cap), .val (.int mm), .val (.ref a)] [(.int v2)]
          refine Go.iload at_268 rfl ?_
          -- at pc 270: pc 270: if_icmp .if_icmp .ne 7 stack [(.int v2), (.int v2)]
          -- v2 = v2
          refine Go.icF at_270 (teq (rfl)).2 ?_
          refine Go.iconst 1 at_273 rfl ?_
          refine Go.goto 278 at_274 (by decide) (by decide) ?_
          -- at pc 278: pc 278: ireturn .ireturn stack [(.int (1 : Int32))]
          exact Go.nreturn .boolean at_278 rfl (by simp) (by decide) (by decide) rfl
        refine Go.iload at_154 rfl ?_
        refine Go.iconst 1 at_156 rfl ?_
        refine Go.iand at_157 ?_
        -- at pc 158: pc 158: ifCond .ifCond .ne 7 stack [(.int (p5 &&& (1 : Int32)))]
        by_cases h158 : (p5 &&& (1 : Int32)) = (0 : Int32)
        · refine Go.ifF at_158 (teq h158).2 ?_
          refine Go.iconst 0 at_161 rfl ?_
          refine Go.goto 174 at_162 (by decide) (by decide) ?_
          exact j174 0 (Or.inl rfl)
        · refine Go.ifT 165 at_158 (feq h158).2 (by decide) (by decide) ?_
          refine Go.iconst 3 at_165 rfl ?_
          refine Go.iload at_166 rfl ?_
          refine Go.iconst 1 at_168 rfl ?_
          refine Go.iushr at_169 ?_
          refine Go.bipush 15 at_170 rfl ?_
          refine Go.iand at_172 ?_
          refine Go.iadd at_173 ?_
          exact j174 _ (Or.inr (own_capb _))
      refine Go.iload at_82 rfl ?_
      -- at pc 84: pc 84: ifCond .ifCond .eq 58 stack [(.int asc)]
      by_cases h84 : asc = (0 : Int32)
      · refine Go.ifT 142 at_84 (teq h84).1 (by decide) (by decide) ?_
        refine Go.iload at_142 rfl ?_
        refine Go.istore (Ls' := #[.val (.int p0), .val (.int p1), .val (.int p2), .val (.int p3), .val (.int p4), .val (.int p5), .val (.int asc), .val (.int w), .val (.int sel), .val (.int mask), .val (.int x), .val (.int y), .val (.int z), .val (.int x), .unset, .unset, .unset, .unset, .unset]) at_144 rfl ?_
        refine Go.iload at_146 rfl ?_
        refine Go.istore (Ls' := #[.val (.int p0), .val (.int p1), .val (.int p2), .val (.int p3), .val (.int p4), .val (.int p5), .val (.int asc), .val (.int w), .val (.int sel), .val (.int mask), .val (.int x), .val (.int y), .val (.int z), .val (.int x), .val (.int y), .unset, .unset, .unset, .unset]) at_148 rfl ?_
        refine Go.iload at_150 rfl ?_
        refine Go.istore (Ls' := #[.val (.int p0), .val (.int p1), .val (.int p2), .val (.int p3), .val (.int p4), .val (.int p5), .val (.int asc), .val (.int w), .val (.int sel), .val (.int mask), .val (.int x), .val (.int y), .val (.int z), .val (.int x), .val (.int y), .val (.int z), .unset, .unset, .unset]) at_152 rfl ?_
        exact j154 _ _ _ hx hy hzz (Or.inl h84)
      · refine Go.ifF at_84 (feq h84).1 ?_
        refine Go.iload at_87 rfl ?_
        refine Go.iload at_89 rfl ?_
        refine Go.iload at_91 rfl ?_
        -- at pc 93: pc 93: invokestatic .invokestatic 9 stack [(.int z), (.int y), (.int x)]
        refine Go.callS (I' := IN) (hI := nQ) [(.int y), (.int z)] [(.int x)] (ct_min l Z a0 hw n0 y z _) (wd_55 hw) (wd_56 hw) (wd_57 hw) (wd_58 hw) (by decide) pd_4 rfl rfl rfl (Nat.le_of_ble_eq_true rfl) (Nat.le_of_ble_eq_true rfl) (Nat.le_of_ble_eq_true rfl) (Nat.le_of_ble_eq_true rfl) at_93 ?_
        rintro _ _ ⟨rfl, rfl⟩
        show GM_law l Z n0 (fun v _ => v = some (.int 1)) h0 0 0 96 #[.val (.int p0), .val (.int p1), .val (.int p2), .val (.int p3), .val (.int p4), .val (.int p5), .val (.int asc), .val (.int w), .val (.int sel), .val (.int mask), .val (.int x), .val (.int y), .val (.int z), .unset, .unset, .unset, .unset, .unset, .unset] [(.int (mn y z)), (.int x)]
        refine Go.callS (I' := IN) (hI := nQ) [(.int x), (.int (mn y z))] [] (ct_min l Z a0 hw n0 x (mn y z) _) (wd_55 hw) (wd_56 hw) (wd_57 hw) (wd_58 hw) (by decide) pd_4 rfl rfl rfl (Nat.le_of_ble_eq_true rfl) (Nat.le_of_ble_eq_true rfl) (Nat.le_of_ble_eq_true rfl) (Nat.le_of_ble_eq_true rfl) at_96 ?_
        rintro _ _ ⟨rfl, rfl⟩
        show GM_law l Z n0 (fun v _ => v = some (.int 1)) h0 0 0 99 #[.val (.int p0), .val (.int p1), .val (.int p2), .val (.int p3), .val (.int p4), .val (.int p5), .val (.int asc), .val (.int w), .val (.int sel), .val (.int mask), .val (.int x), .val (.int y), .val (.int z), .unset, .unset, .unset, .unset, .unset, .unset] [(.int (mn x (mn y z)))]
        refine Go.istore (Ls' := #[.val (.int p0), .val (.int p1), .val (.int p2), .val (.int p3), .val (.int p4), .val (.int p5), .val (.int asc), .val (.int w), .val (.int sel), .val (.int mask), .val (.int x), .val (.int y), .val (.int z), .val (.int (mn x (mn y z))), .unset, .unset, .unset, .unset, .unset]) at_99 rfl ?_
        refine Go.iload at_101 rfl ?_
        refine Go.iload at_103 rfl ?_
        refine Go.iload at_105 rfl ?_
        -- at pc 107: pc 107: invokestatic .invokestatic 15 stack [(.int z), (.int y), (.int x)]
        refine Go.callS (I' := IN) (hI := nQ) [(.int y), (.int z)] [(.int x)] (ct_max l Z a0 hw n0 y z _) (wd_59 hw) (wd_60 hw) (wd_57 hw) (wd_61 hw) (by decide) pd_4 rfl rfl rfl (Nat.le_of_ble_eq_true rfl) (Nat.le_of_ble_eq_true rfl) (Nat.le_of_ble_eq_true rfl) (Nat.le_of_ble_eq_true rfl) at_107 ?_
        rintro _ _ ⟨rfl, rfl⟩
        show GM_law l Z n0 (fun v _ => v = some (.int 1)) h0 0 0 110 #[.val (.int p0), .val (.int p1), .val (.int p2), .val (.int p3), .val (.int p4), .val (.int p5), .val (.int asc), .val (.int w), .val (.int sel), .val (.int mask), .val (.int x), .val (.int y), .val (.int z), .val (.int (mn x (mn y z))), .unset, .unset, .unset, .unset, .unset] [(.int (mx y z)), (.int x)]
        refine Go.callS (I' := IN) (hI := nQ) [(.int x), (.int (mx y z))] [] (ct_max l Z a0 hw n0 x (mx y z) _) (wd_59 hw) (wd_60 hw) (wd_57 hw) (wd_61 hw) (by decide) pd_4 rfl rfl rfl (Nat.le_of_ble_eq_true rfl) (Nat.le_of_ble_eq_true rfl) (Nat.le_of_ble_eq_true rfl) (Nat.le_of_ble_eq_true rfl) at_110 ?_
        rintro _ _ ⟨rfl, rfl⟩
        show GM_law l Z n0 (fun v _ => v = some (.int 1)) h0 0 0 113 #[.val (.int p0), .val (.int p1), .val (.int p2), .val (.int p3), .val (.int p4), .val (.int p5), .val (.int asc), .val (.int w), .val (.int sel), .val (.int mask), .val (.int x), .val (.int y), .val (.int z), .val (.int (mn x (mn y z))), .unset, .unset, .unset, .unset, .unset] [(.int (mx x (mx y z)))]
        refine Go.istore (Ls' := #[.val (.int p0), .val (.int p1), .val (.int p2), .val (.int p3), .val (.int p4), .val (.int p5), .val (.int asc), .val (.int w), .val (.int sel), .val (.int mask), .val (.int x), .val (.int y), .val (.int z), .val (.int (mn x (mn y z))), .unset, .val (.int (mx x (mx y z))), .unset, .unset, .unset]) at_113 rfl ?_
        refine Go.iload at_115 rfl ?_
        refine Go.iload at_117 rfl ?_
        -- at pc 119: pc 119: invokestatic .invokestatic 9 stack [(.int y), (.int x)]
        refine Go.callS (I' := IN) (hI := nQ) [(.int x), (.int y)] [] (ct_min l Z a0 hw n0 x y _) (wd_55 hw) (wd_56 hw) (wd_57 hw) (wd_58 hw) (by decide) pd_4 rfl rfl rfl (Nat.le_of_ble_eq_true rfl) (Nat.le_of_ble_eq_true rfl) (Nat.le_of_ble_eq_true rfl) (Nat.le_of_ble_eq_true rfl) at_119 ?_
        rintro _ _ ⟨rfl, rfl⟩
        show GM_law l Z n0 (fun v _ => v = some (.int 1)) h0 0 0 122 #[.val (.int p0), .val (.int p1), .val (.int p2), .val (.int p3), .val (.int p4), .val (.int p5), .val (.int asc), .val (.int w), .val (.int sel), .val (.int mask), .val (.int x), .val (.int y), .val (.int z), .val (.int (mn x (mn y z))), .unset, .val (.int (mx x (mx y z))), .unset, .unset, .unset] [(.int (mn x y))]
        refine Go.iload at_122 rfl ?_
        refine Go.iload at_124 rfl ?_
        -- at pc 126: pc 126: invokestatic .invokestatic 15 stack [(.int y), (.int x), (.int (mn x y))]
        refine Go.callS (I' := IN) (hI := nQ) [(.int x), (.int y)] [(.int (mn x y))] (ct_max l Z a0 hw n0 x y _) (wd_59 hw) (wd_60 hw) (wd_57 hw) (wd_61 hw) (by decide) pd_4 rfl rfl rfl (Nat.le_of_ble_eq_true rfl) (Nat.le_of_ble_eq_true rfl) (Nat.le_of_ble_eq_true rfl) (Nat.le_of_ble_eq_true rfl) at_126 ?_
        rintro _ _ ⟨rfl, rfl⟩
        show GM_law l Z n0 (fun v _ => v = some (.int 1)) h0 0 0 129 #[.val (.int p0), .val (.int p1), .val (.int p2), .val (.int p3), .val (.int p4), .val (.int p5), .val (.int asc), .val (.int w), .val (.int sel), .val (.int mask), .val (.int x), .val (.int y), .val (.int z), .val (.int (mn x (mn y z))), .unset, .val (.int (mx x (mx y z))), .unset, .unset, .unset] [(.int (mx x y)), (.int (mn x y))]
        refine Go.iload at_129 rfl ?_
        -- at pc 131: pc 131: invokestatic .invokestatic 9 stack [(.int z), (.int (mx x y)), (.int (mn x y))]
        refine Go.callS (I' := IN) (hI := nQ) [(.int (mx x y)), (.int z)] [(.int (mn x y))] (ct_min l Z a0 hw n0 (mx x y) z _) (wd_55 hw) (wd_56 hw) (wd_57 hw) (wd_58 hw) (by decide) pd_4 rfl rfl rfl (Nat.le_of_ble_eq_true rfl) (Nat.le_of_ble_eq_true rfl) (Nat.le_of_ble_eq_true rfl) (Nat.le_of_ble_eq_true rfl) at_131 ?_
        rintro _ _ ⟨rfl, rfl⟩
        show GM_law l Z n0 (fun v _ => v = some (.int 1)) h0 0 0 134 #[.val (.int p0), .val (.int p1), .val (.int p2), .val (.int p3), .val (.int p4), .val (.int p5), .val (.int asc), .val (.int w), .val (.int sel), .val (.int mask), .val (.int x), .val (.int y), .val (.int z), .val (.int (mn x (mn y z))), .unset, .val (.int (mx x (mx y z))), .unset, .unset, .unset] [(.int (mn (mx x y) z)), (.int (mn x y))]
        refine Go.callS (I' := IN) (hI := nQ) [(.int (mn x y)), (.int (mn (mx x y) z))] [] (ct_max l Z a0 hw n0 (mn x y) (mn (mx x y) z) _) (wd_59 hw) (wd_60 hw) (wd_57 hw) (wd_61 hw) (by decide) pd_4 rfl rfl rfl (Nat.le_of_ble_eq_true rfl) (Nat.le_of_ble_eq_true rfl) (Nat.le_of_ble_eq_true rfl) (Nat.le_of_ble_eq_true rfl) at_134 ?_
        rintro _ _ ⟨rfl, rfl⟩
        show GM_law l Z n0 (fun v _ => v = some (.int 1)) h0 0 0 137 #[.val (.int p0), .val (.int p1), .val (.int p2), .val (.int p3), .val (.int p4), .val (.int p5), .val (.int asc), .val (.int w), .val (.int sel), .val (.int mask), .val (.int x), .val (.int y), .val (.int z), .val (.int (mn x (mn y z))), .unset, .val (.int (mx x (mx y z))), .unset, .unset, .unset] [(.int (mx (mn x y) (mn (mx x y) z)))]
        refine Go.istore (Ls' := #[.val (.int p0), .val (.int p1), .val (.int p2), .val (.int p3), .val (.int p4), .val (.int p5), .val (.int asc), .val (.int w), .val (.int sel), .val (.int mask), .val (.int x), .val (.int y), .val (.int z), .val (.int (mn x (mn y z))), .val (.int (mx (mn x y) (mn (mx x y) z))), .val (.int (mx x (mx y z))), .unset, .unset, .unset]) at_137 rfl ?_
        refine Go.goto 154 at_139 (by decide) (by decide) ?_
        have so := own_sorted hx hy hzz
        exact j154 _ _ _ so.1 so.2.2.1 so.2.1 (Or.inr ⟨so.2.2.2.1, so.2.2.2.2⟩)
    refine Go.iload at_38 rfl ?_
    -- at pc 40: pc 40: ifCond .ifCond .ne 9 stack [(.int sel)]
    by_cases h40 : sel = (0 : Int32)
    · refine Go.ifF at_40 (teq h40).2 ?_
      refine Go.sipush 2047 at_43 rfl ?_
      refine Go.goto 62 at_46 (by decide) (by decide) ?_
      exact j62 _ (Or.inl rfl)
    · refine Go.ifT 49 at_40 (feq h40).2 (by decide) (by decide) ?_
      refine Go.iload at_49 rfl ?_
      refine Go.iconst 1 at_51 rfl ?_
      -- at pc 52: pc 52: if_icmp .if_icmp .ne 8 stack [(.int (1 : Int32)), (.int sel)]
      by_cases h52 : sel = (1 : Int32)
      · refine Go.icF at_52 (teq h52).2 ?_
        refine Go.ldc (wd_62 hw) at_55 ?_
        refine Go.goto 62 at_57 (by decide) (by decide) ?_
        exact j62 _ (Or.inr (Or.inl rfl))
      · refine Go.icT 60 at_52 (feq h52).2 (by decide) (by decide) ?_
        refine Go.ldc (wd_0 hw) at_60 ?_
        exact j62 _ (Or.inr (Or.inr rfl))
  refine Go.iload at_0 rfl ?_
  refine Go.iconst 1 at_2 rfl ?_
  refine Go.iand at_3 ?_
  -- at pc 4: pc 4: ifCond .ifCond .eq 7 stack [(.int (p4 &&& (1 : Int32)))]
  by_cases h4 : (p4 &&& (1 : Int32)) = (0 : Int32)
  · refine Go.ifT 11 at_4 (teq h4).1 (by decide) (by decide) ?_
    refine Go.iconst 0 at_11 rfl ?_
    exact j12 _
  · refine Go.ifF at_4 (feq h4).1 ?_
    refine Go.iconst 1 at_7 rfl ?_
    refine Go.goto 12 at_8 (by decide) (by decide) ?_
    exact j12 _
set_option maxRecDepth 65536 in
set_option maxHeartbeats 40000000 in
theorem comes_1 {Post : Tables → Env → Array Value → State → Outcome → State → Prop} (hpost : ∀ tb e args s v u, (limb_1_1.after args s (.returned v) u = true ∧ limb_1_2.after args s (.returned v) u = true ∧ True) → FrameEnd s (.returned v) u (Jvm.fieldLocs frame_1_writes args s ++ Jvm.arrayLocs frame_1_arrays args s ++ Jvm.staticLocs frame_1_statics s) 24 1152 → Post tb e args s (.returned v) u) :
    ArmFor flags0 classFile x code maxLocals ret World_1 tables_1 room_1 Calls_1 rest_1 Pre_1 Post := by
  intro l hfl _ _ p e ha hc hk s m args below hf hA hF happ hP
  obtain ⟨hcalls, hrest, hpre⟩ := hP
  obtain ⟨-, -, -, hnamed, -, -, -, hat⟩ := (Spec.applies_iff hf).mp happ
  obtain ⟨hg, hn⟩ := and_e (Cond.before_iff.mp (show (Jvm.Cond.and given_1 narrow_1).before args s = true from hpre))
  obtain ⟨gg1, gg2⟩ := and_e hg
  obtain ⟨gg3, gg4⟩ := and_e gg2
  obtain ⟨gg5, gg6⟩ := and_e gg4
  obtain ⟨gg7, gg8⟩ := and_e gg6
  obtain ⟨gg9, gg10⟩ := and_e gg8
  obtain ⟨gg11, gg12⟩ := and_e gg10
  obtain ⟨w0, w1, w2, w3, w4, w5, rfl⟩ : ∃ w0 w1 w2 w3 w4 w5 : Value, args = #[w0, w1, w2, w3, w4, w5] := by
    have hs : args.size = 6 := by simpa [Cond.value, given_1] using gg1
    obtain ⟨L⟩ := args
    match L, hs with
    | [w0, w1, w2, w3, w4, w5], _ => exact ⟨w0, w1, w2, w3, w4, w5, rfl⟩
  have hw := fun d (hd : d ∈ tables_1) => atoms_spec (ws := Jvm.Cond.code x code maxLocals ret :: tables_1) hat d (List.mem_cons_of_mem _ hd)
  have hfit : Fit s := fun {y c} hc i hi => by
    obtain ⟨ha, rfl⟩ := Array.getElem?_eq_some_iff.mp hc
    have q := List.all_eq_true.mp ((Array.all_eq_true_iff_forall_mem.mp hF) _ (Array.getElem_mem ha)) i (List.mem_range.mpr hi)
    simpa [Array.getElem?_eq_getElem hi] using q
  obtain ⟨i0, ei0⟩ := is_v gg3
  obtain rfl : w0 = (.int i0) := Option.some.inj ei0
  obtain ⟨i1, ei1⟩ := is_v gg5
  obtain rfl : w1 = (.int i1) := Option.some.inj ei1
  obtain ⟨i2, ei2⟩ := is_v gg7
  obtain rfl : w2 = (.int i2) := Option.some.inj ei2
  obtain ⟨i3, ei3⟩ := is_v gg9
  obtain rfl : w3 = (.int i3) := Option.some.inj ei3
  obtain ⟨i4, ei4⟩ := is_v gg11
  obtain rfl : w4 = (.int i4) := Option.some.inj ei4
  obtain ⟨i5, ei5⟩ := is_v gg12
  obtain rfl : w5 = (.int i5) := Option.some.inj ei5
  obtain ⟨n, o, h1, h2, h3, _, L, rfl, ⟨N, rfl⟩, hq⟩ := (ct_law l s _ hw s.heap.size i0 i1 i2 i3 i4 i5 s.heap (Nat.le_refl _)) p e ha hc hk s m _ below hf ((Spec.applies_iff_loose hf).mp happ).1 ⟨rfl, State.Warmed39.refl s, rfl⟩ trivial
  exact ⟨n, _, h1, h2, h3, hpost _ _ _ _ _ _ ⟨Cond.after_iff.mpr rfl, Cond.after_iff.mpr (eq_i res_at (Term.int_eval (1)) rfl), trivial⟩ ⟨hq.1, hq.2.1, (hq.2.2.sift fun y hy => Or.inr (N y hy)).mono (by decide) (by decide)⟩⟩
theorem main_1_1 : Claimed_1_1 := comes_1 fun _ _ _ _ _ _ h hF => ⟨h.1, hF⟩
theorem main_1_2 : Claimed_1_2 := comes_1 fun _ _ _ _ _ _ h hF => ⟨h.2.1, hF⟩
end Jvm.Pilot.@@N@@
namespace Jvm.Pilot.@@N@@
open Jvm Jvm.ClassFile Sem Op Lib Jvm.Free Jvm.Stand Jvm.Pilot.@@N@@.Jvm.D
/-! MADE BY PROGRAM (witnessworld.py) out of the Statement's table words and the real class files: 14 classes; the members and pool entries that the words name. The judged class is class 1, her method 1. -/
namespace start1
open Jvm.ClassFile
def u (s : String) : CpInfo := .utf8 (stringToUtf16 s)
/-- a pool by its gaps: so many unusable entries, then the entry; so many at the end -/
def gap : Nat → List CpInfo → List CpInfo
  | 0, r => r
  | n + 1, r => .unusable :: gap n r
def poolList (es : List (Nat × CpInfo)) (last : Nat) : List CpInfo := es.foldr (fun e r => gap e.1 (e.2 :: r)) (gap last [])
def pool (es : List (Nat × CpInfo)) (last : Nat) : Array CpInfo := ⟨poolList es last⟩
def fileOf (pool : Array CpInfo) (this : Nat) (attrs : Array Attribute := #[]) (ms : Array MethodInfo := #[]) (fl : Nat := 33) (sup : Nat := 0) (ifs : Array Nat := #[]) (fds : Array FieldInfo := #[]) : ClassFile where
  minorVersion := 0
  majorVersion := 65
  constantPool := pool
  accessFlags := fl
  thisClass := this
  superClass := sup
  interfaces := ifs
  fields := fds
  methods := ms
  attributes := attrs
def plain (name : String) (sup : Option ClassId) : Class where
  name := name
  kind := .ordinary
  loader := none
  accessFlags := 33
  super := sup
  interfaces := #[]
  cf := none
  fields := #[]
  methods := #[]
  instanceTypes := #[]
  staticTypes := #[]
  resolved := #[]
  callSites := []
  init := .initialized
  statics := none
  mirror := none

def pool0 : Array CpInfo := pool [(5, u "<init>"), (0, u "()V"), (1, .class_ 10), (1, u "java/lang/Object")] 113

def k0c0 : Code := { maxStack := 0, maxLocals := 1, code := object_method_1_code, exceptionTable := #[], attributes := #[] }
def k0m0 : Method := { name := "<init>", desc := "()V", sig := { parameters := [], returnType := none }, accessFlags := 1, code := some k0c0 }
/-- java/lang/Object -/
def k0 : Class := { plain "java/lang/Object" none with
  accessFlags := 33
  interfaces := #[]
  cf := some (fileOf pool0 8 #[] #[{ accessFlags := 1, nameIndex := 5, descriptorIndex := 6, attributes := #[] }] 33 0 #[] #[])
  fields := #[]
  methods := #[k0m0]
  instanceTypes := #[]
  staticTypes := #[]
  resolved := Array.replicate 124 none
  statics := none }

def pool1 : Array CpInfo := pool [(2, .class_ 4), (1, u "java/lang/Object"), (0, u "<init>"), (0, u "()V"), (0, .integer 2147483647), (0, .integer 65535), (0, .methodref 10 11), (0, .class_ 12), (0, .nameAndType 13 14), (0, u "java/lang/Math"), (0, u "min"), (0, u "(II)I"), (0, .methodref 10 16), (0, .nameAndType 17 14), (0, u "max"), (0, .class_ 19), (0, u "com/example/wee_query/weequery/IntColumn$Builder"), (0, .methodref 18 21), (0, .nameAndType 5 22), (0, u "(ZII)V"), (0, .methodref 18 24), (0, .nameAndType 25 26), (0, u "add"), (0, u "(II)V"), (0, .methodref 18 28), (0, .nameAndType 29 30), (0, u "get"), (0, u "(I)I"), (0, .class_ 32), (0, u "com/example/wee_query/weequery/IntColumnGetPinLaw"), (2, u "law"), (0, u "(IIIIII)Z")] 7

def k1m0 : Method := { name := "<init>", desc := "()V", sig := { parameters := [], returnType := none }, accessFlags := 1, code := none }
def k1c1 : Code := { maxStack := 5, maxLocals := 19, code := code, exceptionTable := #[], attributes := #[] }
def k1m1 : Method := { name := "law", desc := "(IIIIII)Z", sig := { parameters := [.int, .int, .int, .int, .int, .int], returnType := some .boolean }, accessFlags := 9, code := some k1c1 }
/-- com/example/wee_query/weequery/IntColumnGetPinLaw -/
def k1 : Class := { plain "com/example/wee_query/weequery/IntColumnGetPinLaw" (some 0) with
  accessFlags := 49
  interfaces := #[]
  cf := some (fileOf pool1 31 #[] #[{ accessFlags := 1, nameIndex := 5, descriptorIndex := 6, attributes := #[] }, { accessFlags := 9, nameIndex := 35, descriptorIndex := 36, attributes := #[] }] 49 2 #[] #[])
  fields := #[]
  methods := #[k1m0, k1m1]
  instanceTypes := #[]
  staticTypes := #[]
  resolved := Array.replicate 44 none
  statics := none }

def pool2 : Array CpInfo := pool [(1, .class_ 2), (0, u "com/example/wee_query/weequery/IntColumn"), (0, .methodref 4 5), (0, .class_ 6), (0, .nameAndType 7 8), (0, u "java/lang/Object"), (0, u "<init>"), (0, u "()V"), (0, .class_ 10), (0, u "[C"), (0, .fieldref 12 13), (0, .class_ 14), (0, .nameAndType 15 16), (0, u "com/example/wee_query/weequery/IntColumn$Builder"), (0, u "pages"), (0, u "[[C"), (0, .class_ 18), (0, u "[I"), (0, .fieldref 12 20), (0, .nameAndType 21 22), (0, u "tables"), (0, u "[[I"), (0, .fieldref 12 24), (0, .nameAndType 25 18), (0, u "tableSizes"), (0, .fieldref 12 27), (0, .nameAndType 28 29), (0, u "width"), (0, u "I"), (0, .methodref 1 31), (0, .nameAndType 32 33), (0, u "far"), (0, u "(I)I"), (0, .fieldref 12 35), (0, .nameAndType 32 29), (0, .fieldref 12 37), (0, .nameAndType 38 29), (0, u "pageBits"), (0, .fieldref 12 40), (0, .nameAndType 41 29), (0, u "inPage"), (0, .fieldref 12 43), (0, .nameAndType 44 10), (0, u "last"), (0, .fieldref 12 46), (0, .nameAndType 47 18), (0, u "bases"), (5, u "add"), (0, u "(II)V"), (0, .fieldref 12 56), (0, .nameAndType 57 29), (0, u "size"), (0, .methodref 12 59), (0, .nameAndType 60 54), (0, u "startPart"), (0, .methodref 12 62), (0, .nameAndType 63 64), (0, u "held"), (0, u "(II)C"), (29, u "ONE_PAGE"), (2, u "(ZII)V"), (3, u "get")] 14

def k2c0 : Code := { maxStack := 3, maxLocals := 4, code := prog_25_method_1_code, exceptionTable := #[], attributes := #[] }
def k2m0 : Method := { name := "<init>", desc := "(ZII)V", sig := { parameters := [.boolean, .int, .int], returnType := none }, accessFlags := 0, code := some k2c0 }
def k2c1 : Code := { maxStack := 3, maxLocals := 4, code := prog_25_method_2_code, exceptionTable := #[], attributes := #[] }
def k2m1 : Method := { name := "get", desc := "(I)I", sig := { parameters := [.int], returnType := some .int }, accessFlags := 0, code := some k2c1 }
def k2c2 : Code := { maxStack := 5, maxLocals := 6, code := prog_25_method_6_code, exceptionTable := #[], attributes := #[] }
def k2m2 : Method := { name := "add", desc := "(II)V", sig := { parameters := [.int, .int], returnType := none }, accessFlags := 0, code := some k2c2 }
def k2c3 : Code := { maxStack := 3, maxLocals := 5, code := prog_25_method_11_code, exceptionTable := #[], attributes := #[] }
def k2m3 : Method := { name := "held", desc := "(II)C", sig := { parameters := [.int, .int], returnType := some .char }, accessFlags := 2, code := some k2c3 }
def k2c4 : Code := { maxStack := 4, maxLocals := 4, code := prog_25_method_12_code, exceptionTable := #[], attributes := #[] }
def k2m4 : Method := { name := "startPart", desc := "(II)V", sig := { parameters := [.int, .int], returnType := none }, accessFlags := 2, code := some k2c4 }
/-- com/example/wee_query/weequery/IntColumn$Builder -/
def k2 : Class := { plain "com/example/wee_query/weequery/IntColumn$Builder" (some 0) with
  accessFlags := 48
  interfaces := #[]
  cf := some (fileOf pool2 12 #[.nestHost 1] #[{ accessFlags := 0, nameIndex := 7, descriptorIndex := 97, attributes := #[] }, { accessFlags := 0, nameIndex := 101, descriptorIndex := 33, attributes := #[] }, { accessFlags := 0, nameIndex := 53, descriptorIndex := 54, attributes := #[] }, { accessFlags := 2, nameIndex := 63, descriptorIndex := 64, attributes := #[] }, { accessFlags := 2, nameIndex := 60, descriptorIndex := 54, attributes := #[] }] 48 4 #[] #[{ accessFlags := 26, nameIndex := 94, descriptorIndex := 29, attributes := #[] }, { accessFlags := 2, nameIndex := 15, descriptorIndex := 16, attributes := #[] }, { accessFlags := 2, nameIndex := 44, descriptorIndex := 10, attributes := #[] }, { accessFlags := 2, nameIndex := 38, descriptorIndex := 29, attributes := #[] }, { accessFlags := 2, nameIndex := 41, descriptorIndex := 29, attributes := #[] }, { accessFlags := 2, nameIndex := 21, descriptorIndex := 22, attributes := #[] }, { accessFlags := 2, nameIndex := 25, descriptorIndex := 18, attributes := #[] }, { accessFlags := 2, nameIndex := 47, descriptorIndex := 18, attributes := #[] }, { accessFlags := 2, nameIndex := 57, descriptorIndex := 29, attributes := #[] }, { accessFlags := 18, nameIndex := 28, descriptorIndex := 29, attributes := #[] }, { accessFlags := 18, nameIndex := 32, descriptorIndex := 29, attributes := #[] }])
  fields := #[{ name := "ONE_PAGE", type := .int, accessFlags := 26, slot := 0, constantValue := 0 }, { name := "pages", type := (.array (.array .char)), accessFlags := 2, slot := 0, constantValue := 0 }, { name := "last", type := (.array .char), accessFlags := 2, slot := 1, constantValue := 0 }, { name := "pageBits", type := .int, accessFlags := 2, slot := 2, constantValue := 0 }, { name := "inPage", type := .int, accessFlags := 2, slot := 3, constantValue := 0 }, { name := "tables", type := (.array (.array .int)), accessFlags := 2, slot := 4, constantValue := 0 }, { name := "tableSizes", type := (.array .int), accessFlags := 2, slot := 5, constantValue := 0 }, { name := "bases", type := (.array .int), accessFlags := 2, slot := 6, constantValue := 0 }, { name := "size", type := .int, accessFlags := 2, slot := 7, constantValue := 0 }, { name := "width", type := .int, accessFlags := 18, slot := 8, constantValue := 0 }, { name := "far", type := .int, accessFlags := 18, slot := 9, constantValue := 0 }]
  methods := #[k2m0, k2m1, k2m2, k2m3, k2m4]
  instanceTypes := #[(.array (.array .char)), (.array .char), .int, .int, (.array (.array .int)), (.array .int), (.array .int), .int, .int, .int]
  staticTypes := #[.int]
  resolved := Array.replicate 116 none
  statics := none }

def pool3 : Array CpInfo := pool [(2, .class_ 4), (1, u "java/lang/Object"), (0, u "<init>"), (0, u "()V"), (0, .class_ 8), (0, u "java/lang/Record")] 13

def k3m0 : Method := { name := "<init>", desc := "()V", sig := { parameters := [], returnType := none }, accessFlags := 4, code := none }
/-- java/lang/Record -/
def k3 : Class := { plain "java/lang/Record" (some 0) with
  accessFlags := 1057
  interfaces := #[]
  cf := some (fileOf pool3 7 #[] #[{ accessFlags := 4, nameIndex := 5, descriptorIndex := 6, attributes := #[] }] 1057 2 #[] #[])
  fields := #[]
  methods := #[k3m0]
  instanceTypes := #[]
  staticTypes := #[]
  resolved := Array.replicate 22 none
  statics := none }

def pool4 : Array CpInfo := pool [(1, .class_ 2), (0, u "com/example/wee_query/weequery/IntColumn"), (1, .class_ 6), (1, u "java/lang/Record"), (4, u "held"), (0, u "[C"), (2, u "tables"), (0, u "[[I"), (2, u "bases"), (0, u "[I"), (12, u "PART_BITS"), (0, u "I"), (2, u "PART_SIZE"), (1, u "IN_PART"), (1, u "WIDTH"), (1, u "FAR"), (0, u "C"), (5, u "far"), (0, u "(I)I"), (9, .class_ 62), (0, u "com/example/wee_query/weequery/IntColumn$Builder")] 21

def k4c0 : Code := { maxStack := 3, maxLocals := 1, code := prog_24_method_2_code, exceptionTable := #[], attributes := #[] }
def k4m0 : Method := { name := "far", desc := "(I)I", sig := { parameters := [.int], returnType := some .int }, accessFlags := 8, code := some k4c0 }
/-- com/example/wee_query/weequery/IntColumn -/
def k4 : Class := { plain "com/example/wee_query/weequery/IntColumn" (some 3) with
  accessFlags := 48
  interfaces := #[]
  cf := some (fileOf pool4 1 #[.nestMembers #[61]] #[{ accessFlags := 8, nameIndex := 50, descriptorIndex := 51, attributes := #[] }] 48 4 #[] #[{ accessFlags := 18, nameIndex := 11, descriptorIndex := 12, attributes := #[] }, { accessFlags := 18, nameIndex := 15, descriptorIndex := 16, attributes := #[] }, { accessFlags := 18, nameIndex := 19, descriptorIndex := 20, attributes := #[] }, { accessFlags := 24, nameIndex := 33, descriptorIndex := 34, attributes := #[] }, { accessFlags := 26, nameIndex := 37, descriptorIndex := 34, attributes := #[] }, { accessFlags := 26, nameIndex := 39, descriptorIndex := 34, attributes := #[] }, { accessFlags := 24, nameIndex := 41, descriptorIndex := 34, attributes := #[] }, { accessFlags := 24, nameIndex := 43, descriptorIndex := 44, attributes := #[] }])
  fields := #[{ name := "held", type := (.array .char), accessFlags := 18, slot := 0, constantValue := 0 }, { name := "tables", type := (.array (.array .int)), accessFlags := 18, slot := 1, constantValue := 0 }, { name := "bases", type := (.array .int), accessFlags := 18, slot := 2, constantValue := 0 }, { name := "PART_BITS", type := .int, accessFlags := 24, slot := 0, constantValue := 0 }, { name := "PART_SIZE", type := .int, accessFlags := 26, slot := 1, constantValue := 0 }, { name := "IN_PART", type := .int, accessFlags := 26, slot := 2, constantValue := 0 }, { name := "WIDTH", type := .int, accessFlags := 24, slot := 3, constantValue := 0 }, { name := "FAR", type := .char, accessFlags := 24, slot := 4, constantValue := 0 }]
  methods := #[k4m0]
  instanceTypes := #[(.array .char), (.array (.array .int)), (.array .int)]
  staticTypes := #[.int, .int, .int, .int, .char]
  resolved := Array.replicate 84 none
  statics := none }

def pool5 : Array CpInfo := pool [(1, .class_ 2), (0, u "java/lang/Math"), (1, .class_ 6), (1, u "java/lang/Object"), (0, u "<init>"), (0, u "()V"), (89, .class_ 100), (1, u "java/lang/Math$RandomNumberGeneratorHolder"), (71, u "negativeZeroFloatBits"), (0, u "J"), (2, u "negativeZeroDoubleBits"), (21, u "max"), (2, u "min"), (43, u "$assertionsDisabled"), (0, u "Z"), (88, u "(II)I"), (2, u "twoToTheDoubleScaleDown"), (0, u "D"), (4, u "twoToTheDoubleScaleUp"), (9, u "E"), (3, u "PI"), (2, u "TAU"), (2, u "DEGREES_TO_RADIANS"), (0, u "RADIANS_TO_DEGREES")] 94

def k5m0 : Method := { name := "<init>", desc := "()V", sig := { parameters := [], returnType := none }, accessFlags := 2, code := none }
def k5c1 : Code := { maxStack := 2, maxLocals := 2, code := jdk_29_method_65_code, exceptionTable := #[], attributes := #[] }
def k5m1 : Method := { name := "max", desc := "(II)I", sig := { parameters := [.int, .int], returnType := some .int }, accessFlags := 9, code := some k5c1 }
def k5c2 : Code := { maxStack := 2, maxLocals := 2, code := jdk_29_method_69_code, exceptionTable := #[], attributes := #[] }
def k5m2 : Method := { name := "min", desc := "(II)I", sig := { parameters := [.int, .int], returnType := some .int }, accessFlags := 9, code := some k5c2 }
/-- java/lang/Math -/
def k5 : Class := { plain "java/lang/Math" (some 0) with
  accessFlags := 49
  interfaces := #[]
  cf := some (fileOf pool5 1 #[.nestMembers #[98]] #[{ accessFlags := 2, nameIndex := 7, descriptorIndex := 8, attributes := #[] }, { accessFlags := 9, nameIndex := 198, descriptorIndex := 335, attributes := #[] }, { accessFlags := 9, nameIndex := 201, descriptorIndex := 335, attributes := #[] }] 49 4 #[] #[{ accessFlags := 25, nameIndex := 354, descriptorIndex := 339, attributes := #[] }, { accessFlags := 25, nameIndex := 358, descriptorIndex := 339, attributes := #[] }, { accessFlags := 25, nameIndex := 361, descriptorIndex := 339, attributes := #[] }, { accessFlags := 26, nameIndex := 364, descriptorIndex := 339, attributes := #[] }, { accessFlags := 26, nameIndex := 365, descriptorIndex := 339, attributes := #[] }, { accessFlags := 26, nameIndex := 172, descriptorIndex := 173, attributes := #[] }, { accessFlags := 26, nameIndex := 176, descriptorIndex := 173, attributes := #[] }, { accessFlags := 8, nameIndex := 344, descriptorIndex := 339, attributes := #[] }, { accessFlags := 8, nameIndex := 338, descriptorIndex := 339, attributes := #[] }, { accessFlags := 4120, nameIndex := 245, descriptorIndex := 246, attributes := #[] }])
  fields := #[{ name := "E", type := .double, accessFlags := 25, slot := 0, constantValue := 0 }, { name := "PI", type := .double, accessFlags := 25, slot := 1, constantValue := 0 }, { name := "TAU", type := .double, accessFlags := 25, slot := 2, constantValue := 0 }, { name := "DEGREES_TO_RADIANS", type := .double, accessFlags := 26, slot := 3, constantValue := 0 }, { name := "RADIANS_TO_DEGREES", type := .double, accessFlags := 26, slot := 4, constantValue := 0 }, { name := "negativeZeroFloatBits", type := .long, accessFlags := 26, slot := 5, constantValue := 0 }, { name := "negativeZeroDoubleBits", type := .long, accessFlags := 26, slot := 6, constantValue := 0 }, { name := "twoToTheDoubleScaleUp", type := .double, accessFlags := 8, slot := 7, constantValue := 0 }, { name := "twoToTheDoubleScaleDown", type := .double, accessFlags := 8, slot := 8, constantValue := 0 }, { name := "$assertionsDisabled", type := .boolean, accessFlags := 4120, slot := 9, constantValue := 0 }]
  methods := #[k5m0, k5m1, k5m2]
  instanceTypes := #[]
  staticTypes := #[.double, .double, .double, .double, .double, .long, .long, .double, .double, .boolean]
  resolved := Array.replicate 460 none
  statics := none }

def pool6 : Array CpInfo := pool [(1, u "java/lang/Cloneable"), (0, .class_ 1), (0, u "java/lang/Object"), (0, .class_ 3)] 3

/-- java/lang/Cloneable -/
def k6 : Class := { plain "java/lang/Cloneable" (some 0) with
  accessFlags := 1537
  interfaces := #[]
  cf := some (fileOf pool6 2 #[] #[] 1537 4 #[] #[])
  fields := #[]
  methods := #[]
  instanceTypes := #[]
  staticTypes := #[]
  resolved := Array.replicate 8 none
  statics := none }

def pool7 : Array CpInfo := pool [(1, u "java/io/Serializable"), (0, .class_ 1), (0, u "java/lang/Object"), (0, .class_ 3)] 3

/-- java/io/Serializable -/
def k7 : Class := { plain "java/io/Serializable" (some 0) with
  accessFlags := 1537
  interfaces := #[]
  cf := some (fileOf pool7 2 #[] #[] 1537 4 #[] #[])
  fields := #[]
  methods := #[]
  instanceTypes := #[]
  staticTypes := #[]
  resolved := Array.replicate 8 none
  statics := none }

/-- the primitive byte -/
def k8 : Class := { plain "byte" none with kind := .primitive 'B', accessFlags := 0x411 }
/-- [B -/
def k9 : Class := { plain "[B" (some 0) with kind := .array 8 .byte, interfaces := #[6, 7], accessFlags := 1041 }

/-- the primitive char -/
def k10 : Class := { plain "char" none with kind := .primitive 'C', accessFlags := 0x411 }
/-- [C -/
def k11 : Class := { plain "[C" (some 0) with kind := .array 10 .char, interfaces := #[6, 7], accessFlags := 1041 }

/-- the primitive int -/
def k12 : Class := { plain "int" none with kind := .primitive 'I', accessFlags := 0x411 }
/-- [I -/
def k13 : Class := { plain "[I" (some 0) with kind := .array 12 .int, interfaces := #[6, 7], accessFlags := 1041 }

def heap : Heap := #[]
def k14 : Class := { plain "[[C" (some 0) with kind := .array 11 (.array .char), interfaces := #[6, 7], accessFlags := 1041 }
def k15 : Class := { plain "[[I" (some 0) with kind := .array 13 (.array .int), interfaces := #[6, 7], accessFlags := 1041 }
def classes : Array Class := #[k0, k1, k2, k3, k4, k5, k6, k7, k8, k9, k10, k11, k12, k13, k14, k15]
def interned : List (Array UInt16 × Addr) := []
def slotsUsed : Nat := 0
def theMethod : MethodId := ⟨1, 1⟩
def args0 : Array Value := #[.int 5, .int 3, .int 2, .int 7, .int 0, .int 1]
def aboutOver (below : List Frame) : State where
  vm := { classes := classes, interned := interned.toArray }
  heap := heap
  slotsUsed := slotsUsed
  threads := #[{ frames := .invoking theMethod args0 :: below }]
def below0 : List Frame := [.native { method := ⟨0, 0⟩, args := #[] }]
def about1 : State := aboutOver below0
def p0 : Program := .bare "" "" ""
def e0 : Env := launch0.env 0 0 0
theorem w_frames : about1.frames = Frame.invoking theMethod args0 :: below0 := rfl
set_option maxRecDepth 65536 in
theorem w_args : argsFit about1.vm theMethod args0 = true := by decide +kernel
set_option maxRecDepth 65536 in
theorem w_heap : heapFits about1 = true := by decide +kernel
set_option maxRecDepth 65536 in
theorem w_runnable : about1.curStatus? = some .runnable := by decide +kernel
set_option maxRecDepth 65536 in
theorem w_alone : about1.alone = true := by decide +kernel
set_option maxRecDepth 65536 in
theorem w_named : about1.methodNamed? x = some theMethod := by decide +kernel
set_option maxRecDepth 65536 in
theorem w_hears : about1.hears theMethod below0 = true := by decide +kernel
set_option maxRecDepth 65536 in
theorem w_ripe : about1.ripe theMethod args0 below0 = true := by decide +kernel
theorem w_running : about1.status = .running := rfl
set_option maxRecDepth 65536 in
theorem w_room : about1.hasRoom e0.platform room_1 = true :=
  launch0.hasRoom_least _ room_1 (by decide +kernel) (by decide +kernel) (by decide +kernel) (by decide +kernel) (by decide +kernel) (by decide +kernel)
theorem allAtoms_all (ts : List Jvm.Cond) (a : Array Jvm.Value) (st : Jvm.State) : (allAtoms ts).before a st = ts.all (fun c => c.before a st) := by
  induction ts with
  | nil => rfl
  | cons c t ih =>
    show (Jvm.Cond.and c (allAtoms t)).before a st = _
    rw [Jvm.Cond.before_and, ih, List.all_cons]
def words1 : List Jvm.Cond := Jvm.Cond.code x code maxLocals ret :: tables_1
/-- a 'code' word, met by the world's own term for the bytes: nothing is compared byte by byte -/
theorem code_word {y : MethodName} {bytes : ByteArray} {mx : Nat} {rt : Option FieldType} {a : Array Value} {s : State} {m : MethodId} {meth : Method} {c : Code} (h1 : s.methodNamed? y = some m) (h2 : s.vm.method? m = some meth) (h3 : meth.code = some c) (h4 : c.code = bytes)
    (h5 : (c.maxLocals == mx && c.exceptionTable.isEmpty && decide (c.maxStack ≤ mostOperands) && decide (meth.sig.returnType = rt) && !meth.locks && decide (parseMethodDescriptor y.desc = some meth.sig)) = true) : (Jvm.Cond.code y bytes mx rt).before a s = true := by
  simp only [Bool.and_eq_true, beq_iff_eq, Bool.not_eq_true', decide_eq_true_eq] at h5
  obtain ⟨⟨⟨⟨⟨g1, g2⟩, g3⟩, g4⟩, g5⟩, g6⟩ := h5
  simp [Cond.before, Cond.holds, Cond.value, h1, h2, h3, h4, g1, g2, g3, g4, g5, g6]
def isCode : Jvm.Cond → Bool
  | .code _ _ _ _ => true
  | _ => false
theorem all_split {L : List Jvm.Cond} {P : Jvm.Cond → Bool} (h1 : L.all (fun c => isCode c || P c) = true) (h2 : ∀ c ∈ L.filter isCode, P c = true) : L.all P = true := by
  refine List.all_eq_true.mpr fun c hc => ?_
  have h := List.all_eq_true.mp h1 c hc
  rcases Bool.eq_false_or_eq_true (isCode c) with hi | hi
  · exact h2 c (List.mem_filter.mpr ⟨hc, hi⟩)
  · simpa [hi] using h
set_option maxRecDepth 65536 in
theorem w_c0 : (Jvm.Cond.code x code maxLocals ret).before args0 about1 = true := code_word (m := ⟨1, 1⟩) (meth := k1m1) (c := k1c1) (by decide +kernel) rfl rfl rfl (by decide +kernel)
set_option maxRecDepth 65536 in
theorem w_c1 : (Jvm.Cond.code ({ cls := "com/example/wee_query/weequery/IntColumn$Builder", name := "<init>", desc := "(ZII)V" } : Jvm.MethodName) prog_25_method_1_code (4 : Nat) (Option.none : Option Jvm.ClassFile.FieldType)).before args0 about1 = true := code_word (m := ⟨2, 0⟩) (meth := k2m0) (c := k2c0) (by decide +kernel) rfl rfl rfl (by decide +kernel)
set_option maxRecDepth 65536 in
theorem w_c2 : (Jvm.Cond.code ({ cls := "java/lang/Object", name := "<init>", desc := "()V" } : Jvm.MethodName) object_method_1_code (1 : Nat) (Option.none : Option Jvm.ClassFile.FieldType)).before args0 about1 = true := code_word (m := ⟨0, 0⟩) (meth := k0m0) (c := k0c0) (by decide +kernel) rfl rfl rfl (by decide +kernel)
set_option maxRecDepth 65536 in
theorem w_c3 : (Jvm.Cond.code ({ cls := "com/example/wee_query/weequery/IntColumn", name := "far", desc := "(I)I" } : Jvm.MethodName) prog_24_method_2_code (1 : Nat) (Option.some Jvm.ClassFile.FieldType.int)).before args0 about1 = true := code_word (m := ⟨4, 0⟩) (meth := k4m0) (c := k4c0) (by decide +kernel) rfl rfl rfl (by decide +kernel)
set_option maxRecDepth 65536 in
theorem w_c4 : (Jvm.Cond.code ({ cls := "com/example/wee_query/weequery/IntColumn$Builder", name := "add", desc := "(II)V" } : Jvm.MethodName) prog_25_method_6_code (6 : Nat) (Option.none : Option Jvm.ClassFile.FieldType)).before args0 about1 = true := code_word (m := ⟨2, 2⟩) (meth := k2m2) (c := k2c2) (by decide +kernel) rfl rfl rfl (by decide +kernel)
set_option maxRecDepth 65536 in
theorem w_c5 : (Jvm.Cond.code ({ cls := "com/example/wee_query/weequery/IntColumn$Builder", name := "startPart", desc := "(II)V" } : Jvm.MethodName) prog_25_method_12_code (4 : Nat) (Option.none : Option Jvm.ClassFile.FieldType)).before args0 about1 = true := code_word (m := ⟨2, 4⟩) (meth := k2m4) (c := k2c4) (by decide +kernel) rfl rfl rfl (by decide +kernel)
set_option maxRecDepth 65536 in
theorem w_c6 : (Jvm.Cond.code ({ cls := "com/example/wee_query/weequery/IntColumn$Builder", name := "get", desc := "(I)I" } : Jvm.MethodName) prog_25_method_2_code (4 : Nat) (Option.some Jvm.ClassFile.FieldType.int)).before args0 about1 = true := code_word (m := ⟨2, 1⟩) (meth := k2m1) (c := k2c1) (by decide +kernel) rfl rfl rfl (by decide +kernel)
set_option maxRecDepth 65536 in
theorem w_c7 : (Jvm.Cond.code ({ cls := "java/lang/Math", name := "min", desc := "(II)I" } : Jvm.MethodName) jdk_29_method_69_code (2 : Nat) (Option.some Jvm.ClassFile.FieldType.int)).before args0 about1 = true := code_word (m := ⟨5, 2⟩) (meth := k5m2) (c := k5c2) (by decide +kernel) rfl rfl rfl (by decide +kernel)
set_option maxRecDepth 65536 in
theorem w_c8 : (Jvm.Cond.code ({ cls := "java/lang/Math", name := "max", desc := "(II)I" } : Jvm.MethodName) jdk_29_method_65_code (2 : Nat) (Option.some Jvm.ClassFile.FieldType.int)).before args0 about1 = true := code_word (m := ⟨5, 1⟩) (meth := k5m1) (c := k5c1) (by decide +kernel) rfl rfl rfl (by decide +kernel)
set_option maxRecDepth 65536 in
theorem w_c9 : (Jvm.Cond.code ({ cls := "com/example/wee_query/weequery/IntColumn$Builder", name := "held", desc := "(II)C" } : Jvm.MethodName) prog_25_method_11_code (5 : Nat) (Option.some Jvm.ClassFile.FieldType.char)).before args0 about1 = true := code_word (m := ⟨2, 3⟩) (meth := k2m3) (c := k2c3) (by decide +kernel) rfl rfl rfl (by decide +kernel)
def codes1 : List Jvm.Cond := [Jvm.Cond.code x code maxLocals ret, Jvm.Cond.code ({ cls := "com/example/wee_query/weequery/IntColumn$Builder", name := "<init>", desc := "(ZII)V" } : Jvm.MethodName) prog_25_method_1_code (4 : Nat) (Option.none : Option Jvm.ClassFile.FieldType), Jvm.Cond.code ({ cls := "java/lang/Object", name := "<init>", desc := "()V" } : Jvm.MethodName) object_method_1_code (1 : Nat) (Option.none : Option Jvm.ClassFile.FieldType), Jvm.Cond.code ({ cls := "com/example/wee_query/weequery/IntColumn", name := "far", desc := "(I)I" } : Jvm.MethodName) prog_24_method_2_code (1 : Nat) (Option.some Jvm.ClassFile.FieldType.int), Jvm.Cond.code ({ cls := "com/example/wee_query/weequery/IntColumn$Builder", name := "add", desc := "(II)V" } : Jvm.MethodName) prog_25_method_6_code (6 : Nat) (Option.none : Option Jvm.ClassFile.FieldType), Jvm.Cond.code ({ cls := "com/example/wee_query/weequery/IntColumn$Builder", name := "startPart", desc := "(II)V" } : Jvm.MethodName) prog_25_method_12_code (4 : Nat) (Option.none : Option Jvm.ClassFile.FieldType), Jvm.Cond.code ({ cls := "com/example/wee_query/weequery/IntColumn$Builder", name := "get", desc := "(I)I" } : Jvm.MethodName) prog_25_method_2_code (4 : Nat) (Option.some Jvm.ClassFile.FieldType.int), Jvm.Cond.code ({ cls := "java/lang/Math", name := "min", desc := "(II)I" } : Jvm.MethodName) jdk_29_method_69_code (2 : Nat) (Option.some Jvm.ClassFile.FieldType.int), Jvm.Cond.code ({ cls := "java/lang/Math", name := "max", desc := "(II)I" } : Jvm.MethodName) jdk_29_method_65_code (2 : Nat) (Option.some Jvm.ClassFile.FieldType.int), Jvm.Cond.code ({ cls := "com/example/wee_query/weequery/IntColumn$Builder", name := "held", desc := "(II)C" } : Jvm.MethodName) prog_25_method_11_code (5 : Nat) (Option.some Jvm.ClassFile.FieldType.char)]
set_option maxRecDepth 65536 in
theorem codes_eq : words1.filter isCode = codes1 := rfl
theorem w_codes : ∀ c ∈ words1.filter isCode, c.before args0 about1 = true := by
  rw [codes_eq]
  intro c hc
  simp only [codes1, List.mem_cons, List.not_mem_nil, or_false] at hc
  rcases hc with rfl | rfl | rfl | rfl | rfl | rfl | rfl | rfl | rfl | rfl
  · exact w_c0
  · exact w_c1
  · exact w_c2
  · exact w_c3
  · exact w_c4
  · exact w_c5
  · exact w_c6
  · exact w_c7
  · exact w_c8
  · exact w_c9
set_option maxRecDepth 65536 in
theorem w_t1 : (words1.take 24).all (fun c => isCode c || c.before args0 about1) = true := by decide +kernel
set_option maxRecDepth 65536 in
theorem w_t2 : ((words1.drop 24).take 24).all (fun c => isCode c || c.before args0 about1) = true := by decide +kernel
set_option maxRecDepth 65536 in
theorem w_t3 : ((words1.drop 24).drop 24).all (fun c => isCode c || c.before args0 about1) = true := by decide +kernel
theorem w_tables : (allAtoms (Jvm.Cond.code x code maxLocals ret :: tables_1)).before args0 about1 = true := by
  rw [allAtoms_all]
  show words1.all (fun c => c.before args0 about1) = true
  refine all_split ?_ w_codes
  rw [← List.take_append_drop 24 words1, List.all_append, w_t1, ← List.take_append_drop 24 (words1.drop 24), List.all_append, w_t2, w_t3]
  rfl
set_option maxRecDepth 65536 in
theorem w_case : (Jvm.Cond.and given_1 narrow_1).before args0 about1 = true := by decide +kernel
theorem w_applies : (headSpec (Jvm.Cond.code x code maxLocals ret :: tables_1) room_1).applies x e0.platform about1 = true :=
  (Spec.applies_iff w_frames).mpr ⟨w_running, w_runnable, w_alone, w_named, w_hears, w_ripe, w_room, w_tables⟩
theorem atStart : AtStart classFile x code maxLocals ret World_1 tables_1 room_1 Calls_1 rest_1 Pre_1 launch0 p0 e0 about1 theMethod args0 below0 :=
  ⟨lists_1, trivial, launch0.admits_env _ _ _, launch0.least_env, fairChoices_fair.cas, fairChoices_fair.clock, w_frames, w_args, w_heap, w_applies, trivial, trivial, w_case⟩
end start1
theorem witness_1 : WitnessClaimed_1 := ⟨start1.p0, start1.e0, start1.about1, start1.theMethod, start1.args0, start1.below0, start1.atStart⟩
end Jvm.Pilot.@@N@@
