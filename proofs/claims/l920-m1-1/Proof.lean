import JvmDerived
import JvmDerived.Pilot.@@N@@Statement
import JvmDerived.Pilot.@@N@@Code
set_option linter.unusedVariables false
set_option linter.unusedSimpArgs false
namespace Jvm.Own
open Jvm Jvm.ClassFile Sem Op Lib Jvm.Free Jvm.Stand Jvm.LawKit Jvm.RoadKit Bundle
/-- from pc, with these locals and this stack, over the heap h, the body runs to its return, and Q holds of what it returns and of the heap it leaves -/
def Go (l : Launch) (Z : State) (n0 : Nat) (R : Room) (own nm : String) (code : ByteArray) (mL : Nat) (ret : Option FieldType) (I : State → Heap → Prop) (F : State → Option Value → State → List Loc → Prop)
    (h : Heap) (cells slots pc : Nat) (Ls : Array Slot) (st : List Value) : Prop :=
  ∀ (p : Program) (e : Env) (s : State) (m : MethodId) (args : Array Value) (below : List Frame) (meth : Method) (c : Code) (T : State) (locs : List Loc),
    p.tables.exec = Jvm.exec → Z.Warmed39 s.vm → s.vm.findClass own = some m.cls → meth.name = nm → c.code = code → c.maxLocals = mL → meth.sig.returnType = ret → meth.locks = false →
    Stand p l e R s m args below meth c T locs cells slots → Fr n0 locs → T.heap = h → I s h →
    ∃ s₂ v L, Steps p.tables e below (T.setTop (mkF m pc Ls st)) s₂ ∧ s₂.status = .running ∧ Ended s₂ below (.returned v) ∧ F s v s₂ L
/-- nothing is asked beside -/
abbrev IN : State → Heap → Prop := fun _ _ => True
/-- the end of a walk that interns nothing -/
def FN (n0 : Nat) (R : Room) (Q : Option Value → Heap → Prop) : State → Option Value → State → List Loc → Prop := fun s v s₂ L => Fr n0 L ∧ Q v s₂.heap ∧ FrameEnd s (.returned v) s₂ L R.cells R.slots
/-- a body's contract: called with as' over the heap h0 it returns, and Q holds -/
def Ct (l : Launch) (Z : State) (n0 : Nat) (own nm ds : String) (ws : List Cond) (code : ByteArray) (mL : Nat) (ret : Option FieldType) (rm : Room) (as' : Array Value) (h0 : Heap) (Q : Option Value → Heap → Prop) : Prop :=
  MetFree l (⟨own, nm, ds⟩ : MethodName) (head1 (Cond.code (⟨own, nm, ds⟩ : MethodName) code mL ret :: ws) rm) (fun a U => a = as' ∧ Z.Warmed39 U.vm ∧ U.heap = h0) (fun _ _ _ _ _ => True)
    (fun _ U o U' => ∃ v L, o = .returned v ∧ (Fr n0 L ∧ Q v U'.heap) ∧ FrameEnd U o U' L rm.cells rm.slots)
theorem cat_ref {v : Value} (h : v.isRef = true) : v.category = 1 := by cases v <;> simp_all [Value.isRef, Value.category]
theorem fits_ref' {v : Value} {C : String} (h : v.isRef = true) : fits (.object C) v = true := by cases v <;> simp_all [Value.isRef, fits]
theorem st_at {Ls Ls' : Array Slot} {k : Nat} {v : Value} {o : Slot} (hold : Ls[k]? = some o) (ho : One o) (hv : v.category = 1) (e : Ls.setIfInBounds k (.val v) = Ls') : storeLocals Ls k v = some Ls' := by rw [XS.store1 hold ho hv, e]
/-- null, or an object of just that class -/
def Nul (Z : State) (h : Heap) (v : Value) (C : String) : Prop := v = .null ∨ ∃ a, v = .ref a ∧ Exa Z h a C
theorem Nul.keep {Z : State} {h h' : Heap} {v : Value} {C : String} {ws : List Addr} (F : Nul Z h v C) (K : Keep h h' ws) : Nul Z h' v C := F.imp id fun ⟨a, e, E⟩ => ⟨a, e, E.keep K⟩
theorem Nul.isRef {Z : State} {h : Heap} {v : Value} {C : String} (F : Nul Z h v C) : v.isRef = true := by rcases F with rfl | ⟨a, rfl, -⟩ <;> rfl
theorem Nul.ins {Z : State} {h : Heap} {v : Value} {C : String} (F : Nul Z h v C) : v = .null ∨ ∃ a, v = .ref a ∧ Ins Z h a C true := F.imp id fun ⟨a, e, E⟩ => ⟨a, e, Ins.self E⟩
/-- a private method of a class that can be made selects itself -/
theorem sel_priv {Z : State} {a0 : Array Value} {y : MethodName} {n : Nat} (wi : (Cond.instantiable y.cls n).before a0 Z = true) (wm : (Cond.instanceMethod y).before a0 Z = true) (wp : (Cond.privateMethod y).before a0 Z = true) (hy : y.cls ≠ "java/lang/invoke/MethodHandle" ∧ y.cls ≠ "java/lang/invoke/VarHandle") : (Cond.selects y.cls y y).before a0 Z = true := by
  obtain ⟨mk, meth, hnamed, hmeth, -, -⟩ := Cond.instanceMethod_spec wm
  obtain ⟨c, k, hc, hk, -, hi, -, -⟩ := Cond.instantiable_spec wi
  have hfound := State.methodFound?_of_named hnamed hy
  have hc' := findClass_of_methodNamed hnamed
  cases hc.symm.trans hc'
  have hsel : selectMethod {} Z.vm mk.cls mk = .method mk := selectMethod_private hmeth (Cond.privateMethod_at wp mk meth hnamed hmeth)
  have hni : k.isInterface = false := by simp only [Bool.or_eq_false_iff] at hi; exact hi.1
  simp [Cond.before, Cond.holds, Cond.value, hc', hfound, hnamed, hsel, hk, hni]
/-- a call that is paid: by whatever theorem -/
def Pays (l : Launch) (Z : State) (n0 : Nat) (R : Room) (y : MethodName) (len W : Nat) (as' : Array Value) (h : Heap) (kc ks : Nat) (Q : Option Value → Heap → Prop) : Prop :=
  ∀ (p : Program) (e : Env) (below : List Frame) (s : State) (args : Array Value), Z.Warmed39 s.vm →
    Back l R p e below s args y len W (fun A a => a = as' ∧ A.U.heap = h ∧ A.cells + kc ≤ R.cells ∧ A.slots + ks ≤ R.slots) (fun A _ v B => ∃ L, (Fr n0 L ∧ Q v B.U.heap) ∧ B.locs = A.locs ++ L ∧ B.cells = A.cells + kc ∧ B.slots = A.slots + ks)
theorem nI {h : Heap} {ws : List Addr} : ∀ (s : State) (h' : Heap), Keep h h' ws → IN s h → IN s h' := fun _ _ _ _ => trivial
theorem nE {h : Heap} : ∀ (s : State) (h' : Heap), Ext h h' → h.size < h'.size → IN s h → IN s h' := fun _ _ _ _ _ => trivial
theorem nQ {h : Heap} {Q : Option Value → Heap → Prop} : ∀ (v : Option Value) (s : State) (h' : Heap), Q v h' → IN s h → IN s h' := fun _ _ _ _ _ => trivial
section Go
variable {l : Launch} {Z : State} {n0 : Nat} {R : Room} {own nm : String} {code : ByteArray} {mL : Nat} {ret : Option FieldType} {Q : Option Value → Heap → Prop} {I I' : State → Heap → Prop} {F : State → Option Value → State → List Loc → Prop} {h : Heap} {cells slots pc : Nat} {Ls : Array Slot} {st rest : List Value} {a0 : Array Value}
theorem Ct.of_go {ds : String} {ws : List Cond} {rm : Room} {as' : Array Value} {h0 : Heap} (hp : plainFor (⟨own, nm, ds⟩ : MethodName) = true) (hef : ∀ m, entryFrame m as' mL = mkF m 0 Ls []) (hg : Go l Z n0 rm own nm code mL ret IN (FN n0 rm Q) h0 0 0 0 Ls []) : Ct l Z n0 own nm ds ws code mL ret rm as' h0 Q := by
  refine MetFree.of_bodySF hp hisR ?_
  intro p e s m args below meth c s₁ Bd hml hP hK
  obtain ⟨rfl, hZ, hh⟩ := hP
  have hown : s.vm.findClass own = some m.cls := findClass_of_methodNamed Bd.named
  have hnm := (name_of_methodNamed Bd.named Bd.method).1
  have X0 : Stand p l e rm s m args below meth c s₁ [] 0 0 := Stand.of_body Bd
  have e0 : s₁.heap = h0 := by rw [← hh, Bd.state]; rfl
  obtain ⟨s₂, v, L, h1, h2, h3, h4, h5, h6⟩ := hg p e s m args below meth c s₁ [] Bd.exec hZ hown hnm Bd.bytes hml Bd.returns Bd.notSynchronized X0 (Fr.nil n0) e0 trivial
  exact ⟨s₂, _, castTop (hef m) h1, h2, h3, v, L, rfl, ⟨h4, h5⟩, h6⟩
theorem Ct.mono {ds : String} {ws : List Cond} {rm : Room} {as' : Array Value} {h0 : Heap} {Q' : Option Value → Heap → Prop} (C : Ct l Z n0 own nm ds ws code mL ret rm as' h0 Q) (hq : ∀ v h, Q v h → Q' v h) : Ct l Z n0 own nm ds ws code mL ret rm as' h0 Q' := by
  intro p e ha hc hk s m args below hf happ hP hK
  obtain ⟨n, o, h1, h2, h3, v, L, h4, ⟨h5, h6⟩, h7⟩ := C p e ha hc hk s m args below hf happ hP hK
  exact ⟨n, o, h1, h2, h3, v, L, h4, ⟨h5, hq _ _ h6⟩, h7⟩
theorem Go.more {cells' slots' : Nat} (hg : Go l Z n0 R own nm code mL ret I F h cells' slots' pc Ls st) (hc : cells ≤ cells') (hs : slots ≤ slots') : Go l Z n0 R own nm code mL ret I F h cells slots pc Ls st := by
  intro p e s m args below meth c T locs hx hZ ho hn hc' hm hr hk X N eT hJ
  exact hg p e s m args below meth c T locs hx hZ ho hn hc' hm hr hk (X.more hc hs) N eT hJ
theorem Go.castL {Ls' : Array Slot} (q : Ls = Ls') (hg : Go l Z n0 R own nm code mL ret I F h cells slots pc Ls' st) : Go l Z n0 R own nm code mL ret I F h cells slots pc Ls st := q ▸ hg
/-- a step that leaves the heap as it is -/
theorem Go.pure {pc' : Nat} {Ls' : Array Slot} {st' : List Value}
    (H : ∀ {p : Program} {e : Env} {s : State} {m : MethodId} {args : Array Value} {below : List Frame} {meth : Method} {c : Code} {T : State} {locs : List Loc} {target : State}, p.tables.exec = Jvm.exec → Z.Warmed39 s.vm → s.vm.findClass own = some m.cls → c.code = code →
      Stand p l e R s m args below meth c T locs cells slots → T.heap = h → Steps p.tables e below (T.setTop (mkF m pc' Ls' st')) target → Steps p.tables e below (T.setTop (mkF m pc Ls st)) target)
    (hr : Go l Z n0 R own nm code mL ret I F h cells slots pc' Ls' st') : Go l Z n0 R own nm code mL ret I F h cells slots pc Ls st := by
  intro p e s m args below meth c T locs hx hZ ho hn hc hm hr' hk X N eT hJ
  obtain ⟨s₂, v, L, h1, r⟩ := hr p e s m args below meth c T locs hx hZ ho hn hc hm hr' hk X N eT hJ
  exact ⟨s₂, v, L, H hx hZ ho hc X eT h1, r⟩
/-- a step over the tables that leaves the heap as it is -/
theorem Go.warm {pc' : Nat} {Ls' : Array Slot} {st' : List Value}
    (H : ∀ {p : Program} {e : Env} {s : State} {m : MethodId} {args : Array Value} {below : List Frame} {meth : Method} {c : Code} {T : State} {locs : List Loc}, p.tables.exec = Jvm.exec → Z.Warmed39 s.vm → s.vm.findClass own = some m.cls → c.code = code → c.maxLocals = mL →
      Stand p l e R s m args below meth c T locs cells slots → T.heap = h → ∃ T', Stand p l e R s m args below meth c T' locs cells slots ∧ T'.heap = h ∧ ∀ target, Steps p.tables e below (T'.setTop (mkF m pc' Ls' st')) target → Steps p.tables e below (T.setTop (mkF m pc Ls st)) target)
    (hr : Go l Z n0 R own nm code mL ret I F h cells slots pc' Ls' st') : Go l Z n0 R own nm code mL ret I F h cells slots pc Ls st := by
  intro p e s m args below meth c T locs hx hZ ho hn hc hm hr' hk X N eT hJ
  obtain ⟨T', X', e', stp⟩ := H hx hZ ho hc hm X eT
  obtain ⟨s₂, v, L, h1, r⟩ := hr p e s m args below meth c T' locs hx hZ ho hn hc hm hr' hk X' N e' hJ
  exact ⟨s₂, v, L, stp _ h1, r⟩
/-! plain steps -/
theorem Go.iloadN {k : Fin 4} {v : Int32} (hd : decode code pc = .ok (.iload_n k, 1)) (hl : Ls[k.val]? = some (.val (.int v))) (hr : Go l Z n0 R own nm code mL ret I F h cells slots (pc + 1) Ls (.int v :: st)) : Go l Z n0 R own nm code mL ret I F h cells slots pc Ls st := Go.pure (fun hx _ _ hc X _ k => XS.iloadN X.here hx rfl (hb hc hd) hl k) hr
theorem Go.iload {k : Nat} {v : Int32} (hd : decode code pc = .ok (.iload k, 2)) (hl : Ls[k]? = some (.val (.int v))) (hr : Go l Z n0 R own nm code mL ret I F h cells slots (pc + 2) Ls (.int v :: st)) : Go l Z n0 R own nm code mL ret I F h cells slots pc Ls st := Go.pure (fun hx _ _ hc X _ k => XS.iload X.here hx rfl (hb hc hd) hl k) hr
theorem Go.lloadN {k : Fin 4} {v : Int64} (hd : decode code pc = .ok (.lload_n k, 1)) (hl : Ls[k.val]? = some (.val (.long v))) (hr : Go l Z n0 R own nm code mL ret I F h cells slots (pc + 1) Ls (.long v :: st)) : Go l Z n0 R own nm code mL ret I F h cells slots pc Ls st := Go.pure (fun hx _ _ hc X _ k => XT.lloadN X.here hx rfl (hb hc hd) hl k) hr
theorem Go.lload {k : Nat} {v : Int64} (hd : decode code pc = .ok (.lload k, 2)) (hl : Ls[k]? = some (.val (.long v))) (hr : Go l Z n0 R own nm code mL ret I F h cells slots (pc + 2) Ls (.long v :: st)) : Go l Z n0 R own nm code mL ret I F h cells slots pc Ls st := Go.pure (fun hx _ _ hc X _ k => XT.lload X.here hx rfl (hb hc hd) hl k) hr
theorem Go.aloadN {k : Fin 4} {v : Value} (hd : decode code pc = .ok (.aload_n k, 1)) (hl : Ls[k.val]? = some (.val v)) (hv : v.isRef = true) (hr : Go l Z n0 R own nm code mL ret I F h cells slots (pc + 1) Ls (v :: st)) : Go l Z n0 R own nm code mL ret I F h cells slots pc Ls st := Go.pure (fun hx _ _ hc X _ k => XS.aloadN X.here hx rfl (hb hc hd) hl hv k) hr
theorem Go.aload {k : Nat} {v : Value} (hd : decode code pc = .ok (.aload k, 2)) (hl : Ls[k]? = some (.val v)) (hv : v.isRef = true) (hr : Go l Z n0 R own nm code mL ret I F h cells slots (pc + 2) Ls (v :: st)) : Go l Z n0 R own nm code mL ret I F h cells slots pc Ls st := Go.pure (fun hx _ _ hc X _ k => XS.aload X.here hx rfl (hb hc hd) hl hv k) hr
theorem Go.istoreN {k : Fin 4} {x : Int32} {Ls' : Array Slot} (hd : decode code pc = .ok (.istore_n k, 1)) (hl : storeLocals Ls k.val (.int x) = some Ls') (hr : Go l Z n0 R own nm code mL ret I F h cells slots (pc + 1) Ls' st) : Go l Z n0 R own nm code mL ret I F h cells slots pc Ls (.int x :: st) := Go.pure (fun hx _ _ hc X _ k => XS.istoreN X.here hx rfl (hb hc hd) rfl hl k) hr
theorem Go.istore {k : Nat} {x : Int32} {Ls' : Array Slot} (hd : decode code pc = .ok (.istore k, 2)) (hl : storeLocals Ls k (.int x) = some Ls') (hr : Go l Z n0 R own nm code mL ret I F h cells slots (pc + 2) Ls' st) : Go l Z n0 R own nm code mL ret I F h cells slots pc Ls (.int x :: st) := Go.pure (fun hx _ _ hc X _ k => XS.istore X.here hx rfl (hb hc hd) rfl hl k) hr
theorem Go.lstoreN {k : Fin 4} {x : Int64} {Ls' : Array Slot} (hd : decode code pc = .ok (.lstore_n k, 1)) (hl : storeLocals Ls k.val (.long x) = some Ls') (hr : Go l Z n0 R own nm code mL ret I F h cells slots (pc + 1) Ls' st) : Go l Z n0 R own nm code mL ret I F h cells slots pc Ls (.long x :: st) := Go.pure (fun hx _ _ hc X _ k => XT.lstoreN X.here hx rfl (hb hc hd) rfl hl k) hr
theorem Go.lstore {k : Nat} {x : Int64} {Ls' : Array Slot} (hd : decode code pc = .ok (.lstore k, 2)) (hl : storeLocals Ls k (.long x) = some Ls') (hr : Go l Z n0 R own nm code mL ret I F h cells slots (pc + 2) Ls' st) : Go l Z n0 R own nm code mL ret I F h cells slots pc Ls (.long x :: st) := Go.pure (fun hx _ _ hc X _ k => XT.lstore X.here hx rfl (hb hc hd) rfl hl k) hr
theorem Go.astoreN {k : Fin 4} {x : Value} {Ls' : Array Slot} (hd : decode code pc = .ok (.astore_n k, 1)) (hv : x.isRef = true) (hl : storeLocals Ls k.val x = some Ls') (hr : Go l Z n0 R own nm code mL ret I F h cells slots (pc + 1) Ls' st) : Go l Z n0 R own nm code mL ret I F h cells slots pc Ls (x :: st) := Go.pure (fun hx _ _ hc X _ k => XS.astoreN X.here hx rfl (hb hc hd) rfl hv hl k) hr
theorem Go.astore {k : Nat} {x : Value} {Ls' : Array Slot} (hd : decode code pc = .ok (.astore k, 2)) (hv : x.isRef = true) (hl : storeLocals Ls k x = some Ls') (hr : Go l Z n0 R own nm code mL ret I F h cells slots (pc + 2) Ls' st) : Go l Z n0 R own nm code mL ret I F h cells slots pc Ls (x :: st) := Go.pure (fun hx _ _ hc X _ k => XS.astore X.here hx rfl (hb hc hd) rfl hv hl k) hr
theorem Go.iconst {i : Int} (z : Int32) (hd : decode code pc = .ok (.iconst i, 1)) (hz : Int32.ofInt i = z) (hr : Go l Z n0 R own nm code mL ret I F h cells slots (pc + 1) Ls (.int z :: st)) : Go l Z n0 R own nm code mL ret I F h cells slots pc Ls st := by subst hz; exact Go.pure (fun hx _ _ hc X _ k => XS.iconst X.here hx rfl (hb hc hd) k) hr
theorem Go.bipush {i : Int} (z : Int32) (hd : decode code pc = .ok (.bipush i, 2)) (hz : (Int8.ofInt i).toInt32 = z) (hr : Go l Z n0 R own nm code mL ret I F h cells slots (pc + 2) Ls (.int z :: st)) : Go l Z n0 R own nm code mL ret I F h cells slots pc Ls st := by subst hz; exact Go.pure (fun hx _ _ hc X _ k => XS.bipush X.here hx rfl (hb hc hd) k) hr
theorem Go.sipush {i : Int} (z : Int32) (hd : decode code pc = .ok (.sipush i, 3)) (hz : (Int16.ofInt i).toInt32 = z) (hr : Go l Z n0 R own nm code mL ret I F h cells slots (pc + 3) Ls (.int z :: st)) : Go l Z n0 R own nm code mL ret I F h cells slots pc Ls st := by subst hz; exact Go.pure (fun hx _ _ hc X _ k => XS.sipush X.here hx rfl (hb hc hd) k) hr
theorem Go.null (hd : decode code pc = .ok (.aconst_null, 1)) (hr : Go l Z n0 R own nm code mL ret I F h cells slots (pc + 1) Ls (.null :: st)) : Go l Z n0 R own nm code mL ret I F h cells slots pc Ls st := Go.pure (fun hx _ _ hc X _ k => XS.aconstNull X.here hx rfl (hb hc hd) k) hr
theorem Go.iadd {x y : Int32} (hd : decode code pc = .ok (.iadd, 1)) (hr : Go l Z n0 R own nm code mL ret I F h cells slots (pc + 1) Ls (.int (x + y) :: st)) : Go l Z n0 R own nm code mL ret I F h cells slots pc Ls (.int y :: .int x :: st) := Go.pure (fun hx _ _ hc X _ k => XS.iadd X.here hx rfl (hb hc hd) rfl k) hr
theorem Go.isub {x y : Int32} (hd : decode code pc = .ok (.isub, 1)) (hr : Go l Z n0 R own nm code mL ret I F h cells slots (pc + 1) Ls (.int (x - y) :: st)) : Go l Z n0 R own nm code mL ret I F h cells slots pc Ls (.int y :: .int x :: st) := Go.pure (fun hx _ _ hc X _ k => XS.isub X.here hx rfl (hb hc hd) rfl k) hr
theorem Go.imul {x y : Int32} (hd : decode code pc = .ok (.imul, 1)) (hr : Go l Z n0 R own nm code mL ret I F h cells slots (pc + 1) Ls (.int (x * y) :: st)) : Go l Z n0 R own nm code mL ret I F h cells slots pc Ls (.int y :: .int x :: st) := Go.pure (fun hx _ _ hc X _ k => XS.imul X.here hx rfl (hb hc hd) rfl k) hr
theorem Go.idiv {x y : Int32} (hd : decode code pc = .ok (.idiv, 1)) (hy : y ≠ 0) (hr : Go l Z n0 R own nm code mL ret I F h cells slots (pc + 1) Ls (.int (x / y) :: st)) : Go l Z n0 R own nm code mL ret I F h cells slots pc Ls (.int y :: .int x :: st) := Go.pure (fun hx _ _ hc X _ k => XS.idiv X.here hx rfl (hb hc hd) rfl hy k) hr
theorem Go.irem {x y : Int32} (hd : decode code pc = .ok (.irem, 1)) (hy : y ≠ 0) (hr : Go l Z n0 R own nm code mL ret I F h cells slots (pc + 1) Ls (.int (x % y) :: st)) : Go l Z n0 R own nm code mL ret I F h cells slots pc Ls (.int y :: .int x :: st) := Go.pure (fun hx _ _ hc X _ k => iremM X hx (g := mkF _ pc Ls _) rfl (hb hc hd) rfl hy k) hr
theorem Go.ineg {x : Int32} (hd : decode code pc = .ok (.ineg, 1)) (hr : Go l Z n0 R own nm code mL ret I F h cells slots (pc + 1) Ls (.int (-x) :: st)) : Go l Z n0 R own nm code mL ret I F h cells slots pc Ls (.int x :: st) := Go.pure (fun hx _ _ hc X _ k => XS.ineg X.here hx rfl (hb hc hd) rfl k) hr
theorem Go.iand {x y : Int32} (hd : decode code pc = .ok (.iand, 1)) (hr : Go l Z n0 R own nm code mL ret I F h cells slots (pc + 1) Ls (.int (x &&& y) :: st)) : Go l Z n0 R own nm code mL ret I F h cells slots pc Ls (.int y :: .int x :: st) := Go.pure (fun hx _ _ hc X _ k => XS.iand X.here hx rfl (hb hc hd) rfl k) hr
theorem Go.ior {x y : Int32} (hd : decode code pc = .ok (.ior, 1)) (hr : Go l Z n0 R own nm code mL ret I F h cells slots (pc + 1) Ls (.int (x ||| y) :: st)) : Go l Z n0 R own nm code mL ret I F h cells slots pc Ls (.int y :: .int x :: st) := Go.pure (fun hx _ _ hc X _ k => XT.ior X.here hx rfl (hb hc hd) rfl k) hr
theorem Go.ixor {x y : Int32} (hd : decode code pc = .ok (.ixor, 1)) (hr : Go l Z n0 R own nm code mL ret I F h cells slots (pc + 1) Ls (.int (x ^^^ y) :: st)) : Go l Z n0 R own nm code mL ret I F h cells slots pc Ls (.int y :: .int x :: st) := Go.pure (fun hx _ _ hc X _ k => XT.ixor X.here hx rfl (hb hc hd) rfl k) hr
theorem Go.ishl {x y : Int32} (hd : decode code pc = .ok (.ishl, 1)) (hr : Go l Z n0 R own nm code mL ret I F h cells slots (pc + 1) Ls (.int (x <<< (y &&& 31)) :: st)) : Go l Z n0 R own nm code mL ret I F h cells slots pc Ls (.int y :: .int x :: st) := Go.pure (fun hx _ _ hc X _ k => XT.ishl X.here hx rfl (hb hc hd) rfl k) hr
theorem Go.ishr {x y : Int32} (hd : decode code pc = .ok (.ishr, 1)) (hr : Go l Z n0 R own nm code mL ret I F h cells slots (pc + 1) Ls (.int (x >>> (y &&& 31)) :: st)) : Go l Z n0 R own nm code mL ret I F h cells slots pc Ls (.int y :: .int x :: st) := Go.pure (fun hx _ _ hc X _ k => XT.ishr X.here hx rfl (hb hc hd) rfl k) hr
theorem Go.iushr {x y : Int32} (hd : decode code pc = .ok (.iushr, 1)) (hr : Go l Z n0 R own nm code mL ret I F h cells slots (pc + 1) Ls (.int ((x.toUInt32 >>> (y &&& 31).toUInt32).toInt32) :: st)) : Go l Z n0 R own nm code mL ret I F h cells slots pc Ls (.int y :: .int x :: st) := Go.pure (fun hx _ _ hc X _ k => XT.iushr X.here hx rfl (hb hc hd) rfl k) hr
theorem Go.i2c {x : Int32} (hd : decode code pc = .ok (.i2c, 1)) (hr : Go l Z n0 R own nm code mL ret I F h cells slots (pc + 1) Ls (.int x.toUInt32.toUInt16.toUInt32.toInt32 :: st)) : Go l Z n0 R own nm code mL ret I F h cells slots pc Ls (.int x :: st) := Go.pure (fun hx _ _ hc X _ k => XT.i2c X.here hx rfl (hb hc hd) rfl k) hr
theorem Go.i2b {x : Int32} (hd : decode code pc = .ok (.i2b, 1)) (hr : Go l Z n0 R own nm code mL ret I F h cells slots (pc + 1) Ls (.int x.toInt8.toInt32 :: st)) : Go l Z n0 R own nm code mL ret I F h cells slots pc Ls (.int x :: st) := Go.pure (fun hx _ _ hc X _ k => XT.i2b X.here hx rfl (hb hc hd) rfl k) hr
theorem Go.i2s {x : Int32} (hd : decode code pc = .ok (.i2s, 1)) (hr : Go l Z n0 R own nm code mL ret I F h cells slots (pc + 1) Ls (.int x.toInt16.toInt32 :: st)) : Go l Z n0 R own nm code mL ret I F h cells slots pc Ls (.int x :: st) := Go.pure (fun hx _ _ hc X _ k => XT.i2s X.here hx rfl (hb hc hd) rfl k) hr
theorem Go.iinc {k : Nat} {cst : Int} {x : Int32} {Ls' : Array Slot} (z : Int32) (hz : Int32.ofInt cst = z) (hd : decode code pc = .ok (.iinc k cst, 3)) (hl : Ls[k]? = some (.val (.int x))) (hl' : storeLocals Ls k (.int (x + z)) = some Ls') (hr : Go l Z n0 R own nm code mL ret I F h cells slots (pc + 3) Ls' st) : Go l Z n0 R own nm code mL ret I F h cells slots pc Ls st := by subst hz; exact Go.pure (fun hx _ _ hc X _ k => XS.iinc X.here hx rfl (hb hc hd) hl hl' k) hr
theorem Go.dup {x : Value} (hd : decode code pc = .ok (.dup, 1)) (hc : x.category = 1) (hr : Go l Z n0 R own nm code mL ret I F h cells slots (pc + 1) Ls (x :: x :: st)) : Go l Z n0 R own nm code mL ret I F h cells slots pc Ls (x :: st) := Go.pure (fun hx _ _ hc' X _ k => XS.dup X.here hx rfl (hb hc' hd) rfl hc k) hr
theorem Go.pop {x : Value} (hd : decode code pc = .ok (.pop, 1)) (hc : x.category = 1) (hr : Go l Z n0 R own nm code mL ret I F h cells slots (pc + 1) Ls st) : Go l Z n0 R own nm code mL ret I F h cells slots pc Ls (x :: st) := Go.pure (fun hx _ _ hc' X _ k => XT.pop X.here hx rfl (hb hc' hd) rfl hc k) hr
theorem Go.dupX1 {x y : Value} (hd : decode code pc = .ok (.dup_x1, 1)) (hc : x.category = 1) (hc2 : y.category = 1) (hr : Go l Z n0 R own nm code mL ret I F h cells slots (pc + 1) Ls (x :: y :: x :: st)) : Go l Z n0 R own nm code mL ret I F h cells slots pc Ls (x :: y :: st) := Go.pure (fun hx _ _ hc' X _ k => XT.dupX1 X.here hx rfl (hb hc' hd) rfl hc hc2 k) hr
theorem Go.dup2 {x y : Value} (hd : decode code pc = .ok (.dup2, 1)) (hc : x.category = 1) (hc2 : y.category = 1) (hr : Go l Z n0 R own nm code mL ret I F h cells slots (pc + 1) Ls (x :: y :: x :: y :: st)) : Go l Z n0 R own nm code mL ret I F h cells slots pc Ls (x :: y :: st) := Go.pure (fun hx _ _ hc' X _ k => XT.dup2 X.here hx rfl (hb hc' hd) rfl hc hc2 k) hr
/-! branches -/
theorem Go.goto {o : Int} (pc' : Nat) (hd : decode code pc = .ok (.goto o, 3)) (ho : 0 ≤ (pc : Int) + o) (hp : ((pc : Int) + o).toNat = pc') (hr : Go l Z n0 R own nm code mL ret I F h cells slots pc' Ls st) : Go l Z n0 R own nm code mL ret I F h cells slots pc Ls st := Go.pure (fun hx _ _ hc X _ k => XS.goto X.here hx rfl (pc0 := pc) rfl (hb hc hd) ho hp k) hr
theorem Go.ifT {cd : ClassFile.Cond} {x : Int32} {o : Int} (pc' : Nat) (hd : decode code pc = .ok (.ifCond cd o, 3)) (hc : if_icmp.holds cd x 0 = true) (ho : 0 ≤ (pc : Int) + o) (hp : ((pc : Int) + o).toNat = pc') (hr : Go l Z n0 R own nm code mL ret I F h cells slots pc' Ls st) : Go l Z n0 R own nm code mL ret I F h cells slots pc Ls (.int x :: st) := Go.pure (fun hx _ _ hc' X _ k => XS.ifYes X.here hx rfl (pc0 := pc) rfl (hb hc' hd) rfl ((if0 _ _).trans hc) ho hp k) hr
theorem Go.ifF {cd : ClassFile.Cond} {x : Int32} {o : Int} (hd : decode code pc = .ok (.ifCond cd o, 3)) (hc : if_icmp.holds cd x 0 = false) (hr : Go l Z n0 R own nm code mL ret I F h cells slots (pc + 3) Ls st) : Go l Z n0 R own nm code mL ret I F h cells slots pc Ls (.int x :: st) := Go.pure (fun hx _ _ hc' X _ k => XS.ifNo X.here hx rfl (hb hc' hd) rfl ((if0 _ _).trans hc) k) hr
theorem Go.icT {cd : ClassFile.Cond} {x y : Int32} {o : Int} (pc' : Nat) (hd : decode code pc = .ok (.if_icmp cd o, 3)) (hc : if_icmp.holds cd x y = true) (ho : 0 ≤ (pc : Int) + o) (hp : ((pc : Int) + o).toNat = pc') (hr : Go l Z n0 R own nm code mL ret I F h cells slots pc' Ls st) : Go l Z n0 R own nm code mL ret I F h cells slots pc Ls (.int y :: .int x :: st) := Go.pure (fun hx _ _ hc' X _ k => XS.icmpYes X.here hx rfl (pc0 := pc) rfl (hb hc' hd) rfl hc ho hp k) hr
theorem Go.icF {cd : ClassFile.Cond} {x y : Int32} {o : Int} (hd : decode code pc = .ok (.if_icmp cd o, 3)) (hc : if_icmp.holds cd x y = false) (hr : Go l Z n0 R own nm code mL ret I F h cells slots (pc + 3) Ls st) : Go l Z n0 R own nm code mL ret I F h cells slots pc Ls (.int y :: .int x :: st) := Go.pure (fun hx _ _ hc' X _ k => XS.icmpNo X.here hx rfl (hb hc' hd) rfl hc k) hr
theorem Go.nullT {o : Int} (pc' : Nat) (hd : decode code pc = .ok (.ifnull o, 3)) (ho : 0 ≤ (pc : Int) + o) (hp : ((pc : Int) + o).toNat = pc') (hr : Go l Z n0 R own nm code mL ret I F h cells slots pc' Ls st) : Go l Z n0 R own nm code mL ret I F h cells slots pc Ls (.null :: st) := Go.pure (fun hx _ _ hc' X _ k => XS.ifnullYes X.here hx rfl (pc0 := pc) rfl (hb hc' hd) rfl ho hp k) hr
theorem Go.nullF {o : Int} {b : Addr} (hd : decode code pc = .ok (.ifnull o, 3)) (hr : Go l Z n0 R own nm code mL ret I F h cells slots (pc + 3) Ls st) : Go l Z n0 R own nm code mL ret I F h cells slots pc Ls (.ref b :: st) := Go.pure (fun hx _ _ hc' X _ k => XS.ifnullNo X.here hx rfl (hb hc' hd) rfl k) hr
theorem Go.nnT {o : Int} {b : Addr} (pc' : Nat) (hd : decode code pc = .ok (.ifnonnull o, 3)) (ho : 0 ≤ (pc : Int) + o) (hp : ((pc : Int) + o).toNat = pc') (hr : Go l Z n0 R own nm code mL ret I F h cells slots pc' Ls st) : Go l Z n0 R own nm code mL ret I F h cells slots pc Ls (.ref b :: st) := Go.pure (fun hx _ _ hc' X _ k => XT.ifnonnullYes X.here hx rfl (pc0 := pc) rfl (hb hc' hd) rfl ho hp k) hr
theorem Go.nnF {o : Int} (hd : decode code pc = .ok (.ifnonnull o, 3)) (hr : Go l Z n0 R own nm code mL ret I F h cells slots (pc + 3) Ls st) : Go l Z n0 R own nm code mL ret I F h cells slots pc Ls (.null :: st) := Go.pure (fun hx _ _ hc' X _ k => XT.ifnonnullNo X.here hx rfl (hb hc' hd) rfl k) hr
theorem Go.acmp {cd : ACond} {x y : Value} {o : Int} (pc' : Nat) (same : Bool) (hd : decode code pc = .ok (.if_acmp cd o, 3)) (h1 : x.isRef = true) (h2 : y.isRef = true) (hq : decide (x = y) = same) (ho : 0 ≤ (pc : Int) + o) (hp : pc' = if acV cd same = true then ((pc : Int) + o).toNat else pc + 3) (hr : Go l Z n0 R own nm code mL ret I F h cells slots pc' Ls st) : Go l Z n0 R own nm code mL ret I F h cells slots pc Ls (y :: x :: st) :=
  Go.pure (fun hx _ _ hc' X _ k => Jvm.RoadKit.acmp (g := mkF _ pc Ls _) X hx rfl h1 h2 (pc0 := pc) (same := same) rfl (hb hc' hd) rfl hq ho hp k) hr
/-! constants of the pool -/
theorem Go.ldc {index : Nat} {v : Int32} (w : (Cond.constant own index v).before a0 Z = true) (hd : decode code pc = .ok (.ldc index, 2)) (hr : Go l Z n0 R own nm code mL ret I F h cells slots (pc + 2) Ls (.int v :: st)) : Go l Z n0 R own nm code mL ret I F h cells slots pc Ls st := Go.pure (fun hx hZ ho hc X _ k => X.ldcInt hx ho (mvT hZ w) (g := mkF _ pc Ls st) rfl (hb hc hd) _ k) hr
theorem Go.ldcw {index : Nat} {v : Int32} (w : (Cond.constant own index v).before a0 Z = true) (hd : decode code pc = .ok (.ldc_w index, 3)) (hr : Go l Z n0 R own nm code mL ret I F h cells slots (pc + 3) Ls (.int v :: st)) : Go l Z n0 R own nm code mL ret I F h cells slots pc Ls st := Go.pure (fun hx hZ ho hc X _ k => X.ldcwInt hx ho (mvT hZ w) (g := mkF _ pc Ls st) rfl (hb hc hd) _ k) hr
/-! fields -/
theorem Go.getF {R0 O n d : String} {index : Nat} {a : Addr} {v : Value} (w : (Cond.fieldLink own index R0 n d).before a0 Z = true) (via : Via Z R0 O n d) (FF : Fld Z h a O n d v) (hd : decode code pc = .ok (.getfield index, 3)) (hr : Go l Z n0 R own nm code mL ret I F h cells slots (pc + 3) Ls (v :: st)) : Go l Z n0 R own nm code mL ret I F h cells slots pc Ls (.ref a :: st) :=
  Go.warm (fun hx hZ ho hc _ X eT => Jvm.RoadKit.getF X hx hZ ho (host := "") (Or.inl w) via eT FF (g := mkF _ pc Ls _) rfl rfl (hb hc hd)) hr
theorem Go.getFN {R0 O n d host : String} {index : Nat} {a : Addr} {v : Value} (w : (Cond.fieldLinkNest own index R0 n d host).before a0 Z = true) (via : Via Z R0 O n d) (FF : Fld Z h a O n d v) (hd : decode code pc = .ok (.getfield index, 3)) (hr : Go l Z n0 R own nm code mL ret I F h cells slots (pc + 3) Ls (v :: st)) : Go l Z n0 R own nm code mL ret I F h cells slots pc Ls (.ref a :: st) :=
  Go.warm (fun hx hZ ho hc _ X eT => Jvm.RoadKit.getF X hx hZ ho (Or.inr w) via eT FF (g := mkF _ pc Ls _) rfl rfl (hb hc hd)) hr
theorem Go.getS {R0 O n d : String} {index : Nat} {v : Value} (w : (Cond.fieldLink own index R0 n d).before a0 Z = true) (via : Via Z R0 O n d) (FF : Sta Z h O n d v) (hd : decode code pc = .ok (.getstatic index, 3)) (hr : Go l Z n0 R own nm code mL ret I F h cells slots (pc + 3) Ls (v :: st)) : Go l Z n0 R own nm code mL ret I F h cells slots pc Ls st :=
  Go.warm (fun hx hZ ho hc _ X eT => Jvm.RoadKit.getS2 X hx hZ ho (host := "") (Or.inl w) via eT FF (g := mkF _ pc Ls st) rfl (hb hc hd)) hr
theorem Go.putF {R0 O n d C : String} {index kk : Nat} {ty : FieldType} {a : Addr} {v old : Value} (w : (Cond.fieldLink own index R0 n d).before a0 Z = true) (via : Via Z R0 O n d) (FF : Fld Z h a O n d old) (E : Exa Z h a C) (L : (Cond.lays C O n d).before a0 Z = true ∨ ((Cond.laysFinal C O n d).before a0 Z = true ∧ own = O ∧ nm = "<init>")) (wi : (Cond.instantiable C kk).before a0 Z = true)
    (hty : parseFieldDescriptor d = some ty) (hnw : narrow ty v = v) (hf : fits ty v = true) (q : n0 ≤ a) (hd : decode code pc = .ok (.putfield index, 3)) (hI : ∀ (s : State) (h' : Heap), Keep h h' [a] → I s h → I' s h') (hr : ∀ h', Wr h h' a (Jvm.RoadKit.slotOf Z O n d) v → Go l Z n0 R own nm code mL ret I' F h' cells slots (pc + 3) Ls st) : Go l Z n0 R own nm code mL ret I F h cells slots pc Ls (v :: .ref a :: st) := by
  intro p e s m args below meth c T locs hx hZ ho hn hc hm hr' hk X N eT hJ
  obtain ⟨T', h', X', e', W', stp⟩ := Jvm.RoadKit.putF X hx hZ ho (host := "") (Or.inl w) via eT FF E (L.imp id fun z => ⟨z.1, z.2.1, hn.trans z.2.2⟩) wi hty hnw hf (g := mkF m pc Ls (v :: .ref a :: st)) rfl rfl (hb hc hd)
  obtain ⟨s₂, v, L, h1, r⟩ := hr h' W' p e s m args below meth c T' _ hx hZ ho hn hc hm hr' hk X' (Fr.snoc X' N q) e' (hI s h' (Keep.of_wr W') hJ)
  exact ⟨s₂, v, L, stp _ h1, r⟩
/-- a field of a narrow kind -/
theorem Go.putFN {R0 O n d C : String} {index kk : Nat} {ty : FieldType} {a : Addr} {v v' old : Value} (w : (Cond.fieldLink own index R0 n d).before a0 Z = true) (via : Via Z R0 O n d) (FF : Fld Z h a O n d old) (E : Exa Z h a C) (L : (Cond.lays C O n d).before a0 Z = true ∨ ((Cond.laysFinal C O n d).before a0 Z = true ∧ own = O ∧ nm = "<init>")) (wi : (Cond.instantiable C kk).before a0 Z = true)
    (hty : parseFieldDescriptor d = some ty) (hnw : narrow ty v = v') (hf : fits ty v' = true) (q : n0 ≤ a) (hd : decode code pc = .ok (.putfield index, 3)) (hI : ∀ (s : State) (h' : Heap), Keep h h' [a] → I s h → I' s h') (hr : ∀ h', Wr h h' a (Jvm.RoadKit.slotOf Z O n d) v' → Go l Z n0 R own nm code mL ret I' F h' cells slots (pc + 3) Ls st) : Go l Z n0 R own nm code mL ret I F h cells slots pc Ls (v :: .ref a :: st) := by
  intro p e s m args below meth c T locs hx hZ ho hn hc hm hr' hk X N eT hJ
  obtain ⟨T', h', X', e', W', stp⟩ := Jvm.RoadKit.putFN X hx hZ ho w via eT FF E (L.imp id fun z => ⟨z.1, z.2.1, hn.trans z.2.2⟩) wi hty hnw hf (g := mkF m pc Ls (v :: .ref a :: st)) rfl rfl (hb hc hd)
  obtain ⟨s₂, v, L, h1, r⟩ := hr h' W' p e s m args below meth c T' _ hx hZ ho hn hc hm hr' hk X' (Fr.snoc X' N q) e' (hI s h' (Keep.of_wr W') hJ)
  exact ⟨s₂, v, L, stp _ h1, r⟩
/-! making -/
theorem Go.new {C : String} {index n : Nat} (w : (Cond.classLink own index C).before a0 Z = true) (wi : (Cond.instantiable C n).before a0 Z = true) (wz : (Cond.initialized C).before a0 Z = true) (hd : decode code pc = .ok (.new index, 3)) (hc1 : cells + 1 ≤ R.cells) (hl : slots + n ≤ R.slots)
    (hI : ∀ (s : State) (h' : Heap), Ext h h' → h.size < h'.size → I s h → I' s h') (hr : ∀ (h' : Heap) (b : Addr), b = h.size → Ext h h' → Exa Z h' b C → (∀ {O nm d : String} {ty : FieldType}, Laid Z a0 C O nm d → parseFieldDescriptor d = some ty → Fld Z h' b O nm d (defaultValue ty)) → Go l Z n0 R own nm code mL ret I' F h' (cells + 1) (slots + n) (pc + 3) Ls (.ref b :: st)) : Go l Z n0 R own nm code mL ret I F h cells slots pc Ls st := by
  intro p e s m args below meth c T locs hx hZ ho hn hc hm hr' hk X N eT hJ
  obtain ⟨T', h', X', e', E', A', D', -, stp⟩ := newO X hx hZ ho w wi wz eT (g := mkF m pc Ls st) rfl (hb hc hd) hc1 hl
  obtain ⟨s₂, v, L, h1, r⟩ := hr h' _ rfl E' A' D' p e s m args below meth c T' _ hx hZ ho hn hc hm hr' hk X' N e' (hI s h' E' A'.lt hJ)
  exact ⟨s₂, v, L, stp _ h1, r⟩
theorem Go.newP {aty : ArrayType} (ty : FieldType) {n : Int32} (w : (Cond.arrayClass ty).before a0 Z = true) (hty : newarray.typeOf aty = ty) (hd : decode code pc = .ok (.newarray aty, 2)) (hn0 : ¬ n < 0) (cap : Nat) (hcap : n.toNatClampNeg ≤ cap) (hb0 : cap * 8 ≤ 536870912) (hc1 : cells + 1 ≤ R.cells) (hl : slots + cap ≤ R.slots)
    (hI : ∀ (s : State) (h' : Heap), Ext h h' → h.size < h'.size → I s h → I' s h') (hr : ∀ (h' : Heap) (b : Addr) (k : ClassId), b = h.size → Ext h h' → Arv Z h' b k ty n [] (defaultValue ty) → Go l Z n0 R own nm code mL ret I' F h' (cells + 1) (slots + cap) (pc + 2) Ls (.ref b :: st)) : Go l Z n0 R own nm code mL ret I F h cells slots pc Ls (.int n :: st) := by
  subst hty
  intro p e s m args below meth c T locs hx hZ ho hn hc hm hr' hk X N eT hJ
  obtain ⟨T', h', k, X', e', E', A', stp⟩ := Jvm.RoadKit.newP X hx hZ w eT (g := mkF m pc Ls (.int n :: st)) rfl (hb hc hd) rfl hn0 hcap hb0 hc1 hl
  obtain ⟨s₂, v, L, h1, r⟩ := hr h' _ k rfl E' (Arv.new A' hn0) p e s m args below meth c T' _ hx hZ ho hn hc hm hr' hk X' N e' (hI s h' E' A'.lt hJ)
  exact ⟨s₂, v, L, stp _ h1, r⟩
theorem Go.newR {C : String} {index : Nat} {n : Int32} (w : (Cond.classLink own index C).before a0 Z = true) (w2 : (Cond.arrayOver (.object C)).before a0 Z = true) (hd : decode code pc = .ok (.anewarray index, 3)) (hn0 : ¬ n < 0) (cap : Nat) (hcap : n.toNatClampNeg ≤ cap) (hb0 : cap * 8 ≤ 536870912) (hc1 : cells + 1 ≤ R.cells) (hl : slots + cap ≤ R.slots)
    (hI : ∀ (s : State) (h' : Heap), Ext h h' → h.size < h'.size → I s h → I' s h') (hr : ∀ (h' : Heap) (b : Addr) (k : ClassId), b = h.size → Ext h h' → Arv Z h' b k (.object C) n [] .null → Ovr Z k C → Go l Z n0 R own nm code mL ret I' F h' (cells + 1) (slots + cap) (pc + 3) Ls (.ref b :: st)) : Go l Z n0 R own nm code mL ret I F h cells slots pc Ls (.int n :: st) := by
  intro p e s m args below meth c T locs hx hZ ho hn hc hm hr' hk X N eT hJ
  obtain ⟨T', h', k, X', e', E', A', O', stp⟩ := Jvm.RoadKit.newR X hx hZ ho w w2 eT (g := mkF m pc Ls (.int n :: st)) rfl (hb hc hd) rfl hn0 hcap hb0 hc1 hl
  obtain ⟨s₂, v, L, h1, r⟩ := hr h' _ k rfl E' (Arv.new A' hn0) O' p e s m args below meth c T' _ hx hZ ho hn hc hm hr' hk X' N e' (hI s h' E' A'.lt hJ)
  exact ⟨s₂, v, L, stp _ h1, r⟩
theorem Go.newPE {aty : ArrayType} (ty : FieldType) (ad : String) {n : Int32} (w : (Cond.arrayClass ty).before a0 Z = true) (hty : newarray.typeOf aty = ty) (had : "[" ++ ty.toString = ad) (hd : decode code pc = .ok (.newarray aty, 2)) (hn0 : ¬ n < 0) (cap : Nat) (hcap : n.toNatClampNeg ≤ cap) (hb0 : cap * 8 ≤ 536870912) (hc1 : cells + 1 ≤ R.cells) (hl : slots + cap ≤ R.slots)
    (hI : ∀ (s : State) (h' : Heap), Ext h h' → h.size < h'.size → I s h → I' s h') (hr : ∀ (h' : Heap) (b : Addr) (k : ClassId), b = h.size → Ext h h' → Arv Z h' b k ty n [] (defaultValue ty) → Exa Z h' b ad → Go l Z n0 R own nm code mL ret I' F h' (cells + 1) (slots + cap) (pc + 2) Ls (.ref b :: st)) : Go l Z n0 R own nm code mL ret I F h cells slots pc Ls (.int n :: st) := by
  subst hty
  intro p e s m args below meth c T locs hx hZ ho hn hc hm hr' hk X N eT hJ
  obtain ⟨T', h', k, X', e', E', A', X2, stp⟩ := Jvm.RoadKit.newPE X hx hZ w eT (g := mkF m pc Ls (.int n :: st)) rfl (hb hc hd) rfl hn0 hcap hb0 hc1 hl had
  obtain ⟨s₂, v, L, h1, r⟩ := hr h' _ k rfl E' (Arv.new A' hn0) X2 p e s m args below meth c T' _ hx hZ ho hn hc hm hr' hk X' N e' (hI s h' E' A'.lt hJ)
  exact ⟨s₂, v, L, stp _ h1, r⟩
theorem Go.newRA {C : String} {ty : FieldType} {index : Nat} {n : Int32} (w : (Cond.classLink own index C).before a0 Z = true) (w2 : (Cond.arrayOver (.array ty)).before a0 Z = true) (hC : (FieldType.array ty).toString = C) (hd : decode code pc = .ok (.anewarray index, 3)) (hn0 : ¬ n < 0) (cap : Nat) (hcap : n.toNatClampNeg ≤ cap) (hb0 : cap * 8 ≤ 536870912) (hc1 : cells + 1 ≤ R.cells) (hl : slots + cap ≤ R.slots)
    (hI : ∀ (s : State) (h' : Heap), Ext h h' → h.size < h'.size → I s h → I' s h') (hr : ∀ (h' : Heap) (b : Addr) (k : ClassId), b = h.size → Ext h h' → Arv Z h' b k (.array ty) n [] .null → OvrA Z k ty C → Go l Z n0 R own nm code mL ret I' F h' (cells + 1) (slots + cap) (pc + 3) Ls (.ref b :: st)) : Go l Z n0 R own nm code mL ret I F h cells slots pc Ls (.int n :: st) := by
  intro p e s m args below meth c T locs hx hZ ho hn hc hm hr' hk X N eT hJ
  obtain ⟨T', h', k, X', e', E', A', -, O', stp⟩ := Jvm.RoadKit.newRA X hx hZ ho hC w w2 eT (g := mkF m pc Ls (.int n :: st)) rfl (hb hc hd) rfl hn0 hcap hb0 hc1 hl rfl
  obtain ⟨s₂, v, L, h1, r⟩ := hr h' _ k rfl E' (Arv.new A' hn0) O' p e s m args below meth c T' _ hx hZ ho hn hc hm hr' hk X' N e' (hI s h' E' A'.lt hJ)
  exact ⟨s₂, v, L, stp _ h1, r⟩
theorem Go.initO {idx : Nat} {a : Addr} (w1 : (Cond.methodLink own idx Lib.objectInit).before a0 Z = true) (w2 : (Cond.instanceMethod Lib.objectInit).before a0 Z = true) (w3 : (Cond.code Lib.objectInit ⟨#[0xb1]⟩ 1 none).before a0 Z = true) (hd : decode code pc = .ok (.invokespecial idx, 3)) (hsz : Ls.size = mL) (hf : 1 ≤ R.frames) (hl : (st.map fun v => v.category).sum + 12 ≤ R.locals)
    (hr : Go l Z n0 R own nm code mL ret I F h cells slots (pc + 3) Ls st) : Go l Z n0 R own nm code mL ret I F h cells slots pc Ls (.ref a :: st) :=
  Go.warm (fun {p e s m args below meth c T locs} hx hZ ho hc hm X eT => Jvm.RoadKit.initO X hx hZ ho w1 w2 w3 eT (g := mkF m pc Ls (.ref a :: st)) rfl (hsz.trans hm.symm) rfl (hb hc hd) hf (W := (st.map fun v => v.category).sum) (by show 2 * 0 + _ ≤ _; omega) hl) hr
/-! arrays -/
theorem Arv.read {Z : State} {h : Heap} {a : Addr} {k : ClassId} {ty : FieldType} {z j : Int32} {vs : List Value} {dv v : Value} (V : Arv Z h a k ty z vs dv) (q : ¬ j < 0 ∧ j < z) (u : vs.getD j.toNatClampNeg dv = v) : ∃ c : Cell, Arr Z h a c ty ∧ ¬ (j < 0 ∨ c.slots.size ≤ j.toNatClampNeg) ∧ c.slots[j.toNatClampNeg]? = some v := by
  obtain ⟨c, A, q1, S, q3, H, G⟩ := V
  have hin := inb_of S q
  exact ⟨c, A, hin, H.at hin u⟩
theorem Arv.write {Z : State} {h h' : Heap} {a : Addr} {k : ClassId} {ty : FieldType} {z j : Int32} {vs : List Value} {dv v : Value} (V : Arv Z h a k ty z vs dv) (hv : fits ty v = true) (W : Wr h h' a j.toNatClampNeg v) (i : Nat) (hj : j.toNatClampNeg = i) (hi : i < vs.length) : Arv Z h' a k ty z (vs.set i v) dv := by
  obtain ⟨c, A, q1, S, q3, H, G⟩ := V
  exact Arv.set A q1 S q3 H G hv W i hj hi
theorem Go.arraylength {a : Addr} {k : ClassId} {ty : FieldType} {z : Int32} {vs : List Value} {dv : Value} (V : Arv Z h a k ty z vs dv) (hd : decode code pc = .ok (.arraylength, 1)) (hr : Go l Z n0 R own nm code mL ret I F h cells slots (pc + 1) Ls (.int z :: st)) : Go l Z n0 R own nm code mL ret I F h cells slots pc Ls (.ref a :: st) := by
  obtain ⟨c, A, q1, S, q3, H, G⟩ := V
  exact Go.pure (fun hx hZ ho hc X eT k => X.arraylength hx (by rw [eT]; exact A.1) (State.isArrayOf_alike hZ.alike A.2.1) (g := mkF _ pc Ls _) rfl rfl (hb hc hd) _ (by rw [len_of S q3]; exact k)) hr
theorem Go.caload {a : Addr} {k : ClassId} {z j : Int32} {vs : List Value} {dv : Value} (v : Value) (V : Arv Z h a k .char z vs dv) (q : ¬ j < 0 ∧ j < z) (u : vs.getD j.toNatClampNeg dv = v) (hd : decode code pc = .ok (.caload, 1)) (hr : Go l Z n0 R own nm code mL ret I F h cells slots (pc + 1) Ls (v :: st)) : Go l Z n0 R own nm code mL ret I F h cells slots pc Ls (.int j :: .ref a :: st) := by
  obtain ⟨c, A, hin, hat⟩ := Arv.read V q u
  exact Go.pure (fun hx hZ ho hc X eT k => X.caload hx (by rw [eT]; exact A.1) (State.isArrayOf_alike hZ.alike A.2.1) A.2.2 hin hat (g := mkF _ pc Ls _) rfl rfl (hb hc hd) _ k) hr
theorem Go.iaload {a : Addr} {k : ClassId} {z j : Int32} {vs : List Value} {dv : Value} (v : Value) (V : Arv Z h a k .int z vs dv) (q : ¬ j < 0 ∧ j < z) (u : vs.getD j.toNatClampNeg dv = v) (hd : decode code pc = .ok (.iaload, 1)) (hr : Go l Z n0 R own nm code mL ret I F h cells slots (pc + 1) Ls (v :: st)) : Go l Z n0 R own nm code mL ret I F h cells slots pc Ls (.int j :: .ref a :: st) := by
  obtain ⟨c, A, hin, hat⟩ := Arv.read V q u
  exact Go.pure (fun hx hZ ho hc X eT k => X.iaload hx (by rw [eT]; exact A.1) (State.isArrayOf_alike hZ.alike A.2.1) A.2.2 hin hat (g := mkF _ pc Ls _) rfl rfl (hb hc hd) _ k) hr
theorem Go.baload {a : Addr} {k : ClassId} {z j : Int32} {vs : List Value} {dv : Value} (v : Value) (V : Arv Z h a k .byte z vs dv) (q : ¬ j < 0 ∧ j < z) (u : vs.getD j.toNatClampNeg dv = v) (hd : decode code pc = .ok (.baload, 1)) (hr : Go l Z n0 R own nm code mL ret I F h cells slots (pc + 1) Ls (v :: st)) : Go l Z n0 R own nm code mL ret I F h cells slots pc Ls (.int j :: .ref a :: st) := by
  obtain ⟨c, A, hin, hat⟩ := Arv.read V q u
  exact Go.pure (fun hx hZ ho hc X eT k => X.baloadBytes hx (by rw [eT]; exact A.1) (State.isArrayOf_alike hZ.alike A.2.1) A.2.2 hin hat (g := mkF _ pc Ls _) rfl rfl (hb hc hd) _ k) hr
theorem Go.aaload {a : Addr} {k : ClassId} {ty : FieldType} {z j : Int32} {vs : List Value} {dv : Value} (v : Value) (V : Arv Z h a k ty z vs dv) (hty : ty.isReference = true) (q : ¬ j < 0 ∧ j < z) (u : vs.getD j.toNatClampNeg dv = v) (hd : decode code pc = .ok (.aaload, 1)) (hr : Go l Z n0 R own nm code mL ret I F h cells slots (pc + 1) Ls (v :: st)) : Go l Z n0 R own nm code mL ret I F h cells slots pc Ls (.int j :: .ref a :: st) := by
  obtain ⟨c, A, hin, hat⟩ := Arv.read V q u
  exact Go.pure (fun hx hZ ho hc X eT k => X.aaload hx (by rw [eT]; exact A.1) (State.isArrayOf_alike hZ.alike A.2.1) hty A.2.2 hin hat (g := mkF _ pc Ls _) rfl rfl (hb hc hd) _ k) hr
theorem Go.aaloadC {a : Addr} {c0 : Cell} {ty : FieldType} {j : Int32} (v : Value) (A : Arr Z h a c0 ty) (hty : ty.isReference = true) (hin : ¬ (j < 0 ∨ c0.slots.size ≤ j.toNatClampNeg)) (hat : c0.slots[j.toNatClampNeg]? = some v) (hd : decode code pc = .ok (.aaload, 1)) (hr : Go l Z n0 R own nm code mL ret I F h cells slots (pc + 1) Ls (v :: st)) : Go l Z n0 R own nm code mL ret I F h cells slots pc Ls (.int j :: .ref a :: st) :=
  Go.pure (fun hx hZ ho hc X eT k => X.aaload hx (by rw [eT]; exact A.1) (State.isArrayOf_alike hZ.alike A.2.1) hty A.2.2 hin hat (g := mkF _ pc Ls _) rfl rfl (hb hc hd) _ k) hr
theorem Go.castore {a : Addr} {k : ClassId} {z j x : Int32} {vs : List Value} {dv : Value} (V : Arv Z h a k .char z vs dv) (q : ¬ j < 0 ∧ j < z) (g : n0 ≤ a) (i : Nat) (hj : j.toNatClampNeg = i) (hi : i < vs.length) (hd : decode code pc = .ok (.castore, 1)) (hI : ∀ (s : State) (h' : Heap), Keep h h' [a] → I s h → I' s h') (hr : ∀ h', Keep h h' [a] → Arv Z h' a k .char z (vs.set i (.int (nar .char x))) dv → Go l Z n0 R own nm code mL ret I' F h' cells slots (pc + 1) Ls st) : Go l Z n0 R own nm code mL ret I F h cells slots pc Ls (.int x :: .int j :: .ref a :: st) := by
  have V0 := V
  obtain ⟨c0, A, q1, S, q3, H, G⟩ := V0
  intro p e s m args below meth c T locs hx hZ ho hn hc hm hr' hk X N eT hJ
  obtain ⟨T', h', X', e', W', stp⟩ := stC X hx hZ eT A (inb_of S q) (g := mkF m pc Ls (.int x :: .int j :: .ref a :: st)) rfl rfl (hb hc hd)
  obtain ⟨s₂, v, L, h1, r⟩ := hr h' (Keep.of_wr W') (Arv.write V (fits_nar_char _) W' i hj hi) p e s m args below meth c T' _ hx hZ ho hn hc hm hr' hk X' (Fr.snoc X' N g) e' (hI s h' (Keep.of_wr W') hJ)
  exact ⟨s₂, v, L, stp _ h1, r⟩
theorem Go.bastore {a : Addr} {k : ClassId} {z j x : Int32} {vs : List Value} {dv : Value} (V : Arv Z h a k .byte z vs dv) (q : ¬ j < 0 ∧ j < z) (g : n0 ≤ a) (i : Nat) (hj : j.toNatClampNeg = i) (hi : i < vs.length) (hd : decode code pc = .ok (.bastore, 1)) (hI : ∀ (s : State) (h' : Heap), Keep h h' [a] → I s h → I' s h') (hr : ∀ h', Keep h h' [a] → Arv Z h' a k .byte z (vs.set i (.int (nar .byte x))) dv → Go l Z n0 R own nm code mL ret I' F h' cells slots (pc + 1) Ls st) : Go l Z n0 R own nm code mL ret I F h cells slots pc Ls (.int x :: .int j :: .ref a :: st) := by
  have V0 := V
  obtain ⟨c0, A, q1, S, q3, H, G⟩ := V0
  intro p e s m args below meth c T locs hx hZ ho hn hc hm hr' hk X N eT hJ
  obtain ⟨T', h', X', e', W', stp⟩ := stB X hx hZ eT A (inb_of S q) (g := mkF m pc Ls (.int x :: .int j :: .ref a :: st)) rfl rfl (hb hc hd)
  obtain ⟨s₂, v, L, h1, r⟩ := hr h' (Keep.of_wr W') (Arv.write V (fits_nar_byte _) W' i hj hi) p e s m args below meth c T' _ hx hZ ho hn hc hm hr' hk X' (Fr.snoc X' N g) e' (hI s h' (Keep.of_wr W') hJ)
  exact ⟨s₂, v, L, stp _ h1, r⟩
theorem Go.iastore {a : Addr} {k : ClassId} {z j x : Int32} {vs : List Value} {dv : Value} (V : Arv Z h a k .int z vs dv) (q : ¬ j < 0 ∧ j < z) (g : n0 ≤ a) (i : Nat) (hj : j.toNatClampNeg = i) (hi : i < vs.length) (hd : decode code pc = .ok (.iastore, 1)) (hI : ∀ (s : State) (h' : Heap), Keep h h' [a] → I s h → I' s h') (hr : ∀ h', Keep h h' [a] → Arv Z h' a k .int z (vs.set i (.int x)) dv → Go l Z n0 R own nm code mL ret I' F h' cells slots (pc + 1) Ls st) : Go l Z n0 R own nm code mL ret I F h cells slots pc Ls (.int x :: .int j :: .ref a :: st) := by
  have V0 := V
  obtain ⟨c0, A, q1, S, q3, H, G⟩ := V0
  intro p e s m args below meth c T locs hx hZ ho hn hc hm hr' hk X N eT hJ
  obtain ⟨T', h', X', e', W', stp⟩ := stI X hx hZ eT A (inb_of S q) (g := mkF m pc Ls (.int x :: .int j :: .ref a :: st)) rfl rfl (hb hc hd)
  obtain ⟨s₂, v, L, h1, r⟩ := hr h' (Keep.of_wr W') (Arv.write V rfl W' i hj hi) p e s m args below meth c T' _ hx hZ ho hn hc hm hr' hk X' (Fr.snoc X' N g) e' (hI s h' (Keep.of_wr W') hJ)
  exact ⟨s₂, v, L, stp _ h1, r⟩
theorem Go.aastore {a : Addr} {k : ClassId} {ty : FieldType} {z j : Int32} {x : Value} {vs : List Value} {dv : Value} (V : Arv Z h a k ty z vs dv) (hty : ty.isReference = true) (hx' : fits ty x = true) (FF : ∀ c : Cell, Arr Z h a c ty → c.cls = k → Sto Z h a x) (q : ¬ j < 0 ∧ j < z) (g : n0 ≤ a) (i : Nat) (hj : j.toNatClampNeg = i) (hi : i < vs.length) (hd : decode code pc = .ok (.aastore, 1)) (hI : ∀ (s : State) (h' : Heap), Keep h h' [a] → I s h → I' s h') (hr : ∀ h', Keep h h' [a] → Arv Z h' a k ty z (vs.set i x) dv → Go l Z n0 R own nm code mL ret I' F h' cells slots (pc + 1) Ls st) : Go l Z n0 R own nm code mL ret I F h cells slots pc Ls (x :: .int j :: .ref a :: st) := by
  have V0 := V
  obtain ⟨c0, A, q1, S, q3, H, G⟩ := V0
  intro p e s m args below meth c T locs hx hZ ho hn hc hm hr' hk X N eT hJ
  obtain ⟨T', h', X', e', W', stp⟩ := stR X hx hZ eT A (inb_of S q) hty (FF c0 A q1) (g := mkF m pc Ls (x :: .int j :: .ref a :: st)) rfl rfl (hb hc hd)
  obtain ⟨s₂, v, L, h1, r⟩ := hr h' (Keep.of_wr W') (Arv.write V hx' W' i hj hi) p e s m args below meth c T' _ hx hZ ho hn hc hm hr' hk X' (Fr.snoc X' N g) e' (hI s h' (Keep.of_wr W') hJ)
  exact ⟨s₂, v, L, stp _ h1, r⟩
/-! casts -/
theorem Go.castY {K : String} {index : Nat} {a : Addr} (w : (Cond.classLink own index K).before a0 Z = true) (FF : Ins Z h a K true) (hd : decode code pc = .ok (.checkcast index, 3)) (hr : Go l Z n0 R own nm code mL ret I F h cells slots (pc + 3) Ls (.ref a :: st)) : Go l Z n0 R own nm code mL ret I F h cells slots pc Ls (.ref a :: st) :=
  Go.warm (fun hx hZ ho hc _ X eT => Jvm.RoadKit.castY X hx hZ ho w eT FF (g := mkF _ pc Ls (.ref a :: st)) rfl rfl (hb hc hd)) hr
theorem Go.castNull {index : Nat} (hd : decode code pc = .ok (.checkcast index, 3)) (hr : Go l Z n0 R own nm code mL ret I F h cells slots (pc + 3) Ls (.null :: st)) : Go l Z n0 R own nm code mL ret I F h cells slots pc Ls (.null :: st) :=
  Go.pure (fun hx _ _ hc X _ k => X.checkcastNull hx (g := mkF _ pc Ls (.null :: st)) rfl rfl (hb hc hd) _ k) hr
theorem Go.castV {K : String} {index : Nat} {v : Value} (w : (Cond.classLink own index K).before a0 Z = true) (FF : v = .null ∨ ∃ a, v = .ref a ∧ Ins Z h a K true) (hd : decode code pc = .ok (.checkcast index, 3)) (hr : Go l Z n0 R own nm code mL ret I F h cells slots (pc + 3) Ls (v :: st)) : Go l Z n0 R own nm code mL ret I F h cells slots pc Ls (v :: st) := by
  rcases FF with rfl | ⟨a, rfl, I0⟩
  · exact Go.castNull hd hr
  · exact Go.castY w I0 hd hr
theorem Go.instY {K : String} {index : Nat} {a : Addr} (w : (Cond.classLink own index K).before a0 Z = true) (FF : Ins Z h a K true) (hd : decode code pc = .ok (.instanceof index, 3)) (hr : Go l Z n0 R own nm code mL ret I F h cells slots (pc + 3) Ls (.int 1 :: st)) : Go l Z n0 R own nm code mL ret I F h cells slots pc Ls (.ref a :: st) :=
  Go.warm (fun hx hZ ho hc _ X eT => Jvm.RoadKit.instY X hx hZ ho w eT FF (g := mkF _ pc Ls (.ref a :: st)) rfl rfl (hb hc hd)) hr
/-! returns -/
theorem Go.return_ (hd : decode code pc = .ok (.return_, 1)) (hret : ret = none) (hc1 : cells ≤ R.cells) (hs1 : slots ≤ R.slots) (hQ : Q none h) : Go l Z n0 R own nm code mL ret I (FN n0 R Q) h cells slots pc Ls [] := by
  intro p e s m args below meth c T locs hx hZ ho hn hc hm hr' hk X N eT hJ
  obtain ⟨fs, hr, hrun, hended, hW, hsame⟩ := X.leave (v := none) (fun _ => rfl) hk
  exact ⟨_, none, locs, X.returnOut hx (hr'.trans hret) (hb hc hd) hr, hrun, hended, N, (by show Q _ T.heap; rw [eT]; exact hQ), ⟨_, rfl⟩, hW, hsame.mono hc1 hs1⟩
theorem Go.areturn {v : Value} {t : FieldType} (hd : decode code pc = .ok (.areturn, 1)) (hret : ret = some t) (ht : t.isReference = true) (hv : v.isRef = true) (hc1 : cells ≤ R.cells) (hs1 : slots ≤ R.slots) (hQ : Q (some v) h) : Go l Z n0 R own nm code mL ret I (FN n0 R Q) h cells slots pc Ls (v :: st) := by
  intro p e s m args below meth c T locs hx hZ ho hn hc hm hr' hk X N eT hJ
  obtain ⟨fs, hr, hrun, hended, hW, hsame⟩ := X.leave (v := some v) (fun h => by rw [hr', hret] at h; cases h) hk
  have hnw : narrow t v = v := by cases t <;> first | rfl | (cases ht; done)
  exact ⟨_, some v, locs, retOut X hx (hr'.trans hret) hnw (Or.inr (Or.inr (Or.inr (Or.inr ⟨rfl, ht, hv⟩)))) (hb hc hd) hr, hrun, hended, N, (by show Q _ T.heap; rw [eT]; exact hQ), ⟨_, rfl⟩, hW, hsame.mono hc1 hs1⟩
theorem Go.ireturn {z : Int32} (hd : decode code pc = .ok (.ireturn, 1)) (hret : ret = some .int) (hc1 : cells ≤ R.cells) (hs1 : slots ≤ R.slots) (hQ : Q (some (.int z)) h) : Go l Z n0 R own nm code mL ret I (FN n0 R Q) h cells slots pc Ls (.int z :: st) := by
  intro p e s m args below meth c T locs hx hZ ho hn hc hm hr' hk X N eT hJ
  obtain ⟨fs, hr, hrun, hended, hW, hsame⟩ := X.leave (v := some (.int z)) (fun h => by rw [hr', hret] at h; cases h) hk
  exact ⟨_, some (.int z), locs, retOut X hx (hr'.trans hret) rfl (Or.inl ⟨rfl, Or.inl rfl, z, rfl⟩) (hb hc hd) hr, hrun, hended, N, (by show Q _ T.heap; rw [eT]; exact hQ), ⟨_, rfl⟩, hW, hsame.mono hc1 hs1⟩
/-- a boolean, byte, char or short -/
theorem Go.nreturn {z : Int32} (t : FieldType) (hd : decode code pc = .ok (.ireturn, 1)) (hret : ret = some t) (ht : t = .boolean ∨ t = .byte ∨ t = .char ∨ t = .short) (hc1 : cells ≤ R.cells) (hs1 : slots ≤ R.slots) (hQ : Q (some (.int (nar t z))) h) : Go l Z n0 R own nm code mL ret I (FN n0 R Q) h cells slots pc Ls (.int z :: st) := by
  intro p e s m args below meth c T locs hx hZ ho hn hc hm hr' hk X N eT hJ
  obtain ⟨fs, hr, hrun, hended, hW, hsame⟩ := X.leave (v := some (.int (nar t z))) (fun h => by rw [hr', hret] at h; cases h) hk
  exact ⟨_, some (.int (nar t z)), locs, retN X hx (hr'.trans hret) ht (hb hc hd) hr, hrun, hended, N, (by show Q _ T.heap; rw [eT]; exact hQ), ⟨_, rfl⟩, hW, hsame.mono hc1 hs1⟩
/-! calls, each by the callee's contract -/
theorem Go.callS {o' n' d' : String} {bytes : ByteArray} {mL' index : Nat} {rt : Option FieldType} {rm : Room} (as' rest : List Value) {Q' : Option Value → Heap → Prop} {ps : List FieldType} {r : Option FieldType}
    (hC : Ct l Z n0 o' n' d' [] bytes mL' rt rm as'.toArray h Q') (w1 : (Cond.methodLink own index (⟨o', n', d'⟩ : MethodName)).before a0 Z = true) (w2 : (Cond.static (⟨o', n', d'⟩ : MethodName)).before a0 Z = true) (w3 : (Cond.initialized o').before a0 Z = true) (w4 : (Cond.code (⟨o', n', d'⟩ : MethodName) bytes mL' rt).before a0 Z = true)
    (hy : o' ≠ "java/lang/invoke/MethodHandle" ∧ o' ≠ "java/lang/invoke/VarHandle") (hpd : parseMethodDescriptor d' = some ⟨ps, r⟩) (hlen : as'.length = ps.length) (hst : st = as'.reverse ++ rest) (hsz : Ls.size = mL) (hf : rm.frames + 1 ≤ R.frames) (hlo : (rest.map fun v => v.category).sum + (mL' + 11) + rm.locals ≤ R.locals) (hc1 : cells + rm.cells ≤ R.cells) (hs1 : slots + rm.slots ≤ R.slots)
    (hd : decode code pc = .ok (.invokestatic index, 3)) (hI : ∀ (v : Option Value) (s : State) (h' : Heap), Q' v h' → I s h → I' s h') (hr : ∀ v h', Q' v h' → Go l Z n0 R own nm code mL ret I' F h' (cells + rm.cells) (slots + rm.slots) (pc + 3) Ls (v.toList ++ rest)) : Go l Z n0 R own nm code mL ret I F h cells slots pc Ls st := by
  intro p e s m args below meth c T locs hx hZ ho hn hc hm hr' hk X N eT hJ
  obtain ⟨v, _, ⟨T', L', k', n''⟩, -, X', ⟨Lc, ⟨N', hQ'⟩, l1, l2, l3⟩, stp⟩ := Jvm.LawKit.callS X hx (y := (⟨o', n', d'⟩ : MethodName)) ho (mvT hZ w1) (mvT hZ w2) (mvT hZ w3) (mvT hZ w4) hy (backOf (Q := fun v h L => Fr n0 L ∧ Q' v h) (W := (rest.map fun v => v.category).sum) hC hZ w4 w3 hf hlo) (g := mkF m pc Ls st) rfl (hsz.trans hm.symm) (argsL := as') (rest := rest) (lenOf hpd hlen) hst (by show 2 * 0 + _ ≤ _; omega) (hb hc hd) (fun _ _ => ⟨rfl, eT, hc1, hs1⟩)
  dsimp only [Pt.U, Pt.locs, Pt.cells, Pt.slots] at X' l1 l2 l3 stp hQ'
  subst l1 l2 l3
  obtain ⟨s₂, v2, L, h1, r⟩ := hr v T'.heap hQ' p e s m args below meth c T' _ hx hZ ho hn hc hm hr' hk X' (Fr.app N N') rfl (hI v s T'.heap hQ' hJ)
  exact ⟨s₂, v2, L, stp _ h1, r⟩
/-- a constructor -/
theorem Go.callI {o' d' : String} {bytes : ByteArray} {mL' index : Nat} {rm : Room} (a : Addr) (as' rest : List Value) {Q' : Option Value → Heap → Prop} {ps : List FieldType} {r : Option FieldType}
    (hC : Ct l Z n0 o' "<init>" d' [] bytes mL' none rm (.ref a :: as').toArray h Q') (w1 : (Cond.methodLink own index (⟨o', "<init>", d'⟩ : MethodName)).before a0 Z = true) (w2 : (Cond.instanceMethod (⟨o', "<init>", d'⟩ : MethodName)).before a0 Z = true) (w3 : (Cond.initialized o').before a0 Z = true) (w4 : (Cond.code (⟨o', "<init>", d'⟩ : MethodName) bytes mL' none).before a0 Z = true)
    (hy : o' ≠ "java/lang/invoke/MethodHandle" ∧ o' ≠ "java/lang/invoke/VarHandle") (hpd : parseMethodDescriptor d' = some ⟨ps, r⟩) (hlen : as'.length = ps.length) (hst : st = as'.reverse ++ .ref a :: rest) (hsz : Ls.size = mL) (hf : rm.frames + 1 ≤ R.frames) (hlo : (rest.map fun v => v.category).sum + (mL' + 11) + rm.locals ≤ R.locals) (hc1 : cells + rm.cells ≤ R.cells) (hs1 : slots + rm.slots ≤ R.slots)
    (hd : decode code pc = .ok (.invokespecial index, 3)) (hI : ∀ (v : Option Value) (s : State) (h' : Heap), Q' v h' → I s h → I' s h') (hr : ∀ v h', Q' v h' → Go l Z n0 R own nm code mL ret I' F h' (cells + rm.cells) (slots + rm.slots) (pc + 3) Ls (v.toList ++ rest)) : Go l Z n0 R own nm code mL ret I F h cells slots pc Ls st := by
  intro p e s m args below meth c T locs hx hZ ho hn hc hm hr' hk X N eT hJ
  obtain ⟨v, _, ⟨T', L', k', n''⟩, -, X', ⟨Lc, ⟨N', hQ'⟩, l1, l2, l3⟩, stp⟩ := X.specialBack hx (y := (⟨o', "<init>", d'⟩ : MethodName)) rfl ho (mvT hZ w1) (mvT hZ w2) (mvT hZ w4) hy (backOf (Q := fun v h L => Fr n0 L ∧ Q' v h) (W := (rest.map fun v => v.category).sum) hC hZ w4 w3 hf hlo) (g := mkF m pc Ls st) rfl (hsz.trans hm.symm) (Steps.refl _) (a := a) (argsL := as') (rest := rest) (lenOf hpd hlen) hst (by show 2 * 0 + _ ≤ _; omega) (hb hc hd) (fun _ _ => ⟨rfl, eT, hc1, hs1⟩)
  dsimp only [Pt.U, Pt.locs, Pt.cells, Pt.slots] at X' l1 l2 l3 stp hQ'
  subst l1 l2 l3
  obtain ⟨s₂, v2, L, h1, r⟩ := hr v T'.heap hQ' p e s m args below meth c T' _ hx hZ ho hn hc hm hr' hk X' (Fr.app N N') rfl (hI v s T'.heap hQ' hJ)
  exact ⟨s₂, v2, L, stp.trans h1, r⟩
/-- an instance method that the class which the link names declares -/
theorem Go.callV {o' n' d' C oz : String} {bytes : ByteArray} {mL' index : Nat} {rt : Option FieldType} {rm : Room} (a : Addr) (as' rest : List Value) {Q' : Option Value → Heap → Prop} {ps : List FieldType} {r : Option FieldType}
    (hC : Ct l Z n0 oz n' d' [] bytes mL' rt rm (.ref a :: as').toArray h Q') (E : Exa Z h a C) (w1 : (Cond.methodLink own index (⟨o', n', d'⟩ : MethodName)).before a0 Z = true) (w2 : (Cond.declares (⟨o', n', d'⟩ : MethodName)).before a0 Z = true) (nf : ∀ s : State, Z.Warmed39 s.vm → NotFace s (⟨o', n', d'⟩ : MethodName)) (w3 : (Cond.selects C (⟨o', n', d'⟩ : MethodName) (⟨oz, n', d'⟩ : MethodName)).before a0 Z = true) (w4 : (Cond.instanceMethod (⟨oz, n', d'⟩ : MethodName)).before a0 Z = true) (w5 : (Cond.initialized oz).before a0 Z = true) (w6 : (Cond.code (⟨oz, n', d'⟩ : MethodName) bytes mL' rt).before a0 Z = true)
    (hy : o' ≠ "java/lang/invoke/MethodHandle" ∧ o' ≠ "java/lang/invoke/VarHandle") (hpd : parseMethodDescriptor d' = some ⟨ps, r⟩) (hlen : as'.length = ps.length) (hst : st = as'.reverse ++ .ref a :: rest) (hsz : Ls.size = mL) (hf : rm.frames + 1 ≤ R.frames) (hlo : (rest.map fun v => v.category).sum + (mL' + 11) + rm.locals ≤ R.locals) (hc1 : cells + rm.cells ≤ R.cells) (hs1 : slots + rm.slots ≤ R.slots)
    (hd : decode code pc = .ok (.invokevirtual index, 3)) (hI : ∀ (v : Option Value) (s : State) (h' : Heap), Q' v h' → I s h → I' s h') (hr : ∀ v h', Q' v h' → Go l Z n0 R own nm code mL ret I' F h' (cells + rm.cells) (slots + rm.slots) (pc + 3) Ls (v.toList ++ rest)) : Go l Z n0 R own nm code mL ret I F h cells slots pc Ls st := by
  intro p e s m args below meth c T locs hx hZ ho hn hc hm hr' hk X N eT hJ
  obtain ⟨cq, kq, qa, qb, qc⟩ := isOf hZ eT E
  obtain ⟨v, _, ⟨T', L', k', n''⟩, -, X', ⟨Lc, ⟨N', hQ'⟩, l1, l2, l3⟩, stp⟩ := X.virtualBack hx (y := (⟨o', n', d'⟩ : MethodName)) (z := (⟨oz, n', d'⟩ : MethodName)) ho (mvT hZ w1) (mvT hZ w2) (nf s hZ) (mvT hZ w3) (mvT hZ w4) hy (backOf (Q := fun v h L => Fr n0 L ∧ Q' v h) (W := (rest.map fun v => v.category).sum) hC hZ w6 w5 hf hlo) qa qc (g := mkF m pc Ls st) rfl (hsz.trans hm.symm) (Steps.refl _) (argsL := as') (rest := rest) (lenOf hpd hlen) hst (by show 2 * 0 + _ ≤ _; omega) (hb hc hd) (fun _ _ => ⟨rfl, eT, hc1, hs1⟩)
  dsimp only [Pt.U, Pt.locs, Pt.cells, Pt.slots] at X' l1 l2 l3 stp hQ'
  subst l1 l2 l3
  obtain ⟨s₂, v2, L, h1, r⟩ := hr v T'.heap hQ' p e s m args below meth c T' _ hx hZ ho hn hc hm hr' hk X' (Fr.app N N') rfl (hI v s T'.heap hQ' hJ)
  exact ⟨s₂, v2, L, stp.trans h1, r⟩
theorem nf_sel {C o' n' d' : String} (w3 : (Cond.selects C (⟨o', n', d'⟩ : MethodName) (⟨o', n', d'⟩ : MethodName)).before a0 Z = true) : ∀ s : State, Z.Warmed39 s.vm → NotFace s (⟨o', n', d'⟩ : MethodName) := fun s hZ => notFace_of_selects (args := #[]) (mvT hZ w3)
theorem nf_sup {o' n' d' S : String} (w : (Cond.superclass o' S).before a0 Z = true) : ∀ s : State, Z.Warmed39 s.vm → NotFace s (⟨o', n', d'⟩ : MethodName) := fun s hZ => nf_super (args := #[]) (mvT hZ w)
/-- an instance method that a superclass of the class which the link names declares -/
theorem Go.callU {o' ow n' d' C oz : String} {bytes : ByteArray} {mL' index : Nat} {rt : Option FieldType} {rm : Room} (a : Addr) (as' rest : List Value) {Q' : Option Value → Heap → Prop} {ps : List FieldType} {r : Option FieldType}
    (hC : Ct l Z n0 oz n' d' [] bytes mL' rt rm (.ref a :: as').toArray h Q') (E : Exa Z h a C) (w1 : (Cond.methodLink own index (⟨o', n', d'⟩ : MethodName)).before a0 Z = true) (w2 : (Cond.sameMethod o' ow n' d').before a0 Z = true) (w2' : (Cond.declares (⟨ow, n', d'⟩ : MethodName)).before a0 Z = true) (w3 : (Cond.selects C (⟨o', n', d'⟩ : MethodName) (⟨oz, n', d'⟩ : MethodName)).before a0 Z = true) (w4 : (Cond.instanceMethod (⟨oz, n', d'⟩ : MethodName)).before a0 Z = true) (w5 : (Cond.initialized oz).before a0 Z = true) (w6 : (Cond.code (⟨oz, n', d'⟩ : MethodName) bytes mL' rt).before a0 Z = true)
    (hy : ow ≠ "java/lang/invoke/MethodHandle" ∧ ow ≠ "java/lang/invoke/VarHandle") (hpd : parseMethodDescriptor d' = some ⟨ps, r⟩) (hlen : as'.length = ps.length) (hst : st = as'.reverse ++ .ref a :: rest) (hsz : Ls.size = mL) (hf : rm.frames + 1 ≤ R.frames) (hlo : (rest.map fun v => v.category).sum + (mL' + 11) + rm.locals ≤ R.locals) (hc1 : cells + rm.cells ≤ R.cells) (hs1 : slots + rm.slots ≤ R.slots)
    (hd : decode code pc = .ok (.invokevirtual index, 3)) (hI : ∀ (v : Option Value) (s : State) (h' : Heap), Q' v h' → I s h → I' s h') (hr : ∀ v h', Q' v h' → Go l Z n0 R own nm code mL ret I' F h' (cells + rm.cells) (slots + rm.slots) (pc + 3) Ls (v.toList ++ rest)) : Go l Z n0 R own nm code mL ret I F h cells slots pc Ls st := by
  intro p e s m args below meth c T locs hx hZ ho hn hc hm hr' hk X N eT hJ
  obtain ⟨cq, kq, qa, qb, qc⟩ := isOf hZ eT E
  obtain ⟨v, _, ⟨T', L', k', n''⟩, -, X', ⟨Lc, ⟨N', hQ'⟩, l1, l2, l3⟩, stp⟩ := X.virtualBackUp hx (x := (⟨o', n', d'⟩ : MethodName)) (y := (⟨oz, n', d'⟩ : MethodName)) ho (mvT hZ w1) (mvT hZ w2) (mvT hZ w2') hy (mvT hZ w3) (mvT hZ w4) (backOf (Q := fun v h L => Fr n0 L ∧ Q' v h) (W := (rest.map fun v => v.category).sum) hC hZ w6 w5 hf hlo) qa qc (g := mkF m pc Ls st) rfl (hsz.trans hm.symm) (Steps.refl _) (argsL := as') (rest := rest) (lenOf hpd hlen) hst (by show 2 * 0 + _ ≤ _; omega) (hb hc hd) (fun _ _ => ⟨rfl, eT, hc1, hs1⟩)
  dsimp only [Pt.U, Pt.locs, Pt.cells, Pt.slots] at X' l1 l2 l3 stp hQ'
  subst l1 l2 l3
  obtain ⟨s₂, v2, L, h1, r⟩ := hr v T'.heap hQ' p e s m args below meth c T' _ hx hZ ho hn hc hm hr' hk X' (Fr.app N N') rfl (hI v s T'.heap hQ' hJ)
  exact ⟨s₂, v2, L, stp.trans h1, r⟩
/-- a private instance method, by invokevirtual -/
theorem Go.callP {o' n' d' : String} {bytes : ByteArray} {mL' index : Nat} {rt : Option FieldType} {rm : Room} (a : Addr) (as' rest : List Value) {Q' : Option Value → Heap → Prop} {ps : List FieldType} {r : Option FieldType} {C : String}
    (hC : Ct l Z n0 o' n' d' [] bytes mL' rt rm (.ref a :: as').toArray h Q') (E : Exa Z h a C) (w1 : (Cond.methodLink own index (⟨o', n', d'⟩ : MethodName)).before a0 Z = true) (w2 : (Cond.instanceMethod (⟨o', n', d'⟩ : MethodName)).before a0 Z = true) (w3 : (Cond.selects o' (⟨o', n', d'⟩ : MethodName) (⟨o', n', d'⟩ : MethodName)).before a0 Z = true) (w4 : (Cond.privateMethod (⟨o', n', d'⟩ : MethodName)).before a0 Z = true) (w5 : (Cond.initialized o').before a0 Z = true) (w6 : (Cond.code (⟨o', n', d'⟩ : MethodName) bytes mL' rt).before a0 Z = true)
    (hy : o' ≠ "java/lang/invoke/MethodHandle" ∧ o' ≠ "java/lang/invoke/VarHandle") (hpd : parseMethodDescriptor d' = some ⟨ps, r⟩) (hlen : as'.length = ps.length) (hst : st = as'.reverse ++ .ref a :: rest) (hsz : Ls.size = mL) (hf : rm.frames + 1 ≤ R.frames) (hlo : (rest.map fun v => v.category).sum + (mL' + 11) + rm.locals ≤ R.locals) (hc1 : cells + rm.cells ≤ R.cells) (hs1 : slots + rm.slots ≤ R.slots)
    (hd : decode code pc = .ok (.invokevirtual index, 3)) (hI : ∀ (v : Option Value) (s : State) (h' : Heap), Q' v h' → I s h → I' s h') (hr : ∀ v h', Q' v h' → Go l Z n0 R own nm code mL ret I' F h' (cells + rm.cells) (slots + rm.slots) (pc + 3) Ls (v.toList ++ rest)) : Go l Z n0 R own nm code mL ret I F h cells slots pc Ls st := by
  intro p e s m args below meth c T locs hx hZ ho hn hc hm hr' hk X N eT hJ
  obtain ⟨cq, qa, qb⟩ := E.cell
  obtain ⟨v, _, ⟨T', L', k', n''⟩, -, X', ⟨Lc, ⟨N', hQ'⟩, l1, l2, l3⟩, stp⟩ := X.privateBack hx (y := (⟨o', n', d'⟩ : MethodName)) ho (mvT hZ w1) (mvT hZ w2) (mvT hZ w3) (Cond.privateMethod_at (mvP hZ w4 (args := #[]))) (mvT hZ w6) hy (backOf (Q := fun v h L => Fr n0 L ∧ Q' v h) (W := (rest.map fun v => v.category).sum) hC hZ w6 w5 hf hlo) (g := mkF m pc Ls st) rfl (hsz.trans hm.symm) (Steps.refl _) (a := a) (by rw [eT]; exact qa) qb (argsL := as') (rest := rest) (lenOf hpd hlen) hst (by show 2 * 0 + _ ≤ _; omega) (hb hc hd) (fun _ _ => ⟨rfl, eT, hc1, hs1⟩)
  dsimp only [Pt.U, Pt.locs, Pt.cells, Pt.slots] at X' l1 l2 l3 stp hQ'
  subst l1 l2 l3
  obtain ⟨s₂, v2, L, h1, r⟩ := hr v T'.heap hQ' p e s m args below meth c T' _ hx hZ ho hn hc hm hr' hk X' (Fr.app N N') rfl (hI v s T'.heap hQ' hJ)
  exact ⟨s₂, v2, L, stp.trans h1, r⟩
/-- an interface's method -/
theorem Go.callF {o' n' d' C oz : String} {bytes : ByteArray} {mL' index count : Nat} {rt : Option FieldType} {rm : Room} (a : Addr) (as' rest : List Value) {Q' : Option Value → Heap → Prop} {ps : List FieldType} {r : Option FieldType}
    (hC : Ct l Z n0 oz n' d' [] bytes mL' rt rm (.ref a :: as').toArray h Q') (E : Exa Z h a C) (w1 : (Cond.methodLink own index (⟨o', n', d'⟩ : MethodName)).before a0 Z = true) (w2 : (Cond.declares (⟨o', n', d'⟩ : MethodName)).before a0 Z = true) (w2' : (Cond.interfaceMethod o' o' n' d').before a0 Z = true) (w3 : (Cond.selects C (⟨o', n', d'⟩ : MethodName) (⟨oz, n', d'⟩ : MethodName)).before a0 Z = true) (w4 : (Cond.instanceMethod (⟨oz, n', d'⟩ : MethodName)).before a0 Z = true) (w4' : (Cond.publicMethod (⟨oz, n', d'⟩ : MethodName)).before a0 Z = true) (w4'' : (Cond.unhidden C n' d').before a0 Z = true) (wc : (Cond.castable C o').before a0 Z = true) (w5 : (Cond.initialized oz).before a0 Z = true) (w6 : (Cond.code (⟨oz, n', d'⟩ : MethodName) bytes mL' rt).before a0 Z = true)
    (hy : o' ≠ "java/lang/invoke/MethodHandle" ∧ o' ≠ "java/lang/invoke/VarHandle") (hpd : parseMethodDescriptor d' = some ⟨ps, r⟩) (hlen : as'.length = ps.length) (hst : st = as'.reverse ++ .ref a :: rest) (hsz : Ls.size = mL) (hf : rm.frames + 1 ≤ R.frames) (hlo : (rest.map fun v => v.category).sum + (mL' + 11) + rm.locals ≤ R.locals) (hc1 : cells + rm.cells ≤ R.cells) (hs1 : slots + rm.slots ≤ R.slots)
    (hd : decode code pc = .ok (.invokeinterface index count, 5)) (hI : ∀ (v : Option Value) (s : State) (h' : Heap), Q' v h' → I s h → I' s h') (hr : ∀ v h', Q' v h' → Go l Z n0 R own nm code mL ret I' F h' (cells + rm.cells) (slots + rm.slots) (pc + 5) Ls (v.toList ++ rest)) : Go l Z n0 R own nm code mL ret I F h cells slots pc Ls st := by
  intro p e s m args below meth c T locs hx hZ ho hn hc hm hr' hk X N eT hJ
  obtain ⟨cq, kq, qa, qb, qc⟩ := isOf hZ eT E
  obtain ⟨v, _, ⟨T', L', k', n''⟩, -, X', ⟨Lc, ⟨N', hQ'⟩, l1, l2, l3⟩, stp⟩ := X.interfaceBack hx (xi := (⟨o', n', d'⟩ : MethodName)) (y := (⟨oz, n', d'⟩ : MethodName)) ho (mvT hZ w1) (mvT hZ w2) (mvT hZ w2' (by simp [Cond.onTables, Cond.keepsFace, Cond.keeps, Cond.steady, Cond.faceAtom, hy.1, hy.2])) (mvT hZ w3) (mvT hZ w4) (mvT hZ w4') (mvT hZ w4'') (mvT hZ wc) hy (backOf (Q := fun v h L => Fr n0 L ∧ Q' v h) (W := (rest.map fun v => v.category).sum) hC hZ w6 w5 hf hlo) qa qb qc (g := mkF m pc Ls st) rfl (hsz.trans hm.symm) (Steps.refl _) (argsL := as') (rest := rest) (lenOf hpd hlen) hst (by show 2 * 0 + _ ≤ _; omega) (hb hc hd) (fun _ _ => ⟨rfl, eT, hc1, hs1⟩)
  dsimp only [Pt.U, Pt.locs, Pt.cells, Pt.slots] at X' l1 l2 l3 stp hQ'
  subst l1 l2 l3
  obtain ⟨s₂, v2, L, h1, r⟩ := hr v T'.heap hQ' p e s m args below meth c T' _ hx hZ ho hn hc hm hr' hk X' (Fr.app N N') rfl (hI v s T'.heap hQ' hJ)
  exact ⟨s₂, v2, L, stp.trans h1, r⟩
/-! calls that are paid otherwise -/
theorem Go.callIP {o' d' : String} {bytes : ByteArray} {mL' index : Nat} {kc ks W : Nat} (a : Addr) (as' rest : List Value) {Q' : Option Value → Heap → Prop} {ps : List FieldType} {r : Option FieldType}
    (hC : Pays l Z n0 R (⟨o', "<init>", d'⟩ : MethodName) 3 W (.ref a :: as').toArray h kc ks Q') (w1 : (Cond.methodLink own index (⟨o', "<init>", d'⟩ : MethodName)).before a0 Z = true) (w2 : (Cond.instanceMethod (⟨o', "<init>", d'⟩ : MethodName)).before a0 Z = true) (w3 : (Cond.initialized o').before a0 Z = true) (w4 : (Cond.code (⟨o', "<init>", d'⟩ : MethodName) bytes mL' none).before a0 Z = true)
    (hy : o' ≠ "java/lang/invoke/MethodHandle" ∧ o' ≠ "java/lang/invoke/VarHandle") (hpd : parseMethodDescriptor d' = some ⟨ps, r⟩) (hlen : as'.length = ps.length) (hst : st = as'.reverse ++ .ref a :: rest) (hsz : Ls.size = mL) (hW : (rest.map fun v => v.category).sum ≤ W) (hc1 : cells + kc ≤ R.cells) (hs1 : slots + ks ≤ R.slots)
    (hd : decode code pc = .ok (.invokespecial index, 3)) (hI : ∀ (v : Option Value) (s : State) (h' : Heap), Q' v h' → I s h → I' s h') (hr : ∀ v h', Q' v h' → Go l Z n0 R own nm code mL ret I' F h' (cells + kc) (slots + ks) (pc + 3) Ls (v.toList ++ rest)) : Go l Z n0 R own nm code mL ret I F h cells slots pc Ls st := by
  intro p e s m args below meth c T locs hx hZ ho hn hc hm hr' hk X N eT hJ
  obtain ⟨v, _, ⟨T', L', k', n''⟩, -, X', ⟨Lc, ⟨N', hQ'⟩, l1, l2, l3⟩, stp⟩ := X.specialBack hx (y := (⟨o', "<init>", d'⟩ : MethodName)) rfl ho (mvT hZ w1) (mvT hZ w2) (mvT hZ w4) hy (hC p e below s args hZ) (g := mkF m pc Ls st) rfl (hsz.trans hm.symm) (Steps.refl _) (a := a) (argsL := as') (rest := rest) (lenOf hpd hlen) hst (by show 2 * 0 + _ ≤ _; omega) (hb hc hd) (fun _ _ => ⟨rfl, eT, hc1, hs1⟩)
  dsimp only [Pt.U, Pt.locs, Pt.cells, Pt.slots] at X' l1 l2 l3 stp hQ'
  subst l1 l2 l3
  obtain ⟨s₂, v2, L, h1, r⟩ := hr v T'.heap hQ' p e s m args below meth c T' _ hx hZ ho hn hc hm hr' hk X' (Fr.app N N') rfl (hI v s T'.heap hQ' hJ)
  exact ⟨s₂, v2, L, stp.trans h1, r⟩
theorem Go.callVP {o' n' d' C oz : String} {bytes : ByteArray} {mL' index : Nat} {rt : Option FieldType} {kc ks W : Nat} (a : Addr) (as' rest : List Value) {Q' : Option Value → Heap → Prop} {ps : List FieldType} {r : Option FieldType}
    (hC : Pays l Z n0 R (⟨oz, n', d'⟩ : MethodName) 3 W (.ref a :: as').toArray h kc ks Q') (E : Exa Z h a C) (w1 : (Cond.methodLink own index (⟨o', n', d'⟩ : MethodName)).before a0 Z = true) (w2 : (Cond.declares (⟨o', n', d'⟩ : MethodName)).before a0 Z = true) (nf : ∀ s : State, Z.Warmed39 s.vm → NotFace s (⟨o', n', d'⟩ : MethodName)) (w3 : (Cond.selects C (⟨o', n', d'⟩ : MethodName) (⟨oz, n', d'⟩ : MethodName)).before a0 Z = true) (w4 : (Cond.instanceMethod (⟨oz, n', d'⟩ : MethodName)).before a0 Z = true) (w5 : (Cond.initialized oz).before a0 Z = true) (w6 : (Cond.code (⟨oz, n', d'⟩ : MethodName) bytes mL' rt).before a0 Z = true)
    (hy : o' ≠ "java/lang/invoke/MethodHandle" ∧ o' ≠ "java/lang/invoke/VarHandle") (hpd : parseMethodDescriptor d' = some ⟨ps, r⟩) (hlen : as'.length = ps.length) (hst : st = as'.reverse ++ .ref a :: rest) (hsz : Ls.size = mL) (hW : (rest.map fun v => v.category).sum ≤ W) (hc1 : cells + kc ≤ R.cells) (hs1 : slots + ks ≤ R.slots)
    (hd : decode code pc = .ok (.invokevirtual index, 3)) (hI : ∀ (v : Option Value) (s : State) (h' : Heap), Q' v h' → I s h → I' s h') (hr : ∀ v h', Q' v h' → Go l Z n0 R own nm code mL ret I' F h' (cells + kc) (slots + ks) (pc + 3) Ls (v.toList ++ rest)) : Go l Z n0 R own nm code mL ret I F h cells slots pc Ls st := by
  intro p e s m args below meth c T locs hx hZ ho hn hc hm hr' hk X N eT hJ
  obtain ⟨cq, kq, qa, qb, qc⟩ := isOf hZ eT E
  obtain ⟨v, _, ⟨T', L', k', n''⟩, -, X', ⟨Lc, ⟨N', hQ'⟩, l1, l2, l3⟩, stp⟩ := X.virtualBack hx (y := (⟨o', n', d'⟩ : MethodName)) (z := (⟨oz, n', d'⟩ : MethodName)) ho (mvT hZ w1) (mvT hZ w2) (nf s hZ) (mvT hZ w3) (mvT hZ w4) hy (hC p e below s args hZ) qa qc (g := mkF m pc Ls st) rfl (hsz.trans hm.symm) (Steps.refl _) (argsL := as') (rest := rest) (lenOf hpd hlen) hst (by show 2 * 0 + _ ≤ _; omega) (hb hc hd) (fun _ _ => ⟨rfl, eT, hc1, hs1⟩)
  dsimp only [Pt.U, Pt.locs, Pt.cells, Pt.slots] at X' l1 l2 l3 stp hQ'
  subst l1 l2 l3
  obtain ⟨s₂, v2, L, h1, r⟩ := hr v T'.heap hQ' p e s m args below meth c T' _ hx hZ ho hn hc hm hr' hk X' (Fr.app N N') rfl (hI v s T'.heap hQ' hJ)
  exact ⟨s₂, v2, L, stp.trans h1, r⟩
theorem Go.callSP {o' n' d' : String} {bytes : ByteArray} {mL' index : Nat} {rt : Option FieldType} {kc ks W : Nat} (as' rest : List Value) {Q' : Option Value → Heap → Prop} {ps : List FieldType} {r : Option FieldType}
    (hC : Pays l Z n0 R (⟨o', n', d'⟩ : MethodName) 3 W as'.toArray h kc ks Q') (w1 : (Cond.methodLink own index (⟨o', n', d'⟩ : MethodName)).before a0 Z = true) (w2 : (Cond.static (⟨o', n', d'⟩ : MethodName)).before a0 Z = true) (w3 : (Cond.initialized o').before a0 Z = true) (w4 : (Cond.code (⟨o', n', d'⟩ : MethodName) bytes mL' rt).before a0 Z = true)
    (hy : o' ≠ "java/lang/invoke/MethodHandle" ∧ o' ≠ "java/lang/invoke/VarHandle") (hpd : parseMethodDescriptor d' = some ⟨ps, r⟩) (hlen : as'.length = ps.length) (hst : st = as'.reverse ++ rest) (hsz : Ls.size = mL) (hW : (rest.map fun v => v.category).sum ≤ W) (hc1 : cells + kc ≤ R.cells) (hs1 : slots + ks ≤ R.slots)
    (hd : decode code pc = .ok (.invokestatic index, 3)) (hI : ∀ (v : Option Value) (s : State) (h' : Heap), Q' v h' → I s h → I' s h') (hr : ∀ v h', Q' v h' → Go l Z n0 R own nm code mL ret I' F h' (cells + kc) (slots + ks) (pc + 3) Ls (v.toList ++ rest)) : Go l Z n0 R own nm code mL ret I F h cells slots pc Ls st := by
  intro p e s m args below meth c T locs hx hZ ho hn hc hm hr' hk X N eT hJ
  obtain ⟨v, _, ⟨T', L', k', n''⟩, -, X', ⟨Lc, ⟨N', hQ'⟩, l1, l2, l3⟩, stp⟩ := Jvm.LawKit.callS X hx (y := (⟨o', n', d'⟩ : MethodName)) ho (mvT hZ w1) (mvT hZ w2) (mvT hZ w3) (mvT hZ w4) hy (hC p e below s args hZ) (g := mkF m pc Ls st) rfl (hsz.trans hm.symm) (argsL := as') (rest := rest) (lenOf hpd hlen) hst (by show 2 * 0 + _ ≤ _; omega) (hb hc hd) (fun _ _ => ⟨rfl, eT, hc1, hs1⟩)
  dsimp only [Pt.U, Pt.locs, Pt.cells, Pt.slots] at X' l1 l2 l3 stp hQ'
  subst l1 l2 l3
  obtain ⟨s₂, v2, L, h1, r⟩ := hr v T'.heap hQ' p e s m args below meth c T' _ hx hZ ho hn hc hm hr' hk X' (Fr.app N N') rfl (hI v s T'.heap hQ' hJ)
  exact ⟨s₂, v2, L, stp _ h1, r⟩
end Go
end Jvm.Own
namespace Jvm.Own
open Jvm Jvm.ClassFile Sem Op Lib Jvm.Free Jvm.Stand Jvm.LawKit Jvm.RoadKit Bundle
/-- a field of an object that a term names holds the int that the case says -/
theorem fld_says {s : State} {args : Array Value} {t : Term} {a : Addr} {k : Int32} {C n d : String} (ev : t.eval args s none [] s = some (.ref a)) (h : (Cond.eq (Term.field t C n d) (Term.int k)).value args s none s [] = some true) : Fld s s.heap a C n d (.int k) := by
  obtain ⟨x, y, e1, e2, hk, hk'⟩ := cmp_v (Or.inl h)
  cases (show some (Value.int k) = some y from e2)
  obtain ⟨z, rfl⟩ := hk'
  have : z = k := by simpa [Cond.value, e1, e2] using h
  subst this
  exact Fld.start ((fld_at ev).symm.trans e1)
end Jvm.Own
namespace Jvm.Own
open Jvm Jvm.ClassFile Sem Op Lib Jvm.Free Jvm.Stand Jvm.LawKit Jvm.RoadKit Bundle
theorem len_says {s : State} {args : Array Value} {t : Term} {a : Addr} {c : Cell} {ty : FieldType} {z : Int32} (ev : t.eval args s none [] s = some (.ref a)) (A : Arr s s.heap a c ty) (e : (Term.length t).eval args s none [] s = some (.int z)) : c.slots.size < 2 ^ 31 ∧ c.slots.size.toInt32 = z := by
  have hA := A.fin (Vm.Alike.refl _)
  by_cases hl : c.slots.size < 2 ^ 31
  · rw [len_f ev hA hl] at e
    exact ⟨hl, by injection e with e; injection e⟩
  · simp [Term.eval, ev, hA, hl] at e
theorem sub_at {s : State} {args : Array Value} {j k : Int32} (hj : ¬ j < 0) : (Term.sub (Term.index 0) (Term.int k)).eval args s none [j.toNatClampNeg] s = some (.int (j - k)) := by
  have h := idx_at (args := args) (s := s) (first := s) (o := none) hj
  simp [Term.eval] at h ⊢
  rw [h]
end Jvm.Own
namespace Jvm.Pilot.@@N@@
open Jvm Jvm.ClassFile Sem Op Lib Jvm.Free Jvm.Stand Jvm.LawKit Jvm.RoadKit Bundle Jvm.Own Jvm.Pilot.@@N@@.Jvm.D
theorem wd_0 {Z : State} {a0 : Array Value} (hw : ∀ d ∈ tables_1, d.before a0 Z = true) : (Jvm.Cond.classLink "com/example/meitheal/meitheal/TaskStatusIsHeldPinLaw" (7 : Nat) "com/example/meitheal/meitheal/TaskStatus").before a0 Z = true := hw _ (List.mem_of_getElem? (i := 0) rfl)
theorem wd_1 {Z : State} {a0 : Array Value} (hw : ∀ d ∈ tables_1, d.before a0 Z = true) : (Jvm.Cond.arrayOver (Jvm.ClassFile.FieldType.object "com/example/meitheal/meitheal/TaskStatus")).before a0 Z = true := hw _ (List.mem_of_getElem? (i := 1) rfl)
theorem wd_2 {Z : State} {a0 : Array Value} (hw : ∀ d ∈ tables_1, d.before a0 Z = true) : (Jvm.Cond.fieldLink "com/example/meitheal/meitheal/TaskStatusIsHeldPinLaw" (9 : Nat) "com/example/meitheal/meitheal/TaskStatus" "CREATED" "Lcom/example/meitheal/meitheal/TaskStatus;").before a0 Z = true := hw _ (List.mem_of_getElem? (i := 2) rfl)
theorem wd_3 {Z : State} {a0 : Array Value} (hw : ∀ d ∈ tables_1, d.before a0 Z = true) : (Jvm.Cond.initialized "com/example/meitheal/meitheal/TaskStatus").before a0 Z = true := hw _ (List.mem_of_getElem? (i := 3) rfl)
theorem wd_6 {Z : State} {a0 : Array Value} (hw : ∀ d ∈ tables_1, d.before a0 Z = true) : (Jvm.Cond.fieldLink "com/example/meitheal/meitheal/TaskStatusIsHeldPinLaw" (13 : Nat) "com/example/meitheal/meitheal/TaskStatus" "PENDING" "Lcom/example/meitheal/meitheal/TaskStatus;").before a0 Z = true := hw _ (List.mem_of_getElem? (i := 6) rfl)
theorem wd_8 {Z : State} {a0 : Array Value} (hw : ∀ d ∈ tables_1, d.before a0 Z = true) : (Jvm.Cond.fieldLink "com/example/meitheal/meitheal/TaskStatusIsHeldPinLaw" (16 : Nat) "com/example/meitheal/meitheal/TaskStatus" "READY" "Lcom/example/meitheal/meitheal/TaskStatus;").before a0 Z = true := hw _ (List.mem_of_getElem? (i := 8) rfl)
theorem wd_10 {Z : State} {a0 : Array Value} (hw : ∀ d ∈ tables_1, d.before a0 Z = true) : (Jvm.Cond.fieldLink "com/example/meitheal/meitheal/TaskStatusIsHeldPinLaw" (19 : Nat) "com/example/meitheal/meitheal/TaskStatus" "CLAIMED" "Lcom/example/meitheal/meitheal/TaskStatus;").before a0 Z = true := hw _ (List.mem_of_getElem? (i := 10) rfl)
theorem wd_12 {Z : State} {a0 : Array Value} (hw : ∀ d ∈ tables_1, d.before a0 Z = true) : (Jvm.Cond.fieldLink "com/example/meitheal/meitheal/TaskStatusIsHeldPinLaw" (22 : Nat) "com/example/meitheal/meitheal/TaskStatus" "RUNNING" "Lcom/example/meitheal/meitheal/TaskStatus;").before a0 Z = true := hw _ (List.mem_of_getElem? (i := 12) rfl)
theorem wd_14 {Z : State} {a0 : Array Value} (hw : ∀ d ∈ tables_1, d.before a0 Z = true) : (Jvm.Cond.fieldLink "com/example/meitheal/meitheal/TaskStatusIsHeldPinLaw" (25 : Nat) "com/example/meitheal/meitheal/TaskStatus" "VALIDATING" "Lcom/example/meitheal/meitheal/TaskStatus;").before a0 Z = true := hw _ (List.mem_of_getElem? (i := 14) rfl)
theorem wd_16 {Z : State} {a0 : Array Value} (hw : ∀ d ∈ tables_1, d.before a0 Z = true) : (Jvm.Cond.fieldLink "com/example/meitheal/meitheal/TaskStatusIsHeldPinLaw" (28 : Nat) "com/example/meitheal/meitheal/TaskStatus" "COMPLETED" "Lcom/example/meitheal/meitheal/TaskStatus;").before a0 Z = true := hw _ (List.mem_of_getElem? (i := 16) rfl)
theorem wd_18 {Z : State} {a0 : Array Value} (hw : ∀ d ∈ tables_1, d.before a0 Z = true) : (Jvm.Cond.fieldLink "com/example/meitheal/meitheal/TaskStatusIsHeldPinLaw" (31 : Nat) "com/example/meitheal/meitheal/TaskStatus" "FAILED" "Lcom/example/meitheal/meitheal/TaskStatus;").before a0 Z = true := hw _ (List.mem_of_getElem? (i := 18) rfl)
theorem wd_20 {Z : State} {a0 : Array Value} (hw : ∀ d ∈ tables_1, d.before a0 Z = true) : (Jvm.Cond.fieldLink "com/example/meitheal/meitheal/TaskStatusIsHeldPinLaw" (34 : Nat) "com/example/meitheal/meitheal/TaskStatus" "RETRYING" "Lcom/example/meitheal/meitheal/TaskStatus;").before a0 Z = true := hw _ (List.mem_of_getElem? (i := 20) rfl)
theorem wd_22 {Z : State} {a0 : Array Value} (hw : ∀ d ∈ tables_1, d.before a0 Z = true) : (Jvm.Cond.fieldLink "com/example/meitheal/meitheal/TaskStatusIsHeldPinLaw" (37 : Nat) "com/example/meitheal/meitheal/TaskStatus" "DEAD_LETTERED" "Lcom/example/meitheal/meitheal/TaskStatus;").before a0 Z = true := hw _ (List.mem_of_getElem? (i := 22) rfl)
theorem wd_24 {Z : State} {a0 : Array Value} (hw : ∀ d ∈ tables_1, d.before a0 Z = true) : (Jvm.Cond.fieldLink "com/example/meitheal/meitheal/TaskStatusIsHeldPinLaw" (40 : Nat) "com/example/meitheal/meitheal/TaskStatus" "CANCELLED" "Lcom/example/meitheal/meitheal/TaskStatus;").before a0 Z = true := hw _ (List.mem_of_getElem? (i := 24) rfl)
theorem wd_26 {Z : State} {a0 : Array Value} (hw : ∀ d ∈ tables_1, d.before a0 Z = true) : (Jvm.Cond.constant "com/example/meitheal/meitheal/TaskStatusIsHeldPinLaw" (43 : Nat) (2147483647 : Int32)).before a0 Z = true := hw _ (List.mem_of_getElem? (i := 26) rfl)
theorem wd_27 {Z : State} {a0 : Array Value} (hw : ∀ d ∈ tables_1, d.before a0 Z = true) : (Jvm.Cond.methodLink "com/example/meitheal/meitheal/TaskStatusIsHeldPinLaw" (44 : Nat) ({ cls := "com/example/meitheal/meitheal/TaskStatus", name := "isHeld", desc := "()Z" } : Jvm.MethodName)).before a0 Z = true := hw _ (List.mem_of_getElem? (i := 27) rfl)
theorem wd_28 {Z : State} {a0 : Array Value} (hw : ∀ d ∈ tables_1, d.before a0 Z = true) : (Jvm.Cond.declares ({ cls := "com/example/meitheal/meitheal/TaskStatus", name := "isHeld", desc := "()Z" } : Jvm.MethodName)).before a0 Z = true := hw _ (List.mem_of_getElem? (i := 28) rfl)
theorem wd_29 {Z : State} {a0 : Array Value} (hw : ∀ d ∈ tables_1, d.before a0 Z = true) : (Jvm.Cond.instanceMethod ({ cls := "com/example/meitheal/meitheal/TaskStatus", name := "isHeld", desc := "()Z" } : Jvm.MethodName)).before a0 Z = true := hw _ (List.mem_of_getElem? (i := 29) rfl)
theorem wd_30 {Z : State} {a0 : Array Value} (hw : ∀ d ∈ tables_1, d.before a0 Z = true) : (Jvm.Cond.selects "com/example/meitheal/meitheal/TaskStatus" ({ cls := "com/example/meitheal/meitheal/TaskStatus", name := "isHeld", desc := "()Z" } : Jvm.MethodName) ({ cls := "com/example/meitheal/meitheal/TaskStatus", name := "isHeld", desc := "()Z" } : Jvm.MethodName)).before a0 Z = true := hw _ (List.mem_of_getElem? (i := 30) rfl)
theorem wd_31 {Z : State} {a0 : Array Value} (hw : ∀ d ∈ tables_1, d.before a0 Z = true) : (Jvm.Cond.code ({ cls := "com/example/meitheal/meitheal/TaskStatus", name := "isHeld", desc := "()Z" } : Jvm.MethodName) prog_6_method_6_code (1 : Nat) (Option.some Jvm.ClassFile.FieldType.boolean)).before a0 Z = true := hw _ (List.mem_of_getElem? (i := 31) rfl)
theorem wd_32 {Z : State} {a0 : Array Value} (hw : ∀ d ∈ tables_1, d.before a0 Z = true) : (Jvm.Cond.fieldLink "com/example/meitheal/meitheal/TaskStatus" (13 : Nat) "com/example/meitheal/meitheal/TaskStatus" "CLAIMED" "Lcom/example/meitheal/meitheal/TaskStatus;").before a0 Z = true := hw _ (List.mem_of_getElem? (i := 32) rfl)
theorem wd_33 {Z : State} {a0 : Array Value} (hw : ∀ d ∈ tables_1, d.before a0 Z = true) : (Jvm.Cond.fieldLink "com/example/meitheal/meitheal/TaskStatus" (16 : Nat) "com/example/meitheal/meitheal/TaskStatus" "RUNNING" "Lcom/example/meitheal/meitheal/TaskStatus;").before a0 Z = true := hw _ (List.mem_of_getElem? (i := 33) rfl)
theorem wd_34 {Z : State} {a0 : Array Value} (hw : ∀ d ∈ tables_1, d.before a0 Z = true) : (Jvm.Cond.fieldLink "com/example/meitheal/meitheal/TaskStatus" (19 : Nat) "com/example/meitheal/meitheal/TaskStatus" "VALIDATING" "Lcom/example/meitheal/meitheal/TaskStatus;").before a0 Z = true := hw _ (List.mem_of_getElem? (i := 34) rfl)
theorem pd_0 : parseMethodDescriptor "()Z" = some ⟨[], some .boolean⟩ := by decide +kernel
theorem d_held_0 : decode prog_6_method_6_code 0 = .ok (.aload_n 0, 1) := by decide +kernel
theorem d_held_1 : decode prog_6_method_6_code 1 = .ok (.getstatic 13, 3) := by decide +kernel
theorem d_held_4 : decode prog_6_method_6_code 4 = .ok (.if_acmp .eq 17, 3) := by decide +kernel
theorem d_held_7 : decode prog_6_method_6_code 7 = .ok (.aload_n 0, 1) := by decide +kernel
theorem d_held_8 : decode prog_6_method_6_code 8 = .ok (.getstatic 16, 3) := by decide +kernel
theorem d_held_11 : decode prog_6_method_6_code 11 = .ok (.if_acmp .eq 10, 3) := by decide +kernel
theorem d_held_14 : decode prog_6_method_6_code 14 = .ok (.aload_n 0, 1) := by decide +kernel
theorem d_held_15 : decode prog_6_method_6_code 15 = .ok (.getstatic 19, 3) := by decide +kernel
theorem d_held_18 : decode prog_6_method_6_code 18 = .ok (.if_acmp .ne 7, 3) := by decide +kernel
theorem d_held_21 : decode prog_6_method_6_code 21 = .ok (.iconst 1, 1) := by decide +kernel
theorem d_held_22 : decode prog_6_method_6_code 22 = .ok (.goto 4, 3) := by decide +kernel
theorem d_held_25 : decode prog_6_method_6_code 25 = .ok (.iconst 0, 1) := by decide +kernel
theorem d_held_26 : decode prog_6_method_6_code 26 = .ok (.ireturn, 1) := by decide +kernel
abbrev R_held : Room := ({ frames := 0, cells := 0, slots := 0, locals := 0 } : Room)
abbrev GM_held (l : Launch) (Z : State) (n0 : Nat) (Q : Option Value → Heap → Prop) (h : Heap) (cells slots pc : Nat) (Ls : Array Slot) (st : List Value) : Prop := Go l Z n0 R_held "com/example/meitheal/meitheal/TaskStatus" "isHeld" prog_6_method_6_code 1 (some .boolean) IN (FN n0 R_held Q) h cells slots pc Ls st
theorem pf_held : plainFor (⟨"com/example/meitheal/meitheal/TaskStatus", "isHeld", "()Z"⟩ : MethodName) = true := plainFor_of_name (by first | (simp [plainName, overriddenIn]; done) | decide +kernel)
theorem ct_held (l : Launch) (Z : State) (a0 : Array Value) (hw : ∀ d ∈ tables_1, d.before a0 Z = true) (n0 : Nat) (a w3 w4 w5 : Addr) (h0 : Heap) (O : Old Z n0 h0) (S_w3 : Sta Z Z.heap "com/example/meitheal/meitheal/TaskStatus" "CLAIMED" "Lcom/example/meitheal/meitheal/TaskStatus;" (.ref w3)) (S_w4 : Sta Z Z.heap "com/example/meitheal/meitheal/TaskStatus" "RUNNING" "Lcom/example/meitheal/meitheal/TaskStatus;" (.ref w4)) (S_w5 : Sta Z Z.heap "com/example/meitheal/meitheal/TaskStatus" "VALIDATING" "Lcom/example/meitheal/meitheal/TaskStatus;" (.ref w5)) :
    Ct l Z n0 "com/example/meitheal/meitheal/TaskStatus" "isHeld" "()Z" [] prog_6_method_6_code 1 (some .boolean) R_held #[.ref a] h0 (fun v h => v = some (.int (if a = w3 ∨ a = w4 ∨ a = w5 then 1 else 0)) ∧ h0 = h) := by
  refine Ct.of_go pf_held (Ls := #[.val (.ref a)]) (fun m => by first | rfl | (simp [entryFrame, mkF, argsToLocals, Value.category]; done)) ?_
  show GM_held l Z n0 _ h0 0 0 0 #[.val (.ref a)] []
  refine Go.aloadN d_held_0 rfl rfl ?_
  refine Go.getS (wd_32 hw) Via.refl (S_w3.ext O.2) d_held_1 ?_
  -- at pc 4: pc 4: if_acmp .if_acmp .eq 17 stack [(.ref w3), (.ref a)]
  by_cases h4 : a = w3
  · refine Go.acmp 21 true d_held_4 rfl rfl (decide_eq_true (congrArg Value.ref h4)) (by decide) (by decide) ?_
    refine Go.iconst 1 d_held_21 rfl ?_
    refine Go.goto 26 d_held_22 (by decide) (by decide) ?_
    -- at pc 26: pc 26: ireturn .ireturn stack [(.int (1 : Int32))]
    exact Go.nreturn .boolean d_held_26 rfl (by simp) (by decide) (by decide) ⟨by rw [if_pos (Or.inl h4)]; rfl, rfl⟩
  · refine Go.acmp 7 false d_held_4 rfl rfl (decide_eq_false fun q => h4 (Value.ref.inj q)) (by decide) (by decide) ?_
    refine Go.aloadN d_held_7 rfl rfl ?_
    refine Go.getS (wd_33 hw) Via.refl (S_w4.ext O.2) d_held_8 ?_
    -- at pc 11: pc 11: if_acmp .if_acmp .eq 10 stack [(.ref w4), (.ref a)]
    by_cases h11 : a = w4
    · refine Go.acmp 21 true d_held_11 rfl rfl (decide_eq_true (congrArg Value.ref h11)) (by decide) (by decide) ?_
      refine Go.iconst 1 d_held_21 rfl ?_
      refine Go.goto 26 d_held_22 (by decide) (by decide) ?_
      -- at pc 26: pc 26: ireturn .ireturn stack [(.int (1 : Int32))]
      exact Go.nreturn .boolean d_held_26 rfl (by simp) (by decide) (by decide) ⟨by rw [if_pos (Or.inr (Or.inl h11))]; rfl, rfl⟩
    · refine Go.acmp 14 false d_held_11 rfl rfl (decide_eq_false fun q => h11 (Value.ref.inj q)) (by decide) (by decide) ?_
      refine Go.aloadN d_held_14 rfl rfl ?_
      refine Go.getS (wd_34 hw) Via.refl (S_w5.ext O.2) d_held_15 ?_
      -- at pc 18: pc 18: if_acmp .if_acmp .ne 7 stack [(.ref w5), (.ref a)]
      by_cases h18 : a = w5
      · refine Go.acmp 21 true d_held_18 rfl rfl (decide_eq_true (congrArg Value.ref h18)) (by decide) (by decide) ?_
        refine Go.iconst 1 d_held_21 rfl ?_
        refine Go.goto 26 d_held_22 (by decide) (by decide) ?_
        -- at pc 26: pc 26: ireturn .ireturn stack [(.int (1 : Int32))]
        exact Go.nreturn .boolean d_held_26 rfl (by simp) (by decide) (by decide) ⟨by rw [if_pos (Or.inr (Or.inr h18))]; rfl, rfl⟩
      · refine Go.acmp 25 false d_held_18 rfl rfl (decide_eq_false fun q => h18 (Value.ref.inj q)) (by decide) (by decide) ?_
        refine Go.iconst 0 d_held_25 rfl ?_
        -- at pc 26: pc 26: ireturn .ireturn stack [(.int (0 : Int32))]
        exact Go.nreturn .boolean d_held_26 rfl (by simp) (by decide) (by decide) ⟨by rw [if_neg (by rintro (q | q | q) <;> contradiction)]; rfl, rfl⟩
theorem own_idx (x : Int32) : ¬ ((x &&& 2147483647) % 11) < 0 ∧ ((x &&& 2147483647) % 11) < 11 := by
  have h1 := c_mask x 2147483647 31 (by decide) (by decide)
  have h2 := (c_irem (x &&& 2147483647) 11 11 rfl).1 (by omega)
  have e0 : (0 : Int32).toInt = 0 := rfl
  have e1 : (11 : Int32).toInt = 11 := rfl
  rw [Int32.lt_iff_toInt_lt, Int32.lt_iff_toInt_lt, h2, e0, e1]
  omega
theorem own_cases (i : Int32) (h0 : ¬ i < 0) (h1 : i < 11) : i = 0 ∨ i = 1 ∨ i = 2 ∨ i = 3 ∨ i = 4 ∨ i = 5 ∨ i = 6 ∨ i = 7 ∨ i = 8 ∨ i = 9 ∨ i = 10 := by
  rw [Int32.lt_iff_toInt_lt] at h0 h1
  have e0 : (0 : Int32).toInt = 0 := rfl
  have e1 : (11 : Int32).toInt = 11 := rfl
  have : i.toInt = 0 ∨ i.toInt = 1 ∨ i.toInt = 2 ∨ i.toInt = 3 ∨ i.toInt = 4 ∨ i.toInt = 5 ∨ i.toInt = 6 ∨ i.toInt = 7 ∨ i.toInt = 8 ∨ i.toInt = 9 ∨ i.toInt = 10 := by omega
  rcases this with h | h | h | h | h | h | h | h | h | h | h
  · exact Or.inl (Int32.toInt_inj.mp h)
  · exact Or.inr (Or.inl (Int32.toInt_inj.mp h))
  · exact Or.inr (Or.inr (Or.inl (Int32.toInt_inj.mp h)))
  · exact Or.inr (Or.inr (Or.inr (Or.inl (Int32.toInt_inj.mp h))))
  · exact Or.inr (Or.inr (Or.inr (Or.inr (Or.inl (Int32.toInt_inj.mp h)))))
  · exact Or.inr (Or.inr (Or.inr (Or.inr (Or.inr (Or.inl (Int32.toInt_inj.mp h))))))
  · exact Or.inr (Or.inr (Or.inr (Or.inr (Or.inr (Or.inr (Or.inl (Int32.toInt_inj.mp h)))))))
  · exact Or.inr (Or.inr (Or.inr (Or.inr (Or.inr (Or.inr (Or.inr (Or.inl (Int32.toInt_inj.mp h))))))))
  · exact Or.inr (Or.inr (Or.inr (Or.inr (Or.inr (Or.inr (Or.inr (Or.inr (Or.inl (Int32.toInt_inj.mp h)))))))))
  · exact Or.inr (Or.inr (Or.inr (Or.inr (Or.inr (Or.inr (Or.inr (Or.inr (Or.inr (Or.inl (Int32.toInt_inj.mp h))))))))))
  · exact Or.inr (Or.inr (Or.inr (Or.inr (Or.inr (Or.inr (Or.inr (Or.inr (Or.inr (Or.inr (Int32.toInt_inj.mp h))))))))))

abbrev R_law : Room := room_1
abbrev GM_law (l : Launch) (Z : State) (n0 : Nat) (Q : Option Value → Heap → Prop) (h : Heap) (cells slots pc : Nat) (Ls : Array Slot) (st : List Value) : Prop := Go l Z n0 R_law "com/example/meitheal/meitheal/TaskStatusIsHeldPinLaw" "law" code maxLocals ret IN (FN n0 R_law Q) h cells slots pc Ls st
theorem pf_law : plainFor (⟨"com/example/meitheal/meitheal/TaskStatusIsHeldPinLaw", "law", "(I)Z"⟩ : MethodName) = true := plainFor_of_name (by first | (simp [plainName, overriddenIn]; done) | decide +kernel)
set_option maxRecDepth 65536 in
set_option maxHeartbeats 40000000 in
theorem ct_law (l : Launch) (Z : State) (a0 : Array Value) (hw : ∀ d ∈ tables_1, d.before a0 Z = true) (p1 : Int32) (w0 w1 w2 w3 w4 w5 w6 w7 w8 w9 w10 : Addr) (n0 : Nat) (O : Old Z n0 Z.heap)
    (S_w0 : Sta Z Z.heap "com/example/meitheal/meitheal/TaskStatus" "CREATED" "Lcom/example/meitheal/meitheal/TaskStatus;" (.ref w0)) (E_w0 : Exa Z Z.heap w0 "com/example/meitheal/meitheal/TaskStatus") (F_w0 : Fld Z Z.heap w0 "java/lang/Enum" "ordinal" "I" (.int 0))
    (S_w1 : Sta Z Z.heap "com/example/meitheal/meitheal/TaskStatus" "PENDING" "Lcom/example/meitheal/meitheal/TaskStatus;" (.ref w1)) (E_w1 : Exa Z Z.heap w1 "com/example/meitheal/meitheal/TaskStatus") (F_w1 : Fld Z Z.heap w1 "java/lang/Enum" "ordinal" "I" (.int 1))
    (S_w2 : Sta Z Z.heap "com/example/meitheal/meitheal/TaskStatus" "READY" "Lcom/example/meitheal/meitheal/TaskStatus;" (.ref w2)) (E_w2 : Exa Z Z.heap w2 "com/example/meitheal/meitheal/TaskStatus") (F_w2 : Fld Z Z.heap w2 "java/lang/Enum" "ordinal" "I" (.int 2))
    (S_w3 : Sta Z Z.heap "com/example/meitheal/meitheal/TaskStatus" "CLAIMED" "Lcom/example/meitheal/meitheal/TaskStatus;" (.ref w3)) (E_w3 : Exa Z Z.heap w3 "com/example/meitheal/meitheal/TaskStatus") (F_w3 : Fld Z Z.heap w3 "java/lang/Enum" "ordinal" "I" (.int 3))
    (S_w4 : Sta Z Z.heap "com/example/meitheal/meitheal/TaskStatus" "RUNNING" "Lcom/example/meitheal/meitheal/TaskStatus;" (.ref w4)) (E_w4 : Exa Z Z.heap w4 "com/example/meitheal/meitheal/TaskStatus") (F_w4 : Fld Z Z.heap w4 "java/lang/Enum" "ordinal" "I" (.int 4))
    (S_w5 : Sta Z Z.heap "com/example/meitheal/meitheal/TaskStatus" "VALIDATING" "Lcom/example/meitheal/meitheal/TaskStatus;" (.ref w5)) (E_w5 : Exa Z Z.heap w5 "com/example/meitheal/meitheal/TaskStatus") (F_w5 : Fld Z Z.heap w5 "java/lang/Enum" "ordinal" "I" (.int 5))
    (S_w6 : Sta Z Z.heap "com/example/meitheal/meitheal/TaskStatus" "COMPLETED" "Lcom/example/meitheal/meitheal/TaskStatus;" (.ref w6)) (E_w6 : Exa Z Z.heap w6 "com/example/meitheal/meitheal/TaskStatus") (F_w6 : Fld Z Z.heap w6 "java/lang/Enum" "ordinal" "I" (.int 6))
    (S_w7 : Sta Z Z.heap "com/example/meitheal/meitheal/TaskStatus" "FAILED" "Lcom/example/meitheal/meitheal/TaskStatus;" (.ref w7)) (E_w7 : Exa Z Z.heap w7 "com/example/meitheal/meitheal/TaskStatus") (F_w7 : Fld Z Z.heap w7 "java/lang/Enum" "ordinal" "I" (.int 7))
    (S_w8 : Sta Z Z.heap "com/example/meitheal/meitheal/TaskStatus" "RETRYING" "Lcom/example/meitheal/meitheal/TaskStatus;" (.ref w8)) (E_w8 : Exa Z Z.heap w8 "com/example/meitheal/meitheal/TaskStatus") (F_w8 : Fld Z Z.heap w8 "java/lang/Enum" "ordinal" "I" (.int 8))
    (S_w9 : Sta Z Z.heap "com/example/meitheal/meitheal/TaskStatus" "DEAD_LETTERED" "Lcom/example/meitheal/meitheal/TaskStatus;" (.ref w9)) (E_w9 : Exa Z Z.heap w9 "com/example/meitheal/meitheal/TaskStatus") (F_w9 : Fld Z Z.heap w9 "java/lang/Enum" "ordinal" "I" (.int 9))
    (S_w10 : Sta Z Z.heap "com/example/meitheal/meitheal/TaskStatus" "CANCELLED" "Lcom/example/meitheal/meitheal/TaskStatus;" (.ref w10)) (E_w10 : Exa Z Z.heap w10 "com/example/meitheal/meitheal/TaskStatus") (F_w10 : Fld Z Z.heap w10 "java/lang/Enum" "ordinal" "I" (.int 10))
    : Ct l Z n0 "com/example/meitheal/meitheal/TaskStatusIsHeldPinLaw" "law" "(I)Z" tables_1 code maxLocals ret R_law #[.int p1] Z.heap (fun v _ => v = some (.int 1)) := by
  have hz : n0 ≤ Z.heap.size := Nat.le_of_eq O.1.symm
  refine Ct.of_go pf_law (Ls := #[.val (.int p1), .unset, .unset, .unset]) (fun m => by first | rfl | (simp [entryFrame, mkF, argsToLocals, Value.category, maxLocals]; done)) ?_
  show GM_law l Z n0 (fun v _ => v = some (.int 1)) Z.heap 0 0 0 #[.val (.int p1), .unset, .unset, .unset] []
  refine Go.bipush 11 at_0 rfl ?_
  -- at pc 2: pc 2: anewarray .anewarray 7 stack [(.int (11 : Int32))]
  refine Go.newR (I' := IN) (hI := nE) (wd_0 hw) (wd_1 hw) at_2 (by decide) 11 (by decide) (by decide) (by decide) (by decide) fun hp1 b k_b e_b X1 V_b O_b => ?_
  have K1 : Keep Z.heap hp1 [] := (Keep.refl _ _).ext X1
  have g_b : n0 ≤ b := e_b ▸ hz
  have ne_w0_b : w0 ≠ b := Nat.ne_of_lt (e_b ▸ (E_w0.ext O.2).lt)
  have ne_w1_b : w1 ≠ b := Nat.ne_of_lt (e_b ▸ (E_w1.ext O.2).lt)
  have ne_w2_b : w2 ≠ b := Nat.ne_of_lt (e_b ▸ (E_w2.ext O.2).lt)
  have ne_w3_b : w3 ≠ b := Nat.ne_of_lt (e_b ▸ (E_w3.ext O.2).lt)
  have ne_w4_b : w4 ≠ b := Nat.ne_of_lt (e_b ▸ (E_w4.ext O.2).lt)
  have ne_w5_b : w5 ≠ b := Nat.ne_of_lt (e_b ▸ (E_w5.ext O.2).lt)
  have ne_w6_b : w6 ≠ b := Nat.ne_of_lt (e_b ▸ (E_w6.ext O.2).lt)
  have ne_w7_b : w7 ≠ b := Nat.ne_of_lt (e_b ▸ (E_w7.ext O.2).lt)
  have ne_w8_b : w8 ≠ b := Nat.ne_of_lt (e_b ▸ (E_w8.ext O.2).lt)
  have ne_w9_b : w9 ≠ b := Nat.ne_of_lt (e_b ▸ (E_w9.ext O.2).lt)
  have ne_w10_b : w10 ≠ b := Nat.ne_of_lt (e_b ▸ (E_w10.ext O.2).lt)
  replace O := O.keep K1 (all0)
  replace V_b : Arv Z hp1 b k_b (.object "com/example/meitheal/meitheal/TaskStatus") (11 : Int32) [.null, .null, .null, .null, .null, .null, .null, .null, .null, .null, .null] .null := V_b.pad (pad_rep [] .null 11)
  replace hz : n0 ≤ hp1.size := Nat.le_trans hz K1.1
  refine Go.dup at_5 rfl ?_
  refine Go.iconst 0 at_6 rfl ?_
  refine Go.getS (wd_2 hw) Via.refl (S_w0.ext O.2) at_7 ?_
  refine Go.aastore (I' := IN) (hI := nI) V_b rfl rfl (fun c A q => Sto.ofV A q O_b (Ins.self (E_w0.ext O.2))) ⟨by decide, by decide⟩ g_b 0 rfl (Nat.le_of_ble_eq_true rfl) at_10 fun hp2 K2 V_b_n => ?_
  replace V_b : Arv Z hp2 b k_b (.object "com/example/meitheal/meitheal/TaskStatus") (11 : Int32) [(.ref w0), .null, .null, .null, .null, .null, .null, .null, .null, .null, .null] .null := V_b_n
  replace O := O.keep K2 (allS g_b (all0))
  replace hz : n0 ≤ hp2.size := Nat.le_trans hz K2.1
  refine Go.dup at_11 rfl ?_
  refine Go.iconst 1 at_12 rfl ?_
  refine Go.getS (wd_6 hw) Via.refl (S_w1.ext O.2) at_13 ?_
  refine Go.aastore (I' := IN) (hI := nI) V_b rfl rfl (fun c A q => Sto.ofV A q O_b (Ins.self (E_w1.ext O.2))) ⟨by decide, by decide⟩ g_b 1 rfl (Nat.le_of_ble_eq_true rfl) at_16 fun hp3 K3 V_b_n => ?_
  replace V_b : Arv Z hp3 b k_b (.object "com/example/meitheal/meitheal/TaskStatus") (11 : Int32) [(.ref w0), (.ref w1), .null, .null, .null, .null, .null, .null, .null, .null, .null] .null := V_b_n
  replace O := O.keep K3 (allS g_b (all0))
  replace hz : n0 ≤ hp3.size := Nat.le_trans hz K3.1
  refine Go.dup at_17 rfl ?_
  refine Go.iconst 2 at_18 rfl ?_
  refine Go.getS (wd_8 hw) Via.refl (S_w2.ext O.2) at_19 ?_
  refine Go.aastore (I' := IN) (hI := nI) V_b rfl rfl (fun c A q => Sto.ofV A q O_b (Ins.self (E_w2.ext O.2))) ⟨by decide, by decide⟩ g_b 2 rfl (Nat.le_of_ble_eq_true rfl) at_22 fun hp4 K4 V_b_n => ?_
  replace V_b : Arv Z hp4 b k_b (.object "com/example/meitheal/meitheal/TaskStatus") (11 : Int32) [(.ref w0), (.ref w1), (.ref w2), .null, .null, .null, .null, .null, .null, .null, .null] .null := V_b_n
  replace O := O.keep K4 (allS g_b (all0))
  replace hz : n0 ≤ hp4.size := Nat.le_trans hz K4.1
  refine Go.dup at_23 rfl ?_
  refine Go.iconst 3 at_24 rfl ?_
  refine Go.getS (wd_10 hw) Via.refl (S_w3.ext O.2) at_25 ?_
  refine Go.aastore (I' := IN) (hI := nI) V_b rfl rfl (fun c A q => Sto.ofV A q O_b (Ins.self (E_w3.ext O.2))) ⟨by decide, by decide⟩ g_b 3 rfl (Nat.le_of_ble_eq_true rfl) at_28 fun hp5 K5 V_b_n => ?_
  replace V_b : Arv Z hp5 b k_b (.object "com/example/meitheal/meitheal/TaskStatus") (11 : Int32) [(.ref w0), (.ref w1), (.ref w2), (.ref w3), .null, .null, .null, .null, .null, .null, .null] .null := V_b_n
  replace O := O.keep K5 (allS g_b (all0))
  replace hz : n0 ≤ hp5.size := Nat.le_trans hz K5.1
  refine Go.dup at_29 rfl ?_
  refine Go.iconst 4 at_30 rfl ?_
  refine Go.getS (wd_12 hw) Via.refl (S_w4.ext O.2) at_31 ?_
  refine Go.aastore (I' := IN) (hI := nI) V_b rfl rfl (fun c A q => Sto.ofV A q O_b (Ins.self (E_w4.ext O.2))) ⟨by decide, by decide⟩ g_b 4 rfl (Nat.le_of_ble_eq_true rfl) at_34 fun hp6 K6 V_b_n => ?_
  replace V_b : Arv Z hp6 b k_b (.object "com/example/meitheal/meitheal/TaskStatus") (11 : Int32) [(.ref w0), (.ref w1), (.ref w2), (.ref w3), (.ref w4), .null, .null, .null, .null, .null, .null] .null := V_b_n
  replace O := O.keep K6 (allS g_b (all0))
  replace hz : n0 ≤ hp6.size := Nat.le_trans hz K6.1
  refine Go.dup at_35 rfl ?_
  refine Go.iconst 5 at_36 rfl ?_
  refine Go.getS (wd_14 hw) Via.refl (S_w5.ext O.2) at_37 ?_
  refine Go.aastore (I' := IN) (hI := nI) V_b rfl rfl (fun c A q => Sto.ofV A q O_b (Ins.self (E_w5.ext O.2))) ⟨by decide, by decide⟩ g_b 5 rfl (Nat.le_of_ble_eq_true rfl) at_40 fun hp7 K7 V_b_n => ?_
  replace V_b : Arv Z hp7 b k_b (.object "com/example/meitheal/meitheal/TaskStatus") (11 : Int32) [(.ref w0), (.ref w1), (.ref w2), (.ref w3), (.ref w4), (.ref w5), .null, .null, .null, .null, .null] .null := V_b_n
  replace O := O.keep K7 (allS g_b (all0))
  replace hz : n0 ≤ hp7.size := Nat.le_trans hz K7.1
  refine Go.dup at_41 rfl ?_
  refine Go.bipush 6 at_42 rfl ?_
  refine Go.getS (wd_16 hw) Via.refl (S_w6.ext O.2) at_44 ?_
  refine Go.aastore (I' := IN) (hI := nI) V_b rfl rfl (fun c A q => Sto.ofV A q O_b (Ins.self (E_w6.ext O.2))) ⟨by decide, by decide⟩ g_b 6 rfl (Nat.le_of_ble_eq_true rfl) at_47 fun hp8 K8 V_b_n => ?_
  replace V_b : Arv Z hp8 b k_b (.object "com/example/meitheal/meitheal/TaskStatus") (11 : Int32) [(.ref w0), (.ref w1), (.ref w2), (.ref w3), (.ref w4), (.ref w5), (.ref w6), .null, .null, .null, .null] .null := V_b_n
  replace O := O.keep K8 (allS g_b (all0))
  replace hz : n0 ≤ hp8.size := Nat.le_trans hz K8.1
  refine Go.dup at_48 rfl ?_
  refine Go.bipush 7 at_49 rfl ?_
  refine Go.getS (wd_18 hw) Via.refl (S_w7.ext O.2) at_51 ?_
  refine Go.aastore (I' := IN) (hI := nI) V_b rfl rfl (fun c A q => Sto.ofV A q O_b (Ins.self (E_w7.ext O.2))) ⟨by decide, by decide⟩ g_b 7 rfl (Nat.le_of_ble_eq_true rfl) at_54 fun hp9 K9 V_b_n => ?_
  replace V_b : Arv Z hp9 b k_b (.object "com/example/meitheal/meitheal/TaskStatus") (11 : Int32) [(.ref w0), (.ref w1), (.ref w2), (.ref w3), (.ref w4), (.ref w5), (.ref w6), (.ref w7), .null, .null, .null] .null := V_b_n
  replace O := O.keep K9 (allS g_b (all0))
  replace hz : n0 ≤ hp9.size := Nat.le_trans hz K9.1
  refine Go.dup at_55 rfl ?_
  refine Go.bipush 8 at_56 rfl ?_
  refine Go.getS (wd_20 hw) Via.refl (S_w8.ext O.2) at_58 ?_
  refine Go.aastore (I' := IN) (hI := nI) V_b rfl rfl (fun c A q => Sto.ofV A q O_b (Ins.self (E_w8.ext O.2))) ⟨by decide, by decide⟩ g_b 8 rfl (Nat.le_of_ble_eq_true rfl) at_61 fun hp10 K10 V_b_n => ?_
  replace V_b : Arv Z hp10 b k_b (.object "com/example/meitheal/meitheal/TaskStatus") (11 : Int32) [(.ref w0), (.ref w1), (.ref w2), (.ref w3), (.ref w4), (.ref w5), (.ref w6), (.ref w7), (.ref w8), .null, .null] .null := V_b_n
  replace O := O.keep K10 (allS g_b (all0))
  replace hz : n0 ≤ hp10.size := Nat.le_trans hz K10.1
  refine Go.dup at_62 rfl ?_
  refine Go.bipush 9 at_63 rfl ?_
  refine Go.getS (wd_22 hw) Via.refl (S_w9.ext O.2) at_65 ?_
  refine Go.aastore (I' := IN) (hI := nI) V_b rfl rfl (fun c A q => Sto.ofV A q O_b (Ins.self (E_w9.ext O.2))) ⟨by decide, by decide⟩ g_b 9 rfl (Nat.le_of_ble_eq_true rfl) at_68 fun hp11 K11 V_b_n => ?_
  replace V_b : Arv Z hp11 b k_b (.object "com/example/meitheal/meitheal/TaskStatus") (11 : Int32) [(.ref w0), (.ref w1), (.ref w2), (.ref w3), (.ref w4), (.ref w5), (.ref w6), (.ref w7), (.ref w8), (.ref w9), .null] .null := V_b_n
  replace O := O.keep K11 (allS g_b (all0))
  replace hz : n0 ≤ hp11.size := Nat.le_trans hz K11.1
  refine Go.dup at_69 rfl ?_
  refine Go.bipush 10 at_70 rfl ?_
  refine Go.getS (wd_24 hw) Via.refl (S_w10.ext O.2) at_72 ?_
  refine Go.aastore (I' := IN) (hI := nI) V_b rfl rfl (fun c A q => Sto.ofV A q O_b (Ins.self (E_w10.ext O.2))) ⟨by decide, by decide⟩ g_b 10 rfl (Nat.le_of_ble_eq_true rfl) at_75 fun hp12 K12 V_b_n => ?_
  replace V_b : Arv Z hp12 b k_b (.object "com/example/meitheal/meitheal/TaskStatus") (11 : Int32) [(.ref w0), (.ref w1), (.ref w2), (.ref w3), (.ref w4), (.ref w5), (.ref w6), (.ref w7), (.ref w8), (.ref w9), (.ref w10)] .null := V_b_n
  replace O := O.keep K12 (allS g_b (all0))
  replace hz : n0 ≤ hp12.size := Nat.le_trans hz K12.1
  refine Go.astoreN (Ls' := #[.val (.int p1), .val (.ref b), .unset, .unset]) at_76 rfl rfl ?_
  refine Go.iloadN at_77 rfl ?_
  refine Go.ldc (wd_26 hw) at_78 ?_
  refine Go.iand at_80 ?_
  refine Go.bipush 11 at_81 rfl ?_
  refine Go.irem at_83 (by decide) ?_
  generalize hg_i : ((p1 &&& (2147483647 : Int32)) % (11 : Int32)) = i
  have hi := own_idx p1
  rw [hg_i] at hi
  obtain ⟨ai, hai, E_ai, hiff⟩ : ∃ ai, ([(.ref w0), (.ref w1), (.ref w2), (.ref w3), (.ref w4), (.ref w5), (.ref w6), (.ref w7), (.ref w8), (.ref w9), (.ref w10)] : List Value).getD i.toNatClampNeg .null = .ref ai ∧ Exa Z Z.heap ai "com/example/meitheal/meitheal/TaskStatus" ∧ ((ai = w3 ∨ ai = w4 ∨ ai = w5) ↔ (¬ i < 3 ∧ ¬ 5 < i)) := by
    rcases own_cases i hi.1 hi.2 with rfl | rfl | rfl | rfl | rfl | rfl | rfl | rfl | rfl | rfl | rfl
    · exact ⟨w0, rfl, E_w0, ⟨fun q => (q.elim (Fld.ne F_w0 F_w3 (by decide)) fun q => q.elim (Fld.ne F_w0 F_w4 (by decide)) (Fld.ne F_w0 F_w5 (by decide))).elim, fun q => absurd q (by decide)⟩⟩
    · exact ⟨w1, rfl, E_w1, ⟨fun q => (q.elim (Fld.ne F_w1 F_w3 (by decide)) fun q => q.elim (Fld.ne F_w1 F_w4 (by decide)) (Fld.ne F_w1 F_w5 (by decide))).elim, fun q => absurd q (by decide)⟩⟩
    · exact ⟨w2, rfl, E_w2, ⟨fun q => (q.elim (Fld.ne F_w2 F_w3 (by decide)) fun q => q.elim (Fld.ne F_w2 F_w4 (by decide)) (Fld.ne F_w2 F_w5 (by decide))).elim, fun q => absurd q (by decide)⟩⟩
    · exact ⟨w3, rfl, E_w3, ⟨fun _ => by decide, fun _ => Or.inl rfl⟩⟩
    · exact ⟨w4, rfl, E_w4, ⟨fun _ => by decide, fun _ => Or.inr (Or.inl rfl)⟩⟩
    · exact ⟨w5, rfl, E_w5, ⟨fun _ => by decide, fun _ => Or.inr (Or.inr rfl)⟩⟩
    · exact ⟨w6, rfl, E_w6, ⟨fun q => (q.elim (Fld.ne F_w6 F_w3 (by decide)) fun q => q.elim (Fld.ne F_w6 F_w4 (by decide)) (Fld.ne F_w6 F_w5 (by decide))).elim, fun q => absurd q (by decide)⟩⟩
    · exact ⟨w7, rfl, E_w7, ⟨fun q => (q.elim (Fld.ne F_w7 F_w3 (by decide)) fun q => q.elim (Fld.ne F_w7 F_w4 (by decide)) (Fld.ne F_w7 F_w5 (by decide))).elim, fun q => absurd q (by decide)⟩⟩
    · exact ⟨w8, rfl, E_w8, ⟨fun q => (q.elim (Fld.ne F_w8 F_w3 (by decide)) fun q => q.elim (Fld.ne F_w8 F_w4 (by decide)) (Fld.ne F_w8 F_w5 (by decide))).elim, fun q => absurd q (by decide)⟩⟩
    · exact ⟨w9, rfl, E_w9, ⟨fun q => (q.elim (Fld.ne F_w9 F_w3 (by decide)) fun q => q.elim (Fld.ne F_w9 F_w4 (by decide)) (Fld.ne F_w9 F_w5 (by decide))).elim, fun q => absurd q (by decide)⟩⟩
    · exact ⟨w10, rfl, E_w10, ⟨fun q => (q.elim (Fld.ne F_w10 F_w3 (by decide)) fun q => q.elim (Fld.ne F_w10 F_w4 (by decide)) (Fld.ne F_w10 F_w5 (by decide))).elim, fun q => absurd q (by decide)⟩⟩
  refine Go.istoreN (Ls' := #[.val (.int p1), .val (.ref b), .val (.int i), .unset]) at_84 rfl ?_
  refine Go.iloadN at_85 rfl ?_
  refine Go.iconst 3 at_86 rfl ?_
  -- at pc 87: pc 87: if_icmp .if_icmp .lt 12 stack [(.int (3 : Int32)), (.int i)]
  by_cases h87 : i < (3 : Int32)
  · refine Go.icT 99 at_87 (tlt h87).1 (by decide) (by decide) ?_
    refine Go.iconst 0 at_99 rfl ?_
    refine Go.istoreN (Ls' := #[.val (.int p1), .val (.ref b), .val (.int i), .val (.int (0 : Int32))]) at_100 rfl ?_
    refine Go.aloadN at_101 rfl rfl ?_
    refine Go.iloadN at_102 rfl ?_
    -- at pc 103: pc 103: aaload of b at i: '!aload value ; bounds ; getD'
    refine Go.aaload (.ref ai) V_b rfl ⟨hi.1, hi.2⟩ hai at_103 ?_
    refine Go.callV (I' := IN) (hI := nQ) ai [] [] (ct_held l Z a0 hw n0 ai w3 w4 w5 _ O S_w3 S_w4 S_w5) (E_ai.ext O.2) (wd_27 hw) (wd_28 hw) (nf_sel (wd_30 hw)) (wd_30 hw) (wd_29 hw) (wd_3 hw) (wd_31 hw) (by decide) pd_0 rfl rfl rfl (by decide) (by decide) (by decide) (by decide) at_104 ?_
    rintro _ _ ⟨rfl, rfl⟩
    show GM_law l Z n0 (fun v _ => v = some (.int 1)) hp12 1 11 107 #[.val (.int p1), .val (.ref b), .val (.int i), .val (.int (0 : Int32))] [(.int (if ai = w3 ∨ ai = w4 ∨ ai = w5 then 1 else 0))]
    refine Go.iloadN at_107 rfl ?_
    -- at pc 108: pc 108: if_icmp .if_icmp .ne 7 stack [(.int (0 : Int32)), (.int (if ai = w3 ∨ ai = w4 ∨ ai = w5 then 1 else 0))]
    -- (if ai = w3 ∨ ai = w4 ∨ ai = w5 then 1 else 0) = (0 : Int32)
    refine Go.icF at_108 (teq (if_neg fun q => (hiff.mp q).1 h87)).2 ?_
    refine Go.iconst 1 at_111 rfl ?_
    refine Go.goto 116 at_112 (by decide) (by decide) ?_
    -- at pc 116: pc 116: ireturn .ireturn stack [(.int (1 : Int32))]
    exact Go.nreturn .boolean at_116 rfl (by simp) (by decide) (by decide) rfl
  · refine Go.icF at_87 (flt h87).1 ?_
    refine Go.iloadN at_90 rfl ?_
    refine Go.iconst 5 at_91 rfl ?_
    -- at pc 92: pc 92: if_icmp .if_icmp .gt 7 stack [(.int (5 : Int32)), (.int i)]
    by_cases h92 : (5 : Int32) < i
    · refine Go.icT 99 at_92 (tlt h92).2.2.1 (by decide) (by decide) ?_
      refine Go.iconst 0 at_99 rfl ?_
      refine Go.istoreN (Ls' := #[.val (.int p1), .val (.ref b), .val (.int i), .val (.int (0 : Int32))]) at_100 rfl ?_
      refine Go.aloadN at_101 rfl rfl ?_
      refine Go.iloadN at_102 rfl ?_
      -- at pc 103: pc 103: aaload of b at i: '!aload value ; bounds ; getD'
      refine Go.aaload (.ref ai) V_b rfl ⟨hi.1, hi.2⟩ hai at_103 ?_
      refine Go.callV (I' := IN) (hI := nQ) ai [] [] (ct_held l Z a0 hw n0 ai w3 w4 w5 _ O S_w3 S_w4 S_w5) (E_ai.ext O.2) (wd_27 hw) (wd_28 hw) (nf_sel (wd_30 hw)) (wd_30 hw) (wd_29 hw) (wd_3 hw) (wd_31 hw) (by decide) pd_0 rfl rfl rfl (by decide) (by decide) (by decide) (by decide) at_104 ?_
      rintro _ _ ⟨rfl, rfl⟩
      show GM_law l Z n0 (fun v _ => v = some (.int 1)) hp12 1 11 107 #[.val (.int p1), .val (.ref b), .val (.int i), .val (.int (0 : Int32))] [(.int (if ai = w3 ∨ ai = w4 ∨ ai = w5 then 1 else 0))]
      refine Go.iloadN at_107 rfl ?_
      -- at pc 108: pc 108: if_icmp .if_icmp .ne 7 stack [(.int (0 : Int32)), (.int (if ai = w3 ∨ ai = w4 ∨ ai = w5 then 1 else 0))]
      -- (if ai = w3 ∨ ai = w4 ∨ ai = w5 then 1 else 0) = (0 : Int32)
      refine Go.icF at_108 (teq (if_neg fun q => (hiff.mp q).2 h92)).2 ?_
      refine Go.iconst 1 at_111 rfl ?_
      refine Go.goto 116 at_112 (by decide) (by decide) ?_
      -- at pc 116: pc 116: ireturn .ireturn stack [(.int (1 : Int32))]
      exact Go.nreturn .boolean at_116 rfl (by simp) (by decide) (by decide) rfl
    · refine Go.icF at_92 (flt h92).2.2.1 ?_
      refine Go.iconst 1 at_95 rfl ?_
      refine Go.goto 100 at_96 (by decide) (by decide) ?_
      refine Go.istoreN (Ls' := #[.val (.int p1), .val (.ref b), .val (.int i), .val (.int (1 : Int32))]) at_100 rfl ?_
      refine Go.aloadN at_101 rfl rfl ?_
      refine Go.iloadN at_102 rfl ?_
      -- at pc 103: pc 103: aaload of b at i: '!aload value ; bounds ; getD'
      refine Go.aaload (.ref ai) V_b rfl ⟨hi.1, hi.2⟩ hai at_103 ?_
      refine Go.callV (I' := IN) (hI := nQ) ai [] [] (ct_held l Z a0 hw n0 ai w3 w4 w5 _ O S_w3 S_w4 S_w5) (E_ai.ext O.2) (wd_27 hw) (wd_28 hw) (nf_sel (wd_30 hw)) (wd_30 hw) (wd_29 hw) (wd_3 hw) (wd_31 hw) (by decide) pd_0 rfl rfl rfl (by decide) (by decide) (by decide) (by decide) at_104 ?_
      rintro _ _ ⟨rfl, rfl⟩
      show GM_law l Z n0 (fun v _ => v = some (.int 1)) hp12 1 11 107 #[.val (.int p1), .val (.ref b), .val (.int i), .val (.int (1 : Int32))] [(.int (if ai = w3 ∨ ai = w4 ∨ ai = w5 then 1 else 0))]
      refine Go.iloadN at_107 rfl ?_
      -- at pc 108: pc 108: if_icmp .if_icmp .ne 7 stack [(.int (1 : Int32)), (.int (if ai = w3 ∨ ai = w4 ∨ ai = w5 then 1 else 0))]
      -- (if ai = w3 ∨ ai = w4 ∨ ai = w5 then 1 else 0) = (1 : Int32)
      refine Go.icF at_108 (teq (if_pos (hiff.mpr ⟨h87, h92⟩))).2 ?_
      refine Go.iconst 1 at_111 rfl ?_
      refine Go.goto 116 at_112 (by decide) (by decide) ?_
      -- at pc 116: pc 116: ireturn .ireturn stack [(.int (1 : Int32))]
      exact Go.nreturn .boolean at_116 rfl (by simp) (by decide) (by decide) rfl
set_option maxRecDepth 65536 in
set_option maxHeartbeats 40000000 in
theorem comes_1 {Post : Tables → Env → Array Value → State → Outcome → State → Prop} (hpost : ∀ tb e args s v u, (limb_1_1.after args s (.returned v) u = true ∧ limb_1_2.after args s (.returned v) u = true ∧ True) → FrameEnd s (.returned v) u (Jvm.fieldLocs frame_1_writes args s ++ Jvm.arrayLocs frame_1_arrays args s ++ Jvm.staticLocs frame_1_statics s) 16 128 → Post tb e args s (.returned v) u) :
    ArmFor flags0 classFile x code maxLocals ret World_1 tables_1 room_1 Calls_1 rest_1 Pre_1 Post := by
  intro l hfl _ _ p e ha hc hk s m args below hf hA hF happ hP
  obtain ⟨hcalls, hrest, hpre⟩ := hP
  obtain ⟨-, -, -, hnamed, -, -, -, hat⟩ := (Spec.applies_iff hf).mp happ
  obtain ⟨hg, hn⟩ := and_e (Cond.before_iff.mp (show (Jvm.Cond.and given_1 narrow_1).before args s = true from hpre))
  obtain ⟨gg1, gg2⟩ := and_e hg
  obtain ⟨w0, rfl⟩ : ∃ w0 : Value, args = #[w0] := by
    have hs : args.size = 1 := by simpa [Cond.value, given_1] using gg1
    obtain ⟨L⟩ := args
    match L, hs with
    | [w0], _ => exact ⟨w0, rfl⟩
  have hw := fun d (hd : d ∈ tables_1) => atoms_spec (ws := Jvm.Cond.code x code maxLocals ret :: tables_1) hat d (List.mem_cons_of_mem _ hd)
  have hfit : Fit s := fun {y c} hc i hi => by
    obtain ⟨ha, rfl⟩ := Array.getElem?_eq_some_iff.mp hc
    have q := List.all_eq_true.mp ((Array.all_eq_true_iff_forall_mem.mp hF) _ (Array.getElem_mem ha)) i (List.mem_range.mpr hi)
    simpa [Array.getElem?_eq_getElem hi] using q
  obtain ⟨i0, ei0⟩ := is_v gg2
  obtain rfl : w0 = (.int i0) := Option.some.inj ei0
  obtain ⟨x0, r0⟩ := and_e hn
  obtain ⟨x1, r1⟩ := and_e r0
  obtain ⟨x2, r2⟩ := and_e r1
  obtain ⟨x3, r3⟩ := and_e r2
  obtain ⟨x4, r4⟩ := and_e r3
  obtain ⟨x5, r5⟩ := and_e r4
  obtain ⟨x6, r6⟩ := and_e r5
  obtain ⟨x7, r7⟩ := and_e r6
  obtain ⟨x8, r8⟩ := and_e r7
  obtain ⟨x9, r9⟩ := and_e r8
  obtain ⟨x10, r10⟩ := and_e r9
  obtain ⟨o0, q0⟩ := and_e r10
  obtain ⟨o3, q1⟩ := and_e q0
  obtain ⟨o4, q2⟩ := and_e q1
  obtain ⟨o5, q3⟩ := and_e q2
  obtain ⟨o7, q4⟩ := and_e q3
  obtain ⟨o8, q5⟩ := and_e q4
  obtain ⟨o2, q6⟩ := and_e q5
  obtain ⟨o10, q7⟩ := and_e q6
  obtain ⟨o1, q8⟩ := and_e q7
  obtain ⟨o9, q9⟩ := and_e q8
  have o6 := q9
  obtain ⟨v0, ev0⟩ := exa_v x0
  have E0 := Exa.start ev0 x0
  have S0 := Sta.start ev0 (Or.inr ⟨hw _ (List.mem_of_getElem? (i := 3) rfl), hw _ (List.mem_of_getElem? (i := 4) rfl)⟩)
  have F0 := fld_says ev0 o0
  obtain ⟨v1, ev1⟩ := exa_v x1
  have E1 := Exa.start ev1 x1
  have S1 := Sta.start ev1 (Or.inr ⟨hw _ (List.mem_of_getElem? (i := 3) rfl), hw _ (List.mem_of_getElem? (i := 7) rfl)⟩)
  have F1 := fld_says ev1 o1
  obtain ⟨v2, ev2⟩ := exa_v x2
  have E2 := Exa.start ev2 x2
  have S2 := Sta.start ev2 (Or.inr ⟨hw _ (List.mem_of_getElem? (i := 3) rfl), hw _ (List.mem_of_getElem? (i := 9) rfl)⟩)
  have F2 := fld_says ev2 o2
  obtain ⟨v3, ev3⟩ := exa_v x3
  have E3 := Exa.start ev3 x3
  have S3 := Sta.start ev3 (Or.inr ⟨hw _ (List.mem_of_getElem? (i := 3) rfl), hw _ (List.mem_of_getElem? (i := 11) rfl)⟩)
  have F3 := fld_says ev3 o3
  obtain ⟨v4, ev4⟩ := exa_v x4
  have E4 := Exa.start ev4 x4
  have S4 := Sta.start ev4 (Or.inr ⟨hw _ (List.mem_of_getElem? (i := 3) rfl), hw _ (List.mem_of_getElem? (i := 13) rfl)⟩)
  have F4 := fld_says ev4 o4
  obtain ⟨v5, ev5⟩ := exa_v x5
  have E5 := Exa.start ev5 x5
  have S5 := Sta.start ev5 (Or.inr ⟨hw _ (List.mem_of_getElem? (i := 3) rfl), hw _ (List.mem_of_getElem? (i := 15) rfl)⟩)
  have F5 := fld_says ev5 o5
  obtain ⟨v6, ev6⟩ := exa_v x6
  have E6 := Exa.start ev6 x6
  have S6 := Sta.start ev6 (Or.inr ⟨hw _ (List.mem_of_getElem? (i := 3) rfl), hw _ (List.mem_of_getElem? (i := 17) rfl)⟩)
  have F6 := fld_says ev6 o6
  obtain ⟨v7, ev7⟩ := exa_v x7
  have E7 := Exa.start ev7 x7
  have S7 := Sta.start ev7 (Or.inr ⟨hw _ (List.mem_of_getElem? (i := 3) rfl), hw _ (List.mem_of_getElem? (i := 19) rfl)⟩)
  have F7 := fld_says ev7 o7
  obtain ⟨v8, ev8⟩ := exa_v x8
  have E8 := Exa.start ev8 x8
  have S8 := Sta.start ev8 (Or.inr ⟨hw _ (List.mem_of_getElem? (i := 3) rfl), hw _ (List.mem_of_getElem? (i := 21) rfl)⟩)
  have F8 := fld_says ev8 o8
  obtain ⟨v9, ev9⟩ := exa_v x9
  have E9 := Exa.start ev9 x9
  have S9 := Sta.start ev9 (Or.inr ⟨hw _ (List.mem_of_getElem? (i := 3) rfl), hw _ (List.mem_of_getElem? (i := 23) rfl)⟩)
  have F9 := fld_says ev9 o9
  obtain ⟨v10, ev10⟩ := exa_v x10
  have E10 := Exa.start ev10 x10
  have S10 := Sta.start ev10 (Or.inr ⟨hw _ (List.mem_of_getElem? (i := 3) rfl), hw _ (List.mem_of_getElem? (i := 25) rfl)⟩)
  have F10 := fld_says ev10 o10
  obtain ⟨n, o, h1, h2, h3, _, L, rfl, ⟨N, rfl⟩, hq⟩ := (ct_law l s _ hw i0 v0 v1 v2 v3 v4 v5 v6 v7 v8 v9 v10 s.heap.size (Old.start s) S0 E0 F0 S1 E1 F1 S2 E2 F2 S3 E3 F3 S4 E4 F4 S5 E5 F5 S6 E6 F6 S7 E7 F7 S8 E8 F8 S9 E9 F9 S10 E10 F10) p e ha hc hk s m _ below hf ((Spec.applies_iff_loose hf).mp happ).1 ⟨rfl, State.Warmed39.refl s, rfl⟩ trivial
  exact ⟨n, _, h1, h2, h3, hpost _ _ _ _ _ _ ⟨Cond.after_iff.mpr rfl, Cond.after_iff.mpr (eq_i res_at (Term.int_eval (1)) rfl), trivial⟩ ⟨hq.1, hq.2.1, (hq.2.2.sift fun y hy => Or.inr (N y hy)).mono (by decide) (by decide)⟩⟩
theorem main_1_1 : Claimed_1_1 := comes_1 fun _ _ _ _ _ _ h hF => ⟨h.1, hF⟩
theorem main_1_2 : Claimed_1_2 := comes_1 fun _ _ _ _ _ _ h hF => ⟨h.2.1, hF⟩
end Jvm.Pilot.@@N@@
namespace Jvm.Pilot.@@N@@
open Jvm Jvm.ClassFile Sem Op Lib Jvm.Free Jvm.Stand Jvm.Pilot.@@N@@.Jvm.D
/-! MADE BY PROGRAM (witnessworld.py) out of the Statement's table words and the real class files: 13 classes; the members and pool entries that the words name. The judged class is class 1, her method 1. -/
namespace start1
open Jvm.ClassFile
def u (s : String) : CpInfo := .utf8 (stringToUtf16 s)
/-- a pool by its gaps: so many unusable entries, then the entry; so many at the end -/
def gap : Nat → List CpInfo → List CpInfo
  | 0, r => r
  | n + 1, r => .unusable :: gap n r
def poolList (es : List (Nat × CpInfo)) (last : Nat) : List CpInfo := es.foldr (fun e r => gap e.1 (e.2 :: r)) (gap last [])
def pool (es : List (Nat × CpInfo)) (last : Nat) : Array CpInfo := ⟨poolList es last⟩
def fileOf (pool : Array CpInfo) (this : Nat) (attrs : Array Attribute := #[]) (ms : Array MethodInfo := #[]) (fl : Nat := 33) (sup : Nat := 0) (ifs : Array Nat := #[]) (fds : Array FieldInfo := #[]) : ClassFile where
  minorVersion := 0
  majorVersion := 65
  constantPool := pool
  accessFlags := fl
  thisClass := this
  superClass := sup
  interfaces := ifs
  fields := fds
  methods := ms
  attributes := attrs
def plain (name : String) (sup : Option ClassId) : Class where
  name := name
  kind := .ordinary
  loader := none
  accessFlags := 33
  super := sup
  interfaces := #[]
  cf := none
  fields := #[]
  methods := #[]
  instanceTypes := #[]
  staticTypes := #[]
  resolved := #[]
  callSites := []
  init := .initialized
  statics := none
  mirror := none

def pool0 : Array CpInfo := pool [(5, u "<init>"), (0, u "()V"), (1, .class_ 10), (1, u "java/lang/Object")] 113

def k0m0 : Method := { name := "<init>", desc := "()V", sig := { parameters := [], returnType := none }, accessFlags := 1, code := none }
/-- java/lang/Object -/
def k0 : Class := { plain "java/lang/Object" none with
  accessFlags := 33
  interfaces := #[]
  cf := some (fileOf pool0 8 #[] #[{ accessFlags := 1, nameIndex := 5, descriptorIndex := 6, attributes := #[] }] 33 0 #[] #[])
  fields := #[]
  methods := #[k0m0]
  instanceTypes := #[]
  staticTypes := #[]
  resolved := Array.replicate 124 none
  statics := none }

def pool1 : Array CpInfo := pool [(2, .class_ 4), (1, u "java/lang/Object"), (0, u "<init>"), (0, u "()V"), (0, .class_ 8), (0, u "com/example/meitheal/meitheal/TaskStatus"), (0, .fieldref 7 10), (0, .nameAndType 11 12), (0, u "CREATED"), (0, u "Lcom/example/meitheal/meitheal/TaskStatus;"), (0, .fieldref 7 14), (0, .nameAndType 15 12), (0, u "PENDING"), (0, .fieldref 7 17), (0, .nameAndType 18 12), (0, u "READY"), (0, .fieldref 7 20), (0, .nameAndType 21 12), (0, u "CLAIMED"), (0, .fieldref 7 23), (0, .nameAndType 24 12), (0, u "RUNNING"), (0, .fieldref 7 26), (0, .nameAndType 27 12), (0, u "VALIDATING"), (0, .fieldref 7 29), (0, .nameAndType 30 12), (0, u "COMPLETED"), (0, .fieldref 7 32), (0, .nameAndType 33 12), (0, u "FAILED"), (0, .fieldref 7 35), (0, .nameAndType 36 12), (0, u "RETRYING"), (0, .fieldref 7 38), (0, .nameAndType 39 12), (0, u "DEAD_LETTERED"), (0, .fieldref 7 41), (0, .nameAndType 42 12), (0, u "CANCELLED"), (0, .integer 2147483647), (0, .methodref 7 45), (0, .nameAndType 46 47), (0, u "isHeld"), (0, u "()Z"), (0, .class_ 49), (0, u "com/example/meitheal/meitheal/TaskStatusIsHeldPinLaw"), (2, u "law"), (0, u "(I)Z")] 5

def k1m0 : Method := { name := "<init>", desc := "()V", sig := { parameters := [], returnType := none }, accessFlags := 1, code := none }
def k1c1 : Code := { maxStack := 4, maxLocals := 4, code := code, exceptionTable := #[], attributes := #[] }
def k1m1 : Method := { name := "law", desc := "(I)Z", sig := { parameters := [.int], returnType := some .boolean }, accessFlags := 9, code := some k1c1 }
/-- com/example/meitheal/meitheal/TaskStatusIsHeldPinLaw -/
def k1 : Class := { plain "com/example/meitheal/meitheal/TaskStatusIsHeldPinLaw" (some 0) with
  accessFlags := 49
  interfaces := #[]
  cf := some (fileOf pool1 48 #[] #[{ accessFlags := 1, nameIndex := 5, descriptorIndex := 6, attributes := #[] }, { accessFlags := 9, nameIndex := 52, descriptorIndex := 53, attributes := #[] }] 49 2 #[] #[])
  fields := #[]
  methods := #[k1m0, k1m1]
  instanceTypes := #[]
  staticTypes := #[]
  resolved := Array.replicate 59 none
  statics := none }

def pool2 : Array CpInfo := pool [(1, .class_ 2), (0, u "java/lang/constant/Constable"), (0, .class_ 4), (0, u "java/lang/Object")] 6

/-- java/lang/constant/Constable -/
def k2 : Class := { plain "java/lang/constant/Constable" (some 0) with
  accessFlags := 1537
  interfaces := #[]
  cf := some (fileOf pool2 1 #[] #[] 1537 3 #[] #[])
  fields := #[]
  methods := #[]
  instanceTypes := #[]
  staticTypes := #[]
  resolved := Array.replicate 11 none
  statics := none }

def pool3 : Array CpInfo := pool [(1, .class_ 2), (0, u "java/lang/Comparable"), (0, .class_ 4), (0, u "java/lang/Object")] 7

/-- java/lang/Comparable -/
def k3 : Class := { plain "java/lang/Comparable" (some 0) with
  accessFlags := 1537
  interfaces := #[]
  cf := some (fileOf pool3 1 #[] #[] 1537 3 #[] #[])
  fields := #[]
  methods := #[]
  instanceTypes := #[]
  staticTypes := #[]
  resolved := Array.replicate 12 none
  statics := none }

def pool4 : Array CpInfo := pool [(1, .class_ 2), (0, u "java/io/Serializable"), (0, .class_ 4), (0, u "java/lang/Object")] 2

/-- java/io/Serializable -/
def k4 : Class := { plain "java/io/Serializable" (some 0) with
  accessFlags := 1537
  interfaces := #[]
  cf := some (fileOf pool4 1 #[] #[] 1537 3 #[] #[])
  fields := #[]
  methods := #[]
  instanceTypes := #[]
  staticTypes := #[]
  resolved := Array.replicate 7 none
  statics := none }

def pool5 : Array CpInfo := pool [(2, .class_ 4), (1, u "java/lang/Enum"), (0, u "name"), (0, u "Ljava/lang/String;"), (2, u "ordinal"), (0, u "I"), (1, .class_ 14), (1, u "java/lang/Object"), (4, u "hash"), (86, .class_ 108), (1, u "java/lang/Enum$EnumDesc"), (2, .class_ 112), (0, u "java/lang/constant/Constable"), (0, .class_ 114), (0, u "java/lang/Comparable"), (0, .class_ 116), (0, u "java/io/Serializable")] 87

/-- java/lang/Enum -/
def k5 : Class := { plain "java/lang/Enum" (some 0) with
  accessFlags := 1057
  interfaces := #[2, 3, 4]
  cf := some (fileOf pool5 2 #[.nestMembers #[106]] #[] 1057 12 #[111, 113, 115] #[{ accessFlags := 18, nameIndex := 5, descriptorIndex := 6, attributes := #[] }, { accessFlags := 18, nameIndex := 9, descriptorIndex := 10, attributes := #[] }, { accessFlags := 2, nameIndex := 19, descriptorIndex := 10, attributes := #[] }])
  fields := #[{ name := "name", type := (.object "java/lang/String"), accessFlags := 18, slot := 0, constantValue := 0 }, { name := "ordinal", type := .int, accessFlags := 18, slot := 1, constantValue := 0 }, { name := "hash", type := .int, accessFlags := 2, slot := 2, constantValue := 0 }]
  methods := #[]
  instanceTypes := #[(.object "java/lang/String"), .int, .int]
  staticTypes := #[]
  resolved := Array.replicate 204 none
  statics := none }

def pool6 : Array CpInfo := pool [(1, .class_ 2), (0, u "com/example/meitheal/meitheal/TaskStatus"), (2, u "CREATED"), (0, u "Lcom/example/meitheal/meitheal/TaskStatus;"), (2, u "PENDING"), (2, u "READY"), (0, .fieldref 1 14), (0, .nameAndType 15 6), (0, u "CLAIMED"), (0, .fieldref 1 17), (0, .nameAndType 18 6), (0, u "RUNNING"), (0, .fieldref 1 20), (0, .nameAndType 21 6), (0, u "VALIDATING"), (2, u "COMPLETED"), (2, u "FAILED"), (2, u "RETRYING"), (2, u "DEAD_LETTERED"), (2, u "CANCELLED"), (2, u "$VALUES"), (0, u "[Lcom/example/meitheal/meitheal/TaskStatus;"), (6, .class_ 49), (1, u "java/lang/Enum"), (8, u "NEXT"), (0, u "Ljava/util/Map;"), (15, u "()Z"), (76, u "isHeld")] 6

def k6c0 : Code := { maxStack := 2, maxLocals := 1, code := prog_6_method_6_code, exceptionTable := #[], attributes := #[] }
def k6m0 : Method := { name := "isHeld", desc := "()Z", sig := { parameters := [], returnType := some .boolean }, accessFlags := 1, code := some k6c0 }
/-- com/example/meitheal/meitheal/TaskStatus -/
def k6 : Class := { plain "com/example/meitheal/meitheal/TaskStatus" (some 5) with
  accessFlags := 16433
  interfaces := #[]
  cf := some (fileOf pool6 1 #[] #[{ accessFlags := 1, nameIndex := 152, descriptorIndex := 75, attributes := #[] }] 16433 47 #[] #[{ accessFlags := 16409, nameIndex := 5, descriptorIndex := 6, attributes := #[] }, { accessFlags := 16409, nameIndex := 9, descriptorIndex := 6, attributes := #[] }, { accessFlags := 16409, nameIndex := 12, descriptorIndex := 6, attributes := #[] }, { accessFlags := 16409, nameIndex := 15, descriptorIndex := 6, attributes := #[] }, { accessFlags := 16409, nameIndex := 18, descriptorIndex := 6, attributes := #[] }, { accessFlags := 16409, nameIndex := 21, descriptorIndex := 6, attributes := #[] }, { accessFlags := 16409, nameIndex := 24, descriptorIndex := 6, attributes := #[] }, { accessFlags := 16409, nameIndex := 27, descriptorIndex := 6, attributes := #[] }, { accessFlags := 16409, nameIndex := 30, descriptorIndex := 6, attributes := #[] }, { accessFlags := 16409, nameIndex := 33, descriptorIndex := 6, attributes := #[] }, { accessFlags := 16409, nameIndex := 36, descriptorIndex := 6, attributes := #[] }, { accessFlags := 26, nameIndex := 58, descriptorIndex := 59, attributes := #[] }, { accessFlags := 4122, nameIndex := 39, descriptorIndex := 40, attributes := #[] }])
  fields := #[{ name := "CREATED", type := (.object "com/example/meitheal/meitheal/TaskStatus"), accessFlags := 16409, slot := 0, constantValue := 0 }, { name := "PENDING", type := (.object "com/example/meitheal/meitheal/TaskStatus"), accessFlags := 16409, slot := 1, constantValue := 0 }, { name := "READY", type := (.object "com/example/meitheal/meitheal/TaskStatus"), accessFlags := 16409, slot := 2, constantValue := 0 }, { name := "CLAIMED", type := (.object "com/example/meitheal/meitheal/TaskStatus"), accessFlags := 16409, slot := 3, constantValue := 0 }, { name := "RUNNING", type := (.object "com/example/meitheal/meitheal/TaskStatus"), accessFlags := 16409, slot := 4, constantValue := 0 }, { name := "VALIDATING", type := (.object "com/example/meitheal/meitheal/TaskStatus"), accessFlags := 16409, slot := 5, constantValue := 0 }, { name := "COMPLETED", type := (.object "com/example/meitheal/meitheal/TaskStatus"), accessFlags := 16409, slot := 6, constantValue := 0 }, { name := "FAILED", type := (.object "com/example/meitheal/meitheal/TaskStatus"), accessFlags := 16409, slot := 7, constantValue := 0 }, { name := "RETRYING", type := (.object "com/example/meitheal/meitheal/TaskStatus"), accessFlags := 16409, slot := 8, constantValue := 0 }, { name := "DEAD_LETTERED", type := (.object "com/example/meitheal/meitheal/TaskStatus"), accessFlags := 16409, slot := 9, constantValue := 0 }, { name := "CANCELLED", type := (.object "com/example/meitheal/meitheal/TaskStatus"), accessFlags := 16409, slot := 10, constantValue := 0 }, { name := "NEXT", type := (.object "java/util/Map"), accessFlags := 26, slot := 11, constantValue := 0 }, { name := "$VALUES", type := (.array (.object "com/example/meitheal/meitheal/TaskStatus")), accessFlags := 4122, slot := 12, constantValue := 0 }]
  methods := #[k6m0]
  instanceTypes := #[(.object "java/lang/String"), .int, .int]
  staticTypes := #[(.object "com/example/meitheal/meitheal/TaskStatus"), (.object "com/example/meitheal/meitheal/TaskStatus"), (.object "com/example/meitheal/meitheal/TaskStatus"), (.object "com/example/meitheal/meitheal/TaskStatus"), (.object "com/example/meitheal/meitheal/TaskStatus"), (.object "com/example/meitheal/meitheal/TaskStatus"), (.object "com/example/meitheal/meitheal/TaskStatus"), (.object "com/example/meitheal/meitheal/TaskStatus"), (.object "com/example/meitheal/meitheal/TaskStatus"), (.object "com/example/meitheal/meitheal/TaskStatus"), (.object "com/example/meitheal/meitheal/TaskStatus"), (.object "java/util/Map"), (.array (.object "com/example/meitheal/meitheal/TaskStatus"))]
  resolved := Array.replicate 159 none
  statics := some 0 }

def pool7 : Array CpInfo := pool [(1, u "java/lang/Cloneable"), (0, .class_ 1), (0, u "java/lang/Object"), (0, .class_ 3)] 3

/-- java/lang/Cloneable -/
def k7 : Class := { plain "java/lang/Cloneable" (some 0) with
  accessFlags := 1537
  interfaces := #[]
  cf := some (fileOf pool7 2 #[] #[] 1537 4 #[] #[])
  fields := #[]
  methods := #[]
  instanceTypes := #[]
  staticTypes := #[]
  resolved := Array.replicate 8 none
  statics := none }

/-- the primitive byte -/
def k8 : Class := { plain "byte" none with kind := .primitive 'B', accessFlags := 0x411 }
/-- [B -/
def k9 : Class := { plain "[B" (some 0) with kind := .array 8 .byte, interfaces := #[7, 4], accessFlags := 1041 }

/-- the primitive int -/
def k10 : Class := { plain "int" none with kind := .primitive 'I', accessFlags := 0x411 }
/-- [I -/
def k11 : Class := { plain "[I" (some 0) with kind := .array 10 .int, interfaces := #[7, 4], accessFlags := 1041 }

/-- [Lcom/example/meitheal/meitheal/TaskStatus; -/
def k12 : Class := { plain "[Lcom/example/meitheal/meitheal/TaskStatus;" (some 0) with kind := .array 6 (.object "com/example/meitheal/meitheal/TaskStatus"), interfaces := #[7, 4], accessFlags := 1041 }

def heap : Heap := #[{ cls := 6, slots := #[.ref 1, .ref 2, .ref 3, .ref 4, .ref 5, .ref 6, .ref 7, .ref 8, .ref 9, .ref 10, .ref 11, .null, .null], vm := .statics 6 },
  { cls := 6, slots := #[.null, .int 0, .int 0], vm := .none },
  { cls := 6, slots := #[.null, .int 1, .int 0], vm := .none },
  { cls := 6, slots := #[.null, .int 2, .int 0], vm := .none },
  { cls := 6, slots := #[.null, .int 3, .int 0], vm := .none },
  { cls := 6, slots := #[.null, .int 4, .int 0], vm := .none },
  { cls := 6, slots := #[.null, .int 5, .int 0], vm := .none },
  { cls := 6, slots := #[.null, .int 6, .int 0], vm := .none },
  { cls := 6, slots := #[.null, .int 7, .int 0], vm := .none },
  { cls := 6, slots := #[.null, .int 8, .int 0], vm := .none },
  { cls := 6, slots := #[.null, .int 9, .int 0], vm := .none },
  { cls := 6, slots := #[.null, .int 10, .int 0], vm := .none }]
def classes : Array Class := #[k0, k1, k2, k3, k4, k5, k6, k7, k8, k9, k10, k11, k12]
def interned : List (Array UInt16 × Addr) := []
def slotsUsed : Nat := 46
def theMethod : MethodId := ⟨1, 1⟩
def args0 : Array Value := #[.int 5]
def aboutOver (below : List Frame) : State where
  vm := { classes := classes, interned := interned.toArray }
  heap := heap
  slotsUsed := slotsUsed
  threads := #[{ frames := .invoking theMethod args0 :: below }]
def below0 : List Frame := [.native { method := ⟨0, 0⟩, args := #[] }]
def about1 : State := aboutOver below0
def p0 : Program := .bare "" "" ""
def e0 : Env := launch0.env 0 0 0
theorem w_frames : about1.frames = Frame.invoking theMethod args0 :: below0 := rfl
set_option maxRecDepth 65536 in
theorem w_args : argsFit about1.vm theMethod args0 = true := by decide +kernel
set_option maxRecDepth 65536 in
theorem w_heap : heapFits about1 = true := by decide +kernel
set_option maxRecDepth 65536 in
theorem w_runnable : about1.curStatus? = some .runnable := by decide +kernel
set_option maxRecDepth 65536 in
theorem w_alone : about1.alone = true := by decide +kernel
set_option maxRecDepth 65536 in
theorem w_named : about1.methodNamed? x = some theMethod := by decide +kernel
set_option maxRecDepth 65536 in
theorem w_hears : about1.hears theMethod below0 = true := by decide +kernel
set_option maxRecDepth 65536 in
theorem w_ripe : about1.ripe theMethod args0 below0 = true := by decide +kernel
theorem w_running : about1.status = .running := rfl
set_option maxRecDepth 65536 in
theorem w_room : about1.hasRoom e0.platform room_1 = true :=
  launch0.hasRoom_least _ room_1 (by decide +kernel) (by decide +kernel) (by decide +kernel) (by decide +kernel) (by decide +kernel) (by decide +kernel)
theorem allAtoms_all (ts : List Jvm.Cond) (a : Array Jvm.Value) (st : Jvm.State) : (allAtoms ts).before a st = ts.all (fun c => c.before a st) := by
  induction ts with
  | nil => rfl
  | cons c t ih =>
    show (Jvm.Cond.and c (allAtoms t)).before a st = _
    rw [Jvm.Cond.before_and, ih, List.all_cons]
def words1 : List Jvm.Cond := Jvm.Cond.code x code maxLocals ret :: tables_1
/-- a 'code' word, met by the world's own term for the bytes: nothing is compared byte by byte -/
theorem code_word {y : MethodName} {bytes : ByteArray} {mx : Nat} {rt : Option FieldType} {a : Array Value} {s : State} {m : MethodId} {meth : Method} {c : Code} (h1 : s.methodNamed? y = some m) (h2 : s.vm.method? m = some meth) (h3 : meth.code = some c) (h4 : c.code = bytes)
    (h5 : (c.maxLocals == mx && c.exceptionTable.isEmpty && decide (c.maxStack ≤ mostOperands) && decide (meth.sig.returnType = rt) && !meth.locks && decide (parseMethodDescriptor y.desc = some meth.sig)) = true) : (Jvm.Cond.code y bytes mx rt).before a s = true := by
  simp only [Bool.and_eq_true, beq_iff_eq, Bool.not_eq_true', decide_eq_true_eq] at h5
  obtain ⟨⟨⟨⟨⟨g1, g2⟩, g3⟩, g4⟩, g5⟩, g6⟩ := h5
  simp [Cond.before, Cond.holds, Cond.value, h1, h2, h3, h4, g1, g2, g3, g4, g5, g6]
def isCode : Jvm.Cond → Bool
  | .code _ _ _ _ => true
  | _ => false
theorem all_split {L : List Jvm.Cond} {P : Jvm.Cond → Bool} (h1 : L.all (fun c => isCode c || P c) = true) (h2 : ∀ c ∈ L.filter isCode, P c = true) : L.all P = true := by
  refine List.all_eq_true.mpr fun c hc => ?_
  have h := List.all_eq_true.mp h1 c hc
  rcases Bool.eq_false_or_eq_true (isCode c) with hi | hi
  · exact h2 c (List.mem_filter.mpr ⟨hc, hi⟩)
  · simpa [hi] using h
set_option maxRecDepth 65536 in
theorem w_c0 : (Jvm.Cond.code x code maxLocals ret).before args0 about1 = true := code_word (m := ⟨1, 1⟩) (meth := k1m1) (c := k1c1) (by decide +kernel) rfl rfl rfl (by decide +kernel)
set_option maxRecDepth 65536 in
theorem w_c1 : (Jvm.Cond.code ({ cls := "com/example/meitheal/meitheal/TaskStatus", name := "isHeld", desc := "()Z" } : Jvm.MethodName) prog_6_method_6_code (1 : Nat) (Option.some Jvm.ClassFile.FieldType.boolean)).before args0 about1 = true := code_word (m := ⟨6, 0⟩) (meth := k6m0) (c := k6c0) (by decide +kernel) rfl rfl rfl (by decide +kernel)
def codes1 : List Jvm.Cond := [Jvm.Cond.code x code maxLocals ret, Jvm.Cond.code ({ cls := "com/example/meitheal/meitheal/TaskStatus", name := "isHeld", desc := "()Z" } : Jvm.MethodName) prog_6_method_6_code (1 : Nat) (Option.some Jvm.ClassFile.FieldType.boolean)]
set_option maxRecDepth 65536 in
theorem codes_eq : words1.filter isCode = codes1 := rfl
theorem w_codes : ∀ c ∈ words1.filter isCode, c.before args0 about1 = true := by
  rw [codes_eq]
  intro c hc
  simp only [codes1, List.mem_cons, List.not_mem_nil, or_false] at hc
  rcases hc with rfl | rfl
  · exact w_c0
  · exact w_c1
set_option maxRecDepth 65536 in
theorem w_t1 : (words1.take 24).all (fun c => isCode c || c.before args0 about1) = true := by decide +kernel
set_option maxRecDepth 65536 in
theorem w_t2 : (words1.drop 24).all (fun c => isCode c || c.before args0 about1) = true := by decide +kernel
theorem w_tables : (allAtoms (Jvm.Cond.code x code maxLocals ret :: tables_1)).before args0 about1 = true := by
  rw [allAtoms_all]
  show words1.all (fun c => c.before args0 about1) = true
  refine all_split ?_ w_codes
  rw [← List.take_append_drop 24 words1, List.all_append, w_t1, w_t2]
  rfl
set_option maxRecDepth 65536 in
theorem w_case : (Jvm.Cond.and given_1 narrow_1).before args0 about1 = true := by decide +kernel
theorem w_applies : (headSpec (Jvm.Cond.code x code maxLocals ret :: tables_1) room_1).applies x e0.platform about1 = true :=
  (Spec.applies_iff w_frames).mpr ⟨w_running, w_runnable, w_alone, w_named, w_hears, w_ripe, w_room, w_tables⟩
theorem atStart : AtStart classFile x code maxLocals ret World_1 tables_1 room_1 Calls_1 rest_1 Pre_1 launch0 p0 e0 about1 theMethod args0 below0 :=
  ⟨lists_1, trivial, launch0.admits_env _ _ _, launch0.least_env, fairChoices_fair.cas, fairChoices_fair.clock, w_frames, w_args, w_heap, w_applies, trivial, trivial, w_case⟩
end start1
theorem witness_1 : WitnessClaimed_1 := ⟨start1.p0, start1.e0, start1.about1, start1.theMethod, start1.args0, start1.below0, start1.atStart⟩
end Jvm.Pilot.@@N@@
