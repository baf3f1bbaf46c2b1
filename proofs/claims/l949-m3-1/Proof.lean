import JvmDerived
import JvmDerived.Pilot.@@N@@Statement
import JvmDerived.Pilot.@@N@@Code
set_option linter.unusedVariables false
set_option linter.unusedSimpArgs false
namespace Jvm.Own
open Jvm Jvm.ClassFile Sem Op Lib Jvm.Free Jvm.Stand Jvm.LawKit Jvm.RoadKit Bundle
/-- from pc, with these locals and this stack, over the heap h, the body runs to its return, and Q holds of what it returns and of the heap it leaves -/
def Go (l : Launch) (Z : State) (n0 : Nat) (R : Room) (own nm : String) (code : ByteArray) (mL : Nat) (ret : Option FieldType) (I : State → Heap → Prop) (F : State → Option Value → State → List Loc → Prop)
    (h : Heap) (cells slots pc : Nat) (Ls : Array Slot) (st : List Value) : Prop :=
  ∀ (p : Program) (e : Env) (s : State) (m : MethodId) (args : Array Value) (below : List Frame) (meth : Method) (c : Code) (T : State) (locs : List Loc),
    p.tables.exec = Jvm.exec → Z.Warmed39 s.vm → s.vm.findClass own = some m.cls → meth.name = nm → c.code = code → c.maxLocals = mL → meth.sig.returnType = ret → meth.locks = false →
    Stand p l e R s m args below meth c T locs cells slots → Fr n0 locs → T.heap = h → I s h →
    ∃ s₂ v L, Steps p.tables e below (T.setTop (mkF m pc Ls st)) s₂ ∧ s₂.status = .running ∧ Ended s₂ below (.returned v) ∧ F s v s₂ L
/-- nothing is asked beside -/
abbrev IN : State → Heap → Prop := fun _ _ => True
/-- the end of a walk that interns nothing -/
def FN (n0 : Nat) (R : Room) (Q : Option Value → Heap → Prop) : State → Option Value → State → List Loc → Prop := fun s v s₂ L => Fr n0 L ∧ Q v s₂.heap ∧ FrameEnd s (.returned v) s₂ L R.cells R.slots
/-- a body's contract: called with as' over the heap h0 it returns, and Q holds -/
def Ct (l : Launch) (Z : State) (n0 : Nat) (own nm ds : String) (ws : List Cond) (code : ByteArray) (mL : Nat) (ret : Option FieldType) (rm : Room) (as' : Array Value) (h0 : Heap) (Q : Option Value → Heap → Prop) : Prop :=
  MetFree l (⟨own, nm, ds⟩ : MethodName) (head1 (Cond.code (⟨own, nm, ds⟩ : MethodName) code mL ret :: ws) rm) (fun a U => a = as' ∧ Z.Warmed39 U.vm ∧ U.heap = h0) (fun _ _ _ _ _ => True)
    (fun _ U o U' => ∃ v L, o = .returned v ∧ (Fr n0 L ∧ Q v U'.heap) ∧ FrameEnd U o U' L rm.cells rm.slots)
theorem cat_ref {v : Value} (h : v.isRef = true) : v.category = 1 := by cases v <;> simp_all [Value.isRef, Value.category]
theorem fits_ref' {v : Value} {C : String} (h : v.isRef = true) : fits (.object C) v = true := by cases v <;> simp_all [Value.isRef, fits]
theorem st_at {Ls Ls' : Array Slot} {k : Nat} {v : Value} {o : Slot} (hold : Ls[k]? = some o) (ho : One o) (hv : v.category = 1) (e : Ls.setIfInBounds k (.val v) = Ls') : storeLocals Ls k v = some Ls' := by rw [XS.store1 hold ho hv, e]
/-- null, or an object of just that class -/
def Nul (Z : State) (h : Heap) (v : Value) (C : String) : Prop := v = .null ∨ ∃ a, v = .ref a ∧ Exa Z h a C
theorem Nul.keep {Z : State} {h h' : Heap} {v : Value} {C : String} {ws : List Addr} (F : Nul Z h v C) (K : Keep h h' ws) : Nul Z h' v C := F.imp id fun ⟨a, e, E⟩ => ⟨a, e, E.keep K⟩
theorem Nul.isRef {Z : State} {h : Heap} {v : Value} {C : String} (F : Nul Z h v C) : v.isRef = true := by rcases F with rfl | ⟨a, rfl, -⟩ <;> rfl
theorem Nul.ins {Z : State} {h : Heap} {v : Value} {C : String} (F : Nul Z h v C) : v = .null ∨ ∃ a, v = .ref a ∧ Ins Z h a C true := F.imp id fun ⟨a, e, E⟩ => ⟨a, e, Ins.self E⟩
/-- a private method of a class that can be made selects itself -/
theorem sel_priv {Z : State} {a0 : Array Value} {y : MethodName} {n : Nat} (wi : (Cond.instantiable y.cls n).before a0 Z = true) (wm : (Cond.instanceMethod y).before a0 Z = true) (wp : (Cond.privateMethod y).before a0 Z = true) (hy : y.cls ≠ "java/lang/invoke/MethodHandle" ∧ y.cls ≠ "java/lang/invoke/VarHandle") : (Cond.selects y.cls y y).before a0 Z = true := by
  obtain ⟨mk, meth, hnamed, hmeth, -, -⟩ := Cond.instanceMethod_spec wm
  obtain ⟨c, k, hc, hk, -, hi, -, -⟩ := Cond.instantiable_spec wi
  have hfound := State.methodFound?_of_named hnamed hy
  have hc' := findClass_of_methodNamed hnamed
  cases hc.symm.trans hc'
  have hsel : selectMethod {} Z.vm mk.cls mk = .method mk := selectMethod_private hmeth (Cond.privateMethod_at wp mk meth hnamed hmeth)
  have hni : k.isInterface = false := by simp only [Bool.or_eq_false_iff] at hi; exact hi.1
  simp [Cond.before, Cond.holds, Cond.value, hc', hfound, hnamed, hsel, hk, hni]
/-- a call that is paid: by whatever theorem -/
def Pays (l : Launch) (Z : State) (n0 : Nat) (R : Room) (y : MethodName) (len W : Nat) (as' : Array Value) (h : Heap) (kc ks : Nat) (Q : Option Value → Heap → Prop) : Prop :=
  ∀ (p : Program) (e : Env) (below : List Frame) (s : State) (args : Array Value), Z.Warmed39 s.vm →
    Back l R p e below s args y len W (fun A a => a = as' ∧ A.U.heap = h ∧ A.cells + kc ≤ R.cells ∧ A.slots + ks ≤ R.slots) (fun A _ v B => ∃ L, (Fr n0 L ∧ Q v B.U.heap) ∧ B.locs = A.locs ++ L ∧ B.cells = A.cells + kc ∧ B.slots = A.slots + ks)
theorem nI {h : Heap} {ws : List Addr} : ∀ (s : State) (h' : Heap), Keep h h' ws → IN s h → IN s h' := fun _ _ _ _ => trivial
theorem nE {h : Heap} : ∀ (s : State) (h' : Heap), Ext h h' → h.size < h'.size → IN s h → IN s h' := fun _ _ _ _ _ => trivial
theorem nQ {h : Heap} {Q : Option Value → Heap → Prop} : ∀ (v : Option Value) (s : State) (h' : Heap), Q v h' → IN s h → IN s h' := fun _ _ _ _ _ => trivial
section Go
variable {l : Launch} {Z : State} {n0 : Nat} {R : Room} {own nm : String} {code : ByteArray} {mL : Nat} {ret : Option FieldType} {Q : Option Value → Heap → Prop} {I I' : State → Heap → Prop} {F : State → Option Value → State → List Loc → Prop} {h : Heap} {cells slots pc : Nat} {Ls : Array Slot} {st rest : List Value} {a0 : Array Value}
theorem Ct.of_go {ds : String} {ws : List Cond} {rm : Room} {as' : Array Value} {h0 : Heap} (hp : plainFor (⟨own, nm, ds⟩ : MethodName) = true) (hef : ∀ m, entryFrame m as' mL = mkF m 0 Ls []) (hg : Go l Z n0 rm own nm code mL ret IN (FN n0 rm Q) h0 0 0 0 Ls []) : Ct l Z n0 own nm ds ws code mL ret rm as' h0 Q := by
  refine MetFree.of_bodySF hp hisR ?_
  intro p e s m args below meth c s₁ Bd hml hP hK
  obtain ⟨rfl, hZ, hh⟩ := hP
  have hown : s.vm.findClass own = some m.cls := findClass_of_methodNamed Bd.named
  have hnm := (name_of_methodNamed Bd.named Bd.method).1
  have X0 : Stand p l e rm s m args below meth c s₁ [] 0 0 := Stand.of_body Bd
  have e0 : s₁.heap = h0 := by rw [← hh, Bd.state]; rfl
  obtain ⟨s₂, v, L, h1, h2, h3, h4, h5, h6⟩ := hg p e s m args below meth c s₁ [] Bd.exec hZ hown hnm Bd.bytes hml Bd.returns Bd.notSynchronized X0 (Fr.nil n0) e0 trivial
  exact ⟨s₂, _, castTop (hef m) h1, h2, h3, v, L, rfl, ⟨h4, h5⟩, h6⟩
theorem Ct.mono {ds : String} {ws : List Cond} {rm : Room} {as' : Array Value} {h0 : Heap} {Q' : Option Value → Heap → Prop} (C : Ct l Z n0 own nm ds ws code mL ret rm as' h0 Q) (hq : ∀ v h, Q v h → Q' v h) : Ct l Z n0 own nm ds ws code mL ret rm as' h0 Q' := by
  intro p e ha hc hk s m args below hf happ hP hK
  obtain ⟨n, o, h1, h2, h3, v, L, h4, ⟨h5, h6⟩, h7⟩ := C p e ha hc hk s m args below hf happ hP hK
  exact ⟨n, o, h1, h2, h3, v, L, h4, ⟨h5, hq _ _ h6⟩, h7⟩
theorem Go.more {cells' slots' : Nat} (hg : Go l Z n0 R own nm code mL ret I F h cells' slots' pc Ls st) (hc : cells ≤ cells') (hs : slots ≤ slots') : Go l Z n0 R own nm code mL ret I F h cells slots pc Ls st := by
  intro p e s m args below meth c T locs hx hZ ho hn hc' hm hr hk X N eT hJ
  exact hg p e s m args below meth c T locs hx hZ ho hn hc' hm hr hk (X.more hc hs) N eT hJ
theorem Go.castL {Ls' : Array Slot} (q : Ls = Ls') (hg : Go l Z n0 R own nm code mL ret I F h cells slots pc Ls' st) : Go l Z n0 R own nm code mL ret I F h cells slots pc Ls st := q ▸ hg
/-- a step that leaves the heap as it is -/
theorem Go.pure {pc' : Nat} {Ls' : Array Slot} {st' : List Value}
    (H : ∀ {p : Program} {e : Env} {s : State} {m : MethodId} {args : Array Value} {below : List Frame} {meth : Method} {c : Code} {T : State} {locs : List Loc} {target : State}, p.tables.exec = Jvm.exec → Z.Warmed39 s.vm → s.vm.findClass own = some m.cls → c.code = code →
      Stand p l e R s m args below meth c T locs cells slots → T.heap = h → Steps p.tables e below (T.setTop (mkF m pc' Ls' st')) target → Steps p.tables e below (T.setTop (mkF m pc Ls st)) target)
    (hr : Go l Z n0 R own nm code mL ret I F h cells slots pc' Ls' st') : Go l Z n0 R own nm code mL ret I F h cells slots pc Ls st := by
  intro p e s m args below meth c T locs hx hZ ho hn hc hm hr' hk X N eT hJ
  obtain ⟨s₂, v, L, h1, r⟩ := hr p e s m args below meth c T locs hx hZ ho hn hc hm hr' hk X N eT hJ
  exact ⟨s₂, v, L, H hx hZ ho hc X eT h1, r⟩
/-- a step over the tables that leaves the heap as it is -/
theorem Go.warm {pc' : Nat} {Ls' : Array Slot} {st' : List Value}
    (H : ∀ {p : Program} {e : Env} {s : State} {m : MethodId} {args : Array Value} {below : List Frame} {meth : Method} {c : Code} {T : State} {locs : List Loc}, p.tables.exec = Jvm.exec → Z.Warmed39 s.vm → s.vm.findClass own = some m.cls → c.code = code → c.maxLocals = mL →
      Stand p l e R s m args below meth c T locs cells slots → T.heap = h → ∃ T', Stand p l e R s m args below meth c T' locs cells slots ∧ T'.heap = h ∧ ∀ target, Steps p.tables e below (T'.setTop (mkF m pc' Ls' st')) target → Steps p.tables e below (T.setTop (mkF m pc Ls st)) target)
    (hr : Go l Z n0 R own nm code mL ret I F h cells slots pc' Ls' st') : Go l Z n0 R own nm code mL ret I F h cells slots pc Ls st := by
  intro p e s m args below meth c T locs hx hZ ho hn hc hm hr' hk X N eT hJ
  obtain ⟨T', X', e', stp⟩ := H hx hZ ho hc hm X eT
  obtain ⟨s₂, v, L, h1, r⟩ := hr p e s m args below meth c T' locs hx hZ ho hn hc hm hr' hk X' N e' hJ
  exact ⟨s₂, v, L, stp _ h1, r⟩
/-! plain steps -/
theorem Go.iloadN {k : Fin 4} {v : Int32} (hd : decode code pc = .ok (.iload_n k, 1)) (hl : Ls[k.val]? = some (.val (.int v))) (hr : Go l Z n0 R own nm code mL ret I F h cells slots (pc + 1) Ls (.int v :: st)) : Go l Z n0 R own nm code mL ret I F h cells slots pc Ls st := Go.pure (fun hx _ _ hc X _ k => XS.iloadN X.here hx rfl (hb hc hd) hl k) hr
theorem Go.iload {k : Nat} {v : Int32} (hd : decode code pc = .ok (.iload k, 2)) (hl : Ls[k]? = some (.val (.int v))) (hr : Go l Z n0 R own nm code mL ret I F h cells slots (pc + 2) Ls (.int v :: st)) : Go l Z n0 R own nm code mL ret I F h cells slots pc Ls st := Go.pure (fun hx _ _ hc X _ k => XS.iload X.here hx rfl (hb hc hd) hl k) hr
theorem Go.lloadN {k : Fin 4} {v : Int64} (hd : decode code pc = .ok (.lload_n k, 1)) (hl : Ls[k.val]? = some (.val (.long v))) (hr : Go l Z n0 R own nm code mL ret I F h cells slots (pc + 1) Ls (.long v :: st)) : Go l Z n0 R own nm code mL ret I F h cells slots pc Ls st := Go.pure (fun hx _ _ hc X _ k => XT.lloadN X.here hx rfl (hb hc hd) hl k) hr
theorem Go.lload {k : Nat} {v : Int64} (hd : decode code pc = .ok (.lload k, 2)) (hl : Ls[k]? = some (.val (.long v))) (hr : Go l Z n0 R own nm code mL ret I F h cells slots (pc + 2) Ls (.long v :: st)) : Go l Z n0 R own nm code mL ret I F h cells slots pc Ls st := Go.pure (fun hx _ _ hc X _ k => XT.lload X.here hx rfl (hb hc hd) hl k) hr
theorem Go.aloadN {k : Fin 4} {v : Value} (hd : decode code pc = .ok (.aload_n k, 1)) (hl : Ls[k.val]? = some (.val v)) (hv : v.isRef = true) (hr : Go l Z n0 R own nm code mL ret I F h cells slots (pc + 1) Ls (v :: st)) : Go l Z n0 R own nm code mL ret I F h cells slots pc Ls st := Go.pure (fun hx _ _ hc X _ k => XS.aloadN X.here hx rfl (hb hc hd) hl hv k) hr
theorem Go.aload {k : Nat} {v : Value} (hd : decode code pc = .ok (.aload k, 2)) (hl : Ls[k]? = some (.val v)) (hv : v.isRef = true) (hr : Go l Z n0 R own nm code mL ret I F h cells slots (pc + 2) Ls (v :: st)) : Go l Z n0 R own nm code mL ret I F h cells slots pc Ls st := Go.pure (fun hx _ _ hc X _ k => XS.aload X.here hx rfl (hb hc hd) hl hv k) hr
theorem Go.istoreN {k : Fin 4} {x : Int32} {Ls' : Array Slot} (hd : decode code pc = .ok (.istore_n k, 1)) (hl : storeLocals Ls k.val (.int x) = some Ls') (hr : Go l Z n0 R own nm code mL ret I F h cells slots (pc + 1) Ls' st) : Go l Z n0 R own nm code mL ret I F h cells slots pc Ls (.int x :: st) := Go.pure (fun hx _ _ hc X _ k => XS.istoreN X.here hx rfl (hb hc hd) rfl hl k) hr
theorem Go.istore {k : Nat} {x : Int32} {Ls' : Array Slot} (hd : decode code pc = .ok (.istore k, 2)) (hl : storeLocals Ls k (.int x) = some Ls') (hr : Go l Z n0 R own nm code mL ret I F h cells slots (pc + 2) Ls' st) : Go l Z n0 R own nm code mL ret I F h cells slots pc Ls (.int x :: st) := Go.pure (fun hx _ _ hc X _ k => XS.istore X.here hx rfl (hb hc hd) rfl hl k) hr
theorem Go.lstoreN {k : Fin 4} {x : Int64} {Ls' : Array Slot} (hd : decode code pc = .ok (.lstore_n k, 1)) (hl : storeLocals Ls k.val (.long x) = some Ls') (hr : Go l Z n0 R own nm code mL ret I F h cells slots (pc + 1) Ls' st) : Go l Z n0 R own nm code mL ret I F h cells slots pc Ls (.long x :: st) := Go.pure (fun hx _ _ hc X _ k => XT.lstoreN X.here hx rfl (hb hc hd) rfl hl k) hr
theorem Go.lstore {k : Nat} {x : Int64} {Ls' : Array Slot} (hd : decode code pc = .ok (.lstore k, 2)) (hl : storeLocals Ls k (.long x) = some Ls') (hr : Go l Z n0 R own nm code mL ret I F h cells slots (pc + 2) Ls' st) : Go l Z n0 R own nm code mL ret I F h cells slots pc Ls (.long x :: st) := Go.pure (fun hx _ _ hc X _ k => XT.lstore X.here hx rfl (hb hc hd) rfl hl k) hr
theorem Go.astoreN {k : Fin 4} {x : Value} {Ls' : Array Slot} (hd : decode code pc = .ok (.astore_n k, 1)) (hv : x.isRef = true) (hl : storeLocals Ls k.val x = some Ls') (hr : Go l Z n0 R own nm code mL ret I F h cells slots (pc + 1) Ls' st) : Go l Z n0 R own nm code mL ret I F h cells slots pc Ls (x :: st) := Go.pure (fun hx _ _ hc X _ k => XS.astoreN X.here hx rfl (hb hc hd) rfl hv hl k) hr
theorem Go.astore {k : Nat} {x : Value} {Ls' : Array Slot} (hd : decode code pc = .ok (.astore k, 2)) (hv : x.isRef = true) (hl : storeLocals Ls k x = some Ls') (hr : Go l Z n0 R own nm code mL ret I F h cells slots (pc + 2) Ls' st) : Go l Z n0 R own nm code mL ret I F h cells slots pc Ls (x :: st) := Go.pure (fun hx _ _ hc X _ k => XS.astore X.here hx rfl (hb hc hd) rfl hv hl k) hr
theorem Go.iconst {i : Int} (z : Int32) (hd : decode code pc = .ok (.iconst i, 1)) (hz : Int32.ofInt i = z) (hr : Go l Z n0 R own nm code mL ret I F h cells slots (pc + 1) Ls (.int z :: st)) : Go l Z n0 R own nm code mL ret I F h cells slots pc Ls st := by subst hz; exact Go.pure (fun hx _ _ hc X _ k => XS.iconst X.here hx rfl (hb hc hd) k) hr
theorem Go.bipush {i : Int} (z : Int32) (hd : decode code pc = .ok (.bipush i, 2)) (hz : (Int8.ofInt i).toInt32 = z) (hr : Go l Z n0 R own nm code mL ret I F h cells slots (pc + 2) Ls (.int z :: st)) : Go l Z n0 R own nm code mL ret I F h cells slots pc Ls st := by subst hz; exact Go.pure (fun hx _ _ hc X _ k => XS.bipush X.here hx rfl (hb hc hd) k) hr
theorem Go.sipush {i : Int} (z : Int32) (hd : decode code pc = .ok (.sipush i, 3)) (hz : (Int16.ofInt i).toInt32 = z) (hr : Go l Z n0 R own nm code mL ret I F h cells slots (pc + 3) Ls (.int z :: st)) : Go l Z n0 R own nm code mL ret I F h cells slots pc Ls st := by subst hz; exact Go.pure (fun hx _ _ hc X _ k => XS.sipush X.here hx rfl (hb hc hd) k) hr
theorem Go.null (hd : decode code pc = .ok (.aconst_null, 1)) (hr : Go l Z n0 R own nm code mL ret I F h cells slots (pc + 1) Ls (.null :: st)) : Go l Z n0 R own nm code mL ret I F h cells slots pc Ls st := Go.pure (fun hx _ _ hc X _ k => XS.aconstNull X.here hx rfl (hb hc hd) k) hr
theorem Go.iadd {x y : Int32} (hd : decode code pc = .ok (.iadd, 1)) (hr : Go l Z n0 R own nm code mL ret I F h cells slots (pc + 1) Ls (.int (x + y) :: st)) : Go l Z n0 R own nm code mL ret I F h cells slots pc Ls (.int y :: .int x :: st) := Go.pure (fun hx _ _ hc X _ k => XS.iadd X.here hx rfl (hb hc hd) rfl k) hr
theorem Go.isub {x y : Int32} (hd : decode code pc = .ok (.isub, 1)) (hr : Go l Z n0 R own nm code mL ret I F h cells slots (pc + 1) Ls (.int (x - y) :: st)) : Go l Z n0 R own nm code mL ret I F h cells slots pc Ls (.int y :: .int x :: st) := Go.pure (fun hx _ _ hc X _ k => XS.isub X.here hx rfl (hb hc hd) rfl k) hr
theorem Go.imul {x y : Int32} (hd : decode code pc = .ok (.imul, 1)) (hr : Go l Z n0 R own nm code mL ret I F h cells slots (pc + 1) Ls (.int (x * y) :: st)) : Go l Z n0 R own nm code mL ret I F h cells slots pc Ls (.int y :: .int x :: st) := Go.pure (fun hx _ _ hc X _ k => XS.imul X.here hx rfl (hb hc hd) rfl k) hr
theorem Go.idiv {x y : Int32} (hd : decode code pc = .ok (.idiv, 1)) (hy : y ≠ 0) (hr : Go l Z n0 R own nm code mL ret I F h cells slots (pc + 1) Ls (.int (x / y) :: st)) : Go l Z n0 R own nm code mL ret I F h cells slots pc Ls (.int y :: .int x :: st) := Go.pure (fun hx _ _ hc X _ k => XS.idiv X.here hx rfl (hb hc hd) rfl hy k) hr
theorem Go.irem {x y : Int32} (hd : decode code pc = .ok (.irem, 1)) (hy : y ≠ 0) (hr : Go l Z n0 R own nm code mL ret I F h cells slots (pc + 1) Ls (.int (x % y) :: st)) : Go l Z n0 R own nm code mL ret I F h cells slots pc Ls (.int y :: .int x :: st) := Go.pure (fun hx _ _ hc X _ k => iremM X hx (g := mkF _ pc Ls _) rfl (hb hc hd) rfl hy k) hr
theorem Go.ineg {x : Int32} (hd : decode code pc = .ok (.ineg, 1)) (hr : Go l Z n0 R own nm code mL ret I F h cells slots (pc + 1) Ls (.int (-x) :: st)) : Go l Z n0 R own nm code mL ret I F h cells slots pc Ls (.int x :: st) := Go.pure (fun hx _ _ hc X _ k => XS.ineg X.here hx rfl (hb hc hd) rfl k) hr
theorem Go.iand {x y : Int32} (hd : decode code pc = .ok (.iand, 1)) (hr : Go l Z n0 R own nm code mL ret I F h cells slots (pc + 1) Ls (.int (x &&& y) :: st)) : Go l Z n0 R own nm code mL ret I F h cells slots pc Ls (.int y :: .int x :: st) := Go.pure (fun hx _ _ hc X _ k => XS.iand X.here hx rfl (hb hc hd) rfl k) hr
theorem Go.ior {x y : Int32} (hd : decode code pc = .ok (.ior, 1)) (hr : Go l Z n0 R own nm code mL ret I F h cells slots (pc + 1) Ls (.int (x ||| y) :: st)) : Go l Z n0 R own nm code mL ret I F h cells slots pc Ls (.int y :: .int x :: st) := Go.pure (fun hx _ _ hc X _ k => XT.ior X.here hx rfl (hb hc hd) rfl k) hr
theorem Go.ixor {x y : Int32} (hd : decode code pc = .ok (.ixor, 1)) (hr : Go l Z n0 R own nm code mL ret I F h cells slots (pc + 1) Ls (.int (x ^^^ y) :: st)) : Go l Z n0 R own nm code mL ret I F h cells slots pc Ls (.int y :: .int x :: st) := Go.pure (fun hx _ _ hc X _ k => XT.ixor X.here hx rfl (hb hc hd) rfl k) hr
theorem Go.ishl {x y : Int32} (hd : decode code pc = .ok (.ishl, 1)) (hr : Go l Z n0 R own nm code mL ret I F h cells slots (pc + 1) Ls (.int (x <<< (y &&& 31)) :: st)) : Go l Z n0 R own nm code mL ret I F h cells slots pc Ls (.int y :: .int x :: st) := Go.pure (fun hx _ _ hc X _ k => XT.ishl X.here hx rfl (hb hc hd) rfl k) hr
theorem Go.ishr {x y : Int32} (hd : decode code pc = .ok (.ishr, 1)) (hr : Go l Z n0 R own nm code mL ret I F h cells slots (pc + 1) Ls (.int (x >>> (y &&& 31)) :: st)) : Go l Z n0 R own nm code mL ret I F h cells slots pc Ls (.int y :: .int x :: st) := Go.pure (fun hx _ _ hc X _ k => XT.ishr X.here hx rfl (hb hc hd) rfl k) hr
theorem Go.iushr {x y : Int32} (hd : decode code pc = .ok (.iushr, 1)) (hr : Go l Z n0 R own nm code mL ret I F h cells slots (pc + 1) Ls (.int ((x.toUInt32 >>> (y &&& 31).toUInt32).toInt32) :: st)) : Go l Z n0 R own nm code mL ret I F h cells slots pc Ls (.int y :: .int x :: st) := Go.pure (fun hx _ _ hc X _ k => XT.iushr X.here hx rfl (hb hc hd) rfl k) hr
theorem Go.i2c {x : Int32} (hd : decode code pc = .ok (.i2c, 1)) (hr : Go l Z n0 R own nm code mL ret I F h cells slots (pc + 1) Ls (.int x.toUInt32.toUInt16.toUInt32.toInt32 :: st)) : Go l Z n0 R own nm code mL ret I F h cells slots pc Ls (.int x :: st) := Go.pure (fun hx _ _ hc X _ k => XT.i2c X.here hx rfl (hb hc hd) rfl k) hr
theorem Go.i2b {x : Int32} (hd : decode code pc = .ok (.i2b, 1)) (hr : Go l Z n0 R own nm code mL ret I F h cells slots (pc + 1) Ls (.int x.toInt8.toInt32 :: st)) : Go l Z n0 R own nm code mL ret I F h cells slots pc Ls (.int x :: st) := Go.pure (fun hx _ _ hc X _ k => XT.i2b X.here hx rfl (hb hc hd) rfl k) hr
theorem Go.i2s {x : Int32} (hd : decode code pc = .ok (.i2s, 1)) (hr : Go l Z n0 R own nm code mL ret I F h cells slots (pc + 1) Ls (.int x.toInt16.toInt32 :: st)) : Go l Z n0 R own nm code mL ret I F h cells slots pc Ls (.int x :: st) := Go.pure (fun hx _ _ hc X _ k => XT.i2s X.here hx rfl (hb hc hd) rfl k) hr
theorem Go.iinc {k : Nat} {cst : Int} {x : Int32} {Ls' : Array Slot} (z : Int32) (hz : Int32.ofInt cst = z) (hd : decode code pc = .ok (.iinc k cst, 3)) (hl : Ls[k]? = some (.val (.int x))) (hl' : storeLocals Ls k (.int (x + z)) = some Ls') (hr : Go l Z n0 R own nm code mL ret I F h cells slots (pc + 3) Ls' st) : Go l Z n0 R own nm code mL ret I F h cells slots pc Ls st := by subst hz; exact Go.pure (fun hx _ _ hc X _ k => XS.iinc X.here hx rfl (hb hc hd) hl hl' k) hr
theorem Go.dup {x : Value} (hd : decode code pc = .ok (.dup, 1)) (hc : x.category = 1) (hr : Go l Z n0 R own nm code mL ret I F h cells slots (pc + 1) Ls (x :: x :: st)) : Go l Z n0 R own nm code mL ret I F h cells slots pc Ls (x :: st) := Go.pure (fun hx _ _ hc' X _ k => XS.dup X.here hx rfl (hb hc' hd) rfl hc k) hr
theorem Go.pop {x : Value} (hd : decode code pc = .ok (.pop, 1)) (hc : x.category = 1) (hr : Go l Z n0 R own nm code mL ret I F h cells slots (pc + 1) Ls st) : Go l Z n0 R own nm code mL ret I F h cells slots pc Ls (x :: st) := Go.pure (fun hx _ _ hc' X _ k => XT.pop X.here hx rfl (hb hc' hd) rfl hc k) hr
theorem Go.dupX1 {x y : Value} (hd : decode code pc = .ok (.dup_x1, 1)) (hc : x.category = 1) (hc2 : y.category = 1) (hr : Go l Z n0 R own nm code mL ret I F h cells slots (pc + 1) Ls (x :: y :: x :: st)) : Go l Z n0 R own nm code mL ret I F h cells slots pc Ls (x :: y :: st) := Go.pure (fun hx _ _ hc' X _ k => XT.dupX1 X.here hx rfl (hb hc' hd) rfl hc hc2 k) hr
theorem Go.dup2 {x y : Value} (hd : decode code pc = .ok (.dup2, 1)) (hc : x.category = 1) (hc2 : y.category = 1) (hr : Go l Z n0 R own nm code mL ret I F h cells slots (pc + 1) Ls (x :: y :: x :: y :: st)) : Go l Z n0 R own nm code mL ret I F h cells slots pc Ls (x :: y :: st) := Go.pure (fun hx _ _ hc' X _ k => XT.dup2 X.here hx rfl (hb hc' hd) rfl hc hc2 k) hr
/-! branches -/
theorem Go.goto {o : Int} (pc' : Nat) (hd : decode code pc = .ok (.goto o, 3)) (ho : 0 ≤ (pc : Int) + o) (hp : ((pc : Int) + o).toNat = pc') (hr : Go l Z n0 R own nm code mL ret I F h cells slots pc' Ls st) : Go l Z n0 R own nm code mL ret I F h cells slots pc Ls st := Go.pure (fun hx _ _ hc X _ k => XS.goto X.here hx rfl (pc0 := pc) rfl (hb hc hd) ho hp k) hr
theorem Go.ifT {cd : ClassFile.Cond} {x : Int32} {o : Int} (pc' : Nat) (hd : decode code pc = .ok (.ifCond cd o, 3)) (hc : if_icmp.holds cd x 0 = true) (ho : 0 ≤ (pc : Int) + o) (hp : ((pc : Int) + o).toNat = pc') (hr : Go l Z n0 R own nm code mL ret I F h cells slots pc' Ls st) : Go l Z n0 R own nm code mL ret I F h cells slots pc Ls (.int x :: st) := Go.pure (fun hx _ _ hc' X _ k => XS.ifYes X.here hx rfl (pc0 := pc) rfl (hb hc' hd) rfl ((if0 _ _).trans hc) ho hp k) hr
theorem Go.ifF {cd : ClassFile.Cond} {x : Int32} {o : Int} (hd : decode code pc = .ok (.ifCond cd o, 3)) (hc : if_icmp.holds cd x 0 = false) (hr : Go l Z n0 R own nm code mL ret I F h cells slots (pc + 3) Ls st) : Go l Z n0 R own nm code mL ret I F h cells slots pc Ls (.int x :: st) := Go.pure (fun hx _ _ hc' X _ k => XS.ifNo X.here hx rfl (hb hc' hd) rfl ((if0 _ _).trans hc) k) hr
theorem Go.icT {cd : ClassFile.Cond} {x y : Int32} {o : Int} (pc' : Nat) (hd : decode code pc = .ok (.if_icmp cd o, 3)) (hc : if_icmp.holds cd x y = true) (ho : 0 ≤ (pc : Int) + o) (hp : ((pc : Int) + o).toNat = pc') (hr : Go l Z n0 R own nm code mL ret I F h cells slots pc' Ls st) : Go l Z n0 R own nm code mL ret I F h cells slots pc Ls (.int y :: .int x :: st) := Go.pure (fun hx _ _ hc' X _ k => XS.icmpYes X.here hx rfl (pc0 := pc) rfl (hb hc' hd) rfl hc ho hp k) hr
theorem Go.icF {cd : ClassFile.Cond} {x y : Int32} {o : Int} (hd : decode code pc = .ok (.if_icmp cd o, 3)) (hc : if_icmp.holds cd x y = false) (hr : Go l Z n0 R own nm code mL ret I F h cells slots (pc + 3) Ls st) : Go l Z n0 R own nm code mL ret I F h cells slots pc Ls (.int y :: .int x :: st) := Go.pure (fun hx _ _ hc' X _ k => XS.icmpNo X.here hx rfl (hb hc' hd) rfl hc k) hr
theorem Go.nullT {o : Int} (pc' : Nat) (hd : decode code pc = .ok (.ifnull o, 3)) (ho : 0 ≤ (pc : Int) + o) (hp : ((pc : Int) + o).toNat = pc') (hr : Go l Z n0 R own nm code mL ret I F h cells slots pc' Ls st) : Go l Z n0 R own nm code mL ret I F h cells slots pc Ls (.null :: st) := Go.pure (fun hx _ _ hc' X _ k => XS.ifnullYes X.here hx rfl (pc0 := pc) rfl (hb hc' hd) rfl ho hp k) hr
theorem Go.nullF {o : Int} {b : Addr} (hd : decode code pc = .ok (.ifnull o, 3)) (hr : Go l Z n0 R own nm code mL ret I F h cells slots (pc + 3) Ls st) : Go l Z n0 R own nm code mL ret I F h cells slots pc Ls (.ref b :: st) := Go.pure (fun hx _ _ hc' X _ k => XS.ifnullNo X.here hx rfl (hb hc' hd) rfl k) hr
theorem Go.nnT {o : Int} {b : Addr} (pc' : Nat) (hd : decode code pc = .ok (.ifnonnull o, 3)) (ho : 0 ≤ (pc : Int) + o) (hp : ((pc : Int) + o).toNat = pc') (hr : Go l Z n0 R own nm code mL ret I F h cells slots pc' Ls st) : Go l Z n0 R own nm code mL ret I F h cells slots pc Ls (.ref b :: st) := Go.pure (fun hx _ _ hc' X _ k => XT.ifnonnullYes X.here hx rfl (pc0 := pc) rfl (hb hc' hd) rfl ho hp k) hr
theorem Go.nnF {o : Int} (hd : decode code pc = .ok (.ifnonnull o, 3)) (hr : Go l Z n0 R own nm code mL ret I F h cells slots (pc + 3) Ls st) : Go l Z n0 R own nm code mL ret I F h cells slots pc Ls (.null :: st) := Go.pure (fun hx _ _ hc' X _ k => XT.ifnonnullNo X.here hx rfl (hb hc' hd) rfl k) hr
theorem Go.acmp {cd : ACond} {x y : Value} {o : Int} (pc' : Nat) (same : Bool) (hd : decode code pc = .ok (.if_acmp cd o, 3)) (h1 : x.isRef = true) (h2 : y.isRef = true) (hq : decide (x = y) = same) (ho : 0 ≤ (pc : Int) + o) (hp : pc' = if acV cd same = true then ((pc : Int) + o).toNat else pc + 3) (hr : Go l Z n0 R own nm code mL ret I F h cells slots pc' Ls st) : Go l Z n0 R own nm code mL ret I F h cells slots pc Ls (y :: x :: st) :=
  Go.pure (fun hx _ _ hc' X _ k => Jvm.RoadKit.acmp (g := mkF _ pc Ls _) X hx rfl h1 h2 (pc0 := pc) (same := same) rfl (hb hc' hd) rfl hq ho hp k) hr
/-! constants of the pool -/
theorem Go.ldc {index : Nat} {v : Int32} (w : (Cond.constant own index v).before a0 Z = true) (hd : decode code pc = .ok (.ldc index, 2)) (hr : Go l Z n0 R own nm code mL ret I F h cells slots (pc + 2) Ls (.int v :: st)) : Go l Z n0 R own nm code mL ret I F h cells slots pc Ls st := Go.pure (fun hx hZ ho hc X _ k => X.ldcInt hx ho (mvT hZ w) (g := mkF _ pc Ls st) rfl (hb hc hd) _ k) hr
theorem Go.ldcw {index : Nat} {v : Int32} (w : (Cond.constant own index v).before a0 Z = true) (hd : decode code pc = .ok (.ldc_w index, 3)) (hr : Go l Z n0 R own nm code mL ret I F h cells slots (pc + 3) Ls (.int v :: st)) : Go l Z n0 R own nm code mL ret I F h cells slots pc Ls st := Go.pure (fun hx hZ ho hc X _ k => X.ldcwInt hx ho (mvT hZ w) (g := mkF _ pc Ls st) rfl (hb hc hd) _ k) hr
/-! fields -/
theorem Go.getF {R0 O n d : String} {index : Nat} {a : Addr} {v : Value} (w : (Cond.fieldLink own index R0 n d).before a0 Z = true) (via : Via Z R0 O n d) (FF : Fld Z h a O n d v) (hd : decode code pc = .ok (.getfield index, 3)) (hr : Go l Z n0 R own nm code mL ret I F h cells slots (pc + 3) Ls (v :: st)) : Go l Z n0 R own nm code mL ret I F h cells slots pc Ls (.ref a :: st) :=
  Go.warm (fun hx hZ ho hc _ X eT => Jvm.RoadKit.getF X hx hZ ho (host := "") (Or.inl w) via eT FF (g := mkF _ pc Ls _) rfl rfl (hb hc hd)) hr
theorem Go.getFN {R0 O n d host : String} {index : Nat} {a : Addr} {v : Value} (w : (Cond.fieldLinkNest own index R0 n d host).before a0 Z = true) (via : Via Z R0 O n d) (FF : Fld Z h a O n d v) (hd : decode code pc = .ok (.getfield index, 3)) (hr : Go l Z n0 R own nm code mL ret I F h cells slots (pc + 3) Ls (v :: st)) : Go l Z n0 R own nm code mL ret I F h cells slots pc Ls (.ref a :: st) :=
  Go.warm (fun hx hZ ho hc _ X eT => Jvm.RoadKit.getF X hx hZ ho (Or.inr w) via eT FF (g := mkF _ pc Ls _) rfl rfl (hb hc hd)) hr
theorem Go.getS {R0 O n d : String} {index : Nat} {v : Value} (w : (Cond.fieldLink own index R0 n d).before a0 Z = true) (via : Via Z R0 O n d) (FF : Sta Z h O n d v) (hd : decode code pc = .ok (.getstatic index, 3)) (hr : Go l Z n0 R own nm code mL ret I F h cells slots (pc + 3) Ls (v :: st)) : Go l Z n0 R own nm code mL ret I F h cells slots pc Ls st :=
  Go.warm (fun hx hZ ho hc _ X eT => Jvm.RoadKit.getS2 X hx hZ ho (host := "") (Or.inl w) via eT FF (g := mkF _ pc Ls st) rfl (hb hc hd)) hr
theorem Go.putF {R0 O n d C : String} {index kk : Nat} {ty : FieldType} {a : Addr} {v old : Value} (w : (Cond.fieldLink own index R0 n d).before a0 Z = true) (via : Via Z R0 O n d) (FF : Fld Z h a O n d old) (E : Exa Z h a C) (L : (Cond.lays C O n d).before a0 Z = true ∨ ((Cond.laysFinal C O n d).before a0 Z = true ∧ own = O ∧ nm = "<init>")) (wi : (Cond.instantiable C kk).before a0 Z = true)
    (hty : parseFieldDescriptor d = some ty) (hnw : narrow ty v = v) (hf : fits ty v = true) (q : n0 ≤ a) (hd : decode code pc = .ok (.putfield index, 3)) (hI : ∀ (s : State) (h' : Heap), Keep h h' [a] → I s h → I' s h') (hr : ∀ h', Wr h h' a (Jvm.RoadKit.slotOf Z O n d) v → Go l Z n0 R own nm code mL ret I' F h' cells slots (pc + 3) Ls st) : Go l Z n0 R own nm code mL ret I F h cells slots pc Ls (v :: .ref a :: st) := by
  intro p e s m args below meth c T locs hx hZ ho hn hc hm hr' hk X N eT hJ
  obtain ⟨T', h', X', e', W', stp⟩ := Jvm.RoadKit.putF X hx hZ ho (host := "") (Or.inl w) via eT FF E (L.imp id fun z => ⟨z.1, z.2.1, hn.trans z.2.2⟩) wi hty hnw hf (g := mkF m pc Ls (v :: .ref a :: st)) rfl rfl (hb hc hd)
  obtain ⟨s₂, v, L, h1, r⟩ := hr h' W' p e s m args below meth c T' _ hx hZ ho hn hc hm hr' hk X' (Fr.snoc X' N q) e' (hI s h' (Keep.of_wr W') hJ)
  exact ⟨s₂, v, L, stp _ h1, r⟩
/-- a field of a narrow kind -/
theorem Go.putFN {R0 O n d C : String} {index kk : Nat} {ty : FieldType} {a : Addr} {v v' old : Value} (w : (Cond.fieldLink own index R0 n d).before a0 Z = true) (via : Via Z R0 O n d) (FF : Fld Z h a O n d old) (E : Exa Z h a C) (L : (Cond.lays C O n d).before a0 Z = true ∨ ((Cond.laysFinal C O n d).before a0 Z = true ∧ own = O ∧ nm = "<init>")) (wi : (Cond.instantiable C kk).before a0 Z = true)
    (hty : parseFieldDescriptor d = some ty) (hnw : narrow ty v = v') (hf : fits ty v' = true) (q : n0 ≤ a) (hd : decode code pc = .ok (.putfield index, 3)) (hI : ∀ (s : State) (h' : Heap), Keep h h' [a] → I s h → I' s h') (hr : ∀ h', Wr h h' a (Jvm.RoadKit.slotOf Z O n d) v' → Go l Z n0 R own nm code mL ret I' F h' cells slots (pc + 3) Ls st) : Go l Z n0 R own nm code mL ret I F h cells slots pc Ls (v :: .ref a :: st) := by
  intro p e s m args below meth c T locs hx hZ ho hn hc hm hr' hk X N eT hJ
  obtain ⟨T', h', X', e', W', stp⟩ := Jvm.RoadKit.putFN X hx hZ ho w via eT FF E (L.imp id fun z => ⟨z.1, z.2.1, hn.trans z.2.2⟩) wi hty hnw hf (g := mkF m pc Ls (v :: .ref a :: st)) rfl rfl (hb hc hd)
  obtain ⟨s₂, v, L, h1, r⟩ := hr h' W' p e s m args below meth c T' _ hx hZ ho hn hc hm hr' hk X' (Fr.snoc X' N q) e' (hI s h' (Keep.of_wr W') hJ)
  exact ⟨s₂, v, L, stp _ h1, r⟩
/-! making -/
theorem Go.new {C : String} {index n : Nat} (w : (Cond.classLink own index C).before a0 Z = true) (wi : (Cond.instantiable C n).before a0 Z = true) (wz : (Cond.initialized C).before a0 Z = true) (hd : decode code pc = .ok (.new index, 3)) (hc1 : cells + 1 ≤ R.cells) (hl : slots + n ≤ R.slots)
    (hI : ∀ (s : State) (h' : Heap), Ext h h' → h.size < h'.size → I s h → I' s h') (hr : ∀ (h' : Heap) (b : Addr), b = h.size → Ext h h' → Exa Z h' b C → (∀ {O nm d : String} {ty : FieldType}, Laid Z a0 C O nm d → parseFieldDescriptor d = some ty → Fld Z h' b O nm d (defaultValue ty)) → Go l Z n0 R own nm code mL ret I' F h' (cells + 1) (slots + n) (pc + 3) Ls (.ref b :: st)) : Go l Z n0 R own nm code mL ret I F h cells slots pc Ls st := by
  intro p e s m args below meth c T locs hx hZ ho hn hc hm hr' hk X N eT hJ
  obtain ⟨T', h', X', e', E', A', D', -, stp⟩ := newO X hx hZ ho w wi wz eT (g := mkF m pc Ls st) rfl (hb hc hd) hc1 hl
  obtain ⟨s₂, v, L, h1, r⟩ := hr h' _ rfl E' A' D' p e s m args below meth c T' _ hx hZ ho hn hc hm hr' hk X' N e' (hI s h' E' A'.lt hJ)
  exact ⟨s₂, v, L, stp _ h1, r⟩
theorem Go.newP {aty : ArrayType} (ty : FieldType) {n : Int32} (w : (Cond.arrayClass ty).before a0 Z = true) (hty : newarray.typeOf aty = ty) (hd : decode code pc = .ok (.newarray aty, 2)) (hn0 : ¬ n < 0) (cap : Nat) (hcap : n.toNatClampNeg ≤ cap) (hb0 : cap * 8 ≤ 536870912) (hc1 : cells + 1 ≤ R.cells) (hl : slots + cap ≤ R.slots)
    (hI : ∀ (s : State) (h' : Heap), Ext h h' → h.size < h'.size → I s h → I' s h') (hr : ∀ (h' : Heap) (b : Addr) (k : ClassId), b = h.size → Ext h h' → Arv Z h' b k ty n [] (defaultValue ty) → Go l Z n0 R own nm code mL ret I' F h' (cells + 1) (slots + cap) (pc + 2) Ls (.ref b :: st)) : Go l Z n0 R own nm code mL ret I F h cells slots pc Ls (.int n :: st) := by
  subst hty
  intro p e s m args below meth c T locs hx hZ ho hn hc hm hr' hk X N eT hJ
  obtain ⟨T', h', k, X', e', E', A', stp⟩ := Jvm.RoadKit.newP X hx hZ w eT (g := mkF m pc Ls (.int n :: st)) rfl (hb hc hd) rfl hn0 hcap hb0 hc1 hl
  obtain ⟨s₂, v, L, h1, r⟩ := hr h' _ k rfl E' (Arv.new A' hn0) p e s m args below meth c T' _ hx hZ ho hn hc hm hr' hk X' N e' (hI s h' E' A'.lt hJ)
  exact ⟨s₂, v, L, stp _ h1, r⟩
theorem Go.newR {C : String} {index : Nat} {n : Int32} (w : (Cond.classLink own index C).before a0 Z = true) (w2 : (Cond.arrayOver (.object C)).before a0 Z = true) (hd : decode code pc = .ok (.anewarray index, 3)) (hn0 : ¬ n < 0) (cap : Nat) (hcap : n.toNatClampNeg ≤ cap) (hb0 : cap * 8 ≤ 536870912) (hc1 : cells + 1 ≤ R.cells) (hl : slots + cap ≤ R.slots)
    (hI : ∀ (s : State) (h' : Heap), Ext h h' → h.size < h'.size → I s h → I' s h') (hr : ∀ (h' : Heap) (b : Addr) (k : ClassId), b = h.size → Ext h h' → Arv Z h' b k (.object C) n [] .null → Ovr Z k C → Go l Z n0 R own nm code mL ret I' F h' (cells + 1) (slots + cap) (pc + 3) Ls (.ref b :: st)) : Go l Z n0 R own nm code mL ret I F h cells slots pc Ls (.int n :: st) := by
  intro p e s m args below meth c T locs hx hZ ho hn hc hm hr' hk X N eT hJ
  obtain ⟨T', h', k, X', e', E', A', O', stp⟩ := Jvm.RoadKit.newR X hx hZ ho w w2 eT (g := mkF m pc Ls (.int n :: st)) rfl (hb hc hd) rfl hn0 hcap hb0 hc1 hl
  obtain ⟨s₂, v, L, h1, r⟩ := hr h' _ k rfl E' (Arv.new A' hn0) O' p e s m args below meth c T' _ hx hZ ho hn hc hm hr' hk X' N e' (hI s h' E' A'.lt hJ)
  exact ⟨s₂, v, L, stp _ h1, r⟩
theorem Go.newPE {aty : ArrayType} (ty : FieldType) (ad : String) {n : Int32} (w : (Cond.arrayClass ty).before a0 Z = true) (hty : newarray.typeOf aty = ty) (had : "[" ++ ty.toString = ad) (hd : decode code pc = .ok (.newarray aty, 2)) (hn0 : ¬ n < 0) (cap : Nat) (hcap : n.toNatClampNeg ≤ cap) (hb0 : cap * 8 ≤ 536870912) (hc1 : cells + 1 ≤ R.cells) (hl : slots + cap ≤ R.slots)
    (hI : ∀ (s : State) (h' : Heap), Ext h h' → h.size < h'.size → I s h → I' s h') (hr : ∀ (h' : Heap) (b : Addr) (k : ClassId), b = h.size → Ext h h' → Arv Z h' b k ty n [] (defaultValue ty) → Exa Z h' b ad → Go l Z n0 R own nm code mL ret I' F h' (cells + 1) (slots + cap) (pc + 2) Ls (.ref b :: st)) : Go l Z n0 R own nm code mL ret I F h cells slots pc Ls (.int n :: st) := by
  subst hty
  intro p e s m args below meth c T locs hx hZ ho hn hc hm hr' hk X N eT hJ
  obtain ⟨T', h', k, X', e', E', A', X2, stp⟩ := Jvm.RoadKit.newPE X hx hZ w eT (g := mkF m pc Ls (.int n :: st)) rfl (hb hc hd) rfl hn0 hcap hb0 hc1 hl had
  obtain ⟨s₂, v, L, h1, r⟩ := hr h' _ k rfl E' (Arv.new A' hn0) X2 p e s m args below meth c T' _ hx hZ ho hn hc hm hr' hk X' N e' (hI s h' E' A'.lt hJ)
  exact ⟨s₂, v, L, stp _ h1, r⟩
theorem Go.newRA {C : String} {ty : FieldType} {index : Nat} {n : Int32} (w : (Cond.classLink own index C).before a0 Z = true) (w2 : (Cond.arrayOver (.array ty)).before a0 Z = true) (hC : (FieldType.array ty).toString = C) (hd : decode code pc = .ok (.anewarray index, 3)) (hn0 : ¬ n < 0) (cap : Nat) (hcap : n.toNatClampNeg ≤ cap) (hb0 : cap * 8 ≤ 536870912) (hc1 : cells + 1 ≤ R.cells) (hl : slots + cap ≤ R.slots)
    (hI : ∀ (s : State) (h' : Heap), Ext h h' → h.size < h'.size → I s h → I' s h') (hr : ∀ (h' : Heap) (b : Addr) (k : ClassId), b = h.size → Ext h h' → Arv Z h' b k (.array ty) n [] .null → OvrA Z k ty C → Go l Z n0 R own nm code mL ret I' F h' (cells + 1) (slots + cap) (pc + 3) Ls (.ref b :: st)) : Go l Z n0 R own nm code mL ret I F h cells slots pc Ls (.int n :: st) := by
  intro p e s m args below meth c T locs hx hZ ho hn hc hm hr' hk X N eT hJ
  obtain ⟨T', h', k, X', e', E', A', -, O', stp⟩ := Jvm.RoadKit.newRA X hx hZ ho hC w w2 eT (g := mkF m pc Ls (.int n :: st)) rfl (hb hc hd) rfl hn0 hcap hb0 hc1 hl rfl
  obtain ⟨s₂, v, L, h1, r⟩ := hr h' _ k rfl E' (Arv.new A' hn0) O' p e s m args below meth c T' _ hx hZ ho hn hc hm hr' hk X' N e' (hI s h' E' A'.lt hJ)
  exact ⟨s₂, v, L, stp _ h1, r⟩
theorem Go.initO {idx : Nat} {a : Addr} (w1 : (Cond.methodLink own idx Lib.objectInit).before a0 Z = true) (w2 : (Cond.instanceMethod Lib.objectInit).before a0 Z = true) (w3 : (Cond.code Lib.objectInit ⟨#[0xb1]⟩ 1 none).before a0 Z = true) (hd : decode code pc = .ok (.invokespecial idx, 3)) (hsz : Ls.size = mL) (hf : 1 ≤ R.frames) (hl : (st.map fun v => v.category).sum + 12 ≤ R.locals)
    (hr : Go l Z n0 R own nm code mL ret I F h cells slots (pc + 3) Ls st) : Go l Z n0 R own nm code mL ret I F h cells slots pc Ls (.ref a :: st) :=
  Go.warm (fun {p e s m args below meth c T locs} hx hZ ho hc hm X eT => Jvm.RoadKit.initO X hx hZ ho w1 w2 w3 eT (g := mkF m pc Ls (.ref a :: st)) rfl (hsz.trans hm.symm) rfl (hb hc hd) hf (W := (st.map fun v => v.category).sum) (by show 2 * 0 + _ ≤ _; omega) hl) hr
/-! arrays -/
theorem Arv.read {Z : State} {h : Heap} {a : Addr} {k : ClassId} {ty : FieldType} {z j : Int32} {vs : List Value} {dv v : Value} (V : Arv Z h a k ty z vs dv) (q : ¬ j < 0 ∧ j < z) (u : vs.getD j.toNatClampNeg dv = v) : ∃ c : Cell, Arr Z h a c ty ∧ ¬ (j < 0 ∨ c.slots.size ≤ j.toNatClampNeg) ∧ c.slots[j.toNatClampNeg]? = some v := by
  obtain ⟨c, A, q1, S, q3, H, G⟩ := V
  have hin := inb_of S q
  exact ⟨c, A, hin, H.at hin u⟩
theorem Arv.write {Z : State} {h h' : Heap} {a : Addr} {k : ClassId} {ty : FieldType} {z j : Int32} {vs : List Value} {dv v : Value} (V : Arv Z h a k ty z vs dv) (hv : fits ty v = true) (W : Wr h h' a j.toNatClampNeg v) (i : Nat) (hj : j.toNatClampNeg = i) (hi : i < vs.length) : Arv Z h' a k ty z (vs.set i v) dv := by
  obtain ⟨c, A, q1, S, q3, H, G⟩ := V
  exact Arv.set A q1 S q3 H G hv W i hj hi
theorem Go.arraylength {a : Addr} {k : ClassId} {ty : FieldType} {z : Int32} {vs : List Value} {dv : Value} (V : Arv Z h a k ty z vs dv) (hd : decode code pc = .ok (.arraylength, 1)) (hr : Go l Z n0 R own nm code mL ret I F h cells slots (pc + 1) Ls (.int z :: st)) : Go l Z n0 R own nm code mL ret I F h cells slots pc Ls (.ref a :: st) := by
  obtain ⟨c, A, q1, S, q3, H, G⟩ := V
  exact Go.pure (fun hx hZ ho hc X eT k => X.arraylength hx (by rw [eT]; exact A.1) (State.isArrayOf_alike hZ.alike A.2.1) (g := mkF _ pc Ls _) rfl rfl (hb hc hd) _ (by rw [len_of S q3]; exact k)) hr
theorem Go.caload {a : Addr} {k : ClassId} {z j : Int32} {vs : List Value} {dv : Value} (v : Value) (V : Arv Z h a k .char z vs dv) (q : ¬ j < 0 ∧ j < z) (u : vs.getD j.toNatClampNeg dv = v) (hd : decode code pc = .ok (.caload, 1)) (hr : Go l Z n0 R own nm code mL ret I F h cells slots (pc + 1) Ls (v :: st)) : Go l Z n0 R own nm code mL ret I F h cells slots pc Ls (.int j :: .ref a :: st) := by
  obtain ⟨c, A, hin, hat⟩ := Arv.read V q u
  exact Go.pure (fun hx hZ ho hc X eT k => X.caload hx (by rw [eT]; exact A.1) (State.isArrayOf_alike hZ.alike A.2.1) A.2.2 hin hat (g := mkF _ pc Ls _) rfl rfl (hb hc hd) _ k) hr
theorem Go.iaload {a : Addr} {k : ClassId} {z j : Int32} {vs : List Value} {dv : Value} (v : Value) (V : Arv Z h a k .int z vs dv) (q : ¬ j < 0 ∧ j < z) (u : vs.getD j.toNatClampNeg dv = v) (hd : decode code pc = .ok (.iaload, 1)) (hr : Go l Z n0 R own nm code mL ret I F h cells slots (pc + 1) Ls (v :: st)) : Go l Z n0 R own nm code mL ret I F h cells slots pc Ls (.int j :: .ref a :: st) := by
  obtain ⟨c, A, hin, hat⟩ := Arv.read V q u
  exact Go.pure (fun hx hZ ho hc X eT k => X.iaload hx (by rw [eT]; exact A.1) (State.isArrayOf_alike hZ.alike A.2.1) A.2.2 hin hat (g := mkF _ pc Ls _) rfl rfl (hb hc hd) _ k) hr
theorem Go.baload {a : Addr} {k : ClassId} {z j : Int32} {vs : List Value} {dv : Value} (v : Value) (V : Arv Z h a k .byte z vs dv) (q : ¬ j < 0 ∧ j < z) (u : vs.getD j.toNatClampNeg dv = v) (hd : decode code pc = .ok (.baload, 1)) (hr : Go l Z n0 R own nm code mL ret I F h cells slots (pc + 1) Ls (v :: st)) : Go l Z n0 R own nm code mL ret I F h cells slots pc Ls (.int j :: .ref a :: st) := by
  obtain ⟨c, A, hin, hat⟩ := Arv.read V q u
  exact Go.pure (fun hx hZ ho hc X eT k => X.baloadBytes hx (by rw [eT]; exact A.1) (State.isArrayOf_alike hZ.alike A.2.1) A.2.2 hin hat (g := mkF _ pc Ls _) rfl rfl (hb hc hd) _ k) hr
theorem Go.aaload {a : Addr} {k : ClassId} {ty : FieldType} {z j : Int32} {vs : List Value} {dv : Value} (v : Value) (V : Arv Z h a k ty z vs dv) (hty : ty.isReference = true) (q : ¬ j < 0 ∧ j < z) (u : vs.getD j.toNatClampNeg dv = v) (hd : decode code pc = .ok (.aaload, 1)) (hr : Go l Z n0 R own nm code mL ret I F h cells slots (pc + 1) Ls (v :: st)) : Go l Z n0 R own nm code mL ret I F h cells slots pc Ls (.int j :: .ref a :: st) := by
  obtain ⟨c, A, hin, hat⟩ := Arv.read V q u
  exact Go.pure (fun hx hZ ho hc X eT k => X.aaload hx (by rw [eT]; exact A.1) (State.isArrayOf_alike hZ.alike A.2.1) hty A.2.2 hin hat (g := mkF _ pc Ls _) rfl rfl (hb hc hd) _ k) hr
theorem Go.aaloadC {a : Addr} {c0 : Cell} {ty : FieldType} {j : Int32} (v : Value) (A : Arr Z h a c0 ty) (hty : ty.isReference = true) (hin : ¬ (j < 0 ∨ c0.slots.size ≤ j.toNatClampNeg)) (hat : c0.slots[j.toNatClampNeg]? = some v) (hd : decode code pc = .ok (.aaload, 1)) (hr : Go l Z n0 R own nm code mL ret I F h cells slots (pc + 1) Ls (v :: st)) : Go l Z n0 R own nm code mL ret I F h cells slots pc Ls (.int j :: .ref a :: st) :=
  Go.pure (fun hx hZ ho hc X eT k => X.aaload hx (by rw [eT]; exact A.1) (State.isArrayOf_alike hZ.alike A.2.1) hty A.2.2 hin hat (g := mkF _ pc Ls _) rfl rfl (hb hc hd) _ k) hr
theorem Go.castore {a : Addr} {k : ClassId} {z j x : Int32} {vs : List Value} {dv : Value} (V : Arv Z h a k .char z vs dv) (q : ¬ j < 0 ∧ j < z) (g : n0 ≤ a) (i : Nat) (hj : j.toNatClampNeg = i) (hi : i < vs.length) (hd : decode code pc = .ok (.castore, 1)) (hI : ∀ (s : State) (h' : Heap), Keep h h' [a] → I s h → I' s h') (hr : ∀ h', Keep h h' [a] → Arv Z h' a k .char z (vs.set i (.int (nar .char x))) dv → Go l Z n0 R own nm code mL ret I' F h' cells slots (pc + 1) Ls st) : Go l Z n0 R own nm code mL ret I F h cells slots pc Ls (.int x :: .int j :: .ref a :: st) := by
  have V0 := V
  obtain ⟨c0, A, q1, S, q3, H, G⟩ := V0
  intro p e s m args below meth c T locs hx hZ ho hn hc hm hr' hk X N eT hJ
  obtain ⟨T', h', X', e', W', stp⟩ := stC X hx hZ eT A (inb_of S q) (g := mkF m pc Ls (.int x :: .int j :: .ref a :: st)) rfl rfl (hb hc hd)
  obtain ⟨s₂, v, L, h1, r⟩ := hr h' (Keep.of_wr W') (Arv.write V (fits_nar_char _) W' i hj hi) p e s m args below meth c T' _ hx hZ ho hn hc hm hr' hk X' (Fr.snoc X' N g) e' (hI s h' (Keep.of_wr W') hJ)
  exact ⟨s₂, v, L, stp _ h1, r⟩
theorem Go.bastore {a : Addr} {k : ClassId} {z j x : Int32} {vs : List Value} {dv : Value} (V : Arv Z h a k .byte z vs dv) (q : ¬ j < 0 ∧ j < z) (g : n0 ≤ a) (i : Nat) (hj : j.toNatClampNeg = i) (hi : i < vs.length) (hd : decode code pc = .ok (.bastore, 1)) (hI : ∀ (s : State) (h' : Heap), Keep h h' [a] → I s h → I' s h') (hr : ∀ h', Keep h h' [a] → Arv Z h' a k .byte z (vs.set i (.int (nar .byte x))) dv → Go l Z n0 R own nm code mL ret I' F h' cells slots (pc + 1) Ls st) : Go l Z n0 R own nm code mL ret I F h cells slots pc Ls (.int x :: .int j :: .ref a :: st) := by
  have V0 := V
  obtain ⟨c0, A, q1, S, q3, H, G⟩ := V0
  intro p e s m args below meth c T locs hx hZ ho hn hc hm hr' hk X N eT hJ
  obtain ⟨T', h', X', e', W', stp⟩ := stB X hx hZ eT A (inb_of S q) (g := mkF m pc Ls (.int x :: .int j :: .ref a :: st)) rfl rfl (hb hc hd)
  obtain ⟨s₂, v, L, h1, r⟩ := hr h' (Keep.of_wr W') (Arv.write V (fits_nar_byte _) W' i hj hi) p e s m args below meth c T' _ hx hZ ho hn hc hm hr' hk X' (Fr.snoc X' N g) e' (hI s h' (Keep.of_wr W') hJ)
  exact ⟨s₂, v, L, stp _ h1, r⟩
theorem Go.iastore {a : Addr} {k : ClassId} {z j x : Int32} {vs : List Value} {dv : Value} (V : Arv Z h a k .int z vs dv) (q : ¬ j < 0 ∧ j < z) (g : n0 ≤ a) (i : Nat) (hj : j.toNatClampNeg = i) (hi : i < vs.length) (hd : decode code pc = .ok (.iastore, 1)) (hI : ∀ (s : State) (h' : Heap), Keep h h' [a] → I s h → I' s h') (hr : ∀ h', Keep h h' [a] → Arv Z h' a k .int z (vs.set i (.int x)) dv → Go l Z n0 R own nm code mL ret I' F h' cells slots (pc + 1) Ls st) : Go l Z n0 R own nm code mL ret I F h cells slots pc Ls (.int x :: .int j :: .ref a :: st) := by
  have V0 := V
  obtain ⟨c0, A, q1, S, q3, H, G⟩ := V0
  intro p e s m args below meth c T locs hx hZ ho hn hc hm hr' hk X N eT hJ
  obtain ⟨T', h', X', e', W', stp⟩ := stI X hx hZ eT A (inb_of S q) (g := mkF m pc Ls (.int x :: .int j :: .ref a :: st)) rfl rfl (hb hc hd)
  obtain ⟨s₂, v, L, h1, r⟩ := hr h' (Keep.of_wr W') (Arv.write V rfl W' i hj hi) p e s m args below meth c T' _ hx hZ ho hn hc hm hr' hk X' (Fr.snoc X' N g) e' (hI s h' (Keep.of_wr W') hJ)
  exact ⟨s₂, v, L, stp _ h1, r⟩
theorem Go.aastore {a : Addr} {k : ClassId} {ty : FieldType} {z j : Int32} {x : Value} {vs : List Value} {dv : Value} (V : Arv Z h a k ty z vs dv) (hty : ty.isReference = true) (hx' : fits ty x = true) (FF : ∀ c : Cell, Arr Z h a c ty → c.cls = k → Sto Z h a x) (q : ¬ j < 0 ∧ j < z) (g : n0 ≤ a) (i : Nat) (hj : j.toNatClampNeg = i) (hi : i < vs.length) (hd : decode code pc = .ok (.aastore, 1)) (hI : ∀ (s : State) (h' : Heap), Keep h h' [a] → I s h → I' s h') (hr : ∀ h', Keep h h' [a] → Arv Z h' a k ty z (vs.set i x) dv → Go l Z n0 R own nm code mL ret I' F h' cells slots (pc + 1) Ls st) : Go l Z n0 R own nm code mL ret I F h cells slots pc Ls (x :: .int j :: .ref a :: st) := by
  have V0 := V
  obtain ⟨c0, A, q1, S, q3, H, G⟩ := V0
  intro p e s m args below meth c T locs hx hZ ho hn hc hm hr' hk X N eT hJ
  obtain ⟨T', h', X', e', W', stp⟩ := stR X hx hZ eT A (inb_of S q) hty (FF c0 A q1) (g := mkF m pc Ls (x :: .int j :: .ref a :: st)) rfl rfl (hb hc hd)
  obtain ⟨s₂, v, L, h1, r⟩ := hr h' (Keep.of_wr W') (Arv.write V hx' W' i hj hi) p e s m args below meth c T' _ hx hZ ho hn hc hm hr' hk X' (Fr.snoc X' N g) e' (hI s h' (Keep.of_wr W') hJ)
  exact ⟨s₂, v, L, stp _ h1, r⟩
/-! casts -/
theorem Go.castY {K : String} {index : Nat} {a : Addr} (w : (Cond.classLink own index K).before a0 Z = true) (FF : Ins Z h a K true) (hd : decode code pc = .ok (.checkcast index, 3)) (hr : Go l Z n0 R own nm code mL ret I F h cells slots (pc + 3) Ls (.ref a :: st)) : Go l Z n0 R own nm code mL ret I F h cells slots pc Ls (.ref a :: st) :=
  Go.warm (fun hx hZ ho hc _ X eT => Jvm.RoadKit.castY X hx hZ ho w eT FF (g := mkF _ pc Ls (.ref a :: st)) rfl rfl (hb hc hd)) hr
theorem Go.castNull {index : Nat} (hd : decode code pc = .ok (.checkcast index, 3)) (hr : Go l Z n0 R own nm code mL ret I F h cells slots (pc + 3) Ls (.null :: st)) : Go l Z n0 R own nm code mL ret I F h cells slots pc Ls (.null :: st) :=
  Go.pure (fun hx _ _ hc X _ k => X.checkcastNull hx (g := mkF _ pc Ls (.null :: st)) rfl rfl (hb hc hd) _ k) hr
theorem Go.castV {K : String} {index : Nat} {v : Value} (w : (Cond.classLink own index K).before a0 Z = true) (FF : v = .null ∨ ∃ a, v = .ref a ∧ Ins Z h a K true) (hd : decode code pc = .ok (.checkcast index, 3)) (hr : Go l Z n0 R own nm code mL ret I F h cells slots (pc + 3) Ls (v :: st)) : Go l Z n0 R own nm code mL ret I F h cells slots pc Ls (v :: st) := by
  rcases FF with rfl | ⟨a, rfl, I0⟩
  · exact Go.castNull hd hr
  · exact Go.castY w I0 hd hr
theorem Go.instY {K : String} {index : Nat} {a : Addr} (w : (Cond.classLink own index K).before a0 Z = true) (FF : Ins Z h a K true) (hd : decode code pc = .ok (.instanceof index, 3)) (hr : Go l Z n0 R own nm code mL ret I F h cells slots (pc + 3) Ls (.int 1 :: st)) : Go l Z n0 R own nm code mL ret I F h cells slots pc Ls (.ref a :: st) :=
  Go.warm (fun hx hZ ho hc _ X eT => Jvm.RoadKit.instY X hx hZ ho w eT FF (g := mkF _ pc Ls (.ref a :: st)) rfl rfl (hb hc hd)) hr
/-! returns -/
theorem Go.return_ (hd : decode code pc = .ok (.return_, 1)) (hret : ret = none) (hc1 : cells ≤ R.cells) (hs1 : slots ≤ R.slots) (hQ : Q none h) : Go l Z n0 R own nm code mL ret I (FN n0 R Q) h cells slots pc Ls [] := by
  intro p e s m args below meth c T locs hx hZ ho hn hc hm hr' hk X N eT hJ
  obtain ⟨fs, hr, hrun, hended, hW, hsame⟩ := X.leave (v := none) (fun _ => rfl) hk
  exact ⟨_, none, locs, X.returnOut hx (hr'.trans hret) (hb hc hd) hr, hrun, hended, N, (by show Q _ T.heap; rw [eT]; exact hQ), ⟨_, rfl⟩, hW, hsame.mono hc1 hs1⟩
theorem Go.areturn {v : Value} {t : FieldType} (hd : decode code pc = .ok (.areturn, 1)) (hret : ret = some t) (ht : t.isReference = true) (hv : v.isRef = true) (hc1 : cells ≤ R.cells) (hs1 : slots ≤ R.slots) (hQ : Q (some v) h) : Go l Z n0 R own nm code mL ret I (FN n0 R Q) h cells slots pc Ls (v :: st) := by
  intro p e s m args below meth c T locs hx hZ ho hn hc hm hr' hk X N eT hJ
  obtain ⟨fs, hr, hrun, hended, hW, hsame⟩ := X.leave (v := some v) (fun h => by rw [hr', hret] at h; cases h) hk
  have hnw : narrow t v = v := by cases t <;> first | rfl | (cases ht; done)
  exact ⟨_, some v, locs, retOut X hx (hr'.trans hret) hnw (Or.inr (Or.inr (Or.inr (Or.inr ⟨rfl, ht, hv⟩)))) (hb hc hd) hr, hrun, hended, N, (by show Q _ T.heap; rw [eT]; exact hQ), ⟨_, rfl⟩, hW, hsame.mono hc1 hs1⟩
theorem Go.ireturn {z : Int32} (hd : decode code pc = .ok (.ireturn, 1)) (hret : ret = some .int) (hc1 : cells ≤ R.cells) (hs1 : slots ≤ R.slots) (hQ : Q (some (.int z)) h) : Go l Z n0 R own nm code mL ret I (FN n0 R Q) h cells slots pc Ls (.int z :: st) := by
  intro p e s m args below meth c T locs hx hZ ho hn hc hm hr' hk X N eT hJ
  obtain ⟨fs, hr, hrun, hended, hW, hsame⟩ := X.leave (v := some (.int z)) (fun h => by rw [hr', hret] at h; cases h) hk
  exact ⟨_, some (.int z), locs, retOut X hx (hr'.trans hret) rfl (Or.inl ⟨rfl, Or.inl rfl, z, rfl⟩) (hb hc hd) hr, hrun, hended, N, (by show Q _ T.heap; rw [eT]; exact hQ), ⟨_, rfl⟩, hW, hsame.mono hc1 hs1⟩
/-- a boolean, byte, char or short -/
theorem Go.nreturn {z : Int32} (t : FieldType) (hd : decode code pc = .ok (.ireturn, 1)) (hret : ret = some t) (ht : t = .boolean ∨ t = .byte ∨ t = .char ∨ t = .short) (hc1 : cells ≤ R.cells) (hs1 : slots ≤ R.slots) (hQ : Q (some (.int (nar t z))) h) : Go l Z n0 R own nm code mL ret I (FN n0 R Q) h cells slots pc Ls (.int z :: st) := by
  intro p e s m args below meth c T locs hx hZ ho hn hc hm hr' hk X N eT hJ
  obtain ⟨fs, hr, hrun, hended, hW, hsame⟩ := X.leave (v := some (.int (nar t z))) (fun h => by rw [hr', hret] at h; cases h) hk
  exact ⟨_, some (.int (nar t z)), locs, retN X hx (hr'.trans hret) ht (hb hc hd) hr, hrun, hended, N, (by show Q _ T.heap; rw [eT]; exact hQ), ⟨_, rfl⟩, hW, hsame.mono hc1 hs1⟩
/-! calls, each by the callee's contract -/
theorem Go.callS {o' n' d' : String} {bytes : ByteArray} {mL' index : Nat} {rt : Option FieldType} {rm : Room} (as' rest : List Value) {Q' : Option Value → Heap → Prop} {ps : List FieldType} {r : Option FieldType}
    (hC : Ct l Z n0 o' n' d' [] bytes mL' rt rm as'.toArray h Q') (w1 : (Cond.methodLink own index (⟨o', n', d'⟩ : MethodName)).before a0 Z = true) (w2 : (Cond.static (⟨o', n', d'⟩ : MethodName)).before a0 Z = true) (w3 : (Cond.initialized o').before a0 Z = true) (w4 : (Cond.code (⟨o', n', d'⟩ : MethodName) bytes mL' rt).before a0 Z = true)
    (hy : o' ≠ "java/lang/invoke/MethodHandle" ∧ o' ≠ "java/lang/invoke/VarHandle") (hpd : parseMethodDescriptor d' = some ⟨ps, r⟩) (hlen : as'.length = ps.length) (hst : st = as'.reverse ++ rest) (hsz : Ls.size = mL) (hf : rm.frames + 1 ≤ R.frames) (hlo : (rest.map fun v => v.category).sum + (mL' + 11) + rm.locals ≤ R.locals) (hc1 : cells + rm.cells ≤ R.cells) (hs1 : slots + rm.slots ≤ R.slots)
    (hd : decode code pc = .ok (.invokestatic index, 3)) (hI : ∀ (v : Option Value) (s : State) (h' : Heap), Q' v h' → I s h → I' s h') (hr : ∀ v h', Q' v h' → Go l Z n0 R own nm code mL ret I' F h' (cells + rm.cells) (slots + rm.slots) (pc + 3) Ls (v.toList ++ rest)) : Go l Z n0 R own nm code mL ret I F h cells slots pc Ls st := by
  intro p e s m args below meth c T locs hx hZ ho hn hc hm hr' hk X N eT hJ
  obtain ⟨v, _, ⟨T', L', k', n''⟩, -, X', ⟨Lc, ⟨N', hQ'⟩, l1, l2, l3⟩, stp⟩ := Jvm.LawKit.callS X hx (y := (⟨o', n', d'⟩ : MethodName)) ho (mvT hZ w1) (mvT hZ w2) (mvT hZ w3) (mvT hZ w4) hy (backOf (Q := fun v h L => Fr n0 L ∧ Q' v h) (W := (rest.map fun v => v.category).sum) hC hZ w4 w3 hf hlo) (g := mkF m pc Ls st) rfl (hsz.trans hm.symm) (argsL := as') (rest := rest) (lenOf hpd hlen) hst (by show 2 * 0 + _ ≤ _; omega) (hb hc hd) (fun _ _ => ⟨rfl, eT, hc1, hs1⟩)
  dsimp only [Pt.U, Pt.locs, Pt.cells, Pt.slots] at X' l1 l2 l3 stp hQ'
  subst l1 l2 l3
  obtain ⟨s₂, v2, L, h1, r⟩ := hr v T'.heap hQ' p e s m args below meth c T' _ hx hZ ho hn hc hm hr' hk X' (Fr.app N N') rfl (hI v s T'.heap hQ' hJ)
  exact ⟨s₂, v2, L, stp _ h1, r⟩
/-- a constructor -/
theorem Go.callI {o' d' : String} {bytes : ByteArray} {mL' index : Nat} {rm : Room} (a : Addr) (as' rest : List Value) {Q' : Option Value → Heap → Prop} {ps : List FieldType} {r : Option FieldType}
    (hC : Ct l Z n0 o' "<init>" d' [] bytes mL' none rm (.ref a :: as').toArray h Q') (w1 : (Cond.methodLink own index (⟨o', "<init>", d'⟩ : MethodName)).before a0 Z = true) (w2 : (Cond.instanceMethod (⟨o', "<init>", d'⟩ : MethodName)).before a0 Z = true) (w3 : (Cond.initialized o').before a0 Z = true) (w4 : (Cond.code (⟨o', "<init>", d'⟩ : MethodName) bytes mL' none).before a0 Z = true)
    (hy : o' ≠ "java/lang/invoke/MethodHandle" ∧ o' ≠ "java/lang/invoke/VarHandle") (hpd : parseMethodDescriptor d' = some ⟨ps, r⟩) (hlen : as'.length = ps.length) (hst : st = as'.reverse ++ .ref a :: rest) (hsz : Ls.size = mL) (hf : rm.frames + 1 ≤ R.frames) (hlo : (rest.map fun v => v.category).sum + (mL' + 11) + rm.locals ≤ R.locals) (hc1 : cells + rm.cells ≤ R.cells) (hs1 : slots + rm.slots ≤ R.slots)
    (hd : decode code pc = .ok (.invokespecial index, 3)) (hI : ∀ (v : Option Value) (s : State) (h' : Heap), Q' v h' → I s h → I' s h') (hr : ∀ v h', Q' v h' → Go l Z n0 R own nm code mL ret I' F h' (cells + rm.cells) (slots + rm.slots) (pc + 3) Ls (v.toList ++ rest)) : Go l Z n0 R own nm code mL ret I F h cells slots pc Ls st := by
  intro p e s m args below meth c T locs hx hZ ho hn hc hm hr' hk X N eT hJ
  obtain ⟨v, _, ⟨T', L', k', n''⟩, -, X', ⟨Lc, ⟨N', hQ'⟩, l1, l2, l3⟩, stp⟩ := X.specialBack hx (y := (⟨o', "<init>", d'⟩ : MethodName)) rfl ho (mvT hZ w1) (mvT hZ w2) (mvT hZ w4) hy (backOf (Q := fun v h L => Fr n0 L ∧ Q' v h) (W := (rest.map fun v => v.category).sum) hC hZ w4 w3 hf hlo) (g := mkF m pc Ls st) rfl (hsz.trans hm.symm) (Steps.refl _) (a := a) (argsL := as') (rest := rest) (lenOf hpd hlen) hst (by show 2 * 0 + _ ≤ _; omega) (hb hc hd) (fun _ _ => ⟨rfl, eT, hc1, hs1⟩)
  dsimp only [Pt.U, Pt.locs, Pt.cells, Pt.slots] at X' l1 l2 l3 stp hQ'
  subst l1 l2 l3
  obtain ⟨s₂, v2, L, h1, r⟩ := hr v T'.heap hQ' p e s m args below meth c T' _ hx hZ ho hn hc hm hr' hk X' (Fr.app N N') rfl (hI v s T'.heap hQ' hJ)
  exact ⟨s₂, v2, L, stp.trans h1, r⟩
/-- an instance method that the class which the link names declares -/
theorem Go.callV {o' n' d' C oz : String} {bytes : ByteArray} {mL' index : Nat} {rt : Option FieldType} {rm : Room} (a : Addr) (as' rest : List Value) {Q' : Option Value → Heap → Prop} {ps : List FieldType} {r : Option FieldType}
    (hC : Ct l Z n0 oz n' d' [] bytes mL' rt rm (.ref a :: as').toArray h Q') (E : Exa Z h a C) (w1 : (Cond.methodLink own index (⟨o', n', d'⟩ : MethodName)).before a0 Z = true) (w2 : (Cond.declares (⟨o', n', d'⟩ : MethodName)).before a0 Z = true) (nf : ∀ s : State, Z.Warmed39 s.vm → NotFace s (⟨o', n', d'⟩ : MethodName)) (w3 : (Cond.selects C (⟨o', n', d'⟩ : MethodName) (⟨oz, n', d'⟩ : MethodName)).before a0 Z = true) (w4 : (Cond.instanceMethod (⟨oz, n', d'⟩ : MethodName)).before a0 Z = true) (w5 : (Cond.initialized oz).before a0 Z = true) (w6 : (Cond.code (⟨oz, n', d'⟩ : MethodName) bytes mL' rt).before a0 Z = true)
    (hy : o' ≠ "java/lang/invoke/MethodHandle" ∧ o' ≠ "java/lang/invoke/VarHandle") (hpd : parseMethodDescriptor d' = some ⟨ps, r⟩) (hlen : as'.length = ps.length) (hst : st = as'.reverse ++ .ref a :: rest) (hsz : Ls.size = mL) (hf : rm.frames + 1 ≤ R.frames) (hlo : (rest.map fun v => v.category).sum + (mL' + 11) + rm.locals ≤ R.locals) (hc1 : cells + rm.cells ≤ R.cells) (hs1 : slots + rm.slots ≤ R.slots)
    (hd : decode code pc = .ok (.invokevirtual index, 3)) (hI : ∀ (v : Option Value) (s : State) (h' : Heap), Q' v h' → I s h → I' s h') (hr : ∀ v h', Q' v h' → Go l Z n0 R own nm code mL ret I' F h' (cells + rm.cells) (slots + rm.slots) (pc + 3) Ls (v.toList ++ rest)) : Go l Z n0 R own nm code mL ret I F h cells slots pc Ls st := by
  intro p e s m args below meth c T locs hx hZ ho hn hc hm hr' hk X N eT hJ
  obtain ⟨cq, kq, qa, qb, qc⟩ := isOf hZ eT E
  obtain ⟨v, _, ⟨T', L', k', n''⟩, -, X', ⟨Lc, ⟨N', hQ'⟩, l1, l2, l3⟩, stp⟩ := X.virtualBack hx (y := (⟨o', n', d'⟩ : MethodName)) (z := (⟨oz, n', d'⟩ : MethodName)) ho (mvT hZ w1) (mvT hZ w2) (nf s hZ) (mvT hZ w3) (mvT hZ w4) hy (backOf (Q := fun v h L => Fr n0 L ∧ Q' v h) (W := (rest.map fun v => v.category).sum) hC hZ w6 w5 hf hlo) qa qc (g := mkF m pc Ls st) rfl (hsz.trans hm.symm) (Steps.refl _) (argsL := as') (rest := rest) (lenOf hpd hlen) hst (by show 2 * 0 + _ ≤ _; omega) (hb hc hd) (fun _ _ => ⟨rfl, eT, hc1, hs1⟩)
  dsimp only [Pt.U, Pt.locs, Pt.cells, Pt.slots] at X' l1 l2 l3 stp hQ'
  subst l1 l2 l3
  obtain ⟨s₂, v2, L, h1, r⟩ := hr v T'.heap hQ' p e s m args below meth c T' _ hx hZ ho hn hc hm hr' hk X' (Fr.app N N') rfl (hI v s T'.heap hQ' hJ)
  exact ⟨s₂, v2, L, stp.trans h1, r⟩
theorem nf_sel {C o' n' d' : String} (w3 : (Cond.selects C (⟨o', n', d'⟩ : MethodName) (⟨o', n', d'⟩ : MethodName)).before a0 Z = true) : ∀ s : State, Z.Warmed39 s.vm → NotFace s (⟨o', n', d'⟩ : MethodName) := fun s hZ => notFace_of_selects (args := #[]) (mvT hZ w3)
theorem nf_sup {o' n' d' S : String} (w : (Cond.superclass o' S).before a0 Z = true) : ∀ s : State, Z.Warmed39 s.vm → NotFace s (⟨o', n', d'⟩ : MethodName) := fun s hZ => nf_super (args := #[]) (mvT hZ w)
/-- an instance method that a superclass of the class which the link names declares -/
theorem Go.callU {o' ow n' d' C oz : String} {bytes : ByteArray} {mL' index : Nat} {rt : Option FieldType} {rm : Room} (a : Addr) (as' rest : List Value) {Q' : Option Value → Heap → Prop} {ps : List FieldType} {r : Option FieldType}
    (hC : Ct l Z n0 oz n' d' [] bytes mL' rt rm (.ref a :: as').toArray h Q') (E : Exa Z h a C) (w1 : (Cond.methodLink own index (⟨o', n', d'⟩ : MethodName)).before a0 Z = true) (w2 : (Cond.sameMethod o' ow n' d').before a0 Z = true) (w2' : (Cond.declares (⟨ow, n', d'⟩ : MethodName)).before a0 Z = true) (w3 : (Cond.selects C (⟨o', n', d'⟩ : MethodName) (⟨oz, n', d'⟩ : MethodName)).before a0 Z = true) (w4 : (Cond.instanceMethod (⟨oz, n', d'⟩ : MethodName)).before a0 Z = true) (w5 : (Cond.initialized oz).before a0 Z = true) (w6 : (Cond.code (⟨oz, n', d'⟩ : MethodName) bytes mL' rt).before a0 Z = true)
    (hy : ow ≠ "java/lang/invoke/MethodHandle" ∧ ow ≠ "java/lang/invoke/VarHandle") (hpd : parseMethodDescriptor d' = some ⟨ps, r⟩) (hlen : as'.length = ps.length) (hst : st = as'.reverse ++ .ref a :: rest) (hsz : Ls.size = mL) (hf : rm.frames + 1 ≤ R.frames) (hlo : (rest.map fun v => v.category).sum + (mL' + 11) + rm.locals ≤ R.locals) (hc1 : cells + rm.cells ≤ R.cells) (hs1 : slots + rm.slots ≤ R.slots)
    (hd : decode code pc = .ok (.invokevirtual index, 3)) (hI : ∀ (v : Option Value) (s : State) (h' : Heap), Q' v h' → I s h → I' s h') (hr : ∀ v h', Q' v h' → Go l Z n0 R own nm code mL ret I' F h' (cells + rm.cells) (slots + rm.slots) (pc + 3) Ls (v.toList ++ rest)) : Go l Z n0 R own nm code mL ret I F h cells slots pc Ls st := by
  intro p e s m args below meth c T locs hx hZ ho hn hc hm hr' hk X N eT hJ
  obtain ⟨cq, kq, qa, qb, qc⟩ := isOf hZ eT E
  obtain ⟨v, _, ⟨T', L', k', n''⟩, -, X', ⟨Lc, ⟨N', hQ'⟩, l1, l2, l3⟩, stp⟩ := X.virtualBackUp hx (x := (⟨o', n', d'⟩ : MethodName)) (y := (⟨oz, n', d'⟩ : MethodName)) ho (mvT hZ w1) (mvT hZ w2) (mvT hZ w2') hy (mvT hZ w3) (mvT hZ w4) (backOf (Q := fun v h L => Fr n0 L ∧ Q' v h) (W := (rest.map fun v => v.category).sum) hC hZ w6 w5 hf hlo) qa qc (g := mkF m pc Ls st) rfl (hsz.trans hm.symm) (Steps.refl _) (argsL := as') (rest := rest) (lenOf hpd hlen) hst (by show 2 * 0 + _ ≤ _; omega) (hb hc hd) (fun _ _ => ⟨rfl, eT, hc1, hs1⟩)
  dsimp only [Pt.U, Pt.locs, Pt.cells, Pt.slots] at X' l1 l2 l3 stp hQ'
  subst l1 l2 l3
  obtain ⟨s₂, v2, L, h1, r⟩ := hr v T'.heap hQ' p e s m args below meth c T' _ hx hZ ho hn hc hm hr' hk X' (Fr.app N N') rfl (hI v s T'.heap hQ' hJ)
  exact ⟨s₂, v2, L, stp.trans h1, r⟩
/-- a private instance method, by invokevirtual -/
theorem Go.callP {o' n' d' : String} {bytes : ByteArray} {mL' index : Nat} {rt : Option FieldType} {rm : Room} (a : Addr) (as' rest : List Value) {Q' : Option Value → Heap → Prop} {ps : List FieldType} {r : Option FieldType} {C : String}
    (hC : Ct l Z n0 o' n' d' [] bytes mL' rt rm (.ref a :: as').toArray h Q') (E : Exa Z h a C) (w1 : (Cond.methodLink own index (⟨o', n', d'⟩ : MethodName)).before a0 Z = true) (w2 : (Cond.instanceMethod (⟨o', n', d'⟩ : MethodName)).before a0 Z = true) (w3 : (Cond.selects o' (⟨o', n', d'⟩ : MethodName) (⟨o', n', d'⟩ : MethodName)).before a0 Z = true) (w4 : (Cond.privateMethod (⟨o', n', d'⟩ : MethodName)).before a0 Z = true) (w5 : (Cond.initialized o').before a0 Z = true) (w6 : (Cond.code (⟨o', n', d'⟩ : MethodName) bytes mL' rt).before a0 Z = true)
    (hy : o' ≠ "java/lang/invoke/MethodHandle" ∧ o' ≠ "java/lang/invoke/VarHandle") (hpd : parseMethodDescriptor d' = some ⟨ps, r⟩) (hlen : as'.length = ps.length) (hst : st = as'.reverse ++ .ref a :: rest) (hsz : Ls.size = mL) (hf : rm.frames + 1 ≤ R.frames) (hlo : (rest.map fun v => v.category).sum + (mL' + 11) + rm.locals ≤ R.locals) (hc1 : cells + rm.cells ≤ R.cells) (hs1 : slots + rm.slots ≤ R.slots)
    (hd : decode code pc = .ok (.invokevirtual index, 3)) (hI : ∀ (v : Option Value) (s : State) (h' : Heap), Q' v h' → I s h → I' s h') (hr : ∀ v h', Q' v h' → Go l Z n0 R own nm code mL ret I' F h' (cells + rm.cells) (slots + rm.slots) (pc + 3) Ls (v.toList ++ rest)) : Go l Z n0 R own nm code mL ret I F h cells slots pc Ls st := by
  intro p e s m args below meth c T locs hx hZ ho hn hc hm hr' hk X N eT hJ
  obtain ⟨cq, qa, qb⟩ := E.cell
  obtain ⟨v, _, ⟨T', L', k', n''⟩, -, X', ⟨Lc, ⟨N', hQ'⟩, l1, l2, l3⟩, stp⟩ := X.privateBack hx (y := (⟨o', n', d'⟩ : MethodName)) ho (mvT hZ w1) (mvT hZ w2) (mvT hZ w3) (Cond.privateMethod_at (mvP hZ w4 (args := #[]))) (mvT hZ w6) hy (backOf (Q := fun v h L => Fr n0 L ∧ Q' v h) (W := (rest.map fun v => v.category).sum) hC hZ w6 w5 hf hlo) (g := mkF m pc Ls st) rfl (hsz.trans hm.symm) (Steps.refl _) (a := a) (by rw [eT]; exact qa) qb (argsL := as') (rest := rest) (lenOf hpd hlen) hst (by show 2 * 0 + _ ≤ _; omega) (hb hc hd) (fun _ _ => ⟨rfl, eT, hc1, hs1⟩)
  dsimp only [Pt.U, Pt.locs, Pt.cells, Pt.slots] at X' l1 l2 l3 stp hQ'
  subst l1 l2 l3
  obtain ⟨s₂, v2, L, h1, r⟩ := hr v T'.heap hQ' p e s m args below meth c T' _ hx hZ ho hn hc hm hr' hk X' (Fr.app N N') rfl (hI v s T'.heap hQ' hJ)
  exact ⟨s₂, v2, L, stp.trans h1, r⟩
/-- an interface's method -/
theorem Go.callF {o' n' d' C oz : String} {bytes : ByteArray} {mL' index count : Nat} {rt : Option FieldType} {rm : Room} (a : Addr) (as' rest : List Value) {Q' : Option Value → Heap → Prop} {ps : List FieldType} {r : Option FieldType}
    (hC : Ct l Z n0 oz n' d' [] bytes mL' rt rm (.ref a :: as').toArray h Q') (E : Exa Z h a C) (w1 : (Cond.methodLink own index (⟨o', n', d'⟩ : MethodName)).before a0 Z = true) (w2 : (Cond.declares (⟨o', n', d'⟩ : MethodName)).before a0 Z = true) (w2' : (Cond.interfaceMethod o' o' n' d').before a0 Z = true) (w3 : (Cond.selects C (⟨o', n', d'⟩ : MethodName) (⟨oz, n', d'⟩ : MethodName)).before a0 Z = true) (w4 : (Cond.instanceMethod (⟨oz, n', d'⟩ : MethodName)).before a0 Z = true) (w4' : (Cond.publicMethod (⟨oz, n', d'⟩ : MethodName)).before a0 Z = true) (w4'' : (Cond.unhidden C n' d').before a0 Z = true) (wc : (Cond.castable C o').before a0 Z = true) (w5 : (Cond.initialized oz).before a0 Z = true) (w6 : (Cond.code (⟨oz, n', d'⟩ : MethodName) bytes mL' rt).before a0 Z = true)
    (hy : o' ≠ "java/lang/invoke/MethodHandle" ∧ o' ≠ "java/lang/invoke/VarHandle") (hpd : parseMethodDescriptor d' = some ⟨ps, r⟩) (hlen : as'.length = ps.length) (hst : st = as'.reverse ++ .ref a :: rest) (hsz : Ls.size = mL) (hf : rm.frames + 1 ≤ R.frames) (hlo : (rest.map fun v => v.category).sum + (mL' + 11) + rm.locals ≤ R.locals) (hc1 : cells + rm.cells ≤ R.cells) (hs1 : slots + rm.slots ≤ R.slots)
    (hd : decode code pc = .ok (.invokeinterface index count, 5)) (hI : ∀ (v : Option Value) (s : State) (h' : Heap), Q' v h' → I s h → I' s h') (hr : ∀ v h', Q' v h' → Go l Z n0 R own nm code mL ret I' F h' (cells + rm.cells) (slots + rm.slots) (pc + 5) Ls (v.toList ++ rest)) : Go l Z n0 R own nm code mL ret I F h cells slots pc Ls st := by
  intro p e s m args below meth c T locs hx hZ ho hn hc hm hr' hk X N eT hJ
  obtain ⟨cq, kq, qa, qb, qc⟩ := isOf hZ eT E
  obtain ⟨v, _, ⟨T', L', k', n''⟩, -, X', ⟨Lc, ⟨N', hQ'⟩, l1, l2, l3⟩, stp⟩ := X.interfaceBack hx (xi := (⟨o', n', d'⟩ : MethodName)) (y := (⟨oz, n', d'⟩ : MethodName)) ho (mvT hZ w1) (mvT hZ w2) (mvT hZ w2' (by simp [Cond.onTables, Cond.keepsFace, Cond.keeps, Cond.steady, Cond.faceAtom, hy.1, hy.2])) (mvT hZ w3) (mvT hZ w4) (mvT hZ w4') (mvT hZ w4'') (mvT hZ wc) hy (backOf (Q := fun v h L => Fr n0 L ∧ Q' v h) (W := (rest.map fun v => v.category).sum) hC hZ w6 w5 hf hlo) qa qb qc (g := mkF m pc Ls st) rfl (hsz.trans hm.symm) (Steps.refl _) (argsL := as') (rest := rest) (lenOf hpd hlen) hst (by show 2 * 0 + _ ≤ _; omega) (hb hc hd) (fun _ _ => ⟨rfl, eT, hc1, hs1⟩)
  dsimp only [Pt.U, Pt.locs, Pt.cells, Pt.slots] at X' l1 l2 l3 stp hQ'
  subst l1 l2 l3
  obtain ⟨s₂, v2, L, h1, r⟩ := hr v T'.heap hQ' p e s m args below meth c T' _ hx hZ ho hn hc hm hr' hk X' (Fr.app N N') rfl (hI v s T'.heap hQ' hJ)
  exact ⟨s₂, v2, L, stp.trans h1, r⟩
/-! calls that are paid otherwise -/
theorem Go.callIP {o' d' : String} {bytes : ByteArray} {mL' index : Nat} {kc ks W : Nat} (a : Addr) (as' rest : List Value) {Q' : Option Value → Heap → Prop} {ps : List FieldType} {r : Option FieldType}
    (hC : Pays l Z n0 R (⟨o', "<init>", d'⟩ : MethodName) 3 W (.ref a :: as').toArray h kc ks Q') (w1 : (Cond.methodLink own index (⟨o', "<init>", d'⟩ : MethodName)).before a0 Z = true) (w2 : (Cond.instanceMethod (⟨o', "<init>", d'⟩ : MethodName)).before a0 Z = true) (w3 : (Cond.initialized o').before a0 Z = true) (w4 : (Cond.code (⟨o', "<init>", d'⟩ : MethodName) bytes mL' none).before a0 Z = true)
    (hy : o' ≠ "java/lang/invoke/MethodHandle" ∧ o' ≠ "java/lang/invoke/VarHandle") (hpd : parseMethodDescriptor d' = some ⟨ps, r⟩) (hlen : as'.length = ps.length) (hst : st = as'.reverse ++ .ref a :: rest) (hsz : Ls.size = mL) (hW : (rest.map fun v => v.category).sum ≤ W) (hc1 : cells + kc ≤ R.cells) (hs1 : slots + ks ≤ R.slots)
    (hd : decode code pc = .ok (.invokespecial index, 3)) (hI : ∀ (v : Option Value) (s : State) (h' : Heap), Q' v h' → I s h → I' s h') (hr : ∀ v h', Q' v h' → Go l Z n0 R own nm code mL ret I' F h' (cells + kc) (slots + ks) (pc + 3) Ls (v.toList ++ rest)) : Go l Z n0 R own nm code mL ret I F h cells slots pc Ls st := by
  intro p e s m args below meth c T locs hx hZ ho hn hc hm hr' hk X N eT hJ
  obtain ⟨v, _, ⟨T', L', k', n''⟩, -, X', ⟨Lc, ⟨N', hQ'⟩, l1, l2, l3⟩, stp⟩ := X.specialBack hx (y := (⟨o', "<init>", d'⟩ : MethodName)) rfl ho (mvT hZ w1) (mvT hZ w2) (mvT hZ w4) hy (hC p e below s args hZ) (g := mkF m pc Ls st) rfl (hsz.trans hm.symm) (Steps.refl _) (a := a) (argsL := as') (rest := rest) (lenOf hpd hlen) hst (by show 2 * 0 + _ ≤ _; omega) (hb hc hd) (fun _ _ => ⟨rfl, eT, hc1, hs1⟩)
  dsimp only [Pt.U, Pt.locs, Pt.cells, Pt.slots] at X' l1 l2 l3 stp hQ'
  subst l1 l2 l3
  obtain ⟨s₂, v2, L, h1, r⟩ := hr v T'.heap hQ' p e s m args below meth c T' _ hx hZ ho hn hc hm hr' hk X' (Fr.app N N') rfl (hI v s T'.heap hQ' hJ)
  exact ⟨s₂, v2, L, stp.trans h1, r⟩
theorem Go.callVP {o' n' d' C oz : String} {bytes : ByteArray} {mL' index : Nat} {rt : Option FieldType} {kc ks W : Nat} (a : Addr) (as' rest : List Value) {Q' : Option Value → Heap → Prop} {ps : List FieldType} {r : Option FieldType}
    (hC : Pays l Z n0 R (⟨oz, n', d'⟩ : MethodName) 3 W (.ref a :: as').toArray h kc ks Q') (E : Exa Z h a C) (w1 : (Cond.methodLink own index (⟨o', n', d'⟩ : MethodName)).before a0 Z = true) (w2 : (Cond.declares (⟨o', n', d'⟩ : MethodName)).before a0 Z = true) (nf : ∀ s : State, Z.Warmed39 s.vm → NotFace s (⟨o', n', d'⟩ : MethodName)) (w3 : (Cond.selects C (⟨o', n', d'⟩ : MethodName) (⟨oz, n', d'⟩ : MethodName)).before a0 Z = true) (w4 : (Cond.instanceMethod (⟨oz, n', d'⟩ : MethodName)).before a0 Z = true) (w5 : (Cond.initialized oz).before a0 Z = true) (w6 : (Cond.code (⟨oz, n', d'⟩ : MethodName) bytes mL' rt).before a0 Z = true)
    (hy : o' ≠ "java/lang/invoke/MethodHandle" ∧ o' ≠ "java/lang/invoke/VarHandle") (hpd : parseMethodDescriptor d' = some ⟨ps, r⟩) (hlen : as'.length = ps.length) (hst : st = as'.reverse ++ .ref a :: rest) (hsz : Ls.size = mL) (hW : (rest.map fun v => v.category).sum ≤ W) (hc1 : cells + kc ≤ R.cells) (hs1 : slots + ks ≤ R.slots)
    (hd : decode code pc = .ok (.invokevirtual index, 3)) (hI : ∀ (v : Option Value) (s : State) (h' : Heap), Q' v h' → I s h → I' s h') (hr : ∀ v h', Q' v h' → Go l Z n0 R own nm code mL ret I' F h' (cells + kc) (slots + ks) (pc + 3) Ls (v.toList ++ rest)) : Go l Z n0 R own nm code mL ret I F h cells slots pc Ls st := by
  intro p e s m args below meth c T locs hx hZ ho hn hc hm hr' hk X N eT hJ
  obtain ⟨cq, kq, qa, qb, qc⟩ := isOf hZ eT E
  obtain ⟨v, _, ⟨T', L', k', n''⟩, -, X', ⟨Lc, ⟨N', hQ'⟩, l1, l2, l3⟩, stp⟩ := X.virtualBack hx (y := (⟨o', n', d'⟩ : MethodName)) (z := (⟨oz, n', d'⟩ : MethodName)) ho (mvT hZ w1) (mvT hZ w2) (nf s hZ) (mvT hZ w3) (mvT hZ w4) hy (hC p e below s args hZ) qa qc (g := mkF m pc Ls st) rfl (hsz.trans hm.symm) (Steps.refl _) (argsL := as') (rest := rest) (lenOf hpd hlen) hst (by show 2 * 0 + _ ≤ _; omega) (hb hc hd) (fun _ _ => ⟨rfl, eT, hc1, hs1⟩)
  dsimp only [Pt.U, Pt.locs, Pt.cells, Pt.slots] at X' l1 l2 l3 stp hQ'
  subst l1 l2 l3
  obtain ⟨s₂, v2, L, h1, r⟩ := hr v T'.heap hQ' p e s m args below meth c T' _ hx hZ ho hn hc hm hr' hk X' (Fr.app N N') rfl (hI v s T'.heap hQ' hJ)
  exact ⟨s₂, v2, L, stp.trans h1, r⟩
theorem Go.callSP {o' n' d' : String} {bytes : ByteArray} {mL' index : Nat} {rt : Option FieldType} {kc ks W : Nat} (as' rest : List Value) {Q' : Option Value → Heap → Prop} {ps : List FieldType} {r : Option FieldType}
    (hC : Pays l Z n0 R (⟨o', n', d'⟩ : MethodName) 3 W as'.toArray h kc ks Q') (w1 : (Cond.methodLink own index (⟨o', n', d'⟩ : MethodName)).before a0 Z = true) (w2 : (Cond.static (⟨o', n', d'⟩ : MethodName)).before a0 Z = true) (w3 : (Cond.initialized o').before a0 Z = true) (w4 : (Cond.code (⟨o', n', d'⟩ : MethodName) bytes mL' rt).before a0 Z = true)
    (hy : o' ≠ "java/lang/invoke/MethodHandle" ∧ o' ≠ "java/lang/invoke/VarHandle") (hpd : parseMethodDescriptor d' = some ⟨ps, r⟩) (hlen : as'.length = ps.length) (hst : st = as'.reverse ++ rest) (hsz : Ls.size = mL) (hW : (rest.map fun v => v.category).sum ≤ W) (hc1 : cells + kc ≤ R.cells) (hs1 : slots + ks ≤ R.slots)
    (hd : decode code pc = .ok (.invokestatic index, 3)) (hI : ∀ (v : Option Value) (s : State) (h' : Heap), Q' v h' → I s h → I' s h') (hr : ∀ v h', Q' v h' → Go l Z n0 R own nm code mL ret I' F h' (cells + kc) (slots + ks) (pc + 3) Ls (v.toList ++ rest)) : Go l Z n0 R own nm code mL ret I F h cells slots pc Ls st := by
  intro p e s m args below meth c T locs hx hZ ho hn hc hm hr' hk X N eT hJ
  obtain ⟨v, _, ⟨T', L', k', n''⟩, -, X', ⟨Lc, ⟨N', hQ'⟩, l1, l2, l3⟩, stp⟩ := Jvm.LawKit.callS X hx (y := (⟨o', n', d'⟩ : MethodName)) ho (mvT hZ w1) (mvT hZ w2) (mvT hZ w3) (mvT hZ w4) hy (hC p e below s args hZ) (g := mkF m pc Ls st) rfl (hsz.trans hm.symm) (argsL := as') (rest := rest) (lenOf hpd hlen) hst (by show 2 * 0 + _ ≤ _; omega) (hb hc hd) (fun _ _ => ⟨rfl, eT, hc1, hs1⟩)
  dsimp only [Pt.U, Pt.locs, Pt.cells, Pt.slots] at X' l1 l2 l3 stp hQ'
  subst l1 l2 l3
  obtain ⟨s₂, v2, L, h1, r⟩ := hr v T'.heap hQ' p e s m args below meth c T' _ hx hZ ho hn hc hm hr' hk X' (Fr.app N N') rfl (hI v s T'.heap hQ' hJ)
  exact ⟨s₂, v2, L, stp _ h1, r⟩
end Go
end Jvm.Own
namespace Jvm.Own
open Jvm Jvm.ClassFile Sem Op Lib Jvm.Free Jvm.Stand Jvm.LawKit Jvm.RoadKit Bundle
/-- a field of an object that a term names holds the int that the case says -/
theorem fld_says {s : State} {args : Array Value} {t : Term} {a : Addr} {k : Int32} {C n d : String} (ev : t.eval args s none [] s = some (.ref a)) (h : (Cond.eq (Term.field t C n d) (Term.int k)).value args s none s [] = some true) : Fld s s.heap a C n d (.int k) := by
  obtain ⟨x, y, e1, e2, hk, hk'⟩ := cmp_v (Or.inl h)
  cases (show some (Value.int k) = some y from e2)
  obtain ⟨z, rfl⟩ := hk'
  have : z = k := by simpa [Cond.value, e1, e2] using h
  subst this
  exact Fld.start ((fld_at ev).symm.trans e1)
end Jvm.Own
namespace Jvm.Own
open Jvm Jvm.ClassFile Sem Op Lib Jvm.Free Jvm.Stand Jvm.LawKit Jvm.RoadKit Bundle
theorem len_says {s : State} {args : Array Value} {t : Term} {a : Addr} {c : Cell} {ty : FieldType} {z : Int32} (ev : t.eval args s none [] s = some (.ref a)) (A : Arr s s.heap a c ty) (e : (Term.length t).eval args s none [] s = some (.int z)) : c.slots.size < 2 ^ 31 ∧ c.slots.size.toInt32 = z := by
  have hA := A.fin (Vm.Alike.refl _)
  by_cases hl : c.slots.size < 2 ^ 31
  · rw [len_f ev hA hl] at e
    exact ⟨hl, by injection e with e; injection e⟩
  · simp [Term.eval, ev, hA, hl] at e
theorem sub_at {s : State} {args : Array Value} {j k : Int32} (hj : ¬ j < 0) : (Term.sub (Term.index 0) (Term.int k)).eval args s none [j.toNatClampNeg] s = some (.int (j - k)) := by
  have h := idx_at (args := args) (s := s) (first := s) (o := none) hj
  simp [Term.eval] at h ⊢
  rw [h]
end Jvm.Own
namespace Jvm.Pilot.@@N@@
open Jvm Jvm.ClassFile Sem Op Lib Jvm.Free Jvm.Stand Jvm.LawKit Jvm.RoadKit Bundle Jvm.Own Jvm.Pilot.@@N@@.Jvm.D
theorem wd_0 {Z : State} {a0 : Array Value} (hw : ∀ d ∈ tables_1, d.before a0 Z = true) : (Jvm.Cond.methodLink "com/example/rowan/rowan/NodeSetValuePinLaw" (7 : Nat) ({ cls := "java/lang/Integer", name := "valueOf", desc := "(I)Ljava/lang/Integer;" } : Jvm.MethodName)).before a0 Z = true := hw _ (List.mem_of_getElem? (i := 0) rfl)
theorem wd_1 {Z : State} {a0 : Array Value} (hw : ∀ d ∈ tables_1, d.before a0 Z = true) : (Jvm.Cond.static ({ cls := "java/lang/Integer", name := "valueOf", desc := "(I)Ljava/lang/Integer;" } : Jvm.MethodName)).before a0 Z = true := hw _ (List.mem_of_getElem? (i := 1) rfl)
theorem wd_2 {Z : State} {a0 : Array Value} (hw : ∀ d ∈ tables_1, d.before a0 Z = true) : (Jvm.Cond.initialized "java/lang/Integer").before a0 Z = true := hw _ (List.mem_of_getElem? (i := 2) rfl)
theorem wd_3 {Z : State} {a0 : Array Value} (hw : ∀ d ∈ tables_1, d.before a0 Z = true) : (Jvm.Cond.code ({ cls := "java/lang/Integer", name := "valueOf", desc := "(I)Ljava/lang/Integer;" } : Jvm.MethodName) jdk_33_method_22_code (1 : Nat) (Option.some (Jvm.ClassFile.FieldType.object "java/lang/Integer"))).before a0 Z = true := hw _ (List.mem_of_getElem? (i := 3) rfl)
theorem wd_4 {Z : State} {a0 : Array Value} (hw : ∀ d ∈ tables_1, d.before a0 Z = true) : (Jvm.Cond.fieldLink "java/lang/Integer" (191 : Nat) "java/lang/Integer$IntegerCache" "high" "I").before a0 Z = true := hw _ (List.mem_of_getElem? (i := 4) rfl)
theorem wd_6 {Z : State} {a0 : Array Value} (hw : ∀ d ∈ tables_1, d.before a0 Z = true) : (Jvm.Cond.fieldLink "java/lang/Integer" (195 : Nat) "java/lang/Integer$IntegerCache" "cache" "[Ljava/lang/Integer;").before a0 Z = true := hw _ (List.mem_of_getElem? (i := 6) rfl)
theorem wd_7 {Z : State} {a0 : Array Value} (hw : ∀ d ∈ tables_1, d.before a0 Z = true) : (Jvm.Cond.classLink "com/example/rowan/rowan/NodeSetValuePinLaw" (13 : Nat) "com/example/rowan/rowan/RedBlackTreeMap$Node").before a0 Z = true := hw _ (List.mem_of_getElem? (i := 7) rfl)
theorem wd_8 {Z : State} {a0 : Array Value} (hw : ∀ d ∈ tables_1, d.before a0 Z = true) : (Jvm.Cond.instantiable "com/example/rowan/rowan/RedBlackTreeMap$Node" (5 : Nat)).before a0 Z = true := hw _ (List.mem_of_getElem? (i := 8) rfl)
theorem wd_9 {Z : State} {a0 : Array Value} (hw : ∀ d ∈ tables_1, d.before a0 Z = true) : (Jvm.Cond.initialized "com/example/rowan/rowan/RedBlackTreeMap$Node").before a0 Z = true := hw _ (List.mem_of_getElem? (i := 9) rfl)
theorem wd_10 {Z : State} {a0 : Array Value} (hw : ∀ d ∈ tables_1, d.before a0 Z = true) : (Jvm.Cond.methodLink "com/example/rowan/rowan/NodeSetValuePinLaw" (15 : Nat) ({ cls := "com/example/rowan/rowan/RedBlackTreeMap$Node", name := "<init>", desc := "(Ljava/lang/Object;Ljava/lang/Object;)V" } : Jvm.MethodName)).before a0 Z = true := hw _ (List.mem_of_getElem? (i := 10) rfl)
theorem wd_11 {Z : State} {a0 : Array Value} (hw : ∀ d ∈ tables_1, d.before a0 Z = true) : (Jvm.Cond.instanceMethod ({ cls := "com/example/rowan/rowan/RedBlackTreeMap$Node", name := "<init>", desc := "(Ljava/lang/Object;Ljava/lang/Object;)V" } : Jvm.MethodName)).before a0 Z = true := hw _ (List.mem_of_getElem? (i := 11) rfl)
theorem wd_12 {Z : State} {a0 : Array Value} (hw : ∀ d ∈ tables_1, d.before a0 Z = true) : (Jvm.Cond.code ({ cls := "com/example/rowan/rowan/RedBlackTreeMap$Node", name := "<init>", desc := "(Ljava/lang/Object;Ljava/lang/Object;)V" } : Jvm.MethodName) prog_12_method_1_code (3 : Nat) (Option.none : Option Jvm.ClassFile.FieldType)).before a0 Z = true := hw _ (List.mem_of_getElem? (i := 12) rfl)
theorem wd_13 {Z : State} {a0 : Array Value} (hw : ∀ d ∈ tables_1, d.before a0 Z = true) : (Jvm.Cond.methodLink "com/example/rowan/rowan/RedBlackTreeMap$Node" (1 : Nat) ({ cls := "com/example/rowan/rowan/TreeNode", name := "<init>", desc := "(Ljava/lang/Object;Ljava/lang/Object;)V" } : Jvm.MethodName)).before a0 Z = true := hw _ (List.mem_of_getElem? (i := 13) rfl)
theorem wd_14 {Z : State} {a0 : Array Value} (hw : ∀ d ∈ tables_1, d.before a0 Z = true) : (Jvm.Cond.instanceMethod ({ cls := "com/example/rowan/rowan/TreeNode", name := "<init>", desc := "(Ljava/lang/Object;Ljava/lang/Object;)V" } : Jvm.MethodName)).before a0 Z = true := hw _ (List.mem_of_getElem? (i := 14) rfl)
theorem wd_16 {Z : State} {a0 : Array Value} (hw : ∀ d ∈ tables_1, d.before a0 Z = true) : (Jvm.Cond.initialized "com/example/rowan/rowan/TreeNode").before a0 Z = true := hw _ (List.mem_of_getElem? (i := 16) rfl)
theorem wd_17 {Z : State} {a0 : Array Value} (hw : ∀ d ∈ tables_1, d.before a0 Z = true) : (Jvm.Cond.code ({ cls := "com/example/rowan/rowan/TreeNode", name := "<init>", desc := "(Ljava/lang/Object;Ljava/lang/Object;)V" } : Jvm.MethodName) prog_32_method_1_code (3 : Nat) (Option.none : Option Jvm.ClassFile.FieldType)).before a0 Z = true := hw _ (List.mem_of_getElem? (i := 17) rfl)
theorem wd_18 {Z : State} {a0 : Array Value} (hw : ∀ d ∈ tables_1, d.before a0 Z = true) : (Jvm.Cond.methodLink "com/example/rowan/rowan/TreeNode" (1 : Nat) ({ cls := "java/lang/Object", name := "<init>", desc := "()V" } : Jvm.MethodName)).before a0 Z = true := hw _ (List.mem_of_getElem? (i := 18) rfl)
theorem wd_19 {Z : State} {a0 : Array Value} (hw : ∀ d ∈ tables_1, d.before a0 Z = true) : (Jvm.Cond.instanceMethod ({ cls := "java/lang/Object", name := "<init>", desc := "()V" } : Jvm.MethodName)).before a0 Z = true := hw _ (List.mem_of_getElem? (i := 19) rfl)
theorem wd_20 {Z : State} {a0 : Array Value} (hw : ∀ d ∈ tables_1, d.before a0 Z = true) : (Jvm.Cond.code ({ cls := "java/lang/Object", name := "<init>", desc := "()V" } : Jvm.MethodName) object_method_1_code (1 : Nat) (Option.none : Option Jvm.ClassFile.FieldType)).before a0 Z = true := hw _ (List.mem_of_getElem? (i := 20) rfl)
theorem wd_21 {Z : State} {a0 : Array Value} (hw : ∀ d ∈ tables_1, d.before a0 Z = true) : (Jvm.Cond.fieldLink "com/example/rowan/rowan/TreeNode" (7 : Nat) "com/example/rowan/rowan/TreeNode" "m_red" "Z").before a0 Z = true := hw _ (List.mem_of_getElem? (i := 21) rfl)
theorem wd_22 {Z : State} {a0 : Array Value} (hw : ∀ d ∈ tables_1, d.before a0 Z = true) : (Jvm.Cond.lays "com/example/rowan/rowan/RedBlackTreeMap$Node" "com/example/rowan/rowan/TreeNode" "m_red" "Z").before a0 Z = true := hw _ (List.mem_of_getElem? (i := 22) rfl)
theorem wd_23 {Z : State} {a0 : Array Value} (hw : ∀ d ∈ tables_1, d.before a0 Z = true) : (Jvm.Cond.fieldLink "com/example/rowan/rowan/TreeNode" (13 : Nat) "com/example/rowan/rowan/TreeNode" "m_key" "Ljava/lang/Object;").before a0 Z = true := hw _ (List.mem_of_getElem? (i := 23) rfl)
theorem wd_24 {Z : State} {a0 : Array Value} (hw : ∀ d ∈ tables_1, d.before a0 Z = true) : (Jvm.Cond.laysFinal "com/example/rowan/rowan/RedBlackTreeMap$Node" "com/example/rowan/rowan/TreeNode" "m_key" "Ljava/lang/Object;").before a0 Z = true := hw _ (List.mem_of_getElem? (i := 24) rfl)
theorem wd_25 {Z : State} {a0 : Array Value} (hw : ∀ d ∈ tables_1, d.before a0 Z = true) : (Jvm.Cond.fieldLink "com/example/rowan/rowan/TreeNode" (17 : Nat) "com/example/rowan/rowan/TreeNode" "m_value" "Ljava/lang/Object;").before a0 Z = true := hw _ (List.mem_of_getElem? (i := 25) rfl)
theorem wd_26 {Z : State} {a0 : Array Value} (hw : ∀ d ∈ tables_1, d.before a0 Z = true) : (Jvm.Cond.lays "com/example/rowan/rowan/RedBlackTreeMap$Node" "com/example/rowan/rowan/TreeNode" "m_value" "Ljava/lang/Object;").before a0 Z = true := hw _ (List.mem_of_getElem? (i := 26) rfl)
theorem wd_27 {Z : State} {a0 : Array Value} (hw : ∀ d ∈ tables_1, d.before a0 Z = true) : (Jvm.Cond.methodLink "com/example/rowan/rowan/NodeSetValuePinLaw" (18 : Nat) ({ cls := "com/example/rowan/rowan/RedBlackTreeMap$Node", name := "getValue", desc := "()Ljava/lang/Object;" } : Jvm.MethodName)).before a0 Z = true := hw _ (List.mem_of_getElem? (i := 27) rfl)
theorem wd_28 {Z : State} {a0 : Array Value} (hw : ∀ d ∈ tables_1, d.before a0 Z = true) : (Jvm.Cond.sameMethod "com/example/rowan/rowan/RedBlackTreeMap$Node" "com/example/rowan/rowan/TreeNode" "getValue" "()Ljava/lang/Object;").before a0 Z = true := hw _ (List.mem_of_getElem? (i := 28) rfl)
theorem wd_29 {Z : State} {a0 : Array Value} (hw : ∀ d ∈ tables_1, d.before a0 Z = true) : (Jvm.Cond.declares ({ cls := "com/example/rowan/rowan/TreeNode", name := "getValue", desc := "()Ljava/lang/Object;" } : Jvm.MethodName)).before a0 Z = true := hw _ (List.mem_of_getElem? (i := 29) rfl)
theorem wd_30 {Z : State} {a0 : Array Value} (hw : ∀ d ∈ tables_1, d.before a0 Z = true) : (Jvm.Cond.instanceMethod ({ cls := "com/example/rowan/rowan/TreeNode", name := "getValue", desc := "()Ljava/lang/Object;" } : Jvm.MethodName)).before a0 Z = true := hw _ (List.mem_of_getElem? (i := 30) rfl)
theorem wd_31 {Z : State} {a0 : Array Value} (hw : ∀ d ∈ tables_1, d.before a0 Z = true) : (Jvm.Cond.selects "com/example/rowan/rowan/RedBlackTreeMap$Node" ({ cls := "com/example/rowan/rowan/RedBlackTreeMap$Node", name := "getValue", desc := "()Ljava/lang/Object;" } : Jvm.MethodName) ({ cls := "com/example/rowan/rowan/TreeNode", name := "getValue", desc := "()Ljava/lang/Object;" } : Jvm.MethodName)).before a0 Z = true := hw _ (List.mem_of_getElem? (i := 31) rfl)
theorem wd_32 {Z : State} {a0 : Array Value} (hw : ∀ d ∈ tables_1, d.before a0 Z = true) : (Jvm.Cond.code ({ cls := "com/example/rowan/rowan/TreeNode", name := "getValue", desc := "()Ljava/lang/Object;" } : Jvm.MethodName) prog_32_method_3_code (1 : Nat) (Option.some (Jvm.ClassFile.FieldType.object "java/lang/Object"))).before a0 Z = true := hw _ (List.mem_of_getElem? (i := 32) rfl)
theorem wd_33 {Z : State} {a0 : Array Value} (hw : ∀ d ∈ tables_1, d.before a0 Z = true) : (Jvm.Cond.methodLink "com/example/rowan/rowan/NodeSetValuePinLaw" (22 : Nat) ({ cls := "com/example/rowan/rowan/RedBlackTreeMap$Node", name := "setValue", desc := "(Ljava/lang/Object;)Ljava/lang/Object;" } : Jvm.MethodName)).before a0 Z = true := hw _ (List.mem_of_getElem? (i := 33) rfl)
theorem wd_34 {Z : State} {a0 : Array Value} (hw : ∀ d ∈ tables_1, d.before a0 Z = true) : (Jvm.Cond.declares ({ cls := "com/example/rowan/rowan/RedBlackTreeMap$Node", name := "setValue", desc := "(Ljava/lang/Object;)Ljava/lang/Object;" } : Jvm.MethodName)).before a0 Z = true := hw _ (List.mem_of_getElem? (i := 34) rfl)
theorem wd_35 {Z : State} {a0 : Array Value} (hw : ∀ d ∈ tables_1, d.before a0 Z = true) : (Jvm.Cond.instanceMethod ({ cls := "com/example/rowan/rowan/RedBlackTreeMap$Node", name := "setValue", desc := "(Ljava/lang/Object;)Ljava/lang/Object;" } : Jvm.MethodName)).before a0 Z = true := hw _ (List.mem_of_getElem? (i := 35) rfl)
theorem wd_36 {Z : State} {a0 : Array Value} (hw : ∀ d ∈ tables_1, d.before a0 Z = true) : (Jvm.Cond.selects "com/example/rowan/rowan/RedBlackTreeMap$Node" ({ cls := "com/example/rowan/rowan/RedBlackTreeMap$Node", name := "setValue", desc := "(Ljava/lang/Object;)Ljava/lang/Object;" } : Jvm.MethodName) ({ cls := "com/example/rowan/rowan/RedBlackTreeMap$Node", name := "setValue", desc := "(Ljava/lang/Object;)Ljava/lang/Object;" } : Jvm.MethodName)).before a0 Z = true := hw _ (List.mem_of_getElem? (i := 36) rfl)
theorem wd_37 {Z : State} {a0 : Array Value} (hw : ∀ d ∈ tables_1, d.before a0 Z = true) : (Jvm.Cond.code ({ cls := "com/example/rowan/rowan/RedBlackTreeMap$Node", name := "setValue", desc := "(Ljava/lang/Object;)Ljava/lang/Object;" } : Jvm.MethodName) prog_12_method_2_code (3 : Nat) (Option.some (Jvm.ClassFile.FieldType.object "java/lang/Object"))).before a0 Z = true := hw _ (List.mem_of_getElem? (i := 37) rfl)
theorem wd_38 {Z : State} {a0 : Array Value} (hw : ∀ d ∈ tables_1, d.before a0 Z = true) : (Jvm.Cond.fieldLink "com/example/rowan/rowan/RedBlackTreeMap$Node" (7 : Nat) "com/example/rowan/rowan/RedBlackTreeMap$Node" "m_value" "Ljava/lang/Object;").before a0 Z = true := hw _ (List.mem_of_getElem? (i := 38) rfl)
theorem wd_39 {Z : State} {a0 : Array Value} (hw : ∀ d ∈ tables_1, d.before a0 Z = true) : (Jvm.Cond.sameField "com/example/rowan/rowan/RedBlackTreeMap$Node" "com/example/rowan/rowan/TreeNode" "m_value" "Ljava/lang/Object;").before a0 Z = true := hw _ (List.mem_of_getElem? (i := 39) rfl)
theorem wd_40 {Z : State} {a0 : Array Value} (hw : ∀ d ∈ tables_1, d.before a0 Z = true) : (Jvm.Cond.classLink "com/example/rowan/rowan/NodeSetValuePinLaw" (8 : Nat) "java/lang/Integer").before a0 Z = true := hw _ (List.mem_of_getElem? (i := 40) rfl)
theorem wd_42 {Z : State} {a0 : Array Value} (hw : ∀ d ∈ tables_1, d.before a0 Z = true) : (Jvm.Cond.methodLink "com/example/rowan/rowan/NodeSetValuePinLaw" (26 : Nat) ({ cls := "com/example/rowan/rowan/RedBlackTreeMap$Node", name := "getKey", desc := "()Ljava/lang/Object;" } : Jvm.MethodName)).before a0 Z = true := hw _ (List.mem_of_getElem? (i := 42) rfl)
theorem wd_43 {Z : State} {a0 : Array Value} (hw : ∀ d ∈ tables_1, d.before a0 Z = true) : (Jvm.Cond.sameMethod "com/example/rowan/rowan/RedBlackTreeMap$Node" "com/example/rowan/rowan/TreeNode" "getKey" "()Ljava/lang/Object;").before a0 Z = true := hw _ (List.mem_of_getElem? (i := 43) rfl)
theorem wd_44 {Z : State} {a0 : Array Value} (hw : ∀ d ∈ tables_1, d.before a0 Z = true) : (Jvm.Cond.declares ({ cls := "com/example/rowan/rowan/TreeNode", name := "getKey", desc := "()Ljava/lang/Object;" } : Jvm.MethodName)).before a0 Z = true := hw _ (List.mem_of_getElem? (i := 44) rfl)
theorem wd_45 {Z : State} {a0 : Array Value} (hw : ∀ d ∈ tables_1, d.before a0 Z = true) : (Jvm.Cond.instanceMethod ({ cls := "com/example/rowan/rowan/TreeNode", name := "getKey", desc := "()Ljava/lang/Object;" } : Jvm.MethodName)).before a0 Z = true := hw _ (List.mem_of_getElem? (i := 45) rfl)
theorem wd_46 {Z : State} {a0 : Array Value} (hw : ∀ d ∈ tables_1, d.before a0 Z = true) : (Jvm.Cond.selects "com/example/rowan/rowan/RedBlackTreeMap$Node" ({ cls := "com/example/rowan/rowan/RedBlackTreeMap$Node", name := "getKey", desc := "()Ljava/lang/Object;" } : Jvm.MethodName) ({ cls := "com/example/rowan/rowan/TreeNode", name := "getKey", desc := "()Ljava/lang/Object;" } : Jvm.MethodName)).before a0 Z = true := hw _ (List.mem_of_getElem? (i := 46) rfl)
theorem wd_47 {Z : State} {a0 : Array Value} (hw : ∀ d ∈ tables_1, d.before a0 Z = true) : (Jvm.Cond.code ({ cls := "com/example/rowan/rowan/TreeNode", name := "getKey", desc := "()Ljava/lang/Object;" } : Jvm.MethodName) prog_32_method_2_code (1 : Nat) (Option.some (Jvm.ClassFile.FieldType.object "java/lang/Object"))).before a0 Z = true := hw _ (List.mem_of_getElem? (i := 47) rfl)
theorem wd_48 {Z : State} {a0 : Array Value} (hw : ∀ d ∈ tables_1, d.before a0 Z = true) : (Jvm.Cond.classLink "java/lang/Integer" (1 : Nat) "java/lang/Integer").before a0 Z = true := hw _ (List.mem_of_getElem? (i := 48) rfl)
theorem wd_49 {Z : State} {a0 : Array Value} (hw : ∀ d ∈ tables_1, d.before a0 Z = true) : (Jvm.Cond.instantiable "java/lang/Integer" (1 : Nat)).before a0 Z = true := hw _ (List.mem_of_getElem? (i := 49) rfl)
theorem wd_50 {Z : State} {a0 : Array Value} (hw : ∀ d ∈ tables_1, d.before a0 Z = true) : (Jvm.Cond.methodLink "java/lang/Integer" (199 : Nat) ({ cls := "java/lang/Integer", name := "<init>", desc := "(I)V" } : Jvm.MethodName)).before a0 Z = true := hw _ (List.mem_of_getElem? (i := 50) rfl)
theorem wd_51 {Z : State} {a0 : Array Value} (hw : ∀ d ∈ tables_1, d.before a0 Z = true) : (Jvm.Cond.instanceMethod ({ cls := "java/lang/Integer", name := "<init>", desc := "(I)V" } : Jvm.MethodName)).before a0 Z = true := hw _ (List.mem_of_getElem? (i := 51) rfl)
theorem wd_52 {Z : State} {a0 : Array Value} (hw : ∀ d ∈ tables_1, d.before a0 Z = true) : (Jvm.Cond.code ({ cls := "java/lang/Integer", name := "<init>", desc := "(I)V" } : Jvm.MethodName) jdk_33_method_23_code (2 : Nat) (Option.none : Option Jvm.ClassFile.FieldType)).before a0 Z = true := hw _ (List.mem_of_getElem? (i := 52) rfl)
theorem wd_53 {Z : State} {a0 : Array Value} (hw : ∀ d ∈ tables_1, d.before a0 Z = true) : (Jvm.Cond.methodLink "java/lang/Integer" (202 : Nat) ({ cls := "java/lang/Number", name := "<init>", desc := "()V" } : Jvm.MethodName)).before a0 Z = true := hw _ (List.mem_of_getElem? (i := 53) rfl)
theorem wd_54 {Z : State} {a0 : Array Value} (hw : ∀ d ∈ tables_1, d.before a0 Z = true) : (Jvm.Cond.instanceMethod ({ cls := "java/lang/Number", name := "<init>", desc := "()V" } : Jvm.MethodName)).before a0 Z = true := hw _ (List.mem_of_getElem? (i := 54) rfl)
theorem wd_57 {Z : State} {a0 : Array Value} (hw : ∀ d ∈ tables_1, d.before a0 Z = true) : (Jvm.Cond.initialized "java/lang/Number").before a0 Z = true := hw _ (List.mem_of_getElem? (i := 57) rfl)
theorem wd_58 {Z : State} {a0 : Array Value} (hw : ∀ d ∈ tables_1, d.before a0 Z = true) : (Jvm.Cond.code ({ cls := "java/lang/Number", name := "<init>", desc := "()V" } : Jvm.MethodName) jdk_18_method_1_code (1 : Nat) (Option.none : Option Jvm.ClassFile.FieldType)).before a0 Z = true := hw _ (List.mem_of_getElem? (i := 58) rfl)
theorem wd_59 {Z : State} {a0 : Array Value} (hw : ∀ d ∈ tables_1, d.before a0 Z = true) : (Jvm.Cond.methodLink "java/lang/Number" (1 : Nat) ({ cls := "java/lang/Object", name := "<init>", desc := "()V" } : Jvm.MethodName)).before a0 Z = true := hw _ (List.mem_of_getElem? (i := 59) rfl)
theorem wd_60 {Z : State} {a0 : Array Value} (hw : ∀ d ∈ tables_1, d.before a0 Z = true) : (Jvm.Cond.fieldLink "java/lang/Integer" (205 : Nat) "java/lang/Integer" "value" "I").before a0 Z = true := hw _ (List.mem_of_getElem? (i := 60) rfl)
theorem wd_61 {Z : State} {a0 : Array Value} (hw : ∀ d ∈ tables_1, d.before a0 Z = true) : (Jvm.Cond.laysFinal "java/lang/Integer" "java/lang/Integer" "value" "I").before a0 Z = true := hw _ (List.mem_of_getElem? (i := 61) rfl)
theorem pd_0 : parseMethodDescriptor "()V" = some ⟨[], none⟩ := by decide +kernel
theorem pd_1 : parseMethodDescriptor "(I)V" = some ⟨[.int], none⟩ := by decide +kernel
theorem pd_2 : parseMethodDescriptor "(Ljava/lang/Object;Ljava/lang/Object;)V" = some ⟨[(.object "java/lang/Object"), (.object "java/lang/Object")], none⟩ := by decide +kernel
theorem pd_3 : parseMethodDescriptor "(I)Ljava/lang/Integer;" = some ⟨[.int], some (.object "java/lang/Integer")⟩ := by decide +kernel
theorem pd_4 : parseMethodDescriptor "()Ljava/lang/Object;" = some ⟨[], some (.object "java/lang/Object")⟩ := by decide +kernel
theorem pd_5 : parseMethodDescriptor "(Ljava/lang/Object;)Ljava/lang/Object;" = some ⟨[(.object "java/lang/Object")], some (.object "java/lang/Object")⟩ := by decide +kernel
theorem d_ninit_0 : decode jdk_18_method_1_code 0 = .ok (.aload_n 0, 1) := by decide +kernel
theorem d_ninit_1 : decode jdk_18_method_1_code 1 = .ok (.invokespecial 1, 3) := by decide +kernel
theorem d_ninit_4 : decode jdk_18_method_1_code 4 = .ok (.return_, 1) := by decide +kernel
abbrev R_ninit : Room := ({ frames := 1, cells := 0, slots := 0, locals := 12 } : Room)
abbrev GM_ninit (l : Launch) (Z : State) (n0 : Nat) (Q : Option Value → Heap → Prop) (h : Heap) (cells slots pc : Nat) (Ls : Array Slot) (st : List Value) : Prop := Go l Z n0 R_ninit "java/lang/Number" "<init>" jdk_18_method_1_code 1 none IN (FN n0 R_ninit Q) h cells slots pc Ls st
theorem pf_ninit : plainFor (⟨"java/lang/Number", "<init>", "()V"⟩ : MethodName) = true := plainFor_of_name (by first | (simp [plainName, overriddenIn]; done) | decide +kernel)
theorem ct_ninit (l : Launch) (Z : State) (a0 : Array Value) (hw : ∀ d ∈ tables_1, d.before a0 Z = true) (n0 : Nat) (a : Addr) (h0 : Heap) :
    Ct l Z n0 "java/lang/Number" "<init>" "()V" [] jdk_18_method_1_code 1 none R_ninit #[.ref a] h0 (fun v h => v = none ∧ h0 = h) := by
  refine Ct.of_go pf_ninit (Ls := #[.val (.ref a)]) (fun m => by first | rfl | (simp [entryFrame, mkF, argsToLocals, Value.category]; done)) ?_
  show GM_ninit l Z n0 (fun v h => v = none ∧ h0 = h) h0 0 0 0 #[.val (.ref a)] []
  refine Go.aloadN d_ninit_0 rfl rfl ?_
  refine Go.initO (wd_59 hw) (wd_19 hw) (wd_20 hw) d_ninit_1 rfl (by decide) (Nat.le_of_ble_eq_true rfl) ?_
  -- at pc 4: pc 4: return .return_ stack []
  exact Go.return_ d_ninit_4 rfl (by decide) (by decide) ⟨rfl, rfl⟩
theorem d_iinit_0 : decode jdk_33_method_23_code 0 = .ok (.aload_n 0, 1) := by decide +kernel
theorem d_iinit_1 : decode jdk_33_method_23_code 1 = .ok (.invokespecial 202, 3) := by decide +kernel
theorem d_iinit_4 : decode jdk_33_method_23_code 4 = .ok (.aload_n 0, 1) := by decide +kernel
theorem d_iinit_5 : decode jdk_33_method_23_code 5 = .ok (.iload_n 1, 1) := by decide +kernel
theorem d_iinit_6 : decode jdk_33_method_23_code 6 = .ok (.putfield 205, 3) := by decide +kernel
theorem d_iinit_9 : decode jdk_33_method_23_code 9 = .ok (.return_, 1) := by decide +kernel
abbrev R_iinit : Room := ({ frames := 2, cells := 0, slots := 0, locals := 24 } : Room)
abbrev GM_iinit (l : Launch) (Z : State) (n0 : Nat) (Q : Option Value → Heap → Prop) (h : Heap) (cells slots pc : Nat) (Ls : Array Slot) (st : List Value) : Prop := Go l Z n0 R_iinit "java/lang/Integer" "<init>" jdk_33_method_23_code 2 none IN (FN n0 R_iinit Q) h cells slots pc Ls st
theorem pf_iinit : plainFor (⟨"java/lang/Integer", "<init>", "(I)V"⟩ : MethodName) = true := plainFor_of_name (by first | (simp [plainName, overriddenIn]; done) | decide +kernel)
theorem ct_iinit (l : Launch) (Z : State) (a0 : Array Value) (hw : ∀ d ∈ tables_1, d.before a0 Z = true) (n0 : Nat) (a : Addr) (p : Int32) (h0 : Heap) (g_a : n0 ≤ a) (E_a : Exa Z h0 a "java/lang/Integer") (F_a : Fld Z h0 a "java/lang/Integer" "value" "I" (.int (0 : Int32))) :
    Ct l Z n0 "java/lang/Integer" "<init>" "(I)V" [] jdk_33_method_23_code 2 none R_iinit #[.ref a, .int p] h0 (fun v h => v = none ∧ Keep h0 h [a]) := by
  refine Ct.of_go pf_iinit (Ls := #[.val (.ref a), .val (.int p)]) (fun m => by first | rfl | (simp [entryFrame, mkF, argsToLocals, Value.category]; done)) ?_
  show GM_iinit l Z n0 (fun v h => v = none ∧ Keep h0 h [a]) h0 0 0 0 #[.val (.ref a), .val (.int p)] []
  refine Go.aloadN d_iinit_0 rfl rfl ?_
  -- at pc 1: pc 1: invokespecial .invokespecial 202 stack [(.ref a)]
  refine Go.callI (I' := IN) (hI := nQ) a [] [] (ct_ninit l Z a0 hw n0 a h0) (wd_53 hw) (wd_54 hw) (wd_57 hw) (wd_58 hw) (by decide) pd_0 rfl rfl rfl (Nat.le_of_ble_eq_true rfl) (Nat.le_of_ble_eq_true rfl) (Nat.le_of_ble_eq_true rfl) (Nat.le_of_ble_eq_true rfl) d_iinit_1 ?_
  rintro _ _ ⟨rfl, rfl⟩
  show GM_iinit l Z n0 (fun v h => v = none ∧ Keep h0 h [a]) h0 0 0 4 #[.val (.ref a), .val (.int p)] []
  refine Go.aloadN d_iinit_4 rfl rfl ?_
  refine Go.iloadN d_iinit_5 rfl ?_
  refine Go.putF (I' := IN) (hI := nI) (wd_60 hw) Via.refl F_a E_a (Or.inr ⟨(wd_61 hw), rfl, rfl⟩) (wd_49 hw) (ty := .int) (by decide) rfl rfl g_a d_iinit_6 fun hp2 W2 => ?_
  have K2 := Keep.of_wr W2
  replace F_a := F_a.same W2
  replace E_a := E_a.keep K2
  -- at pc 9: pc 9: return .return_ stack []
  exact Go.return_ d_iinit_9 rfl (by decide) (by decide) ⟨rfl, K2⟩
theorem d_vof_0 : decode jdk_33_method_22_code 0 = .ok (.iload_n 0, 1) := by decide +kernel
theorem d_vof_1 : decode jdk_33_method_22_code 1 = .ok (.bipush (-128), 2) := by decide +kernel
theorem d_vof_3 : decode jdk_33_method_22_code 3 = .ok (.if_icmp .lt 20, 3) := by decide +kernel
theorem d_vof_6 : decode jdk_33_method_22_code 6 = .ok (.iload_n 0, 1) := by decide +kernel
theorem d_vof_7 : decode jdk_33_method_22_code 7 = .ok (.getstatic 191, 3) := by decide +kernel
theorem d_vof_10 : decode jdk_33_method_22_code 10 = .ok (.if_icmp .gt 13, 3) := by decide +kernel
theorem d_vof_13 : decode jdk_33_method_22_code 13 = .ok (.getstatic 195, 3) := by decide +kernel
theorem d_vof_16 : decode jdk_33_method_22_code 16 = .ok (.iload_n 0, 1) := by decide +kernel
theorem d_vof_17 : decode jdk_33_method_22_code 17 = .ok (.sipush 128, 3) := by decide +kernel
theorem d_vof_20 : decode jdk_33_method_22_code 20 = .ok (.iadd, 1) := by decide +kernel
theorem d_vof_21 : decode jdk_33_method_22_code 21 = .ok (.aaload, 1) := by decide +kernel
theorem d_vof_22 : decode jdk_33_method_22_code 22 = .ok (.areturn, 1) := by decide +kernel
theorem d_vof_23 : decode jdk_33_method_22_code 23 = .ok (.new 1, 3) := by decide +kernel
theorem d_vof_26 : decode jdk_33_method_22_code 26 = .ok (.dup, 1) := by decide +kernel
theorem d_vof_27 : decode jdk_33_method_22_code 27 = .ok (.iload_n 0, 1) := by decide +kernel
theorem d_vof_28 : decode jdk_33_method_22_code 28 = .ok (.invokespecial 199, 3) := by decide +kernel
theorem d_vof_31 : decode jdk_33_method_22_code 31 = .ok (.areturn, 1) := by decide +kernel
abbrev R_vof : Room := ({ frames := 3, cells := 1, slots := 1, locals := 38 } : Room)
abbrev GM_vof (l : Launch) (Z : State) (n0 : Nat) (Q : Option Value → Heap → Prop) (h : Heap) (cells slots pc : Nat) (Ls : Array Slot) (st : List Value) : Prop := Go l Z n0 R_vof "java/lang/Integer" "valueOf" jdk_33_method_22_code 1 (some (.object "java/lang/Integer")) IN (FN n0 R_vof Q) h cells slots pc Ls st
theorem pf_vof : plainFor (⟨"java/lang/Integer", "valueOf", "(I)Ljava/lang/Integer;"⟩ : MethodName) = true := plainFor_of_name (by first | (simp [plainName, overriddenIn]; done) | decide +kernel)
theorem own_in {p : Int32} (h1 : ¬ p < -128) (h2 : ¬ (127 : Int32) < p) : ¬ (p + 128 < 0 ∨ (256 : Int32).toNatClampNeg ≤ (p + 128).toNatClampNeg) := by
  rw [Int32.lt_iff_toInt_lt] at *
  have e1 : (-128 : Int32).toInt = -128 := rfl
  have e2 : (127 : Int32).toInt = 127 := rfl
  have e3 : (128 : Int32).toInt = 128 := rfl
  have e4 : (0 : Int32).toInt = 0 := rfl
  have e5 : (256 : Int32).toNatClampNeg = 256 := rfl
  have c := c_iadd p 128
  have r := rng32 (p + 128)
  have : (p + 128).toInt = p.toInt + 128 := by omega
  rw [this, e4, e5, Int32.toNatClampNeg, this]
  omega
theorem ct_vof (l : Launch) (Z : State) (a0 : Array Value) (hw : ∀ d ∈ tables_1, d.before a0 Z = true) (n0 : Nat) (p : Int32) (h0 : Heap) (ca : Addr) (cl : Cell) (fv0 : Int32 → Value) (hz : n0 ≤ h0.size) (O : Old Z n0 h0) (S_high : Sta Z Z.heap "java/lang/Integer$IntegerCache" "high" "I" (.int 127)) (S_cache : Sta Z Z.heap "java/lang/Integer$IntegerCache" "cache" "[Ljava/lang/Integer;" (.ref ca)) (Bx : Bxs Z ca cl "java/lang/Integer" "I" 256 fv0) :
    Ct l Z n0 "java/lang/Integer" "valueOf" "(I)Ljava/lang/Integer;" [] jdk_33_method_22_code 1 (some (.object "java/lang/Integer")) R_vof #[.int p] h0 (fun v h => ∃ b, v = some (.ref b) ∧ Exa Z h b "java/lang/Integer" ∧ Keep h0 h []) := by
  refine Ct.of_go pf_vof (Ls := #[.val (.int p)]) (fun m => by first | rfl | (simp [entryFrame, mkF, argsToLocals, Value.category]; done)) ?_
  show GM_vof l Z n0 (fun v h => ∃ b, v = some (.ref b) ∧ Exa Z h b "java/lang/Integer" ∧ Keep h0 h []) h0 0 0 0 #[.val (.int p)] []
  have KK : Keep h0 h0 [] := Keep.refl _ _
  have j23 : GM_vof l Z n0 (fun v h => ∃ b, v = some (.ref b) ∧ Exa Z h b "java/lang/Integer" ∧ Keep h0 h []) h0 0 0 23 #[.val (.int p)] [] := by
    refine Go.new (I' := IN) (hI := nE) (wd_48 hw) (wd_49 hw) (wd_2 hw) d_vof_23 (by decide) (by decide) fun hp3 b e_b X3 E_b D3 => ?_
    have K3 : Keep h0 hp3 [] := (Keep.refl _ _).ext X3
    have g_b : n0 ≤ b := e_b ▸ hz
    have s_b : h0.size ≤ b := e_b ▸ KK.1
    replace O := O.keep K3 (all0)
    have F_b_value : Fld Z hp3 b "java/lang/Integer" "value" "I" (.int (0 : Int32)) := D3 (Or.inr (wd_61 hw)) (ty := .int) (by decide)
    replace hz : n0 ≤ hp3.size := Nat.le_trans hz K3.1
    replace KK : Keep h0 hp3 [] := KK.trans K3 (all0)
    refine Go.dup d_vof_26 rfl ?_
    refine Go.iloadN d_vof_27 rfl ?_
    -- at pc 28: pc 28: invokespecial .invokespecial 199 stack [(.int p), (.ref b), (.ref b)]
    refine Go.callI (I' := IN) (hI := nQ) b [(.int p)] [(.ref b)] (ct_iinit l Z a0 hw n0 b p _ g_b E_b F_b_value) (wd_50 hw) (wd_51 hw) (wd_2 hw) (wd_52 hw) (by decide) pd_1 rfl rfl rfl (Nat.le_of_ble_eq_true rfl) (Nat.le_of_ble_eq_true rfl) (Nat.le_of_ble_eq_true rfl) (Nat.le_of_ble_eq_true rfl) d_vof_28 ?_
    rintro _ hp4 ⟨rfl, K4⟩
    replace O := O.keep K4 (allS g_b (all0))
    replace E_b := E_b.keep K4
    replace hz : n0 ≤ hp4.size := Nat.le_trans hz K4.1
    replace KK : Keep h0 hp4 [] := KK.trans K4 (allS (Or.inr s_b) (all0))
    show GM_vof l Z n0 (fun v h => ∃ b, v = some (.ref b) ∧ Exa Z h b "java/lang/Integer" ∧ Keep h0 h []) hp4 1 1 31 #[.val (.int p)] [(.ref b)]
    -- at pc 31: pc 31: areturn .areturn stack [(.ref b)]
    exact Go.areturn d_vof_31 rfl rfl rfl (by decide) (by decide) ⟨b, rfl, E_b, KK⟩
  refine Go.iloadN d_vof_0 rfl ?_
  refine Go.bipush (-128) d_vof_1 rfl ?_
  -- at pc 3: pc 3: if_icmp .if_icmp .lt 20 stack [(.int (-128 : Int32)), (.int p)]
  by_cases hlo : p < (-128 : Int32)
  · refine Go.icT 23 d_vof_3 (tlt hlo).1 (by decide) (by decide) ?_
    exact j23
  · refine Go.icF d_vof_3 (flt hlo).1 ?_
    refine Go.iloadN d_vof_6 rfl ?_
    refine Go.getS (wd_4 hw) Via.refl (S_high.ext O.2) d_vof_7 ?_
    -- at pc 10: pc 10: if_icmp .if_icmp .gt 13 stack [(.int (127 : Int32)), (.int p)]
    by_cases hhi : (127 : Int32) < p
    · refine Go.icT 23 d_vof_10 (tlt hhi).2.2.1 (by decide) (by decide) ?_
      exact j23
    · refine Go.icF d_vof_10 (flt hhi).2.2.1 ?_
      refine Go.getS (wd_6 hw) Via.refl (S_cache.ext O.2) d_vof_13 ?_
      refine Go.iloadN d_vof_16 rfl ?_
      refine Go.sipush 128 d_vof_17 rfl ?_
      refine Go.iadd d_vof_20 ?_
      -- at pc 21: pc 21: aaload of ca: no Arv fact
      have hin := own_in hlo hhi
      rw [← Bx.2.1] at hin
      obtain ⟨b, hb1, E_b, -⟩ := Bx.2.2.2 _ hin
      refine Go.aaloadC (.ref b) (Bx.ext O.2).1 rfl hin hb1 d_vof_21 ?_
      exact Go.areturn d_vof_22 rfl rfl rfl (by decide) (by decide) ⟨b, rfl, E_b.ext O.2, KK⟩
theorem d_tinit_0 : decode prog_32_method_1_code 0 = .ok (.aload_n 0, 1) := by decide +kernel
theorem d_tinit_1 : decode prog_32_method_1_code 1 = .ok (.invokespecial 1, 3) := by decide +kernel
theorem d_tinit_4 : decode prog_32_method_1_code 4 = .ok (.aload_n 0, 1) := by decide +kernel
theorem d_tinit_5 : decode prog_32_method_1_code 5 = .ok (.iconst 1, 1) := by decide +kernel
theorem d_tinit_6 : decode prog_32_method_1_code 6 = .ok (.putfield 7, 3) := by decide +kernel
theorem d_tinit_9 : decode prog_32_method_1_code 9 = .ok (.aload_n 0, 1) := by decide +kernel
theorem d_tinit_10 : decode prog_32_method_1_code 10 = .ok (.aload_n 1, 1) := by decide +kernel
theorem d_tinit_11 : decode prog_32_method_1_code 11 = .ok (.putfield 13, 3) := by decide +kernel
theorem d_tinit_14 : decode prog_32_method_1_code 14 = .ok (.aload_n 0, 1) := by decide +kernel
theorem d_tinit_15 : decode prog_32_method_1_code 15 = .ok (.aload_n 2, 1) := by decide +kernel
theorem d_tinit_16 : decode prog_32_method_1_code 16 = .ok (.putfield 17, 3) := by decide +kernel
theorem d_tinit_19 : decode prog_32_method_1_code 19 = .ok (.return_, 1) := by decide +kernel
abbrev R_tinit : Room := ({ frames := 1, cells := 0, slots := 0, locals := 12 } : Room)
abbrev GM_tinit (l : Launch) (Z : State) (n0 : Nat) (Q : Option Value → Heap → Prop) (h : Heap) (cells slots pc : Nat) (Ls : Array Slot) (st : List Value) : Prop := Go l Z n0 R_tinit "com/example/rowan/rowan/TreeNode" "<init>" prog_32_method_1_code 3 none IN (FN n0 R_tinit Q) h cells slots pc Ls st
theorem pf_tinit : plainFor (⟨"com/example/rowan/rowan/TreeNode", "<init>", "(Ljava/lang/Object;Ljava/lang/Object;)V"⟩ : MethodName) = true := plainFor_of_name (by first | (simp [plainName, overriddenIn]; done) | decide +kernel)
theorem ct_tinit (l : Launch) (Z : State) (a0 : Array Value) (hw : ∀ d ∈ tables_1, d.before a0 Z = true) (n0 : Nat) (a : Addr) (vk vv : Value) (hk : vk.isRef = true) (hv : vv.isRef = true) (h0 : Heap) (g_a : n0 ≤ a) (E_a : Exa Z h0 a "com/example/rowan/rowan/RedBlackTreeMap$Node") (F_a_m_red : Fld Z h0 a "com/example/rowan/rowan/TreeNode" "m_red" "Z" (.int (0 : Int32))) (F_a_m_key : Fld Z h0 a "com/example/rowan/rowan/TreeNode" "m_key" "Ljava/lang/Object;" .null) (F_a_m_value : Fld Z h0 a "com/example/rowan/rowan/TreeNode" "m_value" "Ljava/lang/Object;" .null) :
    Ct l Z n0 "com/example/rowan/rowan/TreeNode" "<init>" "(Ljava/lang/Object;Ljava/lang/Object;)V" [] prog_32_method_1_code 3 none R_tinit #[.ref a, vk, vv] h0 (fun v h => v = none ∧ Keep h0 h [a] ∧ Fld Z h a "com/example/rowan/rowan/TreeNode" "m_key" "Ljava/lang/Object;" vk ∧ Fld Z h a "com/example/rowan/rowan/TreeNode" "m_value" "Ljava/lang/Object;" vv) := by
  refine Ct.of_go pf_tinit (Ls := #[.val (.ref a), .val vk, .val vv]) (fun m => by rcases ref_cases hk with rfl | ⟨_, rfl⟩ <;> rcases ref_cases hv with rfl | ⟨_, rfl⟩ <;> rfl) ?_
  show GM_tinit l Z n0 (fun v h => v = none ∧ Keep h0 h [a] ∧ Fld Z h a "com/example/rowan/rowan/TreeNode" "m_key" "Ljava/lang/Object;" vk ∧ Fld Z h a "com/example/rowan/rowan/TreeNode" "m_value" "Ljava/lang/Object;" vv) h0 0 0 0 #[.val (.ref a), .val vk, .val vv] []
  have KK : Keep h0 h0 [a] := Keep.refl _ _
  refine Go.aloadN d_tinit_0 rfl rfl ?_
  refine Go.initO (wd_18 hw) (wd_19 hw) (wd_20 hw) d_tinit_1 rfl (by decide) (Nat.le_of_ble_eq_true rfl) ?_
  refine Go.aloadN d_tinit_4 rfl rfl ?_
  refine Go.iconst 1 d_tinit_5 rfl ?_
  refine Go.putFN (I' := IN) (hI := nI) (v' := (.int (1 : Int32))) (wd_21 hw) Via.refl F_a_m_red E_a (Or.inl (wd_22 hw)) (wd_8 hw) (ty := .boolean) (by decide) rfl rfl g_a d_tinit_6 fun hp5 W5 => ?_
  have K5 := Keep.of_wr W5
  replace F_a_m_red := F_a_m_red.same W5
  replace F_a_m_key := F_a_m_key.other W5 (Or.inr (slot_ne (Or.inr (wd_24 hw)) (Or.inl (wd_22 hw)) (by decide) (t := (.object "java/lang/Object")) (t' := .boolean) (by decide) (by decide)))
  replace F_a_m_value := F_a_m_value.other W5 (Or.inr (slot_ne (Or.inl (wd_26 hw)) (Or.inl (wd_22 hw)) (by decide) (t := (.object "java/lang/Object")) (t' := .boolean) (by decide) (by decide)))
  replace E_a := E_a.keep K5
  replace KK : Keep h0 hp5 [a] := KK.trans K5 (allS (Or.inl (by simp)) (all0))
  refine Go.aloadN d_tinit_9 rfl rfl ?_
  refine Go.aloadN d_tinit_10 rfl hk ?_
  refine Go.putF (I' := IN) (hI := nI) (wd_23 hw) Via.refl F_a_m_key E_a (Or.inr ⟨(wd_24 hw), rfl, rfl⟩) (wd_8 hw) (ty := (.object "java/lang/Object")) (by decide) rfl (fits_ref' hk) g_a d_tinit_11 fun hp6 W6 => ?_
  have K6 := Keep.of_wr W6
  replace F_a_m_red := F_a_m_red.other W6 (Or.inr (slot_ne (Or.inl (wd_22 hw)) (Or.inr (wd_24 hw)) (by decide) (t := .boolean) (t' := (.object "java/lang/Object")) (by decide) (by decide)))
  replace F_a_m_key := F_a_m_key.same W6
  replace F_a_m_value := F_a_m_value.other W6 (Or.inr (slot_ne (Or.inl (wd_26 hw)) (Or.inr (wd_24 hw)) (by decide) (t := (.object "java/lang/Object")) (t' := (.object "java/lang/Object")) (by decide) (by decide)))
  replace E_a := E_a.keep K6
  replace KK : Keep h0 hp6 [a] := KK.trans K6 (allS (Or.inl (by simp)) (all0))
  refine Go.aloadN d_tinit_14 rfl rfl ?_
  refine Go.aloadN d_tinit_15 rfl hv ?_
  refine Go.putF (I' := IN) (hI := nI) (wd_25 hw) Via.refl F_a_m_value E_a (Or.inl (wd_26 hw)) (wd_8 hw) (ty := (.object "java/lang/Object")) (by decide) rfl (fits_ref' hv) g_a d_tinit_16 fun hp7 W7 => ?_
  have K7 := Keep.of_wr W7
  replace F_a_m_red := F_a_m_red.other W7 (Or.inr (slot_ne (Or.inl (wd_22 hw)) (Or.inl (wd_26 hw)) (by decide) (t := .boolean) (t' := (.object "java/lang/Object")) (by decide) (by decide)))
  replace F_a_m_key := F_a_m_key.other W7 (Or.inr (slot_ne (Or.inr (wd_24 hw)) (Or.inl (wd_26 hw)) (by decide) (t := (.object "java/lang/Object")) (t' := (.object "java/lang/Object")) (by decide) (by decide)))
  replace F_a_m_value := F_a_m_value.same W7
  replace E_a := E_a.keep K7
  replace KK : Keep h0 hp7 [a] := KK.trans K7 (allS (Or.inl (by simp)) (all0))
  -- at pc 19: pc 19: return .return_ stack []
  exact Go.return_ d_tinit_19 rfl (by decide) (by decide) ⟨rfl, KK, F_a_m_key, F_a_m_value⟩
theorem d_nodeinit_0 : decode prog_12_method_1_code 0 = .ok (.aload_n 0, 1) := by decide +kernel
theorem d_nodeinit_1 : decode prog_12_method_1_code 1 = .ok (.aload_n 1, 1) := by decide +kernel
theorem d_nodeinit_2 : decode prog_12_method_1_code 2 = .ok (.aload_n 2, 1) := by decide +kernel
theorem d_nodeinit_3 : decode prog_12_method_1_code 3 = .ok (.invokespecial 1, 3) := by decide +kernel
theorem d_nodeinit_6 : decode prog_12_method_1_code 6 = .ok (.return_, 1) := by decide +kernel
abbrev R_nodeinit : Room := ({ frames := 2, cells := 0, slots := 0, locals := 26 } : Room)
abbrev GM_nodeinit (l : Launch) (Z : State) (n0 : Nat) (Q : Option Value → Heap → Prop) (h : Heap) (cells slots pc : Nat) (Ls : Array Slot) (st : List Value) : Prop := Go l Z n0 R_nodeinit "com/example/rowan/rowan/RedBlackTreeMap$Node" "<init>" prog_12_method_1_code 3 none IN (FN n0 R_nodeinit Q) h cells slots pc Ls st
theorem pf_nodeinit : plainFor (⟨"com/example/rowan/rowan/RedBlackTreeMap$Node", "<init>", "(Ljava/lang/Object;Ljava/lang/Object;)V"⟩ : MethodName) = true := plainFor_of_name (by first | (simp [plainName, overriddenIn]; done) | decide +kernel)
theorem ct_nodeinit (l : Launch) (Z : State) (a0 : Array Value) (hw : ∀ d ∈ tables_1, d.before a0 Z = true) (n0 : Nat) (a : Addr) (vk vv : Value) (hk : vk.isRef = true) (hv : vv.isRef = true) (h0 : Heap) (g_a : n0 ≤ a) (E_a : Exa Z h0 a "com/example/rowan/rowan/RedBlackTreeMap$Node") (F_a_m_red : Fld Z h0 a "com/example/rowan/rowan/TreeNode" "m_red" "Z" (.int (0 : Int32))) (F_a_m_key : Fld Z h0 a "com/example/rowan/rowan/TreeNode" "m_key" "Ljava/lang/Object;" .null) (F_a_m_value : Fld Z h0 a "com/example/rowan/rowan/TreeNode" "m_value" "Ljava/lang/Object;" .null) :
    Ct l Z n0 "com/example/rowan/rowan/RedBlackTreeMap$Node" "<init>" "(Ljava/lang/Object;Ljava/lang/Object;)V" [] prog_12_method_1_code 3 none R_nodeinit #[.ref a, vk, vv] h0 (fun v h => v = none ∧ Keep h0 h [a] ∧ Fld Z h a "com/example/rowan/rowan/TreeNode" "m_key" "Ljava/lang/Object;" vk ∧ Fld Z h a "com/example/rowan/rowan/TreeNode" "m_value" "Ljava/lang/Object;" vv) := by
  refine Ct.of_go pf_nodeinit (Ls := #[.val (.ref a), .val vk, .val vv]) (fun m => by rcases ref_cases hk with rfl | ⟨_, rfl⟩ <;> rcases ref_cases hv with rfl | ⟨_, rfl⟩ <;> rfl) ?_
  show GM_nodeinit l Z n0 (fun v h => v = none ∧ Keep h0 h [a] ∧ Fld Z h a "com/example/rowan/rowan/TreeNode" "m_key" "Ljava/lang/Object;" vk ∧ Fld Z h a "com/example/rowan/rowan/TreeNode" "m_value" "Ljava/lang/Object;" vv) h0 0 0 0 #[.val (.ref a), .val vk, .val vv] []
  refine Go.aloadN d_nodeinit_0 rfl rfl ?_
  refine Go.aloadN d_nodeinit_1 rfl hk ?_
  refine Go.aloadN d_nodeinit_2 rfl hv ?_
  -- at pc 3: pc 3: invokespecial .invokespecial 1 stack [vv, vk, (.ref a)]
  refine Go.callI (I' := IN) (hI := nQ) a [vk, vv] [] (ct_tinit l Z a0 hw n0 a vk vv hk hv h0 g_a E_a F_a_m_red F_a_m_key F_a_m_value) (wd_13 hw) (wd_14 hw) (wd_16 hw) (wd_17 hw) (by decide) pd_2 rfl rfl rfl (Nat.le_of_ble_eq_true rfl) (Nat.le_of_ble_eq_true rfl) (Nat.le_of_ble_eq_true rfl) (Nat.le_of_ble_eq_true rfl) d_nodeinit_3 ?_
  rintro _ hp8 ⟨rfl, K8, Fk, Fv⟩
  show GM_nodeinit l Z n0 (fun v h => v = none ∧ Keep h0 h [a] ∧ Fld Z h a "com/example/rowan/rowan/TreeNode" "m_key" "Ljava/lang/Object;" vk ∧ Fld Z h a "com/example/rowan/rowan/TreeNode" "m_value" "Ljava/lang/Object;" vv) hp8 0 0 6 #[.val (.ref a), .val vk, .val vv] []
  -- at pc 6: pc 6: return .return_ stack []
  exact Go.return_ d_nodeinit_6 rfl (by decide) (by decide) ⟨rfl, by assumption, Fk, Fv⟩
theorem d_getv_0 : decode prog_32_method_3_code 0 = .ok (.aload_n 0, 1) := by decide +kernel
theorem d_getv_1 : decode prog_32_method_3_code 1 = .ok (.getfield 17, 3) := by decide +kernel
theorem d_getv_4 : decode prog_32_method_3_code 4 = .ok (.areturn, 1) := by decide +kernel
abbrev R_getv : Room := ({ frames := 0, cells := 0, slots := 0, locals := 0 } : Room)
abbrev GM_getv (l : Launch) (Z : State) (n0 : Nat) (Q : Option Value → Heap → Prop) (h : Heap) (cells slots pc : Nat) (Ls : Array Slot) (st : List Value) : Prop := Go l Z n0 R_getv "com/example/rowan/rowan/TreeNode" "getValue" prog_32_method_3_code 1 (some (.object "java/lang/Object")) IN (FN n0 R_getv Q) h cells slots pc Ls st
theorem pf_getv : plainFor (⟨"com/example/rowan/rowan/TreeNode", "getValue", "()Ljava/lang/Object;"⟩ : MethodName) = true := plainFor_of_name (by first | (simp [plainName, overriddenIn]; done) | decide +kernel)
theorem ct_getv (l : Launch) (Z : State) (a0 : Array Value) (hw : ∀ d ∈ tables_1, d.before a0 Z = true) (n0 : Nat) (a : Addr) (vv : Value) (hv : vv.isRef = true) (h0 : Heap) (F : Fld Z h0 a "com/example/rowan/rowan/TreeNode" "m_value" "Ljava/lang/Object;" vv) :
    Ct l Z n0 "com/example/rowan/rowan/TreeNode" "getValue" "()Ljava/lang/Object;" [] prog_32_method_3_code 1 (some (.object "java/lang/Object")) R_getv #[.ref a] h0 (fun v h => v = some vv ∧ h0 = h) := by
  refine Ct.of_go pf_getv (Ls := #[.val (.ref a)]) (fun m => by first | rfl | (simp [entryFrame, mkF, argsToLocals, Value.category]; done)) ?_
  show GM_getv l Z n0 (fun v h => v = some vv ∧ h0 = h) h0 0 0 0 #[.val (.ref a)] []
  refine Go.aloadN d_getv_0 rfl rfl ?_
  refine Go.getF (wd_25 hw) Via.refl F d_getv_1 ?_
  -- at pc 4: pc 4: areturn .areturn stack [vv]
  exact Go.areturn d_getv_4 rfl rfl hv (by decide) (by decide) ⟨rfl, rfl⟩
theorem d_getk_0 : decode prog_32_method_2_code 0 = .ok (.aload_n 0, 1) := by decide +kernel
theorem d_getk_1 : decode prog_32_method_2_code 1 = .ok (.getfield 13, 3) := by decide +kernel
theorem d_getk_4 : decode prog_32_method_2_code 4 = .ok (.areturn, 1) := by decide +kernel
abbrev R_getk : Room := ({ frames := 0, cells := 0, slots := 0, locals := 0 } : Room)
abbrev GM_getk (l : Launch) (Z : State) (n0 : Nat) (Q : Option Value → Heap → Prop) (h : Heap) (cells slots pc : Nat) (Ls : Array Slot) (st : List Value) : Prop := Go l Z n0 R_getk "com/example/rowan/rowan/TreeNode" "getKey" prog_32_method_2_code 1 (some (.object "java/lang/Object")) IN (FN n0 R_getk Q) h cells slots pc Ls st
theorem pf_getk : plainFor (⟨"com/example/rowan/rowan/TreeNode", "getKey", "()Ljava/lang/Object;"⟩ : MethodName) = true := plainFor_of_name (by first | (simp [plainName, overriddenIn]; done) | decide +kernel)
theorem ct_getk (l : Launch) (Z : State) (a0 : Array Value) (hw : ∀ d ∈ tables_1, d.before a0 Z = true) (n0 : Nat) (a : Addr) (vv : Value) (hv : vv.isRef = true) (h0 : Heap) (F : Fld Z h0 a "com/example/rowan/rowan/TreeNode" "m_key" "Ljava/lang/Object;" vv) :
    Ct l Z n0 "com/example/rowan/rowan/TreeNode" "getKey" "()Ljava/lang/Object;" [] prog_32_method_2_code 1 (some (.object "java/lang/Object")) R_getk #[.ref a] h0 (fun v h => v = some vv ∧ h0 = h) := by
  refine Ct.of_go pf_getk (Ls := #[.val (.ref a)]) (fun m => by first | rfl | (simp [entryFrame, mkF, argsToLocals, Value.category]; done)) ?_
  show GM_getk l Z n0 (fun v h => v = some vv ∧ h0 = h) h0 0 0 0 #[.val (.ref a)] []
  refine Go.aloadN d_getk_0 rfl rfl ?_
  refine Go.getF (wd_23 hw) Via.refl F d_getk_1 ?_
  -- at pc 4: pc 4: areturn .areturn stack [vv]
  exact Go.areturn d_getk_4 rfl rfl hv (by decide) (by decide) ⟨rfl, rfl⟩
theorem d_setv_0 : decode prog_12_method_2_code 0 = .ok (.aload_n 0, 1) := by decide +kernel
theorem d_setv_1 : decode prog_12_method_2_code 1 = .ok (.getfield 7, 3) := by decide +kernel
theorem d_setv_4 : decode prog_12_method_2_code 4 = .ok (.astore_n 2, 1) := by decide +kernel
theorem d_setv_5 : decode prog_12_method_2_code 5 = .ok (.aload_n 0, 1) := by decide +kernel
theorem d_setv_6 : decode prog_12_method_2_code 6 = .ok (.aload_n 1, 1) := by decide +kernel
theorem d_setv_7 : decode prog_12_method_2_code 7 = .ok (.putfield 7, 3) := by decide +kernel
theorem d_setv_10 : decode prog_12_method_2_code 10 = .ok (.aload_n 2, 1) := by decide +kernel
theorem d_setv_11 : decode prog_12_method_2_code 11 = .ok (.areturn, 1) := by decide +kernel
abbrev R_setv : Room := ({ frames := 0, cells := 0, slots := 0, locals := 0 } : Room)
abbrev GM_setv (l : Launch) (Z : State) (n0 : Nat) (Q : Option Value → Heap → Prop) (h : Heap) (cells slots pc : Nat) (Ls : Array Slot) (st : List Value) : Prop := Go l Z n0 R_setv "com/example/rowan/rowan/RedBlackTreeMap$Node" "setValue" prog_12_method_2_code 3 (some (.object "java/lang/Object")) IN (FN n0 R_setv Q) h cells slots pc Ls st
theorem pf_setv : plainFor (⟨"com/example/rowan/rowan/RedBlackTreeMap$Node", "setValue", "(Ljava/lang/Object;)Ljava/lang/Object;"⟩ : MethodName) = true := plainFor_of_name (by first | (simp [plainName, overriddenIn]; done) | decide +kernel)
theorem ct_setv (l : Launch) (Z : State) (a0 : Array Value) (hw : ∀ d ∈ tables_1, d.before a0 Z = true) (n0 : Nat) (a : Addr) (vk vo vn : Value) (ho : vo.isRef = true) (hn : vn.isRef = true) (h0 : Heap) (g_a : n0 ≤ a) (E_a : Exa Z h0 a "com/example/rowan/rowan/RedBlackTreeMap$Node") (F_a_m_key : Fld Z h0 a "com/example/rowan/rowan/TreeNode" "m_key" "Ljava/lang/Object;" vk) (F_a_m_value : Fld Z h0 a "com/example/rowan/rowan/TreeNode" "m_value" "Ljava/lang/Object;" vo) :
    Ct l Z n0 "com/example/rowan/rowan/RedBlackTreeMap$Node" "setValue" "(Ljava/lang/Object;)Ljava/lang/Object;" [] prog_12_method_2_code 3 (some (.object "java/lang/Object")) R_setv #[.ref a, vn] h0 (fun v h => v = some vo ∧ Keep h0 h [a] ∧ Fld Z h a "com/example/rowan/rowan/TreeNode" "m_key" "Ljava/lang/Object;" vk ∧ Fld Z h a "com/example/rowan/rowan/TreeNode" "m_value" "Ljava/lang/Object;" vn) := by
  refine Ct.of_go pf_setv (Ls := #[.val (.ref a), .val vn, .unset]) (fun m => by rcases ref_cases hn with rfl | ⟨_, rfl⟩ <;> rfl) ?_
  show GM_setv l Z n0 (fun v h => v = some vo ∧ Keep h0 h [a] ∧ Fld Z h a "com/example/rowan/rowan/TreeNode" "m_key" "Ljava/lang/Object;" vk ∧ Fld Z h a "com/example/rowan/rowan/TreeNode" "m_value" "Ljava/lang/Object;" vn) h0 0 0 0 #[.val (.ref a), .val vn, .unset] []
  have KK : Keep h0 h0 [a] := Keep.refl _ _
  refine Go.aloadN d_setv_0 rfl rfl ?_
  refine Go.getF (wd_38 hw) (Via.of (wd_39 hw)) F_a_m_value d_setv_1 ?_
  refine Go.astoreN (Ls' := #[.val (.ref a), .val vn, .val vo]) d_setv_4 ho (st_at rfl One.u (cat_ref ho) rfl) ?_
  refine Go.aloadN d_setv_5 rfl rfl ?_
  refine Go.aloadN d_setv_6 rfl hn ?_
  refine Go.putF (I' := IN) (hI := nI) (wd_38 hw) (Via.of (wd_39 hw)) F_a_m_value E_a (Or.inl (wd_26 hw)) (wd_8 hw) (ty := (.object "java/lang/Object")) (by decide) rfl (fits_ref' hn) g_a d_setv_7 fun hp9 W9 => ?_
  have K9 := Keep.of_wr W9
  replace F_a_m_key := F_a_m_key.other W9 (Or.inr (slot_ne (Or.inr (wd_24 hw)) (Or.inl (wd_26 hw)) (by decide) (t := (.object "java/lang/Object")) (t' := (.object "java/lang/Object")) (by decide) (by decide)))
  replace F_a_m_value := F_a_m_value.same W9
  replace E_a := E_a.keep K9
  replace KK : Keep h0 hp9 [a] := KK.trans K9 (allS (Or.inl (by simp)) (all0))
  refine Go.aloadN d_setv_10 rfl ho ?_
  -- at pc 11: pc 11: areturn .areturn stack [vo]
  exact Go.areturn d_setv_11 rfl rfl ho (by decide) (by decide) ⟨rfl, KK, F_a_m_key, F_a_m_value⟩

abbrev R_law : Room := room_1
abbrev GM_law (l : Launch) (Z : State) (n0 : Nat) (Q : Option Value → Heap → Prop) (h : Heap) (cells slots pc : Nat) (Ls : Array Slot) (st : List Value) : Prop := Go l Z n0 R_law "com/example/rowan/rowan/NodeSetValuePinLaw" "law" code maxLocals ret IN (FN n0 R_law Q) h cells slots pc Ls st
theorem pf_law : plainFor (⟨"com/example/rowan/rowan/NodeSetValuePinLaw", "law", "(IIII)Z"⟩ : MethodName) = true := plainFor_of_name (by first | (simp [plainName, overriddenIn]; done) | decide +kernel)
set_option maxRecDepth 65536 in
set_option maxHeartbeats 40000000 in
theorem ct_law (l : Launch) (Z : State) (a0 : Array Value) (hw : ∀ d ∈ tables_1, d.before a0 Z = true) (n0 : Nat) (p0 p1 p2 p3 : Int32) (h0 : Heap) (ca : Addr) (cl : Cell) (fv0 : Int32 → Value) (hz : n0 ≤ h0.size) (O : Old Z n0 h0) (S_high : Sta Z Z.heap "java/lang/Integer$IntegerCache" "high" "I" (.int 127)) (S_cache : Sta Z Z.heap "java/lang/Integer$IntegerCache" "cache" "[Ljava/lang/Integer;" (.ref ca)) (Bx : Bxs Z ca cl "java/lang/Integer" "I" 256 fv0) :
    Ct l Z n0 "com/example/rowan/rowan/NodeSetValuePinLaw" "law" "(IIII)Z" tables_1 code maxLocals ret R_law #[.int p0, .int p1, .int p2, .int p3] h0 (fun v _ => v = some (.int 1)) := by
  refine Ct.of_go pf_law (Ls := #[.val (.int p0), .val (.int p1), .val (.int p2), .val (.int p3), .unset, .unset, .unset, .unset, .unset, .unset, .unset, .unset, .unset]) (fun m => by first | rfl | (simp [entryFrame, mkF, argsToLocals, Value.category, maxLocals]; done)) ?_
  show GM_law l Z n0 (fun v _ => v = some (.int 1)) h0 0 0 0 #[.val (.int p0), .val (.int p1), .val (.int p2), .val (.int p3), .unset, .unset, .unset, .unset, .unset, .unset, .unset, .unset, .unset] []
  refine Go.iloadN at_0 rfl ?_
  -- at pc 1: pc 1: invokestatic .invokestatic 7 stack [(.int p0)]
  refine Go.callS (I' := IN) (hI := nQ) [(.int p0)] [] (ct_vof l Z a0 hw n0 p0 _ ca cl fv0 hz O S_high S_cache Bx) (wd_0 hw) (wd_1 hw) (wd_2 hw) (wd_3 hw) (by decide) pd_3 rfl rfl rfl (Nat.le_of_ble_eq_true rfl) (Nat.le_of_ble_eq_true rfl) (Nat.le_of_ble_eq_true rfl) (Nat.le_of_ble_eq_true rfl) at_1 ?_
  rintro _ hp10 ⟨kb, rfl, E_kb, K10⟩
  replace O := O.keep K10 (all0)
  replace hz : n0 ≤ hp10.size := Nat.le_trans hz K10.1
  show GM_law l Z n0 (fun v _ => v = some (.int 1)) hp10 1 1 4 #[.val (.int p0), .val (.int p1), .val (.int p2), .val (.int p3), .unset, .unset, .unset, .unset, .unset, .unset, .unset, .unset, .unset] [(.ref kb)]
  refine Go.astore (Ls' := #[.val (.int p0), .val (.int p1), .val (.int p2), .val (.int p3), .val (.ref kb), .unset, .unset, .unset, .unset, .unset, .unset, .unset, .unset]) at_4 rfl rfl ?_
  have j20 : ∀ (h : Heap) (fv : Value), Nul Z h fv "java/lang/Integer" → Exa Z h kb "java/lang/Integer" → n0 ≤ h.size → Old Z n0 h → GM_law l Z n0 (fun v _ => v = some (.int 1)) h 2 2 20 #[.val (.int p0), .val (.int p1), .val (.int p2), .val (.int p3), .val (.ref kb), .unset, .unset, .unset, .unset, .unset, .unset, .unset, .unset] [fv] := by
    intro h fv CVf E_kb hz O
    have hfv := CVf.isRef
    refine Go.astore (Ls' := #[.val (.int p0), .val (.int p1), .val (.int p2), .val (.int p3), .val (.ref kb), .val fv, .unset, .unset, .unset, .unset, .unset, .unset, .unset]) at_20 hfv (st_at rfl One.u (cat_ref hfv) rfl) ?_
    have j36 : ∀ (h : Heap) (sv : Value), Nul Z h fv "java/lang/Integer" → Nul Z h sv "java/lang/Integer" → Exa Z h kb "java/lang/Integer" → n0 ≤ h.size → Old Z n0 h → GM_law l Z n0 (fun v _ => v = some (.int 1)) h 3 3 36 #[.val (.int p0), .val (.int p1), .val (.int p2), .val (.int p3), .val (.ref kb), .val fv, .unset, .unset, .unset, .unset, .unset, .unset, .unset] [sv] := by
      intro h sv CVf CVs E_kb hz O
      have hsv := CVs.isRef
      refine Go.astore (Ls' := #[.val (.int p0), .val (.int p1), .val (.int p2), .val (.int p3), .val (.ref kb), .val fv, .val sv, .unset, .unset, .unset, .unset, .unset, .unset]) at_36 hsv (st_at rfl One.u (cat_ref hsv) rfl) ?_
      -- at pc 38: pc 38: new .new 13 stack []
      refine Go.new (I' := IN) (hI := nE) (wd_7 hw) (wd_8 hw) (wd_9 hw) at_38 (by decide) (by decide) fun hp11 nd e_nd X11 E_nd D11 => ?_
      have K11 : Keep h hp11 [] := (Keep.refl _ _).ext X11
      have g_nd : n0 ≤ nd := e_nd ▸ hz
      have ne_kb_nd : kb ≠ nd := Nat.ne_of_lt (e_nd ▸ E_kb.lt)
      replace O := O.keep K11 (all0)
      replace E_kb := E_kb.keep K11
      replace CVf := CVf.keep K11
      replace CVs := CVs.keep K11
      have F_nd_m_red : Fld Z hp11 nd "com/example/rowan/rowan/TreeNode" "m_red" "Z" (.int (0 : Int32)) := D11 (Or.inl (wd_22 hw)) (ty := .boolean) (by decide)
      have F_nd_m_key : Fld Z hp11 nd "com/example/rowan/rowan/TreeNode" "m_key" "Ljava/lang/Object;" .null := D11 (Or.inr (wd_24 hw)) (ty := (.object "java/lang/Object")) (by decide)
      have F_nd_m_value : Fld Z hp11 nd "com/example/rowan/rowan/TreeNode" "m_value" "Ljava/lang/Object;" .null := D11 (Or.inl (wd_26 hw)) (ty := (.object "java/lang/Object")) (by decide)
      replace hz : n0 ≤ hp11.size := Nat.le_trans hz K11.1
      refine Go.dup at_41 rfl ?_
      refine Go.aload at_42 rfl rfl ?_
      refine Go.aload at_44 rfl hfv ?_
      -- at pc 46: pc 46: invokespecial .invokespecial 15 stack [fv, (.ref kb), (.ref nd), (.ref nd)]
      refine Go.callI (I' := IN) (hI := nQ) nd [(.ref kb), fv] [(.ref nd)] (ct_nodeinit l Z a0 hw n0 nd (.ref kb) fv rfl hfv _ g_nd E_nd F_nd_m_red F_nd_m_key F_nd_m_value) (wd_10 hw) (wd_11 hw) (wd_9 hw) (wd_12 hw) (by decide) pd_2 rfl rfl rfl (Nat.le_of_ble_eq_true rfl) (Nat.le_of_ble_eq_true rfl) (Nat.le_of_ble_eq_true rfl) (Nat.le_of_ble_eq_true rfl) at_46 ?_
      rintro _ hp12 ⟨rfl, K12, Fk, Fv⟩
      replace O := O.keep K12 (allS g_nd (all0))
      replace E_kb := E_kb.keep K12
      replace CVf := CVf.keep K12
      replace CVs := CVs.keep K12
      replace E_nd := E_nd.keep K12
      replace hz : n0 ≤ hp12.size := Nat.le_trans hz K12.1
      show GM_law l Z n0 (fun v _ => v = some (.int 1)) hp12 4 8 49 #[.val (.int p0), .val (.int p1), .val (.int p2), .val (.int p3), .val (.ref kb), .val fv, .val sv, .unset, .unset, .unset, .unset, .unset, .unset] [(.ref nd)]
      refine Go.astore (Ls' := #[.val (.int p0), .val (.int p1), .val (.int p2), .val (.int p3), .val (.ref kb), .val fv, .val sv, .val (.ref nd), .unset, .unset, .unset, .unset, .unset]) at_49 rfl rfl ?_
      refine Go.aload at_51 rfl rfl ?_
      -- at pc 53: pc 53: invokevirtual .invokevirtual 18 stack [(.ref nd)]
      refine Go.callU (I' := IN) (hI := nQ) nd [] [] (ct_getv l Z a0 hw n0 nd fv hfv _ Fv) E_nd (wd_27 hw) (wd_28 hw) (wd_29 hw) (wd_31 hw) (wd_30 hw) (wd_16 hw) (wd_32 hw) (by decide) pd_4 rfl rfl rfl (Nat.le_of_ble_eq_true rfl) (Nat.le_of_ble_eq_true rfl) (Nat.le_of_ble_eq_true rfl) (Nat.le_of_ble_eq_true rfl) at_53 ?_
      rintro _ _ ⟨rfl, rfl⟩
      show GM_law l Z n0 (fun v _ => v = some (.int 1)) hp12 4 8 56 #[.val (.int p0), .val (.int p1), .val (.int p2), .val (.int p3), .val (.ref kb), .val fv, .val sv, .val (.ref nd), .unset, .unset, .unset, .unset, .unset] [fv]
      refine Go.castV (wd_40 hw) CVf.ins at_56 ?_
      refine Go.astore (Ls' := #[.val (.int p0), .val (.int p1), .val (.int p2), .val (.int p3), .val (.ref kb), .val fv, .val sv, .val (.ref nd), .val fv, .unset, .unset, .unset, .unset]) at_59 hfv (st_at rfl One.u (cat_ref hfv) rfl) ?_
      refine Go.aload at_61 rfl rfl ?_
      refine Go.aload at_63 rfl hsv ?_
      -- at pc 65: pc 65: invokevirtual .invokevirtual 22 stack [sv, (.ref nd)]
      refine Go.callV (I' := IN) (hI := nQ) nd [sv] [] (ct_setv l Z a0 hw n0 nd (.ref kb) fv sv hfv hsv _ g_nd E_nd Fk Fv) E_nd (wd_33 hw) (wd_34 hw) (nf_sel (wd_36 hw)) (wd_36 hw) (wd_35 hw) (wd_9 hw) (wd_37 hw) (by decide) pd_5 rfl rfl rfl (Nat.le_of_ble_eq_true rfl) (Nat.le_of_ble_eq_true rfl) (Nat.le_of_ble_eq_true rfl) (Nat.le_of_ble_eq_true rfl) at_65 ?_
      rintro _ hp14 ⟨rfl, K14, Fk, Fv⟩
      replace O := O.keep K14 (allS g_nd (all0))
      replace E_kb := E_kb.keep K14
      replace CVf := CVf.keep K14
      replace CVs := CVs.keep K14
      replace E_nd := E_nd.keep K14
      replace hz : n0 ≤ hp14.size := Nat.le_trans hz K14.1
      show GM_law l Z n0 (fun v _ => v = some (.int 1)) hp14 4 8 68 #[.val (.int p0), .val (.int p1), .val (.int p2), .val (.int p3), .val (.ref kb), .val fv, .val sv, .val (.ref nd), .val fv, .unset, .unset, .unset, .unset] [fv]
      refine Go.castV (wd_40 hw) CVf.ins at_68 ?_
      refine Go.astore (Ls' := #[.val (.int p0), .val (.int p1), .val (.int p2), .val (.int p3), .val (.ref kb), .val fv, .val sv, .val (.ref nd), .val fv, .val fv, .unset, .unset, .unset]) at_71 hfv (st_at rfl One.u (cat_ref hfv) rfl) ?_
      refine Go.aload at_73 rfl rfl ?_
      -- at pc 75: pc 75: invokevirtual .invokevirtual 18 stack [(.ref nd)]
      refine Go.callU (I' := IN) (hI := nQ) nd [] [] (ct_getv l Z a0 hw n0 nd sv hsv _ Fv) E_nd (wd_27 hw) (wd_28 hw) (wd_29 hw) (wd_31 hw) (wd_30 hw) (wd_16 hw) (wd_32 hw) (by decide) pd_4 rfl rfl rfl (Nat.le_of_ble_eq_true rfl) (Nat.le_of_ble_eq_true rfl) (Nat.le_of_ble_eq_true rfl) (Nat.le_of_ble_eq_true rfl) at_75 ?_
      rintro _ _ ⟨rfl, rfl⟩
      show GM_law l Z n0 (fun v _ => v = some (.int 1)) hp14 4 8 78 #[.val (.int p0), .val (.int p1), .val (.int p2), .val (.int p3), .val (.ref kb), .val fv, .val sv, .val (.ref nd), .val fv, .val fv, .unset, .unset, .unset] [sv]
      refine Go.castV (wd_40 hw) CVs.ins at_78 ?_
      refine Go.astore (Ls' := #[.val (.int p0), .val (.int p1), .val (.int p2), .val (.int p3), .val (.ref kb), .val fv, .val sv, .val (.ref nd), .val fv, .val fv, .val sv, .unset, .unset]) at_81 hsv (st_at rfl One.u (cat_ref hsv) rfl) ?_
      refine Go.aload at_83 rfl rfl ?_
      refine Go.aload at_85 rfl hfv ?_
      -- at pc 87: pc 87: invokevirtual .invokevirtual 22 stack [fv, (.ref nd)]
      refine Go.callV (I' := IN) (hI := nQ) nd [fv] [] (ct_setv l Z a0 hw n0 nd (.ref kb) sv fv hsv hfv _ g_nd E_nd Fk Fv) E_nd (wd_33 hw) (wd_34 hw) (nf_sel (wd_36 hw)) (wd_36 hw) (wd_35 hw) (wd_9 hw) (wd_37 hw) (by decide) pd_5 rfl rfl rfl (Nat.le_of_ble_eq_true rfl) (Nat.le_of_ble_eq_true rfl) (Nat.le_of_ble_eq_true rfl) (Nat.le_of_ble_eq_true rfl) at_87 ?_
      rintro _ hp16 ⟨rfl, K16, Fk, Fv⟩
      replace O := O.keep K16 (allS g_nd (all0))
      replace E_kb := E_kb.keep K16
      replace CVf := CVf.keep K16
      replace CVs := CVs.keep K16
      replace E_nd := E_nd.keep K16
      replace hz : n0 ≤ hp16.size := Nat.le_trans hz K16.1
      show GM_law l Z n0 (fun v _ => v = some (.int 1)) hp16 4 8 90 #[.val (.int p0), .val (.int p1), .val (.int p2), .val (.int p3), .val (.ref kb), .val fv, .val sv, .val (.ref nd), .val fv, .val fv, .val sv, .unset, .unset] [sv]
      refine Go.castV (wd_40 hw) CVs.ins at_90 ?_
      refine Go.astore (Ls' := #[.val (.int p0), .val (.int p1), .val (.int p2), .val (.int p3), .val (.ref kb), .val fv, .val sv, .val (.ref nd), .val fv, .val fv, .val sv, .val sv, .unset]) at_93 hsv (st_at rfl One.u (cat_ref hsv) rfl) ?_
      refine Go.aload at_95 rfl rfl ?_
      -- at pc 97: pc 97: invokevirtual .invokevirtual 18 stack [(.ref nd)]
      refine Go.callU (I' := IN) (hI := nQ) nd [] [] (ct_getv l Z a0 hw n0 nd fv hfv _ Fv) E_nd (wd_27 hw) (wd_28 hw) (wd_29 hw) (wd_31 hw) (wd_30 hw) (wd_16 hw) (wd_32 hw) (by decide) pd_4 rfl rfl rfl (Nat.le_of_ble_eq_true rfl) (Nat.le_of_ble_eq_true rfl) (Nat.le_of_ble_eq_true rfl) (Nat.le_of_ble_eq_true rfl) at_97 ?_
      rintro _ _ ⟨rfl, rfl⟩
      show GM_law l Z n0 (fun v _ => v = some (.int 1)) hp16 4 8 100 #[.val (.int p0), .val (.int p1), .val (.int p2), .val (.int p3), .val (.ref kb), .val fv, .val sv, .val (.ref nd), .val fv, .val fv, .val sv, .val sv, .unset] [fv]
      refine Go.castV (wd_40 hw) CVf.ins at_100 ?_
      refine Go.astore (Ls' := #[.val (.int p0), .val (.int p1), .val (.int p2), .val (.int p3), .val (.ref kb), .val fv, .val sv, .val (.ref nd), .val fv, .val fv, .val sv, .val sv, .val fv]) at_103 hfv (st_at rfl One.u (cat_ref hfv) rfl) ?_
      refine Go.aload at_105 rfl hfv ?_
      refine Go.aload at_107 rfl hfv ?_
      refine Go.acmp 112 true at_109 hfv hfv (decide_eq_true rfl) (by decide) (by decide) ?_
      refine Go.aload at_112 rfl hfv ?_
      refine Go.aload at_114 rfl hfv ?_
      refine Go.acmp 119 true at_116 hfv hfv (decide_eq_true rfl) (by decide) (by decide) ?_
      refine Go.aload at_119 rfl hsv ?_
      refine Go.aload at_121 rfl hsv ?_
      refine Go.acmp 126 true at_123 hsv hsv (decide_eq_true rfl) (by decide) (by decide) ?_
      refine Go.aload at_126 rfl hsv ?_
      refine Go.aload at_128 rfl hsv ?_
      refine Go.acmp 133 true at_130 hsv hsv (decide_eq_true rfl) (by decide) (by decide) ?_
      refine Go.aload at_133 rfl hfv ?_
      refine Go.aload at_135 rfl hfv ?_
      refine Go.acmp 140 true at_137 hfv hfv (decide_eq_true rfl) (by decide) (by decide) ?_
      refine Go.aload at_140 rfl rfl ?_
      -- at pc 142: pc 142: invokevirtual .invokevirtual 26 stack [(.ref nd)]
      refine Go.callU (I' := IN) (hI := nQ) nd [] [] (ct_getk l Z a0 hw n0 nd (.ref kb) rfl _ Fk) E_nd (wd_42 hw) (wd_43 hw) (wd_44 hw) (wd_46 hw) (wd_45 hw) (wd_16 hw) (wd_47 hw) (by decide) pd_4 rfl rfl rfl (Nat.le_of_ble_eq_true rfl) (Nat.le_of_ble_eq_true rfl) (Nat.le_of_ble_eq_true rfl) (Nat.le_of_ble_eq_true rfl) at_142 ?_
      rintro _ _ ⟨rfl, rfl⟩
      show GM_law l Z n0 (fun v _ => v = some (.int 1)) hp16 4 8 145 #[.val (.int p0), .val (.int p1), .val (.int p2), .val (.int p3), .val (.ref kb), .val fv, .val sv, .val (.ref nd), .val fv, .val fv, .val sv, .val sv, .val fv] [(.ref kb)]
      refine Go.aload at_145 rfl rfl ?_
      refine Go.acmp 150 true at_147 rfl rfl (decide_eq_true rfl) (by decide) (by decide) ?_
      refine Go.iconst 1 at_150 rfl ?_
      refine Go.goto 155 at_151 (by decide) (by decide) ?_
      -- at pc 155: pc 155: ireturn .ireturn stack [(.int (1 : Int32))]
      exact Go.nreturn .boolean at_155 rfl (by simp) (by decide) (by decide) rfl
    refine Go.iloadN at_22 rfl ?_
    refine Go.iconst 2 at_23 rfl ?_
    refine Go.iand at_24 ?_
    -- at pc 25: pc 25: ifCond .ifCond .eq 7 stack [(.int (p3 &&& (2 : Int32)))]
    by_cases hb2 : (p3 &&& (2 : Int32)) = (0 : Int32)
    · refine Go.ifT 32 at_25 (teq hb2).1 (by decide) (by decide) ?_
      refine Go.iloadN at_32 rfl ?_
      -- at pc 33: pc 33: invokestatic .invokestatic 7 stack [(.int p2)]
      refine Go.callS (I' := IN) (hI := nQ) [(.int p2)] [] (ct_vof l Z a0 hw n0 p2 _ ca cl fv0 hz O S_high S_cache Bx) (wd_0 hw) (wd_1 hw) (wd_2 hw) (wd_3 hw) (by decide) pd_3 rfl rfl rfl (Nat.le_of_ble_eq_true rfl) (Nat.le_of_ble_eq_true rfl) (Nat.le_of_ble_eq_true rfl) (Nat.le_of_ble_eq_true rfl) at_33 ?_
      rintro _ hp19 ⟨sb, rfl, E_sb, K19⟩
      replace O := O.keep K19 (all0)
      replace E_kb := E_kb.keep K19
      replace CVf := CVf.keep K19
      replace hz : n0 ≤ hp19.size := Nat.le_trans hz K19.1
      show GM_law l Z n0 (fun v _ => v = some (.int 1)) hp19 3 3 36 #[.val (.int p0), .val (.int p1), .val (.int p2), .val (.int p3), .val (.ref kb), .val fv, .unset, .unset, .unset, .unset, .unset, .unset, .unset] [(.ref sb)]
      exact j36 _ _ CVf (Or.inr ⟨sb, rfl, E_sb⟩) E_kb hz O
    · refine Go.ifF at_25 (feq hb2).1 ?_
      refine Go.null at_28 ?_
      refine Go.goto 36 at_29 (by decide) (by decide) ?_
      exact (j36 _ _ CVf (Or.inl rfl) E_kb hz O).more (by decide) (by decide)
  refine Go.iloadN at_6 rfl ?_
  refine Go.iconst 1 at_7 rfl ?_
  refine Go.iand at_8 ?_
  -- at pc 9: pc 9: ifCond .ifCond .eq 7 stack [(.int (p3 &&& (1 : Int32)))]
  by_cases hb1 : (p3 &&& (1 : Int32)) = (0 : Int32)
  · refine Go.ifT 16 at_9 (teq hb1).1 (by decide) (by decide) ?_
    refine Go.iloadN at_16 rfl ?_
    -- at pc 17: pc 17: invokestatic .invokestatic 7 stack [(.int p1)]
    refine Go.callS (I' := IN) (hI := nQ) [(.int p1)] [] (ct_vof l Z a0 hw n0 p1 _ ca cl fv0 hz O S_high S_cache Bx) (wd_0 hw) (wd_1 hw) (wd_2 hw) (wd_3 hw) (by decide) pd_3 rfl rfl rfl (Nat.le_of_ble_eq_true rfl) (Nat.le_of_ble_eq_true rfl) (Nat.le_of_ble_eq_true rfl) (Nat.le_of_ble_eq_true rfl) at_17 ?_
    rintro _ hp20 ⟨fb, rfl, E_fb, K20⟩
    replace O := O.keep K20 (all0)
    replace E_kb := E_kb.keep K20
    replace hz : n0 ≤ hp20.size := Nat.le_trans hz K20.1
    show GM_law l Z n0 (fun v _ => v = some (.int 1)) hp20 2 2 20 #[.val (.int p0), .val (.int p1), .val (.int p2), .val (.int p3), .val (.ref kb), .unset, .unset, .unset, .unset, .unset, .unset, .unset, .unset] [(.ref fb)]
    exact j20 _ _ (Or.inr ⟨fb, rfl, E_fb⟩) E_kb hz O
  · refine Go.ifF at_9 (feq hb1).1 ?_
    refine Go.null at_12 ?_
    refine Go.goto 20 at_13 (by decide) (by decide) ?_
    exact (j20 _ _ (Or.inl rfl) E_kb hz O).more (by decide) (by decide)
set_option maxRecDepth 65536 in
set_option maxHeartbeats 40000000 in
theorem comes_1 {Post : Tables → Env → Array Value → State → Outcome → State → Prop} (hpost : ∀ tb e args s v u, (limb_1_1.after args s (.returned v) u = true ∧ limb_1_2.after args s (.returned v) u = true ∧ True) → FrameEnd s (.returned v) u (Jvm.fieldLocs frame_1_writes args s ++ Jvm.arrayLocs frame_1_arrays args s ++ Jvm.staticLocs frame_1_statics s) 16 128 → Post tb e args s (.returned v) u) :
    ArmFor flags0 classFile x code maxLocals ret World_1 tables_1 room_1 Calls_1 rest_1 Pre_1 Post := by
  intro l hfl _ _ p e ha hc hk s m args below hf hA hF happ hP
  obtain ⟨hcalls, hrest, hpre⟩ := hP
  obtain ⟨-, -, -, hnamed, -, -, -, hat⟩ := (Spec.applies_iff hf).mp happ
  obtain ⟨hg, hn⟩ := and_e (Cond.before_iff.mp (show (Jvm.Cond.and given_1 narrow_1).before args s = true from hpre))
  obtain ⟨gg1, gg2⟩ := and_e hg
  obtain ⟨gg3, gg4⟩ := and_e gg2
  obtain ⟨gg5, gg6⟩ := and_e gg4
  obtain ⟨gg7, gg8⟩ := and_e gg6
  obtain ⟨w0, w1, w2, w3, rfl⟩ : ∃ w0 w1 w2 w3 : Value, args = #[w0, w1, w2, w3] := by
    have hs : args.size = 4 := by simpa [Cond.value, given_1] using gg1
    obtain ⟨L⟩ := args
    match L, hs with
    | [w0, w1, w2, w3], _ => exact ⟨w0, w1, w2, w3, rfl⟩
  have hw := fun d (hd : d ∈ tables_1) => atoms_spec (ws := Jvm.Cond.code x code maxLocals ret :: tables_1) hat d (List.mem_cons_of_mem _ hd)
  have hfit : Fit s := fun {y c} hc i hi => by
    obtain ⟨ha, rfl⟩ := Array.getElem?_eq_some_iff.mp hc
    have q := List.all_eq_true.mp ((Array.all_eq_true_iff_forall_mem.mp hF) _ (Array.getElem_mem ha)) i (List.mem_range.mpr hi)
    simpa [Array.getElem?_eq_getElem hi] using q
  obtain ⟨hsets, hown0⟩ := atoms_of _ (rest_1_c_eq ▸ (show rest_1_c.before _ s = true from hrest))
  have hr0 := Cond.before_iff.mp hown0
  obtain ⟨i0, ei0⟩ := is_v gg3
  obtain rfl : w0 = (.int i0) := Option.some.inj ei0
  obtain ⟨i1, ei1⟩ := is_v gg5
  obtain rfl : w1 = (.int i1) := Option.some.inj ei1
  obtain ⟨i2, ei2⟩ := is_v gg7
  obtain rfl : w2 = (.int i2) := Option.some.inj ei2
  obtain ⟨i3, ei3⟩ := is_v gg8
  obtain rfl : w3 = (.int i3) := Option.some.inj ei3
  have c0 := Cond.before_iff.mp (hsets _ (List.mem_of_getElem? (i := 3) rfl))
  have c1 := Cond.before_iff.mp (hsets _ (List.mem_of_getElem? (i := 4) rfl))
  have c2 := Cond.before_iff.mp (hsets _ (List.mem_of_getElem? (i := 6) rfl))
  have c3 := Cond.before_iff.mp (hsets _ (List.mem_of_getElem? (i := 7) rfl))
  have ev0 := eqv_i (Term.int_eval _) c0
  have S0 := Sta.start ev0 (Or.inl (hsets _ (List.mem_of_getElem? (i := 1) rfl)))
  obtain ⟨ca, ev1⟩ := arr_v c1
  have S1 := Sta.start ev1 (Or.inr ⟨hw _ (List.mem_of_getElem? (i := 5) rfl), hsets _ (List.mem_of_getElem? (i := 2) rfl)⟩)
  obtain ⟨cl, A⟩ := Arr.start ev1 c1
  have ev2 := eqv_i (Term.int_eval _) c2
  obtain ⟨hsz, he⟩ := len_says ev1 A ev2
  have Bx := Bxs.start (fun _ => ev1) A hsz he (by decide) c3 (fun X j hj hc => eqv_i (sub_at hj) hc)
  obtain ⟨n, o, h1, h2, h3, _, L, rfl, ⟨N, rfl⟩, hq⟩ := (ct_law l s _ hw s.heap.size i0 i1 i2 i3 s.heap ca cl _ (Nat.le_refl _) (Old.start s) S0 S1 Bx) p e ha hc hk s m _ below hf ((Spec.applies_iff_loose hf).mp happ).1 ⟨rfl, State.Warmed39.refl s, rfl⟩ trivial
  exact ⟨n, _, h1, h2, h3, hpost _ _ _ _ _ _ ⟨Cond.after_iff.mpr rfl, Cond.after_iff.mpr (eq_i res_at (Term.int_eval (1)) rfl), trivial⟩ ⟨hq.1, hq.2.1, (hq.2.2.sift fun y hy => Or.inr (N y hy)).mono (by decide) (by decide)⟩⟩
theorem main_1_1 : Claimed_1_1 := comes_1 fun _ _ _ _ _ _ h hF => ⟨h.1, hF⟩
theorem main_1_2 : Claimed_1_2 := comes_1 fun _ _ _ _ _ _ h hF => ⟨h.2.1, hF⟩
end Jvm.Pilot.@@N@@
namespace Jvm.Pilot.@@N@@
open Jvm Jvm.ClassFile Sem Op Lib Jvm.Free Jvm.Stand Jvm.Pilot.@@N@@.Jvm.D
/-! MADE BY PROGRAM (witnessworld.py) out of the Statement's table words and the real class files: 18 classes; the members and pool entries that the words name. The judged class is class 1, her method 1. -/
namespace start1
open Jvm.ClassFile
def u (s : String) : CpInfo := .utf8 (stringToUtf16 s)
/-- a pool by its gaps: so many unusable entries, then the entry; so many at the end -/
def gap : Nat → List CpInfo → List CpInfo
  | 0, r => r
  | n + 1, r => .unusable :: gap n r
def poolList (es : List (Nat × CpInfo)) (last : Nat) : List CpInfo := es.foldr (fun e r => gap e.1 (e.2 :: r)) (gap last [])
def pool (es : List (Nat × CpInfo)) (last : Nat) : Array CpInfo := ⟨poolList es last⟩
def fileOf (pool : Array CpInfo) (this : Nat) (attrs : Array Attribute := #[]) (ms : Array MethodInfo := #[]) (fl : Nat := 33) (sup : Nat := 0) (ifs : Array Nat := #[]) (fds : Array FieldInfo := #[]) : ClassFile where
  minorVersion := 0
  majorVersion := 65
  constantPool := pool
  accessFlags := fl
  thisClass := this
  superClass := sup
  interfaces := ifs
  fields := fds
  methods := ms
  attributes := attrs
def plain (name : String) (sup : Option ClassId) : Class where
  name := name
  kind := .ordinary
  loader := none
  accessFlags := 33
  super := sup
  interfaces := #[]
  cf := none
  fields := #[]
  methods := #[]
  instanceTypes := #[]
  staticTypes := #[]
  resolved := #[]
  callSites := []
  init := .initialized
  statics := none
  mirror := none

def pool0 : Array CpInfo := pool [(5, u "<init>"), (0, u "()V"), (1, .class_ 10), (1, u "java/lang/Object")] 113

def k0c0 : Code := { maxStack := 0, maxLocals := 1, code := object_method_1_code, exceptionTable := #[], attributes := #[] }
def k0m0 : Method := { name := "<init>", desc := "()V", sig := { parameters := [], returnType := none }, accessFlags := 1, code := some k0c0 }
/-- java/lang/Object -/
def k0 : Class := { plain "java/lang/Object" none with
  accessFlags := 33
  interfaces := #[]
  cf := some (fileOf pool0 8 #[] #[{ accessFlags := 1, nameIndex := 5, descriptorIndex := 6, attributes := #[] }] 33 0 #[] #[])
  fields := #[]
  methods := #[k0m0]
  instanceTypes := #[]
  staticTypes := #[]
  resolved := Array.replicate 124 none
  statics := none }

def pool1 : Array CpInfo := pool [(2, .class_ 4), (1, u "java/lang/Object"), (0, u "<init>"), (0, u "()V"), (0, .methodref 8 9), (0, .class_ 10), (0, .nameAndType 11 12), (0, u "java/lang/Integer"), (0, u "valueOf"), (0, u "(I)Ljava/lang/Integer;"), (0, .class_ 14), (0, u "com/example/rowan/rowan/RedBlackTreeMap$Node"), (0, .methodref 13 16), (0, .nameAndType 5 17), (0, u "(Ljava/lang/Object;Ljava/lang/Object;)V"), (0, .methodref 13 19), (0, .nameAndType 20 21), (0, u "getValue"), (0, u "()Ljava/lang/Object;"), (0, .methodref 13 23), (0, .nameAndType 24 25), (0, u "setValue"), (0, u "(Ljava/lang/Object;)Ljava/lang/Object;"), (0, .methodref 13 27), (0, .nameAndType 28 21), (0, u "getKey"), (0, .class_ 30), (0, u "com/example/rowan/rowan/NodeSetValuePinLaw"), (2, u "law"), (0, u "(IIII)Z")] 7

def k1m0 : Method := { name := "<init>", desc := "()V", sig := { parameters := [], returnType := none }, accessFlags := 1, code := none }
def k1c1 : Code := { maxStack := 4, maxLocals := 13, code := code, exceptionTable := #[], attributes := #[] }
def k1m1 : Method := { name := "law", desc := "(IIII)Z", sig := { parameters := [.int, .int, .int, .int], returnType := some .boolean }, accessFlags := 9, code := some k1c1 }
/-- com/example/rowan/rowan/NodeSetValuePinLaw -/
def k1 : Class := { plain "com/example/rowan/rowan/NodeSetValuePinLaw" (some 0) with
  accessFlags := 49
  interfaces := #[]
  cf := some (fileOf pool1 29 #[] #[{ accessFlags := 1, nameIndex := 5, descriptorIndex := 6, attributes := #[] }, { accessFlags := 9, nameIndex := 33, descriptorIndex := 34, attributes := #[] }] 49 2 #[] #[])
  fields := #[]
  methods := #[k1m0, k1m1]
  instanceTypes := #[]
  staticTypes := #[]
  resolved := Array.replicate 42 none
  statics := none }

def pool2 : Array CpInfo := pool [(1, .class_ 2), (0, u "java/io/Serializable"), (0, .class_ 4), (0, u "java/lang/Object")] 2

/-- java/io/Serializable -/
def k2 : Class := { plain "java/io/Serializable" (some 0) with
  accessFlags := 1537
  interfaces := #[]
  cf := some (fileOf pool2 1 #[] #[] 1537 3 #[] #[])
  fields := #[]
  methods := #[]
  instanceTypes := #[]
  staticTypes := #[]
  resolved := Array.replicate 7 none
  statics := none }

def pool3 : Array CpInfo := pool [(1, .methodref 2 3), (0, .class_ 4), (0, .nameAndType 5 6), (0, u "java/lang/Object"), (0, u "<init>"), (0, u "()V"), (1, .class_ 10), (1, u "java/lang/Number"), (2, .class_ 14), (0, u "java/io/Serializable"), (0, u "serialVersionUID"), (0, u "J")] 20

def k3c0 : Code := { maxStack := 1, maxLocals := 1, code := jdk_18_method_1_code, exceptionTable := #[], attributes := #[] }
def k3m0 : Method := { name := "<init>", desc := "()V", sig := { parameters := [], returnType := none }, accessFlags := 1, code := some k3c0 }
/-- java/lang/Number -/
def k3 : Class := { plain "java/lang/Number" (some 0) with
  accessFlags := 1057
  interfaces := #[2]
  cf := some (fileOf pool3 8 #[] #[{ accessFlags := 1, nameIndex := 5, descriptorIndex := 6, attributes := #[] }] 1057 2 #[13] #[{ accessFlags := 26, nameIndex := 15, descriptorIndex := 16, attributes := #[] }])
  fields := #[{ name := "serialVersionUID", type := .long, accessFlags := 26, slot := 0, constantValue := 0 }]
  methods := #[k3m0]
  instanceTypes := #[]
  staticTypes := #[.long]
  resolved := Array.replicate 37 none
  statics := none }

def pool4 : Array CpInfo := pool [(1, .class_ 2), (0, u "java/lang/Comparable"), (0, .class_ 4), (0, u "java/lang/Object")] 7

/-- java/lang/Comparable -/
def k4 : Class := { plain "java/lang/Comparable" (some 0) with
  accessFlags := 1537
  interfaces := #[]
  cf := some (fileOf pool4 1 #[] #[] 1537 3 #[] #[])
  fields := #[]
  methods := #[]
  instanceTypes := #[]
  staticTypes := #[]
  resolved := Array.replicate 12 none
  statics := none }

def pool5 : Array CpInfo := pool [(1, .class_ 2), (0, u "java/lang/constant/Constable"), (0, .class_ 4), (0, u "java/lang/Object")] 6

/-- java/lang/constant/Constable -/
def k5 : Class := { plain "java/lang/constant/Constable" (some 0) with
  accessFlags := 1537
  interfaces := #[]
  cf := some (fileOf pool5 1 #[] #[] 1537 3 #[] #[])
  fields := #[]
  methods := #[]
  instanceTypes := #[]
  staticTypes := #[]
  resolved := Array.replicate 11 none
  statics := none }

def pool6 : Array CpInfo := pool [(1, .class_ 2), (0, u "java/lang/constant/ConstantDesc"), (0, .class_ 4), (0, u "java/lang/Object")] 32

/-- java/lang/constant/ConstantDesc -/
def k6 : Class := { plain "java/lang/constant/ConstantDesc" (some 0) with
  accessFlags := 1537
  interfaces := #[]
  cf := some (fileOf pool6 1 #[] #[] 1537 3 #[] #[])
  fields := #[]
  methods := #[]
  instanceTypes := #[]
  staticTypes := #[]
  resolved := Array.replicate 37 none
  statics := none }

def pool7 : Array CpInfo := pool [(1, .class_ 2), (0, u "java/lang/Integer"), (16, u "digits"), (0, u "[C"), (46, u "<init>"), (17, u "DigitOnes"), (0, u "[B"), (2, u "DigitTens"), (10, .nameAndType 67 101), (0, u "()V"), (85, u "valueOf"), (0, u "(I)Ljava/lang/Integer;"), (0, .class_ 190), (0, u "java/lang/Integer$IntegerCache"), (0, .fieldref 189 192), (0, .nameAndType 193 194), (0, u "high"), (0, u "I"), (0, .fieldref 189 196), (0, .nameAndType 197 198), (0, u "cache"), (0, u "[Ljava/lang/Integer;"), (0, .methodref 1 200), (0, .nameAndType 67 201), (0, u "(I)V"), (0, .methodref 203 100), (0, .class_ 204), (0, u "java/lang/Number"), (0, .fieldref 1 206), (0, .nameAndType 207 194), (0, u "value"), (94, u "TYPE"), (0, u "Ljava/lang/Class;"), (0, .class_ 305), (0, u "java/lang/Comparable"), (0, .class_ 307), (0, u "java/lang/constant/Constable"), (0, .class_ 309), (0, u "java/lang/constant/ConstantDesc"), (0, u "MIN_VALUE"), (1, u "MAX_VALUE"), (3, u "SIZE"), (1, u "BYTES"), (1, u "serialVersionUID"), (0, u "J")] 131

def k7c0 : Code := { maxStack := 3, maxLocals := 1, code := jdk_33_method_22_code, exceptionTable := #[], attributes := #[] }
def k7m0 : Method := { name := "valueOf", desc := "(I)Ljava/lang/Integer;", sig := { parameters := [.int], returnType := some (.object "java/lang/Integer") }, accessFlags := 9, code := some k7c0 }
def k7c1 : Code := { maxStack := 2, maxLocals := 2, code := jdk_33_method_23_code, exceptionTable := #[], attributes := #[] }
def k7m1 : Method := { name := "<init>", desc := "(I)V", sig := { parameters := [.int], returnType := none }, accessFlags := 1, code := some k7c1 }
/-- java/lang/Integer -/
def k7 : Class := { plain "java/lang/Integer" (some 3) with
  accessFlags := 49
  interfaces := #[4, 5, 6]
  cf := some (fileOf pool7 1 #[.nestMembers #[189]] #[{ accessFlags := 9, nameIndex := 187, descriptorIndex := 188, attributes := #[] }, { accessFlags := 1, nameIndex := 67, descriptorIndex := 201, attributes := #[] }] 49 203 #[304, 306, 308] #[{ accessFlags := 25, nameIndex := 310, descriptorIndex := 194, attributes := #[] }, { accessFlags := 25, nameIndex := 312, descriptorIndex := 194, attributes := #[] }, { accessFlags := 25, nameIndex := 302, descriptorIndex := 303, attributes := #[] }, { accessFlags := 24, nameIndex := 19, descriptorIndex := 20, attributes := #[] }, { accessFlags := 24, nameIndex := 89, descriptorIndex := 86, attributes := #[] }, { accessFlags := 24, nameIndex := 85, descriptorIndex := 86, attributes := #[] }, { accessFlags := 18, nameIndex := 207, descriptorIndex := 194, attributes := #[] }, { accessFlags := 25, nameIndex := 316, descriptorIndex := 194, attributes := #[] }, { accessFlags := 25, nameIndex := 318, descriptorIndex := 194, attributes := #[] }, { accessFlags := 26, nameIndex := 320, descriptorIndex := 321, attributes := #[] }])
  fields := #[{ name := "MIN_VALUE", type := .int, accessFlags := 25, slot := 0, constantValue := 0 }, { name := "MAX_VALUE", type := .int, accessFlags := 25, slot := 1, constantValue := 0 }, { name := "TYPE", type := (.object "java/lang/Class"), accessFlags := 25, slot := 2, constantValue := 0 }, { name := "digits", type := (.array .char), accessFlags := 24, slot := 3, constantValue := 0 }, { name := "DigitTens", type := (.array .byte), accessFlags := 24, slot := 4, constantValue := 0 }, { name := "DigitOnes", type := (.array .byte), accessFlags := 24, slot := 5, constantValue := 0 }, { name := "value", type := .int, accessFlags := 18, slot := 0, constantValue := 0 }, { name := "SIZE", type := .int, accessFlags := 25, slot := 6, constantValue := 0 }, { name := "BYTES", type := .int, accessFlags := 25, slot := 7, constantValue := 0 }, { name := "serialVersionUID", type := .long, accessFlags := 26, slot := 8, constantValue := 0 }]
  methods := #[k7m0, k7m1]
  instanceTypes := #[.int]
  staticTypes := #[.int, .int, (.object "java/lang/Class"), (.array .char), (.array .byte), (.array .byte), .int, .int, .long]
  resolved := Array.replicate 453 none
  statics := none }

def pool8 : Array CpInfo := pool [(2, .class_ 4), (1, u "java/lang/Object"), (0, u "<init>"), (0, u "()V"), (0, .class_ 8), (0, u "java/lang/Integer"), (7, .class_ 18), (1, u "java/lang/Integer$IntegerCache"), (0, u "$assertionsDisabled"), (0, u "Z"), (26, u "high"), (0, u "I"), (8, u "archivedCache"), (0, u "[Ljava/lang/Integer;"), (12, u "cache"), (0, u "low")] 27

def k8m0 : Method := { name := "<init>", desc := "()V", sig := { parameters := [], returnType := none }, accessFlags := 2, code := none }
/-- java/lang/Integer$IntegerCache -/
def k8 : Class := { plain "java/lang/Integer$IntegerCache" (some 0) with
  accessFlags := 48
  interfaces := #[]
  cf := some (fileOf pool8 16 #[.nestHost 7] #[{ accessFlags := 2, nameIndex := 5, descriptorIndex := 6, attributes := #[] }] 48 2 #[] #[{ accessFlags := 24, nameIndex := 72, descriptorIndex := 48, attributes := #[] }, { accessFlags := 24, nameIndex := 47, descriptorIndex := 48, attributes := #[] }, { accessFlags := 24, nameIndex := 71, descriptorIndex := 58, attributes := #[] }, { accessFlags := 8, nameIndex := 57, descriptorIndex := 58, attributes := #[] }, { accessFlags := 4120, nameIndex := 19, descriptorIndex := 20, attributes := #[] }])
  fields := #[{ name := "low", type := .int, accessFlags := 24, slot := 0, constantValue := 0 }, { name := "high", type := .int, accessFlags := 24, slot := 1, constantValue := 0 }, { name := "cache", type := (.array (.object "java/lang/Integer")), accessFlags := 24, slot := 2, constantValue := 0 }, { name := "archivedCache", type := (.array (.object "java/lang/Integer")), accessFlags := 8, slot := 3, constantValue := 0 }, { name := "$assertionsDisabled", type := .boolean, accessFlags := 4120, slot := 4, constantValue := 0 }]
  methods := #[k8m0]
  instanceTypes := #[]
  staticTypes := #[.int, .int, (.array (.object "java/lang/Integer")), (.array (.object "java/lang/Integer")), .boolean]
  resolved := Array.replicate 100 none
  statics := some 0 }

def pool9 : Array CpInfo := pool [(23, .class_ 25), (1, u "java/util/Map$Entry"), (6, .class_ 34), (1, u "java/util/Map"), (34, .class_ 70), (0, u "java/lang/Object")] 107

/-- java/util/Map$Entry -/
def k9 : Class := { plain "java/util/Map$Entry" (some 0) with
  accessFlags := 1537
  interfaces := #[]
  cf := some (fileOf pool9 23 #[.nestHost 32] #[] 1537 69 #[] #[])
  fields := #[]
  methods := #[]
  instanceTypes := #[]
  staticTypes := #[]
  resolved := Array.replicate 178 none
  statics := none }

def pool10 : Array CpInfo := pool [(1, .methodref 2 3), (0, .class_ 4), (0, .nameAndType 5 6), (0, u "java/lang/Object"), (0, u "<init>"), (0, u "()V"), (0, .fieldref 8 9), (0, .class_ 10), (0, .nameAndType 11 12), (0, u "com/example/rowan/rowan/TreeNode"), (0, u "m_red"), (0, u "Z"), (0, .fieldref 8 14), (0, .nameAndType 15 16), (0, u "m_key"), (0, u "Ljava/lang/Object;"), (0, .fieldref 8 18), (0, .nameAndType 19 16), (0, u "m_value"), (7, .class_ 28), (0, u "java/util/Map$Entry"), (2, u "getKey"), (0, u "()Ljava/lang/Object;"), (8, u "getValue"), (17, u "m_left"), (0, u "Lcom/example/rowan/rowan/TreeNode;"), (1, u "m_right"), (0, u "(Ljava/lang/Object;Ljava/lang/Object;)V")] 34

def k10c0 : Code := { maxStack := 2, maxLocals := 3, code := prog_32_method_1_code, exceptionTable := #[], attributes := #[] }
def k10m0 : Method := { name := "<init>", desc := "(Ljava/lang/Object;Ljava/lang/Object;)V", sig := { parameters := [(.object "java/lang/Object"), (.object "java/lang/Object")], returnType := none }, accessFlags := 0, code := some k10c0 }
def k10c1 : Code := { maxStack := 1, maxLocals := 1, code := prog_32_method_2_code, exceptionTable := #[], attributes := #[] }
def k10m1 : Method := { name := "getKey", desc := "()Ljava/lang/Object;", sig := { parameters := [], returnType := some (.object "java/lang/Object") }, accessFlags := 1, code := some k10c1 }
def k10c2 : Code := { maxStack := 1, maxLocals := 1, code := prog_32_method_3_code, exceptionTable := #[], attributes := #[] }
def k10m2 : Method := { name := "getValue", desc := "()Ljava/lang/Object;", sig := { parameters := [], returnType := some (.object "java/lang/Object") }, accessFlags := 1, code := some k10c2 }
/-- com/example/rowan/rowan/TreeNode -/
def k10 : Class := { plain "com/example/rowan/rowan/TreeNode" (some 0) with
  accessFlags := 1056
  interfaces := #[9]
  cf := some (fileOf pool10 8 #[] #[{ accessFlags := 0, nameIndex := 5, descriptorIndex := 63, attributes := #[] }, { accessFlags := 1, nameIndex := 31, descriptorIndex := 32, attributes := #[] }, { accessFlags := 1, nameIndex := 41, descriptorIndex := 32, attributes := #[] }] 1056 2 #[27] #[{ accessFlags := 16, nameIndex := 15, descriptorIndex := 16, attributes := #[] }, { accessFlags := 0, nameIndex := 19, descriptorIndex := 16, attributes := #[] }, { accessFlags := 0, nameIndex := 59, descriptorIndex := 60, attributes := #[] }, { accessFlags := 0, nameIndex := 62, descriptorIndex := 60, attributes := #[] }, { accessFlags := 0, nameIndex := 11, descriptorIndex := 12, attributes := #[] }])
  fields := #[{ name := "m_key", type := (.object "java/lang/Object"), accessFlags := 16, slot := 0, constantValue := 0 }, { name := "m_value", type := (.object "java/lang/Object"), accessFlags := 0, slot := 1, constantValue := 0 }, { name := "m_left", type := (.object "com/example/rowan/rowan/TreeNode"), accessFlags := 0, slot := 2, constantValue := 0 }, { name := "m_right", type := (.object "com/example/rowan/rowan/TreeNode"), accessFlags := 0, slot := 3, constantValue := 0 }, { name := "m_red", type := .boolean, accessFlags := 0, slot := 4, constantValue := 0 }]
  methods := #[k10m0, k10m1, k10m2]
  instanceTypes := #[(.object "java/lang/Object"), (.object "java/lang/Object"), (.object "com/example/rowan/rowan/TreeNode"), (.object "com/example/rowan/rowan/TreeNode"), .boolean]
  staticTypes := #[]
  resolved := Array.replicate 98 none
  statics := none }

def pool11 : Array CpInfo := pool [(1, .methodref 2 3), (0, .class_ 4), (0, .nameAndType 5 6), (0, u "com/example/rowan/rowan/TreeNode"), (0, u "<init>"), (0, u "(Ljava/lang/Object;Ljava/lang/Object;)V"), (0, .fieldref 8 9), (0, .class_ 10), (0, .nameAndType 11 12), (0, u "com/example/rowan/rowan/RedBlackTreeMap$Node"), (0, u "m_value"), (0, u "Ljava/lang/Object;"), (4, u "setValue"), (0, u "(Ljava/lang/Object;)Ljava/lang/Object;"), (5, .class_ 25), (0, u "com/example/rowan/rowan/RedBlackTreeMap")] 2

def k11c0 : Code := { maxStack := 3, maxLocals := 3, code := prog_12_method_1_code, exceptionTable := #[], attributes := #[] }
def k11m0 : Method := { name := "<init>", desc := "(Ljava/lang/Object;Ljava/lang/Object;)V", sig := { parameters := [(.object "java/lang/Object"), (.object "java/lang/Object")], returnType := none }, accessFlags := 0, code := some k11c0 }
def k11c1 : Code := { maxStack := 2, maxLocals := 3, code := prog_12_method_2_code, exceptionTable := #[], attributes := #[] }
def k11m1 : Method := { name := "setValue", desc := "(Ljava/lang/Object;)Ljava/lang/Object;", sig := { parameters := [(.object "java/lang/Object")], returnType := some (.object "java/lang/Object") }, accessFlags := 1, code := some k11c1 }
/-- com/example/rowan/rowan/RedBlackTreeMap$Node -/
def k11 : Class := { plain "com/example/rowan/rowan/RedBlackTreeMap$Node" (some 10) with
  accessFlags := 48
  interfaces := #[]
  cf := some (fileOf pool11 8 #[.nestHost 24] #[{ accessFlags := 0, nameIndex := 5, descriptorIndex := 6, attributes := #[] }, { accessFlags := 1, nameIndex := 17, descriptorIndex := 18, attributes := #[] }] 48 2 #[] #[])
  fields := #[]
  methods := #[k11m0, k11m1]
  instanceTypes := #[(.object "java/lang/Object"), (.object "java/lang/Object"), (.object "com/example/rowan/rowan/TreeNode"), (.object "com/example/rowan/rowan/TreeNode"), .boolean]
  staticTypes := #[]
  resolved := Array.replicate 28 none
  statics := none }

def pool12 : Array CpInfo := pool [(1, u "java/lang/Cloneable"), (0, .class_ 1), (0, u "java/lang/Object"), (0, .class_ 3)] 3

/-- java/lang/Cloneable -/
def k12 : Class := { plain "java/lang/Cloneable" (some 0) with
  accessFlags := 1537
  interfaces := #[]
  cf := some (fileOf pool12 2 #[] #[] 1537 4 #[] #[])
  fields := #[]
  methods := #[]
  instanceTypes := #[]
  staticTypes := #[]
  resolved := Array.replicate 8 none
  statics := none }

/-- the primitive byte -/
def k13 : Class := { plain "byte" none with kind := .primitive 'B', accessFlags := 0x411 }
/-- [B -/
def k14 : Class := { plain "[B" (some 0) with kind := .array 13 .byte, interfaces := #[12, 2], accessFlags := 1041 }

/-- the primitive int -/
def k15 : Class := { plain "int" none with kind := .primitive 'I', accessFlags := 0x411 }
/-- [I -/
def k16 : Class := { plain "[I" (some 0) with kind := .array 15 .int, interfaces := #[12, 2], accessFlags := 1041 }

/-- [Ljava/lang/Integer; -/
def k17 : Class := { plain "[Ljava/lang/Integer;" (some 0) with kind := .array 7 (.object "java/lang/Integer"), interfaces := #[12, 2], accessFlags := 1041 }

def heap : Heap := #[{ cls := 8, slots := #[.int 0, .int 127, .ref 1, .null, .int 0], vm := .statics 8 },
  { cls := 17, slots := #[.ref 2, .ref 3, .ref 4, .ref 5, .ref 6, .ref 7, .ref 8, .ref 9, .ref 10, .ref 11, .ref 12, .ref 13, .ref 14, .ref 15, .ref 16, .ref 17, .ref 18, .ref 19, .ref 20, .ref 21, .ref 22, .ref 23, .ref 24, .ref 25, .ref 26, .ref 27, .ref 28, .ref 29, .ref 30, .ref 31, .ref 32, .ref 33, .ref 34, .ref 35, .ref 36, .ref 37, .ref 38, .ref 39, .ref 40, .ref 41, .ref 42, .ref 43, .ref 44, .ref 45, .ref 46, .ref 47, .ref 48, .ref 49, .ref 50, .ref 51, .ref 52, .ref 53, .ref 54, .ref 55, .ref 56, .ref 57, .ref 58, .ref 59, .ref 60, .ref 61, .ref 62, .ref 63, .ref 64, .ref 65, .ref 66, .ref 67, .ref 68, .ref 69, .ref 70, .ref 71, .ref 72, .ref 73, .ref 74, .ref 75, .ref 76, .ref 77, .ref 78, .ref 79, .ref 80, .ref 81, .ref 82, .ref 83, .ref 84, .ref 85, .ref 86, .ref 87, .ref 88, .ref 89, .ref 90, .ref 91, .ref 92, .ref 93, .ref 94, .ref 95, .ref 96, .ref 97, .ref 98, .ref 99, .ref 100, .ref 101, .ref 102, .ref 103, .ref 104, .ref 105, .ref 106, .ref 107, .ref 108, .ref 109, .ref 110, .ref 111, .ref 112, .ref 113, .ref 114, .ref 115, .ref 116, .ref 117, .ref 118, .ref 119, .ref 120, .ref 121, .ref 122, .ref 123, .ref 124, .ref 125, .ref 126, .ref 127, .ref 128, .ref 129, .ref 130, .ref 131, .ref 132, .ref 133, .ref 134, .ref 135, .ref 136, .ref 137, .ref 138, .ref 139, .ref 140, .ref 141, .ref 142, .ref 143, .ref 144, .ref 145, .ref 146, .ref 147, .ref 148, .ref 149, .ref 150, .ref 151, .ref 152, .ref 153, .ref 154, .ref 155, .ref 156, .ref 157, .ref 158, .ref 159, .ref 160, .ref 161, .ref 162, .ref 163, .ref 164, .ref 165, .ref 166, .ref 167, .ref 168, .ref 169, .ref 170, .ref 171, .ref 172, .ref 173, .ref 174, .ref 175, .ref 176, .ref 177, .ref 178, .ref 179, .ref 180, .ref 181, .ref 182, .ref 183, .ref 184, .ref 185, .ref 186, .ref 187, .ref 188, .ref 189, .ref 190, .ref 191, .ref 192, .ref 193, .ref 194, .ref 195, .ref 196, .ref 197, .ref 198, .ref 199, .ref 200, .ref 201, .ref 202, .ref 203, .ref 204, .ref 205, .ref 206, .ref 207, .ref 208, .ref 209, .ref 210, .ref 211, .ref 212, .ref 213, .ref 214, .ref 215, .ref 216, .ref 217, .ref 218, .ref 219, .ref 220, .ref 221, .ref 222, .ref 223, .ref 224, .ref 225, .ref 226, .ref 227, .ref 228, .ref 229, .ref 230, .ref 231, .ref 232, .ref 233, .ref 234, .ref 235, .ref 236, .ref 237, .ref 238, .ref 239, .ref 240, .ref 241, .ref 242, .ref 243, .ref 244, .ref 245, .ref 246, .ref 247, .ref 248, .ref 249, .ref 250, .ref 251, .ref 252, .ref 253, .ref 254, .ref 255, .ref 256, .ref 257], vm := .none },
  { cls := 7, slots := #[.int (-128)], vm := .none },
  { cls := 7, slots := #[.int (-127)], vm := .none },
  { cls := 7, slots := #[.int (-126)], vm := .none },
  { cls := 7, slots := #[.int (-125)], vm := .none },
  { cls := 7, slots := #[.int (-124)], vm := .none },
  { cls := 7, slots := #[.int (-123)], vm := .none },
  { cls := 7, slots := #[.int (-122)], vm := .none },
  { cls := 7, slots := #[.int (-121)], vm := .none },
  { cls := 7, slots := #[.int (-120)], vm := .none },
  { cls := 7, slots := #[.int (-119)], vm := .none },
  { cls := 7, slots := #[.int (-118)], vm := .none },
  { cls := 7, slots := #[.int (-117)], vm := .none },
  { cls := 7, slots := #[.int (-116)], vm := .none },
  { cls := 7, slots := #[.int (-115)], vm := .none },
  { cls := 7, slots := #[.int (-114)], vm := .none },
  { cls := 7, slots := #[.int (-113)], vm := .none },
  { cls := 7, slots := #[.int (-112)], vm := .none },
  { cls := 7, slots := #[.int (-111)], vm := .none },
  { cls := 7, slots := #[.int (-110)], vm := .none },
  { cls := 7, slots := #[.int (-109)], vm := .none },
  { cls := 7, slots := #[.int (-108)], vm := .none },
  { cls := 7, slots := #[.int (-107)], vm := .none },
  { cls := 7, slots := #[.int (-106)], vm := .none },
  { cls := 7, slots := #[.int (-105)], vm := .none },
  { cls := 7, slots := #[.int (-104)], vm := .none },
  { cls := 7, slots := #[.int (-103)], vm := .none },
  { cls := 7, slots := #[.int (-102)], vm := .none },
  { cls := 7, slots := #[.int (-101)], vm := .none },
  { cls := 7, slots := #[.int (-100)], vm := .none },
  { cls := 7, slots := #[.int (-99)], vm := .none },
  { cls := 7, slots := #[.int (-98)], vm := .none },
  { cls := 7, slots := #[.int (-97)], vm := .none },
  { cls := 7, slots := #[.int (-96)], vm := .none },
  { cls := 7, slots := #[.int (-95)], vm := .none },
  { cls := 7, slots := #[.int (-94)], vm := .none },
  { cls := 7, slots := #[.int (-93)], vm := .none },
  { cls := 7, slots := #[.int (-92)], vm := .none },
  { cls := 7, slots := #[.int (-91)], vm := .none },
  { cls := 7, slots := #[.int (-90)], vm := .none },
  { cls := 7, slots := #[.int (-89)], vm := .none },
  { cls := 7, slots := #[.int (-88)], vm := .none },
  { cls := 7, slots := #[.int (-87)], vm := .none },
  { cls := 7, slots := #[.int (-86)], vm := .none },
  { cls := 7, slots := #[.int (-85)], vm := .none },
  { cls := 7, slots := #[.int (-84)], vm := .none },
  { cls := 7, slots := #[.int (-83)], vm := .none },
  { cls := 7, slots := #[.int (-82)], vm := .none },
  { cls := 7, slots := #[.int (-81)], vm := .none },
  { cls := 7, slots := #[.int (-80)], vm := .none },
  { cls := 7, slots := #[.int (-79)], vm := .none },
  { cls := 7, slots := #[.int (-78)], vm := .none },
  { cls := 7, slots := #[.int (-77)], vm := .none },
  { cls := 7, slots := #[.int (-76)], vm := .none },
  { cls := 7, slots := #[.int (-75)], vm := .none },
  { cls := 7, slots := #[.int (-74)], vm := .none },
  { cls := 7, slots := #[.int (-73)], vm := .none },
  { cls := 7, slots := #[.int (-72)], vm := .none },
  { cls := 7, slots := #[.int (-71)], vm := .none },
  { cls := 7, slots := #[.int (-70)], vm := .none },
  { cls := 7, slots := #[.int (-69)], vm := .none },
  { cls := 7, slots := #[.int (-68)], vm := .none },
  { cls := 7, slots := #[.int (-67)], vm := .none },
  { cls := 7, slots := #[.int (-66)], vm := .none },
  { cls := 7, slots := #[.int (-65)], vm := .none },
  { cls := 7, slots := #[.int (-64)], vm := .none },
  { cls := 7, slots := #[.int (-63)], vm := .none },
  { cls := 7, slots := #[.int (-62)], vm := .none },
  { cls := 7, slots := #[.int (-61)], vm := .none },
  { cls := 7, slots := #[.int (-60)], vm := .none },
  { cls := 7, slots := #[.int (-59)], vm := .none },
  { cls := 7, slots := #[.int (-58)], vm := .none },
  { cls := 7, slots := #[.int (-57)], vm := .none },
  { cls := 7, slots := #[.int (-56)], vm := .none },
  { cls := 7, slots := #[.int (-55)], vm := .none },
  { cls := 7, slots := #[.int (-54)], vm := .none },
  { cls := 7, slots := #[.int (-53)], vm := .none },
  { cls := 7, slots := #[.int (-52)], vm := .none },
  { cls := 7, slots := #[.int (-51)], vm := .none },
  { cls := 7, slots := #[.int (-50)], vm := .none },
  { cls := 7, slots := #[.int (-49)], vm := .none },
  { cls := 7, slots := #[.int (-48)], vm := .none },
  { cls := 7, slots := #[.int (-47)], vm := .none },
  { cls := 7, slots := #[.int (-46)], vm := .none },
  { cls := 7, slots := #[.int (-45)], vm := .none },
  { cls := 7, slots := #[.int (-44)], vm := .none },
  { cls := 7, slots := #[.int (-43)], vm := .none },
  { cls := 7, slots := #[.int (-42)], vm := .none },
  { cls := 7, slots := #[.int (-41)], vm := .none },
  { cls := 7, slots := #[.int (-40)], vm := .none },
  { cls := 7, slots := #[.int (-39)], vm := .none },
  { cls := 7, slots := #[.int (-38)], vm := .none },
  { cls := 7, slots := #[.int (-37)], vm := .none },
  { cls := 7, slots := #[.int (-36)], vm := .none },
  { cls := 7, slots := #[.int (-35)], vm := .none },
  { cls := 7, slots := #[.int (-34)], vm := .none },
  { cls := 7, slots := #[.int (-33)], vm := .none },
  { cls := 7, slots := #[.int (-32)], vm := .none },
  { cls := 7, slots := #[.int (-31)], vm := .none },
  { cls := 7, slots := #[.int (-30)], vm := .none },
  { cls := 7, slots := #[.int (-29)], vm := .none },
  { cls := 7, slots := #[.int (-28)], vm := .none },
  { cls := 7, slots := #[.int (-27)], vm := .none },
  { cls := 7, slots := #[.int (-26)], vm := .none },
  { cls := 7, slots := #[.int (-25)], vm := .none },
  { cls := 7, slots := #[.int (-24)], vm := .none },
  { cls := 7, slots := #[.int (-23)], vm := .none },
  { cls := 7, slots := #[.int (-22)], vm := .none },
  { cls := 7, slots := #[.int (-21)], vm := .none },
  { cls := 7, slots := #[.int (-20)], vm := .none },
  { cls := 7, slots := #[.int (-19)], vm := .none },
  { cls := 7, slots := #[.int (-18)], vm := .none },
  { cls := 7, slots := #[.int (-17)], vm := .none },
  { cls := 7, slots := #[.int (-16)], vm := .none },
  { cls := 7, slots := #[.int (-15)], vm := .none },
  { cls := 7, slots := #[.int (-14)], vm := .none },
  { cls := 7, slots := #[.int (-13)], vm := .none },
  { cls := 7, slots := #[.int (-12)], vm := .none },
  { cls := 7, slots := #[.int (-11)], vm := .none },
  { cls := 7, slots := #[.int (-10)], vm := .none },
  { cls := 7, slots := #[.int (-9)], vm := .none },
  { cls := 7, slots := #[.int (-8)], vm := .none },
  { cls := 7, slots := #[.int (-7)], vm := .none },
  { cls := 7, slots := #[.int (-6)], vm := .none },
  { cls := 7, slots := #[.int (-5)], vm := .none },
  { cls := 7, slots := #[.int (-4)], vm := .none },
  { cls := 7, slots := #[.int (-3)], vm := .none },
  { cls := 7, slots := #[.int (-2)], vm := .none },
  { cls := 7, slots := #[.int (-1)], vm := .none },
  { cls := 7, slots := #[.int (0)], vm := .none },
  { cls := 7, slots := #[.int (1)], vm := .none },
  { cls := 7, slots := #[.int (2)], vm := .none },
  { cls := 7, slots := #[.int (3)], vm := .none },
  { cls := 7, slots := #[.int (4)], vm := .none },
  { cls := 7, slots := #[.int (5)], vm := .none },
  { cls := 7, slots := #[.int (6)], vm := .none },
  { cls := 7, slots := #[.int (7)], vm := .none },
  { cls := 7, slots := #[.int (8)], vm := .none },
  { cls := 7, slots := #[.int (9)], vm := .none },
  { cls := 7, slots := #[.int (10)], vm := .none },
  { cls := 7, slots := #[.int (11)], vm := .none },
  { cls := 7, slots := #[.int (12)], vm := .none },
  { cls := 7, slots := #[.int (13)], vm := .none },
  { cls := 7, slots := #[.int (14)], vm := .none },
  { cls := 7, slots := #[.int (15)], vm := .none },
  { cls := 7, slots := #[.int (16)], vm := .none },
  { cls := 7, slots := #[.int (17)], vm := .none },
  { cls := 7, slots := #[.int (18)], vm := .none },
  { cls := 7, slots := #[.int (19)], vm := .none },
  { cls := 7, slots := #[.int (20)], vm := .none },
  { cls := 7, slots := #[.int (21)], vm := .none },
  { cls := 7, slots := #[.int (22)], vm := .none },
  { cls := 7, slots := #[.int (23)], vm := .none },
  { cls := 7, slots := #[.int (24)], vm := .none },
  { cls := 7, slots := #[.int (25)], vm := .none },
  { cls := 7, slots := #[.int (26)], vm := .none },
  { cls := 7, slots := #[.int (27)], vm := .none },
  { cls := 7, slots := #[.int (28)], vm := .none },
  { cls := 7, slots := #[.int (29)], vm := .none },
  { cls := 7, slots := #[.int (30)], vm := .none },
  { cls := 7, slots := #[.int (31)], vm := .none },
  { cls := 7, slots := #[.int (32)], vm := .none },
  { cls := 7, slots := #[.int (33)], vm := .none },
  { cls := 7, slots := #[.int (34)], vm := .none },
  { cls := 7, slots := #[.int (35)], vm := .none },
  { cls := 7, slots := #[.int (36)], vm := .none },
  { cls := 7, slots := #[.int (37)], vm := .none },
  { cls := 7, slots := #[.int (38)], vm := .none },
  { cls := 7, slots := #[.int (39)], vm := .none },
  { cls := 7, slots := #[.int (40)], vm := .none },
  { cls := 7, slots := #[.int (41)], vm := .none },
  { cls := 7, slots := #[.int (42)], vm := .none },
  { cls := 7, slots := #[.int (43)], vm := .none },
  { cls := 7, slots := #[.int (44)], vm := .none },
  { cls := 7, slots := #[.int (45)], vm := .none },
  { cls := 7, slots := #[.int (46)], vm := .none },
  { cls := 7, slots := #[.int (47)], vm := .none },
  { cls := 7, slots := #[.int (48)], vm := .none },
  { cls := 7, slots := #[.int (49)], vm := .none },
  { cls := 7, slots := #[.int (50)], vm := .none },
  { cls := 7, slots := #[.int (51)], vm := .none },
  { cls := 7, slots := #[.int (52)], vm := .none },
  { cls := 7, slots := #[.int (53)], vm := .none },
  { cls := 7, slots := #[.int (54)], vm := .none },
  { cls := 7, slots := #[.int (55)], vm := .none },
  { cls := 7, slots := #[.int (56)], vm := .none },
  { cls := 7, slots := #[.int (57)], vm := .none },
  { cls := 7, slots := #[.int (58)], vm := .none },
  { cls := 7, slots := #[.int (59)], vm := .none },
  { cls := 7, slots := #[.int (60)], vm := .none },
  { cls := 7, slots := #[.int (61)], vm := .none },
  { cls := 7, slots := #[.int (62)], vm := .none },
  { cls := 7, slots := #[.int (63)], vm := .none },
  { cls := 7, slots := #[.int (64)], vm := .none },
  { cls := 7, slots := #[.int (65)], vm := .none },
  { cls := 7, slots := #[.int (66)], vm := .none },
  { cls := 7, slots := #[.int (67)], vm := .none },
  { cls := 7, slots := #[.int (68)], vm := .none },
  { cls := 7, slots := #[.int (69)], vm := .none },
  { cls := 7, slots := #[.int (70)], vm := .none },
  { cls := 7, slots := #[.int (71)], vm := .none },
  { cls := 7, slots := #[.int (72)], vm := .none },
  { cls := 7, slots := #[.int (73)], vm := .none },
  { cls := 7, slots := #[.int (74)], vm := .none },
  { cls := 7, slots := #[.int (75)], vm := .none },
  { cls := 7, slots := #[.int (76)], vm := .none },
  { cls := 7, slots := #[.int (77)], vm := .none },
  { cls := 7, slots := #[.int (78)], vm := .none },
  { cls := 7, slots := #[.int (79)], vm := .none },
  { cls := 7, slots := #[.int (80)], vm := .none },
  { cls := 7, slots := #[.int (81)], vm := .none },
  { cls := 7, slots := #[.int (82)], vm := .none },
  { cls := 7, slots := #[.int (83)], vm := .none },
  { cls := 7, slots := #[.int (84)], vm := .none },
  { cls := 7, slots := #[.int (85)], vm := .none },
  { cls := 7, slots := #[.int (86)], vm := .none },
  { cls := 7, slots := #[.int (87)], vm := .none },
  { cls := 7, slots := #[.int (88)], vm := .none },
  { cls := 7, slots := #[.int (89)], vm := .none },
  { cls := 7, slots := #[.int (90)], vm := .none },
  { cls := 7, slots := #[.int (91)], vm := .none },
  { cls := 7, slots := #[.int (92)], vm := .none },
  { cls := 7, slots := #[.int (93)], vm := .none },
  { cls := 7, slots := #[.int (94)], vm := .none },
  { cls := 7, slots := #[.int (95)], vm := .none },
  { cls := 7, slots := #[.int (96)], vm := .none },
  { cls := 7, slots := #[.int (97)], vm := .none },
  { cls := 7, slots := #[.int (98)], vm := .none },
  { cls := 7, slots := #[.int (99)], vm := .none },
  { cls := 7, slots := #[.int (100)], vm := .none },
  { cls := 7, slots := #[.int (101)], vm := .none },
  { cls := 7, slots := #[.int (102)], vm := .none },
  { cls := 7, slots := #[.int (103)], vm := .none },
  { cls := 7, slots := #[.int (104)], vm := .none },
  { cls := 7, slots := #[.int (105)], vm := .none },
  { cls := 7, slots := #[.int (106)], vm := .none },
  { cls := 7, slots := #[.int (107)], vm := .none },
  { cls := 7, slots := #[.int (108)], vm := .none },
  { cls := 7, slots := #[.int (109)], vm := .none },
  { cls := 7, slots := #[.int (110)], vm := .none },
  { cls := 7, slots := #[.int (111)], vm := .none },
  { cls := 7, slots := #[.int (112)], vm := .none },
  { cls := 7, slots := #[.int (113)], vm := .none },
  { cls := 7, slots := #[.int (114)], vm := .none },
  { cls := 7, slots := #[.int (115)], vm := .none },
  { cls := 7, slots := #[.int (116)], vm := .none },
  { cls := 7, slots := #[.int (117)], vm := .none },
  { cls := 7, slots := #[.int (118)], vm := .none },
  { cls := 7, slots := #[.int (119)], vm := .none },
  { cls := 7, slots := #[.int (120)], vm := .none },
  { cls := 7, slots := #[.int (121)], vm := .none },
  { cls := 7, slots := #[.int (122)], vm := .none },
  { cls := 7, slots := #[.int (123)], vm := .none },
  { cls := 7, slots := #[.int (124)], vm := .none },
  { cls := 7, slots := #[.int (125)], vm := .none },
  { cls := 7, slots := #[.int (126)], vm := .none },
  { cls := 7, slots := #[.int (127)], vm := .none }]
def classes : Array Class := #[k0, k1, k2, k3, k4, k5, k6, k7, k8, k9, k10, k11, k12, k13, k14, k15, k16, k17]
def interned : List (Array UInt16 × Addr) := []
def slotsUsed : Nat := 517
def theMethod : MethodId := ⟨1, 1⟩
def args0 : Array Value := #[.int 5, .int 3, .int 2, .int 0]
def aboutOver (below : List Frame) : State where
  vm := { classes := classes, interned := interned.toArray }
  heap := heap
  slotsUsed := slotsUsed
  threads := #[{ frames := .invoking theMethod args0 :: below }]
def below0 : List Frame := [.native { method := ⟨0, 0⟩, args := #[] }]
def about1 : State := aboutOver below0
def p0 : Program := .bare "" "" ""
def e0 : Env := launch0.env 0 0 0
theorem w_frames : about1.frames = Frame.invoking theMethod args0 :: below0 := rfl
set_option maxRecDepth 65536 in
theorem w_args : argsFit about1.vm theMethod args0 = true := by decide +kernel
set_option maxRecDepth 65536 in
theorem w_heap : heapFits about1 = true := by decide +kernel
set_option maxRecDepth 65536 in
theorem w_runnable : about1.curStatus? = some .runnable := by decide +kernel
set_option maxRecDepth 65536 in
theorem w_alone : about1.alone = true := by decide +kernel
set_option maxRecDepth 65536 in
theorem w_named : about1.methodNamed? x = some theMethod := by decide +kernel
set_option maxRecDepth 65536 in
theorem w_hears : about1.hears theMethod below0 = true := by decide +kernel
set_option maxRecDepth 65536 in
theorem w_ripe : about1.ripe theMethod args0 below0 = true := by decide +kernel
theorem w_running : about1.status = .running := rfl
set_option maxRecDepth 65536 in
theorem w_room : about1.hasRoom e0.platform room_1 = true :=
  launch0.hasRoom_least _ room_1 (by decide +kernel) (by decide +kernel) (by decide +kernel) (by decide +kernel) (by decide +kernel) (by decide +kernel)
theorem allAtoms_all (ts : List Jvm.Cond) (a : Array Jvm.Value) (st : Jvm.State) : (allAtoms ts).before a st = ts.all (fun c => c.before a st) := by
  induction ts with
  | nil => rfl
  | cons c t ih =>
    show (Jvm.Cond.and c (allAtoms t)).before a st = _
    rw [Jvm.Cond.before_and, ih, List.all_cons]
def words1 : List Jvm.Cond := Jvm.Cond.code x code maxLocals ret :: tables_1
/-- a 'code' word, met by the world's own term for the bytes: nothing is compared byte by byte -/
theorem code_word {y : MethodName} {bytes : ByteArray} {mx : Nat} {rt : Option FieldType} {a : Array Value} {s : State} {m : MethodId} {meth : Method} {c : Code} (h1 : s.methodNamed? y = some m) (h2 : s.vm.method? m = some meth) (h3 : meth.code = some c) (h4 : c.code = bytes)
    (h5 : (c.maxLocals == mx && c.exceptionTable.isEmpty && decide (c.maxStack ≤ mostOperands) && decide (meth.sig.returnType = rt) && !meth.locks && decide (parseMethodDescriptor y.desc = some meth.sig)) = true) : (Jvm.Cond.code y bytes mx rt).before a s = true := by
  simp only [Bool.and_eq_true, beq_iff_eq, Bool.not_eq_true', decide_eq_true_eq] at h5
  obtain ⟨⟨⟨⟨⟨g1, g2⟩, g3⟩, g4⟩, g5⟩, g6⟩ := h5
  simp [Cond.before, Cond.holds, Cond.value, h1, h2, h3, h4, g1, g2, g3, g4, g5, g6]
def isCode : Jvm.Cond → Bool
  | .code _ _ _ _ => true
  | _ => false
theorem all_split {L : List Jvm.Cond} {P : Jvm.Cond → Bool} (h1 : L.all (fun c => isCode c || P c) = true) (h2 : ∀ c ∈ L.filter isCode, P c = true) : L.all P = true := by
  refine List.all_eq_true.mpr fun c hc => ?_
  have h := List.all_eq_true.mp h1 c hc
  rcases Bool.eq_false_or_eq_true (isCode c) with hi | hi
  · exact h2 c (List.mem_filter.mpr ⟨hc, hi⟩)
  · simpa [hi] using h
set_option maxRecDepth 65536 in
theorem w_c0 : (Jvm.Cond.code x code maxLocals ret).before args0 about1 = true := code_word (m := ⟨1, 1⟩) (meth := k1m1) (c := k1c1) (by decide +kernel) rfl rfl rfl (by decide +kernel)
set_option maxRecDepth 65536 in
theorem w_c1 : (Jvm.Cond.code ({ cls := "java/lang/Integer", name := "valueOf", desc := "(I)Ljava/lang/Integer;" } : Jvm.MethodName) jdk_33_method_22_code (1 : Nat) (Option.some (Jvm.ClassFile.FieldType.object "java/lang/Integer"))).before args0 about1 = true := code_word (m := ⟨7, 0⟩) (meth := k7m0) (c := k7c0) (by decide +kernel) rfl rfl rfl (by decide +kernel)
set_option maxRecDepth 65536 in
theorem w_c2 : (Jvm.Cond.code ({ cls := "com/example/rowan/rowan/RedBlackTreeMap$Node", name := "<init>", desc := "(Ljava/lang/Object;Ljava/lang/Object;)V" } : Jvm.MethodName) prog_12_method_1_code (3 : Nat) (Option.none : Option Jvm.ClassFile.FieldType)).before args0 about1 = true := code_word (m := ⟨11, 0⟩) (meth := k11m0) (c := k11c0) (by decide +kernel) rfl rfl rfl (by decide +kernel)
set_option maxRecDepth 65536 in
theorem w_c3 : (Jvm.Cond.code ({ cls := "com/example/rowan/rowan/TreeNode", name := "<init>", desc := "(Ljava/lang/Object;Ljava/lang/Object;)V" } : Jvm.MethodName) prog_32_method_1_code (3 : Nat) (Option.none : Option Jvm.ClassFile.FieldType)).before args0 about1 = true := code_word (m := ⟨10, 0⟩) (meth := k10m0) (c := k10c0) (by decide +kernel) rfl rfl rfl (by decide +kernel)
set_option maxRecDepth 65536 in
theorem w_c4 : (Jvm.Cond.code ({ cls := "java/lang/Object", name := "<init>", desc := "()V" } : Jvm.MethodName) object_method_1_code (1 : Nat) (Option.none : Option Jvm.ClassFile.FieldType)).before args0 about1 = true := code_word (m := ⟨0, 0⟩) (meth := k0m0) (c := k0c0) (by decide +kernel) rfl rfl rfl (by decide +kernel)
set_option maxRecDepth 65536 in
theorem w_c5 : (Jvm.Cond.code ({ cls := "com/example/rowan/rowan/TreeNode", name := "getValue", desc := "()Ljava/lang/Object;" } : Jvm.MethodName) prog_32_method_3_code (1 : Nat) (Option.some (Jvm.ClassFile.FieldType.object "java/lang/Object"))).before args0 about1 = true := code_word (m := ⟨10, 2⟩) (meth := k10m2) (c := k10c2) (by decide +kernel) rfl rfl rfl (by decide +kernel)
set_option maxRecDepth 65536 in
theorem w_c6 : (Jvm.Cond.code ({ cls := "com/example/rowan/rowan/RedBlackTreeMap$Node", name := "setValue", desc := "(Ljava/lang/Object;)Ljava/lang/Object;" } : Jvm.MethodName) prog_12_method_2_code (3 : Nat) (Option.some (Jvm.ClassFile.FieldType.object "java/lang/Object"))).before args0 about1 = true := code_word (m := ⟨11, 1⟩) (meth := k11m1) (c := k11c1) (by decide +kernel) rfl rfl rfl (by decide +kernel)
set_option maxRecDepth 65536 in
theorem w_c7 : (Jvm.Cond.code ({ cls := "com/example/rowan/rowan/TreeNode", name := "getKey", desc := "()Ljava/lang/Object;" } : Jvm.MethodName) prog_32_method_2_code (1 : Nat) (Option.some (Jvm.ClassFile.FieldType.object "java/lang/Object"))).before args0 about1 = true := code_word (m := ⟨10, 1⟩) (meth := k10m1) (c := k10c1) (by decide +kernel) rfl rfl rfl (by decide +kernel)
set_option maxRecDepth 65536 in
theorem w_c8 : (Jvm.Cond.code ({ cls := "java/lang/Integer", name := "<init>", desc := "(I)V" } : Jvm.MethodName) jdk_33_method_23_code (2 : Nat) (Option.none : Option Jvm.ClassFile.FieldType)).before args0 about1 = true := code_word (m := ⟨7, 1⟩) (meth := k7m1) (c := k7c1) (by decide +kernel) rfl rfl rfl (by decide +kernel)
set_option maxRecDepth 65536 in
theorem w_c9 : (Jvm.Cond.code ({ cls := "java/lang/Number", name := "<init>", desc := "()V" } : Jvm.MethodName) jdk_18_method_1_code (1 : Nat) (Option.none : Option Jvm.ClassFile.FieldType)).before args0 about1 = true := code_word (m := ⟨3, 0⟩) (meth := k3m0) (c := k3c0) (by decide +kernel) rfl rfl rfl (by decide +kernel)
def codes1 : List Jvm.Cond := [Jvm.Cond.code x code maxLocals ret, Jvm.Cond.code ({ cls := "java/lang/Integer", name := "valueOf", desc := "(I)Ljava/lang/Integer;" } : Jvm.MethodName) jdk_33_method_22_code (1 : Nat) (Option.some (Jvm.ClassFile.FieldType.object "java/lang/Integer")), Jvm.Cond.code ({ cls := "com/example/rowan/rowan/RedBlackTreeMap$Node", name := "<init>", desc := "(Ljava/lang/Object;Ljava/lang/Object;)V" } : Jvm.MethodName) prog_12_method_1_code (3 : Nat) (Option.none : Option Jvm.ClassFile.FieldType), Jvm.Cond.code ({ cls := "com/example/rowan/rowan/TreeNode", name := "<init>", desc := "(Ljava/lang/Object;Ljava/lang/Object;)V" } : Jvm.MethodName) prog_32_method_1_code (3 : Nat) (Option.none : Option Jvm.ClassFile.FieldType), Jvm.Cond.code ({ cls := "java/lang/Object", name := "<init>", desc := "()V" } : Jvm.MethodName) object_method_1_code (1 : Nat) (Option.none : Option Jvm.ClassFile.FieldType), Jvm.Cond.code ({ cls := "com/example/rowan/rowan/TreeNode", name := "getValue", desc := "()Ljava/lang/Object;" } : Jvm.MethodName) prog_32_method_3_code (1 : Nat) (Option.some (Jvm.ClassFile.FieldType.object "java/lang/Object")), Jvm.Cond.code ({ cls := "com/example/rowan/rowan/RedBlackTreeMap$Node", name := "setValue", desc := "(Ljava/lang/Object;)Ljava/lang/Object;" } : Jvm.MethodName) prog_12_method_2_code (3 : Nat) (Option.some (Jvm.ClassFile.FieldType.object "java/lang/Object")), Jvm.Cond.code ({ cls := "com/example/rowan/rowan/TreeNode", name := "getKey", desc := "()Ljava/lang/Object;" } : Jvm.MethodName) prog_32_method_2_code (1 : Nat) (Option.some (Jvm.ClassFile.FieldType.object "java/lang/Object")), Jvm.Cond.code ({ cls := "java/lang/Integer", name := "<init>", desc := "(I)V" } : Jvm.MethodName) jdk_33_method_23_code (2 : Nat) (Option.none : Option Jvm.ClassFile.FieldType), Jvm.Cond.code ({ cls := "java/lang/Number", name := "<init>", desc := "()V" } : Jvm.MethodName) jdk_18_method_1_code (1 : Nat) (Option.none : Option Jvm.ClassFile.FieldType)]
set_option maxRecDepth 65536 in
theorem codes_eq : words1.filter isCode = codes1 := rfl
theorem w_codes : ∀ c ∈ words1.filter isCode, c.before args0 about1 = true := by
  rw [codes_eq]
  intro c hc
  simp only [codes1, List.mem_cons, List.not_mem_nil, or_false] at hc
  rcases hc with rfl | rfl | rfl | rfl | rfl | rfl | rfl | rfl | rfl | rfl
  · exact w_c0
  · exact w_c1
  · exact w_c2
  · exact w_c3
  · exact w_c4
  · exact w_c5
  · exact w_c6
  · exact w_c7
  · exact w_c8
  · exact w_c9
set_option maxRecDepth 65536 in
theorem w_t1 : (words1.take 24).all (fun c => isCode c || c.before args0 about1) = true := by decide +kernel
set_option maxRecDepth 65536 in
theorem w_t2 : ((words1.drop 24).take 24).all (fun c => isCode c || c.before args0 about1) = true := by decide +kernel
set_option maxRecDepth 65536 in
theorem w_t3 : ((words1.drop 24).drop 24).all (fun c => isCode c || c.before args0 about1) = true := by decide +kernel
theorem w_tables : (allAtoms (Jvm.Cond.code x code maxLocals ret :: tables_1)).before args0 about1 = true := by
  rw [allAtoms_all]
  show words1.all (fun c => c.before args0 about1) = true
  refine all_split ?_ w_codes
  rw [← List.take_append_drop 24 words1, List.all_append, w_t1, ← List.take_append_drop 24 (words1.drop 24), List.all_append, w_t2, w_t3]
  rfl
set_option maxRecDepth 65536 in
theorem w_rest : rest_1_c.before args0 about1 = true := by decide +kernel
set_option maxRecDepth 65536 in
theorem w_case : (Jvm.Cond.and given_1 narrow_1).before args0 about1 = true := by decide +kernel
theorem w_applies : (headSpec (Jvm.Cond.code x code maxLocals ret :: tables_1) room_1).applies x e0.platform about1 = true :=
  (Spec.applies_iff w_frames).mpr ⟨w_running, w_runnable, w_alone, w_named, w_hears, w_ripe, w_room, w_tables⟩
theorem atStart : AtStart classFile x code maxLocals ret World_1 tables_1 room_1 Calls_1 rest_1 Pre_1 launch0 p0 e0 about1 theMethod args0 below0 :=
  ⟨lists_1, trivial, launch0.admits_env _ _ _, launch0.least_env, fairChoices_fair.cas, fairChoices_fair.clock, w_frames, w_args, w_heap, w_applies, trivial, w_rest, w_case⟩
end start1
theorem witness_1 : WitnessClaimed_1 := ⟨start1.p0, start1.e0, start1.about1, start1.theMethod, start1.args0, start1.below0, start1.atStart⟩
end Jvm.Pilot.@@N@@
