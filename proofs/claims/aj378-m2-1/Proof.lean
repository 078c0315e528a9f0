import JvmDerived
import JvmDerived.Pilot.@@N@@Statement
import JvmDerived.Pilot.@@N@@Code
set_option linter.unusedVariables false
set_option linter.unusedSimpArgs false
@@BLOCK:NumsL.lean.txt@@
namespace Jvm.RoadKit
open Sem ClassFile Op Lib Bundle Jvm.Stand Jvm.Free Jvm.LawKit
theorem Ext.rfl' {h : Heap} : Ext h h := ⟨Nat.le_refl _, fun _ _ q => q⟩
theorem Ext.tr {h h1 h2 : Heap} (A : Ext h h1) (B : Ext h1 h2) : Ext h h2 := ⟨Nat.le_trans A.1 B.1, fun a c q => B.2 a c (A.2 a c q)⟩
theorem Ext.wr' {h0 h h' : Heap} {a : Addr} {sl : Nat} {v : Value} (A : Ext h0 h) (W : Wr h h' a sl v) (ha : h0.size ≤ a) : Ext h0 h' := by
  obtain ⟨cl, -, -, -, rfl⟩ := W
  refine ⟨by simpa using A.1, fun b c q => ?_⟩
  have hb : b < h0.size := (Array.getElem?_eq_some_iff.mp q).1
  rw [Array.getElem?_setIfInBounds_ne (show a ≠ b from fun z => Nat.not_lt.mpr ha (z ▸ hb))]
  exact A.2 b c q
theorem Ext.keep' {h0 h h' : Heap} {ws : List Addr} (A : Ext h0 h) (K : Keep h h' ws) (q : ∀ x ∈ ws, h0.size ≤ x) : Ext h0 h' :=
  ⟨Nat.le_trans A.1 K.1, fun x c r => K.2.1 x c (A.2 x c r) fun z => absurd (Array.getElem?_eq_some_iff.mp r).1 (Nat.not_lt.mpr (q x z))⟩
end Jvm.RoadKit
namespace Jvm.Own
open Sem ClassFile Op Lib Bundle Jvm.Stand Jvm.Free Jvm.LawKit Jvm.RoadKit
/-! The own layer: a walk is a goal `Run .. vm h cells slots (fr m pc L st)`; each instruction is one lemma that turns the goal behind it into the goal ahead of it. -/
abbrev fr (m : MethodId) (pc : Nat) (L : List Slot) (st : List Value) : JFrame := mkF m pc ⟨L⟩ st
def Ends (tb : Tables) (e : Env) (below : List Frame) (K : State → Outcome → Prop) (T : State) (g : JFrame) : Prop :=
  ∃ s₂ o, Steps tb e below (T.setTop g) s₂ ∧ s₂.status = .running ∧ Ended s₂ below o ∧ K s₂ o
theorem Ends.go {tb : Tables} {e : Env} {below : List Frame} {K : State → Outcome → Prop} {T T' : State} {g g' : JFrame} (st : ∀ t, Steps tb e below (T'.setTop g') t → Steps tb e below (T.setTop g) t) (k : Ends tb e below K T' g') : Ends tb e below K T g := by
  obtain ⟨s₂, o, h1, h2⟩ := k
  exact ⟨s₂, o, st _ h1, h2⟩
/-- one decoded instruction and the pc behind it -/
def Dc (B : ByteArray) (pc : Nat) (i : Instr) (len q : Nat) : Prop := decode B pc = .ok (i, len) ∧ pc + len = q
/-- one decoded branch, the pc behind it and its target -/
def Jp (B : ByteArray) (pc : Nat) (i : Instr) (o : Int) (q t : Nat) : Prop := decode B pc = .ok (i, 3) ∧ pc + 3 = q ∧ 0 ≤ (pc : Int) + o ∧ ((pc : Int) + o).toNat = t
/-- CHr, and in a walk that interns nothing no cell more is a constant's -/
def CHs (nw : Prop) (Z : State) (EL : List (String × Nat)) (vm : Vm) (h : Heap) (vm' : Vm) (h' : Heap) : Prop := CHr Z EL vm h vm' h' ∧ (nw → ∀ y, Bk Z EL vm' h' y → Bk Z EL vm h y)
/-- where the walk stands -/
def Pnt (p : Program) (l : Launch) (e : Env) (R : Room) (s : State) (m : MethodId) (args : Array Value) (below : List Frame) (meth : Method) (c : Code) (Z : State) (nw : Prop) (EL : List (String × Nat)) (vm : Vm) (h : Heap) (cells slots : Nat) (T : State) : Prop :=
  ∃ (k : Nat) (locs : List Loc), Stand p l e R (s.setVm vm) m args below meth c T locs cells slots ∧ T.heap = h ∧ Fr Z.heap.size locs ∧ Ext Z.heap h ∧ s.Since vm k ∧ k ≤ h.size ∧ Z.Warmed39 vm ∧ CHs nw Z EL s.vm s.heap vm h ∧ (nw → s.WarmedH vm)
def Run (p : Program) (l : Launch) (e : Env) (R : Room) (s : State) (m : MethodId) (args : Array Value) (below : List Frame) (meth : Method) (c : Code) (Z : State) (nw : Prop) (EL : List (String × Nat)) (K : State → Outcome → Prop) (vm : Vm) (h : Heap) (cells slots : Nat) (g : JFrame) : Prop :=
  ∀ T, Pnt p l e R s m args below meth c Z nw EL vm h cells slots T → Ends p.tables e below K T g
/-- what never changes in a body's walk -/
def Cx (p : Program) (s : State) (m : MethodId) (meth : Method) (c : Code) (Z : State) (a0 : Array Value) (EL : List (String × Nat)) (own : String) (B : ByteArray) (n : Nat) (nm : String) (ret : Option FieldType) : Prop :=
  p.tables.exec = Jvm.exec ∧ c.code = B ∧ s.vm.findClass own = some m.cls ∧ c.maxLocals = n ∧ meth.locks = false ∧ meth.name = nm ∧ meth.sig.returnType = ret ∧ EW Z a0 EL
/-- how a body ends -/
def Kf (s Z : State) (nw : Prop) (EL : List (String × Nat)) (rm : Room) (Q : Option Value → Heap → Prop) (s₂ : State) (o : Outcome) : Prop :=
  ∃ v L, o = .returned v ∧ Q v s₂.heap ∧ Fr Z.heap.size L ∧ Ext Z.heap s₂.heap ∧ CHs nw Z EL s.vm s.heap s₂.vm s₂.heap ∧ ReturnedEndW s o s₂ L rm.cells rm.slots ∧ (nw → s.WarmedH s₂.vm)
/-- a body's contract -/
def Met (l : Launch) (Z : State) (nw : Prop) (EL : List (String × Nat)) (y : MethodName) (B : ByteArray) (n : Nat) (ret : Option FieldType) (rm : Room) (as : Array Value) (h : Heap) (sf : List Addr) (Q : Option Value → Heap → Prop) : Prop :=
  ∀ ws : List Jvm.Cond, MetFree l y (head1 (Cond.code y B n ret :: ws) rm) (fun a U => a = as ∧ Z.Warmed39 U.vm ∧ U.heap = h ∧ CHv Z EL U.vm h ∧ Ext Z.heap h ∧ ∀ x ∈ sf, Safe Z EL U.vm h x) (fun _ _ _ _ _ => True)
    (fun _ U o U' => Kf U Z nw EL rm Q U' o)
theorem Safe.nil {Z : State} {vm : Vm} {h : Heap} {x : Addr} : Safe Z [] vm h x := fun B => by
  obtain ⟨p, hp, -⟩ := B
  cases hp
theorem CHr.keepSafe {Z : State} {EL : List (String × Nat)} {vm vm1 : Vm} {h h' : Heap} (A : CHr Z EL vm h vm1 h') {x : Addr} (hx : x < h.size) (S : Safe Z EL vm h x) : Safe Z EL vm1 h' x := CHr.safe A hx S
theorem rew_mono {s t : State} {o : Outcome} {L : List Loc} {k n k' n' : Nat} (h : ReturnedEndW s o t L k n) (hk : k ≤ k') (hn : n ≤ n') : ReturnedEndW s o t L k' n' := by
  obtain ⟨h1, h2, h3, h4⟩ := h
  exact ⟨h1, h2, h3, h4.mono hk hn⟩
theorem CHs.refl {nw : Prop} {Z : State} {EL : List (String × Nat)} {vm : Vm} {h : Heap} (H : CHv Z EL vm h) : CHs nw Z EL vm h vm h := ⟨CHr.refl H, fun _ _ q => q⟩
theorem CHs.trans {nw : Prop} {Z : State} {EL : List (String × Nat)} {vm vm1 vm2 : Vm} {h h1 h2 : Heap} (A : CHs nw Z EL vm h vm1 h1) (B : CHs nw Z EL vm1 h1 vm2 h2) : CHs nw Z EL vm h vm2 h2 := ⟨A.1.trans B.1, fun z y q => A.2 z y (B.2 z y q)⟩
theorem CHs.wr {nw : Prop} {Z : State} {EL : List (String × Nat)} {vm : Vm} {h h' : Heap} {a : Addr} {sl : Nat} {v : Value} (W : Wr h h' a sl v) (S : Safe Z EL vm h a) (H : CHv Z EL vm h) : CHs nw Z EL vm h vm h' := ⟨CHr.wr W S H, fun _ => (H.wrStep W S).2⟩
theorem CHs.ext {nw : Prop} {Z : State} {EL : List (String × Nat)} {vm : Vm} {h h' : Heap} (E : Ext h h') (H : CHv Z EL vm h) : CHs nw Z EL vm h vm h' := ⟨CHr.ext E H, fun _ => (H.step fun _ _ _ q => E.2 _ _ q).2⟩
theorem CHs.keep {nw : Prop} {Z : State} {EL : List (String × Nat)} {vm : Vm} {h h' : Heap} {ws : List Addr} (K : Keep h h' ws) (hs : ∀ x ∈ ws, Safe Z EL vm h x) (H : CHv Z EL vm h) : CHs nw Z EL vm h vm h' := ⟨CHr.keep K hs H, fun _ => (H.keepStep K hs).2⟩
theorem CHs.of {nw : Prop} {Z : State} {EL : List (String × Nat)} {vm vm1 : Vm} {h : Heap} (A : CHr Z EL vm h vm1 h) : CHs nw Z EL vm h vm1 h := ⟨A, fun _ y q => by
  rcases A.2.2 y q with z | z
  · exact z
  · obtain ⟨cell, z2⟩ := q.there
    exact absurd (Array.getElem?_eq_some_iff.mp z2).1 (Nat.not_lt.mpr z)⟩
theorem CHs.cold {nw : Prop} {Z : State} {EL : List (String × Nat)} {vm vm1 : Vm} {h h' : Heap} (A : CHr Z EL vm h vm1 h') (hn : ¬ nw) : CHs nw Z EL vm h vm1 h' := ⟨A, fun z => absurd z hn⟩
theorem CHs.mono {nw nw' : Prop} {Z : State} {EL : List (String × Nat)} {vm vm1 : Vm} {h h' : Heap} (A : CHs nw' Z EL vm h vm1 h') (hn : nw → nw') : CHs nw Z EL vm h vm1 h' := ⟨A.1, fun z => A.2 (hn z)⟩
theorem CHs.fresh {nw : Prop} {Z : State} {EL : List (String × Nat)} {vm vm1 : Vm} {h h' : Heap} (A : CHs nw Z EL vm h vm1 h') (z : nw) {x : Addr} (hx : h.size ≤ x) : Safe Z EL vm1 h' x := fun B => by
  obtain ⟨cell, z2⟩ := (A.2 z x B).there
  exact absurd (Array.getElem?_eq_some_iff.mp z2).1 (Nat.not_lt.mpr hx)
section Body
variable {p : Program} {l : Launch} {e : Env} {R : Room} {s : State} {m : MethodId} {args : Array Value} {below : List Frame} {meth : Method} {c : Code} {Z : State} {a0 : Array Value} {nw : Prop} {EL : List (String × Nat)} {K : State → Outcome → Prop} {vm : Vm} {h : Heap} {cells slots : Nat} {own nm : String} {B : ByteArray} {n : Nat} {ret : Option FieldType}
theorem Run.plain {g g' : JFrame} (st : ∀ T, At T m c below → ∀ t, Steps p.tables e below (T.setTop g') t → Steps p.tables e below (T.setTop g) t) (k : Run p l e R s m args below meth c Z nw EL K vm h cells slots g') : Run p l e R s m args below meth c Z nw EL K vm h cells slots g := by
  intro T P
  have P' := P
  obtain ⟨kk, locs, X, -⟩ := P'
  exact Ends.go (st T X.here) (k T P)
/-- what the walk knows at every point -/
theorem Run.know {g : JFrame} (k : Ext Z.heap h → Z.Warmed39 vm → CHv Z EL vm h → Run p l e R s m args below meth c Z nw EL K vm h cells slots g) : Run p l e R s m args below meth c Z nw EL K vm h cells slots g := by
  intro T P
  have P' := P
  obtain ⟨kk, locs, X, e1, e2, e3, e4, e5, e6, e7, e8⟩ := P'
  exact k e3 e6 e7.1.1 T P
theorem Run.warm (C : Cx p s m meth c Z a0 EL own B n nm ret) {g g' : JFrame}
    (st : ∀ T locs, Stand p l e R (s.setVm vm) m args below meth c T locs cells slots → T.heap = h → Z.Warmed39 (s.setVm vm).vm → (s.setVm vm).vm.findClass own = some m.cls → ∃ T', Stand p l e R (s.setVm vm) m args below meth c T' locs cells slots ∧ T'.heap = h ∧ ∀ t, Steps p.tables e below (T'.setTop g') t → Steps p.tables e below (T.setTop g) t)
    (k : Run p l e R s m args below meth c Z nw EL K vm h cells slots g') : Run p l e R s m args below meth c Z nw EL K vm h cells slots g := by
  intro T P
  obtain ⟨kk, locs, X, e1, e2, e3, e4, e5, e6, e7, e8⟩ := P
  obtain ⟨T', X', e1', hst⟩ := st T locs X e1 e6 ((e4.1.alike.findClass _ _).trans C.2.2.1)
  exact Ends.go hst (k T' ⟨kk, locs, X', e1', e2, e3, e4, e5, e6, e7, e8⟩)
theorem Run.write (C : Cx p s m meth c Z a0 EL own B n nm ret) {g g' : JFrame} {a : Addr} {sl : Nat} {v : Value}
    (st : ∀ T locs, Stand p l e R (s.setVm vm) m args below meth c T locs cells slots → T.heap = h → Z.Warmed39 (s.setVm vm).vm → (s.setVm vm).vm.findClass own = some m.cls → ∃ T' h', Stand p l e R (s.setVm vm) m args below meth c T' (locs ++ [⟨a, sl⟩]) cells slots ∧ T'.heap = h' ∧ Wr h h' a sl v ∧ ∀ t, Steps p.tables e below (T'.setTop g') t → Steps p.tables e below (T.setTop g) t)
    (ha : Z.heap.size ≤ a) (hs : Safe Z EL vm h a)
    (k : ∀ h', Wr h h' a sl v → (∀ x, Safe Z EL vm h x → Safe Z EL vm h' x) → Run p l e R s m args below meth c Z nw EL K vm h' cells slots g') : Run p l e R s m args below meth c Z nw EL K vm h cells slots g := by
  intro T P
  obtain ⟨kk, locs, X, e1, e2, e3, e4, e5, e6, e7, e8⟩ := P
  obtain ⟨T', h', X', e1', W, hst⟩ := st T locs X e1 e6 ((e4.1.alike.findClass _ _).trans C.2.2.1)
  refine Ends.go hst (k h' W (fun x S => Safe.wr W hs e7.1.1 S) T' ⟨kk, _, X', e1', Fr.snoc X' e2 ha, Ext.wr' e3 W ha, e4, ?_, e6, e7.trans (CHs.wr W hs e7.1.1), e8⟩)
  rw [W.size]; exact e5
theorem Run.grow (C : Cx p s m meth c Z a0 EL own B n nm ret) {g g' : JFrame} {nn : Nat} {F : Heap → Prop}
    (st : ∀ T locs, Stand p l e R (s.setVm vm) m args below meth c T locs cells slots → T.heap = h → Z.Warmed39 (s.setVm vm).vm → (s.setVm vm).vm.findClass own = some m.cls → ∃ T' h', Stand p l e R (s.setVm vm) m args below meth c T' locs (cells + 1) (slots + nn) ∧ T'.heap = h' ∧ Ext h h' ∧ F h' ∧ ∀ t, Steps p.tables e below (T'.setTop g') t → Steps p.tables e below (T.setTop g) t)
    (k : ∀ h', Ext h h' → F h' → CHv Z EL vm h → (∀ x, Safe Z EL vm h x → Safe Z EL vm h' x) → Run p l e R s m args below meth c Z nw EL K vm h' (cells + 1) (slots + nn) g') : Run p l e R s m args below meth c Z nw EL K vm h cells slots g := by
  intro T P
  obtain ⟨kk, locs, X, e1, e2, e3, e4, e5, e6, e7, e8⟩ := P
  obtain ⟨T', h', X', e1', E, hF, hst⟩ := st T locs X e1 e6 ((e4.1.alike.findClass _ _).trans C.2.2.1)
  exact Ends.go hst (k h' E hF e7.1.1 (fun x S => Safe.ext E e7.1.1 S) T' ⟨kk, _, X', e1', e2, Ext.tr e3 E, e4, Nat.le_trans e5 E.1, e6, e7.trans (CHs.ext E e7.1.1), e8⟩)
/-- a bound on what was made may grow -/
theorem Run.more {g : JFrame} {cells' slots' : Nat} (hc : cells ≤ cells') (hs : slots ≤ slots') (k : Run p l e R s m args below meth c Z nw EL K vm h cells' slots' g) : Run p l e R s m args below meth c Z nw EL K vm h cells slots g := by
  intro T P
  obtain ⟨kk, locs, X, r⟩ := P
  exact k T ⟨kk, locs, X.more hc hs, r⟩
/-- the end of a body -/
theorem Run.out (C : Cx p s m meth c Z a0 EL own B n nm ret) {rm : Room} {Q : Option Value → Heap → Prop} {v : Option Value} {g : JFrame} (hv : ret = none → v = none) (hQ : Q v h) (hc : cells ≤ rm.cells) (hs : slots ≤ rm.slots)
    (st : ∀ T locs, Stand p l e R (s.setVm vm) m args below meth c T locs cells slots → ∀ fs : List Frame, (∀ (f : JFrame) (acts : List Action), f.method = m → f.locked = none → f.entered = [] → (doReturn e (T.setTop f) acts v).1 = T.setFrames fs) → Steps p.tables e below (T.setTop g) (T.setFrames fs)) :
    Run p l e R s m args below meth c Z nw EL (Kf s Z nw EL rm Q) vm h cells slots g := by
  intro T P
  obtain ⟨kk, locs, X, e1, e2, e3, e4, e5, e6, e7, e8⟩ := P
  obtain ⟨fs, hr, hrun, hended, hW⟩ := X.leaveW e4 (by rw [e1]; exact e5) (v := v) (fun q => hv (C.2.2.2.2.2.2.1.symm.trans q)) C.2.2.2.2.1
  refine ⟨_, _, st T locs X fs hr, hrun, hended, v, locs, rfl, ?_, e2, ?_, ?_, rew_mono hW hc hs, fun z => State.WarmedH.trans (t := s.setVm vm) (e8 z) X.warmed⟩
  · show Q v T.heap
    rw [e1]; exact hQ
  · show Ext Z.heap T.heap
    rw [e1]; exact e3
  · show CHs nw Z EL s.vm s.heap T.vm T.heap
    rw [e1]
    exact e7.trans (CHs.of (CHv.at X e6 C.2.2.2.2.2.2.2 e7.1.1))
/-- a body's walk gives its contract; the entry's heap named -/
theorem Met.mkH {y : MethodName} {rm : Room} {as : Array Value} {sf : List Addr} {Q : Option Value → Heap → Prop} (hw : EW Z a0 EL) (hpn : plainFor y = true)
    (body : ∀ (p : Program) (e : Env) (s : State) (m : MethodId) (below : List Frame) (meth : Method) (c : Code), Cx p s m meth c Z a0 EL y.cls B n y.name ret → s.heap = h → Ext Z.heap h → (∀ x ∈ sf, Safe Z EL s.vm h x) →
      Run p l e rm s m as below meth c Z nw EL (Kf s Z nw EL rm Q) s.vm h 0 0 (entryFrame m as n)) : Met l Z nw EL y B n ret rm as h sf Q := by
  intro ws
  refine MetFree.of_bodySF hpn hisR ?_
  intro p e s m args below meth c s₁ Bd hml0 hP hK
  obtain ⟨rfl, hZ, hh, hC, hE, hS⟩ := hP
  have X0 : Stand p l e rm s m args below meth c s₁ [] 0 0 := Stand.of_body Bd
  have e0 : s₁.heap = h := by rw [← hh, Bd.state]; rfl
  have hlk : meth.locks = false := BodyLoose.notSynchronized Bd
  have C : Cx p s m meth c Z a0 EL y.cls B n y.name ret := ⟨Bd.exec, Bd.bytes, findClass_of_methodNamed Bd.named, hml0, hlk, (name_of_methodNamed Bd.named Bd.method).1, Bd.returns, hw⟩
  exact body p e s m below meth c C hh hE hS s₁ ⟨h.size, [], X0, e0, Fr.nil _, hE, (State.WarmedH.refl s).since _, Nat.le_refl _, hZ, by rw [hh]; exact CHs.refl hC, fun _ => State.WarmedH.refl s⟩
/-- a body's walk gives its contract -/
theorem Met.mk {y : MethodName} {rm : Room} {as : Array Value} {sf : List Addr} {Q : Option Value → Heap → Prop} (hw : EW Z a0 EL) (hpn : plainName y.cls = true)
    (body : ∀ (p : Program) (e : Env) (s : State) (m : MethodId) (below : List Frame) (meth : Method) (c : Code), Cx p s m meth c Z a0 EL y.cls B n y.name ret → Ext Z.heap h → (∀ x ∈ sf, Safe Z EL s.vm h x) →
      Run p l e rm s m as below meth c Z nw EL (Kf s Z nw EL rm Q) s.vm h 0 0 (entryFrame m as n)) : Met l Z nw EL y B n ret rm as h sf Q :=
  Met.mkH hw (plainFor_of_name hpn) fun p e s m below meth c C _ hE hS => body p e s m below meth c C hE hS
theorem backM {y : MethodName} {B' : ByteArray} {n' : Nat} {ret' : Option FieldType} {rm : Room} {len W : Nat} {as : Array Value} {sf : List Addr} {Q : Option Value → Heap → Prop} (M : Met l Z nw EL y B' n' ret' rm as h sf Q)
    (hZ : Z.Warmed39 vm) (wc : (Cond.code y B' n' ret').before a0 Z = true) (wz : (Cond.initialized y.cls).before a0 Z = true) (hf : rm.frames + 1 ≤ R.frames) (hl : W + (n' + 11) + rm.locals ≤ R.locals) (hEL : EW Z a0 EL) (H : CHv Z EL vm h) (hE : Ext Z.heap h) (hsf : ∀ x ∈ sf, Safe Z EL vm h x) :
    BackS l R p e below (s.setVm vm) args y len W (fun A a => a = as ∧ A.U.heap = h ∧ A.cells + rm.cells ≤ R.cells ∧ A.slots + rm.slots ≤ R.slots)
      (fun A _ v Bp => ∃ L, Q v Bp.U.heap ∧ Fr Z.heap.size L ∧ Ext Z.heap Bp.U.heap ∧ Bp.locs = A.locs ++ L ∧ Bp.cells = A.cells + rm.cells ∧ Bp.slots = A.slots + rm.slots ∧ CHs nw Z EL vm h Bp.U.vm Bp.U.heap ∧ (nw → (s.setVm vm).WarmedH Bp.U.vm)) :=
  BackS.of_freeW (bytes := B') (maxL := n') (ret := ret') (E := fun _ first o t L k n => k = rm.cells ∧ n = rm.slots ∧ (∃ v, o = .returned v ∧ Q v t.heap) ∧ Fr Z.heap.size L ∧ Ext Z.heap t.heap ∧ CHs nw Z EL first.vm first.heap t.vm t.heap ∧ (nw → first.WarmedH t.vm)) (M []) hf hl
    (fun m meth c A a Y hp => have hU : Z.Warmed39 A.U.vm := wtrans (s := s.setVm vm) hZ Y.warmed
      ⟨by show (Cond.and _ .tt).before a A.U = true; rw [Cond.before_and, mv hU wc]; rfl, mv hU wc, mv hU wz, hp.2.2.1, hp.2.2.2⟩)
    (fun m meth c A a g mk Y hp => by
      have q := CHv.at Y hZ hEL H
      exact ⟨hp.1, wtrans (s := s.setVm vm) hZ Y.warmed, hp.2.1, q.1, hE, fun x hx => (Nat.lt_or_ge x h.size).elim (fun z => CHr.safe q z (hsf x hx)) (fun z => Safe.new z)⟩) (fun _ _ _ _ _ _ _ _ _ => trivial)
    (fun _ _ _ _ ⟨v, L, h1, h2, h3, h4, h5, h6, h7⟩ => ⟨L, _, _, h6, rfl, rfl, ⟨v, h1, h2⟩, h3, h4, h5, h7⟩)
    (fun m meth c A a g mk v t L k n Y hp _ _ ⟨e1, e2, ⟨v', e3, e4⟩, e5, e6, e7, e8⟩ => by
      cases e3; subst e1 e2
      refine ⟨L, e4, e5, e6, rfl, rfl, rfl, (CHs.of (CHv.at Y hZ hEL H)).trans ?_, fun z => State.WarmedH.trans (t := A.U.calling g mk a) Y.warmed (e8 z)⟩
      rw [← hp.2.1]; exact e7)
/-- behind any call of a contract -/
theorem Run.back (C : Cx p s m meth c Z a0 EL own B n nm ret) {nw' : Prop} (hnn : nw → nw') {g : JFrame} {q : Nat} {rm : Room} {Q : Option Value → Heap → Prop} {g' : Option Value → JFrame}
    (st : ∀ k T locs, Stand p l e R (s.setVm vm) m args below meth c T locs cells slots → T.heap = h → Z.Warmed39 vm → (s.setVm vm).vm.findClass own = some m.cls → CHv Z EL vm h → Ext Z.heap h → s.Since vm k → k ≤ h.size →
      ∃ (v : Option Value) (Bp : Pt), Stand p l e R (s.setVm Bp.U.vm) m args below meth c Bp.U Bp.locs Bp.cells Bp.slots ∧ (s.setVm vm).Since Bp.U.vm Bp.U.heap.size ∧ T.heap.size ≤ Bp.U.heap.size ∧ (∃ L, Q v Bp.U.heap ∧ Fr Z.heap.size L ∧ Ext Z.heap Bp.U.heap ∧ Bp.locs = locs ++ L ∧ Bp.cells = cells + rm.cells ∧ Bp.slots = slots + rm.slots ∧ CHs nw' Z EL vm h Bp.U.vm Bp.U.heap ∧ (nw' → (s.setVm vm).WarmedH Bp.U.vm)) ∧
        Steps p.tables e below (T.setTop g) (Bp.U.setTop (g' v)))
    (k : ∀ v vm' h', Q v h' → h.size ≤ h'.size → (∀ x, x < h.size → Safe Z EL vm h x → Safe Z EL vm' h' x) → (nw' → ∀ x, h.size ≤ x → Safe Z EL vm' h' x) → Run p l e R s m args below meth c Z nw EL K vm' h' (cells + rm.cells) (slots + rm.slots) (g' v)) :
    Run p l e R s m args below meth c Z nw EL K vm h cells slots g := by
  intro T P
  obtain ⟨kk, locs, X, e1, e2, e3, e4, e5, e6, e7, e8⟩ := P
  obtain ⟨v, Bp, X', hS, hg, ⟨L, hQ, hFr, hE, l1, l2, l3, hC, hN⟩, hst⟩ := st kk T locs X e1 e6 ((e4.1.alike.findClass _ _).trans C.2.2.1) e7.1.1 e3 e4 e5
  obtain ⟨U, ls, c1, s1⟩ := Bp
  dsimp only [Pt.U, Pt.locs, Pt.cells, Pt.slots] at X' hS hg hQ hE l1 l2 l3 hC hN hst
  subst l1 l2 l3
  have hk : kk ≤ T.heap.size := by rw [e1]; exact e5
  refine Ends.go (fun t z => hst.trans z) (k v U.vm U.heap hQ (by rw [← e1]; exact hg) (fun x hx S => CHr.safe hC.1 hx S) (fun z x hx => hC.fresh z hx) U ⟨U.heap.size, _, X', rfl, Fr.app e2 hFr, hE, e4.trans hS (Nat.le_trans hk hg), Nat.le_refl _, State.Warmed39.trans (t := s.setVm vm) e6 hS.1, e7.trans (hC.mono hnn), fun z => State.WarmedH.trans (t := s.setVm vm) (e8 z) (hN (hnn z))⟩)
end Body
theorem Met.room {l : Launch} {Z : State} {nw : Prop} {EL : List (String × Nat)} {y : MethodName} {B : ByteArray} {n : Nat} {ret : Option FieldType} {rm rm' : Room} {as : Array Value} {h : Heap} {sf : List Addr} {Q : Option Value → Heap → Prop} (M : Met l Z nw EL y B n ret rm as h sf Q) (h1 : rm.frames ≤ rm'.frames) (h2 : rm.cells ≤ rm'.cells) (h3 : rm.slots ≤ rm'.slots) (h4 : rm.locals ≤ rm'.locals) : Met l Z nw EL y B n ret rm' as h sf Q := by
  intro ws p e ha hc hk s m args below hf happ hP hK
  obtain ⟨a1, a2, a3, a4, a5, a6, a7, a8⟩ := (Spec.appliesLoose_iff hf).mp happ
  obtain ⟨k, o, b1, b2, b3, v, L, b4, b5, b6, b7, b8, b9, b10⟩ := M ws p e ha hc hk s m args below hf ((Spec.appliesLoose_iff hf).mpr ⟨a1, a2, a3, a4, a5, a6, hasRoom_mono h1 h4 h2 h3 a7, a8⟩) hP hK
  exact ⟨k, o, b1, b2, b3, v, L, b4, b5, b6, b7, b8, rew_mono b9 h2 h3, b10⟩
/-- what is promised may be weakened -/
theorem Met.imp {l : Launch} {Z : State} {nw : Prop} {EL : List (String × Nat)} {y : MethodName} {B : ByteArray} {n : Nat} {ret : Option FieldType} {rm : Room} {as : Array Value} {h : Heap} {sf : List Addr} {Q Q' : Option Value → Heap → Prop} (M : Met l Z nw EL y B n ret rm as h sf Q) (hq : ∀ v h', Q v h' → Q' v h') : Met l Z nw EL y B n ret rm as h sf Q' := by
  intro ws p e ha hc hk s m args below hf happ hP hK
  obtain ⟨k, o, b1, b2, b3, v, L, b4, b5, b6, b7, b8, b9, b10⟩ := M ws p e ha hc hk s m args below hf happ hP hK
  exact ⟨k, o, b1, b2, b3, v, L, b4, hq _ _ b5, b6, b7, b8, b9, b10⟩
section Steps
variable {p : Program} {l : Launch} {e : Env} {R : Room} {s : State} {m : MethodId} {args : Array Value} {below : List Frame} {meth : Method} {c : Code} {Z : State} {a0 : Array Value} {nw : Prop} {EL : List (String × Nat)} {K : State → Outcome → Prop} {vm : Vm} {h : Heap} {cells slots : Nat} {own nm : String} {B : ByteArray} {n : Nat} {ret : Option FieldType} {pc q tq : Nat} {L : List Slot} {r : List Value} {a : Addr}
theorem R_iadd (C : Cx p s m meth c Z a0 EL own B n nm ret) {x y : Int32} (hd : Dc B pc (.iadd) 1 q) 
    (k : Run p l e R s m args below meth c Z nw EL K vm h cells slots (fr m q L (.int (x + y) :: r))) : Run p l e R s m args below meth c Z nw EL K vm h cells slots (fr m pc L (.int y :: .int x :: r)) := by
  obtain ⟨hd, rfl⟩ := hd
  exact Run.plain (fun T A t st => XS.iadd A C.1 rfl (hb C.2.1 hd) rfl st) k
theorem R_isub (C : Cx p s m meth c Z a0 EL own B n nm ret) {x y : Int32} (hd : Dc B pc (.isub) 1 q) 
    (k : Run p l e R s m args below meth c Z nw EL K vm h cells slots (fr m q L (.int (x - y) :: r))) : Run p l e R s m args below meth c Z nw EL K vm h cells slots (fr m pc L (.int y :: .int x :: r)) := by
  obtain ⟨hd, rfl⟩ := hd
  exact Run.plain (fun T A t st => XS.isub A C.1 rfl (hb C.2.1 hd) rfl st) k
theorem R_imul (C : Cx p s m meth c Z a0 EL own B n nm ret) {x y : Int32} (hd : Dc B pc (.imul) 1 q) 
    (k : Run p l e R s m args below meth c Z nw EL K vm h cells slots (fr m q L (.int (x * y) :: r))) : Run p l e R s m args below meth c Z nw EL K vm h cells slots (fr m pc L (.int y :: .int x :: r)) := by
  obtain ⟨hd, rfl⟩ := hd
  exact Run.plain (fun T A t st => XS.imul A C.1 rfl (hb C.2.1 hd) rfl st) k
theorem R_iand (C : Cx p s m meth c Z a0 EL own B n nm ret) {x y : Int32} (hd : Dc B pc (.iand) 1 q) 
    (k : Run p l e R s m args below meth c Z nw EL K vm h cells slots (fr m q L (.int (x &&& y) :: r))) : Run p l e R s m args below meth c Z nw EL K vm h cells slots (fr m pc L (.int y :: .int x :: r)) := by
  obtain ⟨hd, rfl⟩ := hd
  exact Run.plain (fun T A t st => XS.iand A C.1 rfl (hb C.2.1 hd) rfl st) k
theorem R_ior (C : Cx p s m meth c Z a0 EL own B n nm ret) {x y : Int32} (hd : Dc B pc (.ior) 1 q) 
    (k : Run p l e R s m args below meth c Z nw EL K vm h cells slots (fr m q L (.int (x ||| y) :: r))) : Run p l e R s m args below meth c Z nw EL K vm h cells slots (fr m pc L (.int y :: .int x :: r)) := by
  obtain ⟨hd, rfl⟩ := hd
  exact Run.plain (fun T A t st => XT.ior A C.1 rfl (hb C.2.1 hd) rfl st) k
theorem R_ixor (C : Cx p s m meth c Z a0 EL own B n nm ret) {x y : Int32} (hd : Dc B pc (.ixor) 1 q) 
    (k : Run p l e R s m args below meth c Z nw EL K vm h cells slots (fr m q L (.int (x ^^^ y) :: r))) : Run p l e R s m args below meth c Z nw EL K vm h cells slots (fr m pc L (.int y :: .int x :: r)) := by
  obtain ⟨hd, rfl⟩ := hd
  exact Run.plain (fun T A t st => XT.ixor A C.1 rfl (hb C.2.1 hd) rfl st) k
theorem R_ishl (C : Cx p s m meth c Z a0 EL own B n nm ret) {x y : Int32} (hd : Dc B pc (.ishl) 1 q) 
    (k : Run p l e R s m args below meth c Z nw EL K vm h cells slots (fr m q L (.int (x <<< (y &&& 31)) :: r))) : Run p l e R s m args below meth c Z nw EL K vm h cells slots (fr m pc L (.int y :: .int x :: r)) := by
  obtain ⟨hd, rfl⟩ := hd
  exact Run.plain (fun T A t st => XT.ishl A C.1 rfl (hb C.2.1 hd) rfl st) k
theorem R_ishr (C : Cx p s m meth c Z a0 EL own B n nm ret) {x y : Int32} (hd : Dc B pc (.ishr) 1 q) 
    (k : Run p l e R s m args below meth c Z nw EL K vm h cells slots (fr m q L (.int (x >>> (y &&& 31)) :: r))) : Run p l e R s m args below meth c Z nw EL K vm h cells slots (fr m pc L (.int y :: .int x :: r)) := by
  obtain ⟨hd, rfl⟩ := hd
  exact Run.plain (fun T A t st => XT.ishr A C.1 rfl (hb C.2.1 hd) rfl st) k
theorem R_iushr (C : Cx p s m meth c Z a0 EL own B n nm ret) {x y : Int32} (hd : Dc B pc (.iushr) 1 q) 
    (k : Run p l e R s m args below meth c Z nw EL K vm h cells slots (fr m q L (.int (XT.ushr x y) :: r))) : Run p l e R s m args below meth c Z nw EL K vm h cells slots (fr m pc L (.int y :: .int x :: r)) := by
  obtain ⟨hd, rfl⟩ := hd
  exact Run.plain (fun T A t st => XT.iushr A C.1 rfl (hb C.2.1 hd) rfl st) k
theorem R_ineg (C : Cx p s m meth c Z a0 EL own B n nm ret) {x : Int32} (hd : Dc B pc (.ineg) 1 q) 
    (k : Run p l e R s m args below meth c Z nw EL K vm h cells slots (fr m q L (.int (-x) :: r))) : Run p l e R s m args below meth c Z nw EL K vm h cells slots (fr m pc L (.int x :: r)) := by
  obtain ⟨hd, rfl⟩ := hd
  exact Run.plain (fun T A t st => XS.ineg A C.1 rfl (hb C.2.1 hd) rfl st) k
theorem R_idiv (C : Cx p s m meth c Z a0 EL own B n nm ret) {x y : Int32} (hd : Dc B pc (.idiv) 1 q) (hy : y ≠ 0)
    (k : Run p l e R s m args below meth c Z nw EL K vm h cells slots (fr m q L (.int (x / y) :: r))) : Run p l e R s m args below meth c Z nw EL K vm h cells slots (fr m pc L (.int y :: .int x :: r)) := by
  obtain ⟨hd, rfl⟩ := hd
  exact Run.plain (fun T A t st => XS.idiv A C.1 rfl (hb C.2.1 hd) rfl hy st) k
theorem R_irem (C : Cx p s m meth c Z a0 EL own B n nm ret) {x y : Int32} (hd : Dc B pc (.irem) 1 q) (hy : y ≠ 0)
    (k : Run p l e R s m args below meth c Z nw EL K vm h cells slots (fr m q L (.int (x % y) :: r))) : Run p l e R s m args below meth c Z nw EL K vm h cells slots (fr m pc L (.int y :: .int x :: r)) := by
  obtain ⟨hd, rfl⟩ := hd
  refine Run.plain (fun T A t st => XS.irem A C.1 rfl (hb C.2.1 hd) rfl hy ?_) k
  have q : x - x / y * y = x % y := irem_eq_mod x y
  rw [q]; exact st
theorem R_ladd (C : Cx p s m meth c Z a0 EL own B n nm ret) {x y : Int64} (hd : Dc B pc (.ladd) 1 q) 
    (k : Run p l e R s m args below meth c Z nw EL K vm h cells slots (fr m q L (.long (x + y) :: r))) : Run p l e R s m args below meth c Z nw EL K vm h cells slots (fr m pc L (.long y :: .long x :: r)) := by
  obtain ⟨hd, rfl⟩ := hd
  exact Run.plain (fun T A t st => XT.ladd A C.1 rfl (hb C.2.1 hd) rfl st) k
theorem R_lsub (C : Cx p s m meth c Z a0 EL own B n nm ret) {x y : Int64} (hd : Dc B pc (.lsub) 1 q) 
    (k : Run p l e R s m args below meth c Z nw EL K vm h cells slots (fr m q L (.long (x - y) :: r))) : Run p l e R s m args below meth c Z nw EL K vm h cells slots (fr m pc L (.long y :: .long x :: r)) := by
  obtain ⟨hd, rfl⟩ := hd
  exact Run.plain (fun T A t st => XT.lsub A C.1 rfl (hb C.2.1 hd) rfl st) k
theorem R_lmul (C : Cx p s m meth c Z a0 EL own B n nm ret) {x y : Int64} (hd : Dc B pc (.lmul) 1 q) 
    (k : Run p l e R s m args below meth c Z nw EL K vm h cells slots (fr m q L (.long (x * y) :: r))) : Run p l e R s m args below meth c Z nw EL K vm h cells slots (fr m pc L (.long y :: .long x :: r)) := by
  obtain ⟨hd, rfl⟩ := hd
  exact Run.plain (fun T A t st => XT.lmul A C.1 rfl (hb C.2.1 hd) rfl st) k
theorem R_land (C : Cx p s m meth c Z a0 EL own B n nm ret) {x y : Int64} (hd : Dc B pc (.land) 1 q) 
    (k : Run p l e R s m args below meth c Z nw EL K vm h cells slots (fr m q L (.long (x &&& y) :: r))) : Run p l e R s m args below meth c Z nw EL K vm h cells slots (fr m pc L (.long y :: .long x :: r)) := by
  obtain ⟨hd, rfl⟩ := hd
  exact Run.plain (fun T A t st => XT.land A C.1 rfl (hb C.2.1 hd) rfl st) k
theorem R_lor (C : Cx p s m meth c Z a0 EL own B n nm ret) {x y : Int64} (hd : Dc B pc (.lor) 1 q) 
    (k : Run p l e R s m args below meth c Z nw EL K vm h cells slots (fr m q L (.long (x ||| y) :: r))) : Run p l e R s m args below meth c Z nw EL K vm h cells slots (fr m pc L (.long y :: .long x :: r)) := by
  obtain ⟨hd, rfl⟩ := hd
  exact Run.plain (fun T A t st => XT.lor A C.1 rfl (hb C.2.1 hd) rfl st) k
theorem R_lxor (C : Cx p s m meth c Z a0 EL own B n nm ret) {x y : Int64} (hd : Dc B pc (.lxor) 1 q) 
    (k : Run p l e R s m args below meth c Z nw EL K vm h cells slots (fr m q L (.long (x ^^^ y) :: r))) : Run p l e R s m args below meth c Z nw EL K vm h cells slots (fr m pc L (.long y :: .long x :: r)) := by
  obtain ⟨hd, rfl⟩ := hd
  exact Run.plain (fun T A t st => XT.lxor A C.1 rfl (hb C.2.1 hd) rfl st) k
theorem R_lushr (C : Cx p s m meth c Z a0 EL own B n nm ret) {x : Int64} {y : Int32} (hd : Dc B pc (.lushr) 1 q) 
    (k : Run p l e R s m args below meth c Z nw EL K vm h cells slots (fr m q L (.long (XT.ushrL x y) :: r))) : Run p l e R s m args below meth c Z nw EL K vm h cells slots (fr m pc L (.int y :: .long x :: r)) := by
  obtain ⟨hd, rfl⟩ := hd
  exact Run.plain (fun T A t st => XT.lushr A C.1 rfl (hb C.2.1 hd) rfl st) k
theorem R_lcmp (C : Cx p s m meth c Z a0 EL own B n nm ret) {x y : Int64} (hd : Dc B pc (.lcmp) 1 q) 
    (k : Run p l e R s m args below meth c Z nw EL K vm h cells slots (fr m q L (.int (XT.cmpL x y) :: r))) : Run p l e R s m args below meth c Z nw EL K vm h cells slots (fr m pc L (.long y :: .long x :: r)) := by
  obtain ⟨hd, rfl⟩ := hd
  exact Run.plain (fun T A t st => XT.lcmp A C.1 rfl (hb C.2.1 hd) rfl st) k
theorem R_i2l (C : Cx p s m meth c Z a0 EL own B n nm ret) {x : Int32} (hd : Dc B pc (.i2l) 1 q) 
    (k : Run p l e R s m args below meth c Z nw EL K vm h cells slots (fr m q L (.long x.toInt64 :: r))) : Run p l e R s m args below meth c Z nw EL K vm h cells slots (fr m pc L (.int x :: r)) := by
  obtain ⟨hd, rfl⟩ := hd
  exact Run.plain (fun T A t st => XT.i2l A C.1 rfl (hb C.2.1 hd) rfl st) k
theorem R_l2i (C : Cx p s m meth c Z a0 EL own B n nm ret) {x : Int64} (hd : Dc B pc (.l2i) 1 q) 
    (k : Run p l e R s m args below meth c Z nw EL K vm h cells slots (fr m q L (.int x.toInt32 :: r))) : Run p l e R s m args below meth c Z nw EL K vm h cells slots (fr m pc L (.long x :: r)) := by
  obtain ⟨hd, rfl⟩ := hd
  exact Run.plain (fun T A t st => XT.l2i A C.1 rfl (hb C.2.1 hd) rfl st) k
theorem R_i2b (C : Cx p s m meth c Z a0 EL own B n nm ret) {x : Int32} (hd : Dc B pc (.i2b) 1 q) 
    (k : Run p l e R s m args below meth c Z nw EL K vm h cells slots (fr m q L (.int x.toInt8.toInt32 :: r))) : Run p l e R s m args below meth c Z nw EL K vm h cells slots (fr m pc L (.int x :: r)) := by
  obtain ⟨hd, rfl⟩ := hd
  exact Run.plain (fun T A t st => XT.i2b A C.1 rfl (hb C.2.1 hd) rfl st) k
theorem R_i2c (C : Cx p s m meth c Z a0 EL own B n nm ret) {x : Int32} (hd : Dc B pc (.i2c) 1 q) 
    (k : Run p l e R s m args below meth c Z nw EL K vm h cells slots (fr m q L (.int (nar .char x) :: r))) : Run p l e R s m args below meth c Z nw EL K vm h cells slots (fr m pc L (.int x :: r)) := by
  obtain ⟨hd, rfl⟩ := hd
  exact Run.plain (fun T A t st => XT.i2c A C.1 rfl (hb C.2.1 hd) rfl st) k
theorem R_dup (C : Cx p s m meth c Z a0 EL own B n nm ret) {v : Value} (hd : Dc B pc (.dup) 1 q) (hc : v.category = 1)
    (k : Run p l e R s m args below meth c Z nw EL K vm h cells slots (fr m q L (v :: v :: r))) : Run p l e R s m args below meth c Z nw EL K vm h cells slots (fr m pc L (v :: r)) := by
  obtain ⟨hd, rfl⟩ := hd
  exact Run.plain (fun T A t st => XS.dup A C.1 rfl (hb C.2.1 hd) rfl hc st) k
theorem R_pop (C : Cx p s m meth c Z a0 EL own B n nm ret) {v : Value} (hd : Dc B pc (.pop) 1 q) (hc : v.category = 1)
    (k : Run p l e R s m args below meth c Z nw EL K vm h cells slots (fr m q L (r))) : Run p l e R s m args below meth c Z nw EL K vm h cells slots (fr m pc L (v :: r)) := by
  obtain ⟨hd, rfl⟩ := hd
  exact Run.plain (fun T A t st => XT.pop A C.1 rfl (hb C.2.1 hd) rfl hc st) k
theorem R_dup_x1 (C : Cx p s m meth c Z a0 EL own B n nm ret) {v w : Value} (hd : Dc B pc (.dup_x1) 1 q) (hc : v.category = 1) (hc' : w.category = 1)
    (k : Run p l e R s m args below meth c Z nw EL K vm h cells slots (fr m q L (v :: w :: v :: r))) : Run p l e R s m args below meth c Z nw EL K vm h cells slots (fr m pc L (v :: w :: r)) := by
  obtain ⟨hd, rfl⟩ := hd
  exact Run.plain (fun T A t st => XT.dupX1 A C.1 rfl (hb C.2.1 hd) rfl hc hc' st) k
theorem R_dup2 (C : Cx p s m meth c Z a0 EL own B n nm ret) {v w : Value} (hd : Dc B pc (.dup2) 1 q) (hc : v.category = 1) (hc' : w.category = 1)
    (k : Run p l e R s m args below meth c Z nw EL K vm h cells slots (fr m q L (v :: w :: v :: w :: r))) : Run p l e R s m args below meth c Z nw EL K vm h cells slots (fr m pc L (v :: w :: r)) := by
  obtain ⟨hd, rfl⟩ := hd
  exact Run.plain (fun T A t st => XT.dup2 A C.1 rfl (hb C.2.1 hd) rfl hc hc' st) k
theorem R_aconst_null (C : Cx p s m meth c Z a0 EL own B n nm ret)  (hd : Dc B pc (.aconst_null) 1 q) 
    (k : Run p l e R s m args below meth c Z nw EL K vm h cells slots (fr m q L (.null :: r))) : Run p l e R s m args below meth c Z nw EL K vm h cells slots (fr m pc L (r)) := by
  obtain ⟨hd, rfl⟩ := hd
  exact Run.plain (fun T A t st => XS.aconstNull A C.1 rfl (hb C.2.1 hd)  st) k
theorem R_iconst (C : Cx p s m meth c Z a0 EL own B n nm ret) {i : Int} {v : Int32} (hd : Dc B pc (.iconst i) 1 q) (hv : Int32.ofInt i = v)
    (k : Run p l e R s m args below meth c Z nw EL K vm h cells slots (fr m q L (.int v :: r))) : Run p l e R s m args below meth c Z nw EL K vm h cells slots (fr m pc L r) := by
  obtain ⟨hd, rfl⟩ := hd
  subst hv
  exact Run.plain (fun T A t st => XS.iconst A C.1 rfl (hb C.2.1 hd) st) k
theorem R_bipush (C : Cx p s m meth c Z a0 EL own B n nm ret) {i : Int} {v : Int32} (hd : Dc B pc (.bipush i) 2 q) (hv : (Int8.ofInt i).toInt32 = v)
    (k : Run p l e R s m args below meth c Z nw EL K vm h cells slots (fr m q L (.int v :: r))) : Run p l e R s m args below meth c Z nw EL K vm h cells slots (fr m pc L r) := by
  obtain ⟨hd, rfl⟩ := hd
  subst hv
  exact Run.plain (fun T A t st => XS.bipush A C.1 rfl (hb C.2.1 hd) st) k
theorem R_sipush (C : Cx p s m meth c Z a0 EL own B n nm ret) {i : Int} {v : Int32} (hd : Dc B pc (.sipush i) 3 q) (hv : (Int16.ofInt i).toInt32 = v)
    (k : Run p l e R s m args below meth c Z nw EL K vm h cells slots (fr m q L (.int v :: r))) : Run p l e R s m args below meth c Z nw EL K vm h cells slots (fr m pc L r) := by
  obtain ⟨hd, rfl⟩ := hd
  subst hv
  exact Run.plain (fun T A t st => XS.sipush A C.1 rfl (hb C.2.1 hd) st) k
theorem R_lconst (C : Cx p s m meth c Z a0 EL own B n nm ret) {i : Fin 2} {v : Int64} (hd : Dc B pc (.lconst i) 1 q) (hv : Int64.ofNat i = v)
    (k : Run p l e R s m args below meth c Z nw EL K vm h cells slots (fr m q L (.long v :: r))) : Run p l e R s m args below meth c Z nw EL K vm h cells slots (fr m pc L r) := by
  obtain ⟨hd, rfl⟩ := hd
  subst hv
  exact Run.plain (fun T A t st => XT.lconst A C.1 rfl (hb C.2.1 hd) st) k
theorem lget {L : List Slot} {k : Nat} {x : Slot} (h : L[k]? = some x) : (⟨L⟩ : Array Slot)[k]? = some x := by simpa using h
theorem R_iload (C : Cx p s m meth c Z a0 EL own B n nm ret) {j : Nat} {v : Int32} (hd : Dc B pc (.iload j) 2 q) (hl : L[j]? = some (.val (.int v)))
    (k : Run p l e R s m args below meth c Z nw EL K vm h cells slots (fr m q L (.int v :: r))) : Run p l e R s m args below meth c Z nw EL K vm h cells slots (fr m pc L r) := by
  obtain ⟨hd, rfl⟩ := hd
  exact Run.plain (fun T A t st => XS.iload A C.1 rfl (hb C.2.1 hd) (lget hl) st) k
theorem R_iload_n (C : Cx p s m meth c Z a0 EL own B n nm ret) {j : Fin 4} {v : Int32} (hd : Dc B pc (.iload_n j) 1 q) (hl : L[j.val]? = some (.val (.int v)))
    (k : Run p l e R s m args below meth c Z nw EL K vm h cells slots (fr m q L (.int v :: r))) : Run p l e R s m args below meth c Z nw EL K vm h cells slots (fr m pc L r) := by
  obtain ⟨hd, rfl⟩ := hd
  exact Run.plain (fun T A t st => XS.iloadN A C.1 rfl (hb C.2.1 hd) (lget hl) st) k
theorem R_lload (C : Cx p s m meth c Z a0 EL own B n nm ret) {j : Nat} {v : Int64} (hd : Dc B pc (.lload j) 2 q) (hl : L[j]? = some (.val (.long v)))
    (k : Run p l e R s m args below meth c Z nw EL K vm h cells slots (fr m q L (.long v :: r))) : Run p l e R s m args below meth c Z nw EL K vm h cells slots (fr m pc L r) := by
  obtain ⟨hd, rfl⟩ := hd
  exact Run.plain (fun T A t st => XT.lload A C.1 rfl (hb C.2.1 hd) (lget hl) st) k
theorem R_lload_n (C : Cx p s m meth c Z a0 EL own B n nm ret) {j : Fin 4} {v : Int64} (hd : Dc B pc (.lload_n j) 1 q) (hl : L[j.val]? = some (.val (.long v)))
    (k : Run p l e R s m args below meth c Z nw EL K vm h cells slots (fr m q L (.long v :: r))) : Run p l e R s m args below meth c Z nw EL K vm h cells slots (fr m pc L r) := by
  obtain ⟨hd, rfl⟩ := hd
  exact Run.plain (fun T A t st => XT.lloadN A C.1 rfl (hb C.2.1 hd) (lget hl) st) k
theorem R_aload (C : Cx p s m meth c Z a0 EL own B n nm ret) {j : Nat} {v : Value} (hd : Dc B pc (.aload j) 2 q) (hl : L[j]? = some (.val v)) (hv : v.isRef = true)
    (k : Run p l e R s m args below meth c Z nw EL K vm h cells slots (fr m q L (v :: r))) : Run p l e R s m args below meth c Z nw EL K vm h cells slots (fr m pc L r) := by
  obtain ⟨hd, rfl⟩ := hd
  exact Run.plain (fun T A t st => XS.aload A C.1 rfl (hb C.2.1 hd) (lget hl) hv st) k
theorem R_aload_n (C : Cx p s m meth c Z a0 EL own B n nm ret) {j : Fin 4} {v : Value} (hd : Dc B pc (.aload_n j) 1 q) (hl : L[j.val]? = some (.val v)) (hv : v.isRef = true)
    (k : Run p l e R s m args below meth c Z nw EL K vm h cells slots (fr m q L (v :: r))) : Run p l e R s m args below meth c Z nw EL K vm h cells slots (fr m pc L r) := by
  obtain ⟨hd, rfl⟩ := hd
  exact Run.plain (fun T A t st => XS.aloadN A C.1 rfl (hb C.2.1 hd) (lget hl) hv st) k
theorem notin1 {x a : Nat} (h : x < a) : x ∉ [a] := fun z => Nat.lt_irrefl _ ((List.mem_singleton.mp z) ▸ h)
theorem notin2 {x a b : Nat} (h1 : x < a) (h2 : x < b) : x ∉ [a, b] := fun z => by
  rcases List.mem_cons.mp z with z | z
  · rw [z] at h1; exact Nat.lt_irrefl _ h1
  · exact notin1 h2 z
theorem cat_int (x : Int32) : (Value.int x).category = 1 := rfl
theorem cat_rf (x : Addr) : (Value.ref x).category = 1 := rfl
theorem cat_lng (x : Int64) : (Value.long x).category = 2 := rfl
theorem fv0 : ((0 : Fin 4) : Nat) = 0 := rfl
theorem fv1 : ((1 : Fin 4) : Nat) = 1 := rfl
theorem fv2 : ((2 : Fin 4) : Nat) = 2 := rfl
theorem fv3 : ((3 : Fin 4) : Nat) = 3 := rfl
def okSlot (x : Slot) : Bool := match x with | .unset => true | .val v => v.category == 1 | .second => false
def okS (L : List Slot) (k : Nat) : Bool := match L[k]? with | some x => okSlot x | none => false
theorem okS_store {L : List Slot} {k : Nat} {v : Value} (h : okS L k = true) (hv : v.category = 1) : storeLocals ⟨L⟩ k v = some ⟨L.set k (.val v)⟩ := by
  have q : (⟨L⟩ : Array Slot).setIfInBounds k (.val v) = ⟨L.set k (.val v)⟩ := by simp
  rw [← q]
  unfold okS at h
  cases e : L[k]? with
  | none => rw [e] at h; cases h
  | some x =>
    rw [e] at h
    cases x with
    | unset => exact XS.store1 (lget e) (Or.inl rfl) hv
    | second => cases h
    | val w => exact XS.store1 (lget e) (Or.inr ⟨w, rfl, by simpa [okSlot] using h⟩) hv
theorem R_istore (C : Cx p s m meth c Z a0 EL own B n nm ret) {j : Nat} {v : Int32} (hd : Dc B pc (.istore j) 2 q) (hl : okS L j = true)
    (k : Run p l e R s m args below meth c Z nw EL K vm h cells slots (fr m q (L.set j (.val (.int v))) r)) : Run p l e R s m args below meth c Z nw EL K vm h cells slots (fr m pc L (.int v :: r)) := by
  obtain ⟨hd, rfl⟩ := hd
  exact Run.plain (fun T A t st => XS.istore A C.1 rfl (hb C.2.1 hd) rfl (okS_store hl rfl) st) k
theorem R_istore_n (C : Cx p s m meth c Z a0 EL own B n nm ret) {j : Fin 4} {v : Int32} (hd : Dc B pc (.istore_n j) 1 q) (hl : okS L j.val = true)
    (k : Run p l e R s m args below meth c Z nw EL K vm h cells slots (fr m q (L.set j.val (.val (.int v))) r)) : Run p l e R s m args below meth c Z nw EL K vm h cells slots (fr m pc L (.int v :: r)) := by
  obtain ⟨hd, rfl⟩ := hd
  exact Run.plain (fun T A t st => XS.istoreN A C.1 rfl (hb C.2.1 hd) rfl (okS_store hl rfl) st) k
theorem R_astore (C : Cx p s m meth c Z a0 EL own B n nm ret) {j : Nat} {v : Value} (hd : Dc B pc (.astore j) 2 q) (hv : v.isRef = true) (hc : v.category = 1) (hl : okS L j = true)
    (k : Run p l e R s m args below meth c Z nw EL K vm h cells slots (fr m q (L.set j (.val v)) r)) : Run p l e R s m args below meth c Z nw EL K vm h cells slots (fr m pc L (v :: r)) := by
  obtain ⟨hd, rfl⟩ := hd
  exact Run.plain (fun T A t st => XS.astore A C.1 rfl (hb C.2.1 hd) rfl hv (okS_store hl hc) st) k
theorem R_astore_n (C : Cx p s m meth c Z a0 EL own B n nm ret) {j : Fin 4} {v : Value} (hd : Dc B pc (.astore_n j) 1 q) (hv : v.isRef = true) (hc : v.category = 1) (hl : okS L j.val = true)
    (k : Run p l e R s m args below meth c Z nw EL K vm h cells slots (fr m q (L.set j.val (.val v)) r)) : Run p l e R s m args below meth c Z nw EL K vm h cells slots (fr m pc L (v :: r)) := by
  obtain ⟨hd, rfl⟩ := hd
  exact Run.plain (fun T A t st => XS.astoreN A C.1 rfl (hb C.2.1 hd) rfl hv (okS_store hl hc) st) k
theorem R_lstore (C : Cx p s m meth c Z a0 EL own B n nm ret) {j : Nat} {v : Int64} {L' : List Slot} (hd : Dc B pc (.lstore j) 2 q) (hl : storeLocals ⟨L⟩ j (.long v) = some ⟨L'⟩)
    (k : Run p l e R s m args below meth c Z nw EL K vm h cells slots (fr m q L' r)) : Run p l e R s m args below meth c Z nw EL K vm h cells slots (fr m pc L (.long v :: r)) := by
  obtain ⟨hd, rfl⟩ := hd
  exact Run.plain (fun T A t st => XT.lstore A C.1 rfl (hb C.2.1 hd) rfl hl st) k
theorem R_iinc (C : Cx p s m meth c Z a0 EL own B n nm ret) {j : Nat} {d : Int} {v w dI : Int32} (hd : Dc B pc (.iinc j d) 3 q) (hl : L[j]? = some (.val (.int v))) (ho : okS L j = true) (hdI : Int32.ofInt d = dI) (hw : v + dI = w)
    (k : Run p l e R s m args below meth c Z nw EL K vm h cells slots (fr m q (L.set j (.val (.int w))) r)) : Run p l e R s m args below meth c Z nw EL K vm h cells slots (fr m pc L r) := by
  obtain ⟨hd, rfl⟩ := hd
  subst hdI hw
  exact Run.plain (fun T A t st => XS.iinc A C.1 rfl (hb C.2.1 hd) (lget hl) (okS_store ho rfl) st) k
theorem R_goto (C : Cx p s m meth c Z a0 EL own B n nm ret) {o : Int} (hd : Jp B pc (.goto o) o q tq)
    (k : Run p l e R s m args below meth c Z nw EL K vm h cells slots (fr m tq L r)) : Run p l e R s m args below meth c Z nw EL K vm h cells slots (fr m pc L r) := by
  obtain ⟨hd, -, h1, h2⟩ := hd
  exact Run.plain (fun T A t st => XS.goto A C.1 rfl rfl (hb C.2.1 hd) h1 h2 st) k
abbrev cpr (cd : ClassFile.Cond) (x y : Int32) : Prop := match cd with | .eq => x = y | .ne => ¬ x = y | .lt => x < y | .ge => ¬ x < y | .gt => y < x | .le => ¬ y < x
theorem cpr_t {cd : ClassFile.Cond} {x y : Int32} (h : cpr cd x y) : if_icmp.holds cd x y = true := by
  cases cd
  · exact (teq h).1
  · exact (feq h).2
  · exact (tlt h).1
  · exact (flt h).2.1
  · exact (tlt h).2.2.1
  · exact (flt h).2.2.2
theorem cpr_f {cd : ClassFile.Cond} {x y : Int32} (h : ¬ cpr cd x y) : if_icmp.holds cd x y = false := by
  cases cd
  · exact (feq h).1
  · exact (teq (Decidable.not_not.mp h)).2
  · exact (flt h).1
  · exact (tlt (Decidable.not_not.mp h)).2.1
  · exact (flt h).2.2.1
  · exact (tlt (Decidable.not_not.mp h)).2.2.2
theorem R_icmp (C : Cx p s m meth c Z a0 EL own B n nm ret) {cd : ClassFile.Cond} {o : Int} {x y : Int32} (hd : Jp B pc (.if_icmp cd o) o q tq)
    (k1 : cpr cd x y → Run p l e R s m args below meth c Z nw EL K vm h cells slots (fr m tq L r)) (k2 : ¬ cpr cd x y → Run p l e R s m args below meth c Z nw EL K vm h cells slots (fr m q L r)) : Run p l e R s m args below meth c Z nw EL K vm h cells slots (fr m pc L (.int y :: .int x :: r)) := by
  obtain ⟨hd, rfl, h1, h2⟩ := hd
  by_cases hc : cpr cd x y
  · exact Run.plain (fun T A t st => XS.icmpYes A C.1 rfl rfl (hb C.2.1 hd) rfl (cpr_t hc) h1 h2 st) (k1 hc)
  · exact Run.plain (fun T A t st => XS.icmpNo A C.1 rfl (hb C.2.1 hd) rfl (cpr_f hc) st) (k2 hc)
theorem R_if (C : Cx p s m meth c Z a0 EL own B n nm ret) {cd : ClassFile.Cond} {o : Int} {x : Int32} (hd : Jp B pc (.ifCond cd o) o q tq)
    (k1 : cpr cd x 0 → Run p l e R s m args below meth c Z nw EL K vm h cells slots (fr m tq L r)) (k2 : ¬ cpr cd x 0 → Run p l e R s m args below meth c Z nw EL K vm h cells slots (fr m q L r)) : Run p l e R s m args below meth c Z nw EL K vm h cells slots (fr m pc L (.int x :: r)) := by
  obtain ⟨hd, rfl, h1, h2⟩ := hd
  by_cases hc : cpr cd x 0
  · exact Run.plain (fun T A t st => XS.ifYes A C.1 rfl rfl (hb C.2.1 hd) rfl ((if0 _ _).trans (cpr_t hc)) h1 h2 st) (k1 hc)
  · exact Run.plain (fun T A t st => XS.ifNo A C.1 rfl (hb C.2.1 hd) rfl ((if0 _ _).trans (cpr_f hc)) st) (k2 hc)
theorem R_ifnull_y (C : Cx p s m meth c Z a0 EL own B n nm ret) {o : Int} (hd : Jp B pc (.ifnull o) o q tq)
    (k : Run p l e R s m args below meth c Z nw EL K vm h cells slots (fr m tq L r)) : Run p l e R s m args below meth c Z nw EL K vm h cells slots (fr m pc L (.null :: r)) := by
  obtain ⟨hd, rfl, h1, h2⟩ := hd
  exact Run.plain (fun T A t st => XS.ifnullYes A C.1 rfl rfl (hb C.2.1 hd) rfl h1 h2 st) k
theorem R_ifnull_n (C : Cx p s m meth c Z a0 EL own B n nm ret) {o : Int} (hd : Jp B pc (.ifnull o) o q tq)
    (k : Run p l e R s m args below meth c Z nw EL K vm h cells slots (fr m q L r)) : Run p l e R s m args below meth c Z nw EL K vm h cells slots (fr m pc L (.ref a :: r)) := by
  obtain ⟨hd, rfl, h1, h2⟩ := hd
  exact Run.plain (fun T A t st => XS.ifnullNo A C.1 rfl (hb C.2.1 hd) rfl st) k
theorem R_ifnonnull_y (C : Cx p s m meth c Z a0 EL own B n nm ret) {o : Int} (hd : Jp B pc (.ifnonnull o) o q tq)
    (k : Run p l e R s m args below meth c Z nw EL K vm h cells slots (fr m tq L r)) : Run p l e R s m args below meth c Z nw EL K vm h cells slots (fr m pc L (.ref a :: r)) := by
  obtain ⟨hd, rfl, h1, h2⟩ := hd
  exact Run.plain (fun T A t st => XT.ifnonnullYes A C.1 rfl rfl (hb C.2.1 hd) rfl h1 h2 st) k
theorem R_ifnonnull_n (C : Cx p s m meth c Z a0 EL own B n nm ret) {o : Int} (hd : Jp B pc (.ifnonnull o) o q tq)
    (k : Run p l e R s m args below meth c Z nw EL K vm h cells slots (fr m q L r)) : Run p l e R s m args below meth c Z nw EL K vm h cells slots (fr m pc L (.null :: r)) := by
  obtain ⟨hd, rfl, h1, h2⟩ := hd
  exact Run.plain (fun T A t st => XT.ifnonnullNo A C.1 rfl (hb C.2.1 hd) rfl st) k
theorem R_acmp_ne (C : Cx p s m meth c Z a0 EL own B n nm ret) {o : Int} {v w : Value} (hd : Jp B pc (.if_acmp .ne o) o q tq) (hv : v.isRef = true) (hw : w.isRef = true)
    (k1 : v ≠ w → Run p l e R s m args below meth c Z nw EL K vm h cells slots (fr m tq L r)) (k2 : v = w → Run p l e R s m args below meth c Z nw EL K vm h cells slots (fr m q L r)) : Run p l e R s m args below meth c Z nw EL K vm h cells slots (fr m pc L (w :: v :: r)) := by
  obtain ⟨hd, rfl, h1, h2⟩ := hd
  by_cases hc : v = w
  · exact Run.plain (fun T A t st => XT.acmpNo A C.1 rfl (hb C.2.1 hd) rfl hv hw (by simp [XT.acmp, hc]) st) (k2 hc)
  · exact Run.plain (fun T A t st => XT.acmpYes A C.1 rfl rfl (hb C.2.1 hd) rfl hv hw (by simp [XT.acmp, hc]) h1 h2 st) (k1 hc)
theorem R_acmp_eq (C : Cx p s m meth c Z a0 EL own B n nm ret) {o : Int} {v w : Value} (hd : Jp B pc (.if_acmp .eq o) o q tq) (hv : v.isRef = true) (hw : w.isRef = true)
    (k1 : v = w → Run p l e R s m args below meth c Z nw EL K vm h cells slots (fr m tq L r)) (k2 : v ≠ w → Run p l e R s m args below meth c Z nw EL K vm h cells slots (fr m q L r)) : Run p l e R s m args below meth c Z nw EL K vm h cells slots (fr m pc L (w :: v :: r)) := by
  obtain ⟨hd, rfl, h1, h2⟩ := hd
  by_cases hc : v = w
  · exact Run.plain (fun T A t st => XT.acmpYes A C.1 rfl rfl (hb C.2.1 hd) rfl hv hw (by simp [XT.acmp, hc]) h1 h2 st) (k1 hc)
  · exact Run.plain (fun T A t st => XT.acmpNo A C.1 rfl (hb C.2.1 hd) rfl hv hw (by simp [XT.acmp, hc]) st) (k2 hc)
theorem R_getfield (C : Cx p s m meth c Z a0 EL own B n nm ret) {idx : Nat} {R0 O f d : String} {v : Value} (hd : Dc B pc (.getfield idx) 3 q) (w : (Cond.fieldLink own idx R0 f d).before a0 Z = true) (via : Via Z R0 O f d) (F : Fld Z h a O f d v)
    (k : Run p l e R s m args below meth c Z nw EL K vm h cells slots (fr m q L (v :: r))) : Run p l e R s m args below meth c Z nw EL K vm h cells slots (fr m pc L (.ref a :: r)) := by
  obtain ⟨hd, rfl⟩ := hd
  exact Run.warm C (fun T locs X e1 hZ hown => getF X C.1 hZ hown (host := "") (Or.inl w) via e1 F (g := fr m pc L (.ref a :: r)) rfl rfl (hb C.2.1 hd)) k
theorem R_getfieldN (C : Cx p s m meth c Z a0 EL own B n nm ret) {idx : Nat} {R0 O f d host : String} {v : Value} (hd : Dc B pc (.getfield idx) 3 q) (w : (Cond.fieldLinkNest own idx R0 f d host).before a0 Z = true) (via : Via Z R0 O f d) (F : Fld Z h a O f d v)
    (k : Run p l e R s m args below meth c Z nw EL K vm h cells slots (fr m q L (v :: r))) : Run p l e R s m args below meth c Z nw EL K vm h cells slots (fr m pc L (.ref a :: r)) := by
  obtain ⟨hd, rfl⟩ := hd
  exact Run.warm C (fun T locs X e1 hZ hown => getF X C.1 hZ hown (Or.inr w) via e1 F (g := fr m pc L (.ref a :: r)) rfl rfl (hb C.2.1 hd)) k
theorem R_putfield (C : Cx p s m meth c Z a0 EL own B n nm ret) {idx kk : Nat} {R0 O f d Cn : String} {ty : FieldType} {v old : Value} (hd : Dc B pc (.putfield idx) 3 q) (w : (Cond.fieldLink own idx R0 f d).before a0 Z = true) (via : Via Z R0 O f d)
    (F : Fld Z h a O f d old) (E : Exa Z h a Cn) (La : (Cond.lays Cn O f d).before a0 Z = true ∨ ((Cond.laysFinal Cn O f d).before a0 Z = true ∧ own = O ∧ nm = "<init>")) (wi : (Cond.instantiable Cn kk).before a0 Z = true)
    (hty : parseFieldDescriptor d = some ty) (hn : narrow ty v = v) (hf : fits ty v = true) (ha : Z.heap.size ≤ a) (hs : Safe Z EL vm h a)
    (k : ∀ h', Wr h h' a (RoadKit.slotOf Z O f d) v → (∀ x, Safe Z EL vm h x → Safe Z EL vm h' x) → Run p l e R s m args below meth c Z nw EL K vm h' cells slots (fr m q L r)) : Run p l e R s m args below meth c Z nw EL K vm h cells slots (fr m pc L (v :: .ref a :: r)) := by
  obtain ⟨hd, rfl⟩ := hd
  exact Run.write C (fun T locs X e1 hZ hown => putF X C.1 hZ hown (host := "") (Or.inl w) via e1 F E (La.imp id fun z => ⟨z.1, z.2.1, C.2.2.2.2.2.1.trans z.2.2⟩) wi hty hn hf (g := fr m pc L (v :: .ref a :: r)) rfl rfl (hb C.2.1 hd)) ha hs k
theorem R_getstatic (C : Cx p s m meth c Z a0 EL own B n nm ret) {idx : Nat} {R0 O f d : String} {v : Value} (hd : Dc B pc (.getstatic idx) 3 q) (w : (Cond.fieldLink own idx R0 f d).before a0 Z = true) (via : Via Z R0 O f d) (F : Sta Z h O f d v)
    (k : Run p l e R s m args below meth c Z nw EL K vm h cells slots (fr m q L (v :: r))) : Run p l e R s m args below meth c Z nw EL K vm h cells slots (fr m pc L r) := by
  obtain ⟨hd, rfl⟩ := hd
  exact Run.warm C (fun T locs X e1 hZ hown => getS X C.1 hZ hown (host := "") w via e1 F (g := fr m pc L r) rfl (hb C.2.1 hd)) k
theorem R_new (C : Cx p s m meth c Z a0 EL own B n nm ret) {idx nn : Nat} {Cn : String} (hd : Dc B pc (.new idx) 3 q) (w : (Cond.classLink own idx Cn).before a0 Z = true) (wi : (Cond.instantiable Cn nn).before a0 Z = true) (wz : (Cond.initialized Cn).before a0 Z = true) (hc : cells + 1 ≤ R.cells) (hl : slots + nn ≤ R.slots)
    (k : ∀ h', Ext h h' → (Exa Z h' h.size Cn ∧ (∀ {O f d : String} {ty : FieldType}, Laid Z a0 Cn O f d → parseFieldDescriptor d = some ty → Fld Z h' h.size O f d (defaultValue ty))) → Safe Z EL vm h' h.size → (∀ x, Safe Z EL vm h x → Safe Z EL vm h' x) → Run p l e R s m args below meth c Z nw EL K vm h' (cells + 1) (slots + nn) (fr m q L (.ref h.size :: r))) : Run p l e R s m args below meth c Z nw EL K vm h cells slots (fr m pc L r) := by
  obtain ⟨hd, rfl⟩ := hd
  refine Run.grow C (F := fun h' => Exa Z h' h.size Cn ∧ (∀ {O f d : String} {ty : FieldType}, Laid Z a0 Cn O f d → parseFieldDescriptor d = some ty → Fld Z h' h.size O f d (defaultValue ty))) (fun T locs X e1 hZ hown => ?_) (fun h' E F H Sf => k h' E F (Safe.ext E H (Safe.new (Nat.le_refl _))) Sf)
  obtain ⟨T', h', X', e2, E, A, D, -, st⟩ := newO X C.1 hZ hown w wi wz e1 (g := fr m pc L r) rfl (hb C.2.1 hd) hc hl
  exact ⟨T', h', X', e2, E, ⟨A, D⟩, st⟩
theorem R_initO (C : Cx p s m meth c Z a0 EL own B n nm ret) {idx : Nat} (hd : Dc B pc (.invokespecial idx) 3 q) (w1 : (Cond.methodLink own idx Lib.objectInit).before a0 Z = true) (w2 : (Cond.instanceMethod Lib.objectInit).before a0 Z = true) (w3 : (Cond.code Lib.objectInit Jvm.Pilot.@@N@@.object_method_1_code 1 none).before a0 Z = true)
    (hz : L.length = n) (hf : 1 ≤ R.frames) (hl : (r.map fun v => v.category).sum + 12 ≤ R.locals)
    (k : Run p l e R s m args below meth c Z nw EL K vm h cells slots (fr m q L r)) : Run p l e R s m args below meth c Z nw EL K vm h cells slots (fr m pc L (.ref a :: r)) := by
  obtain ⟨hd, rfl⟩ := hd
  exact Run.warm C (fun T locs X e1 hZ hown => initO X C.1 hZ hown w1 w2 w3 e1 (g := fr m pc L (.ref a :: r)) rfl (by rw [C.2.2.2.1]; exact hz) rfl (hb C.2.1 hd) hf (W := (r.map fun v => v.category).sum) (by show 2 * 0 + _ ≤ _; omega) hl) k
theorem R_checkcast (C : Cx p s m meth c Z a0 EL own B n nm ret) {idx : Nat} {Kn : String} (hd : Dc B pc (.checkcast idx) 3 q) (w : (Cond.classLink own idx Kn).before a0 Z = true) (F : RoadKit.Ins Z h a Kn true)
    (k : Run p l e R s m args below meth c Z nw EL K vm h cells slots (fr m q L (.ref a :: r))) : Run p l e R s m args below meth c Z nw EL K vm h cells slots (fr m pc L (.ref a :: r)) := by
  obtain ⟨hd, rfl⟩ := hd
  exact Run.warm C (fun T locs X e1 hZ hown => castY X C.1 hZ hown w e1 F (g := fr m pc L (.ref a :: r)) rfl rfl (hb C.2.1 hd)) k
theorem R_instanceof_y (C : Cx p s m meth c Z a0 EL own B n nm ret) {idx : Nat} {Kn : String} (hd : Dc B pc (.instanceof idx) 3 q) (w : (Cond.classLink own idx Kn).before a0 Z = true) (F : RoadKit.Ins Z h a Kn true)
    (k : Run p l e R s m args below meth c Z nw EL K vm h cells slots (fr m q L (.int 1 :: r))) : Run p l e R s m args below meth c Z nw EL K vm h cells slots (fr m pc L (.ref a :: r)) := by
  obtain ⟨hd, rfl⟩ := hd
  exact Run.warm C (fun T locs X e1 hZ hown => instY X C.1 hZ hown w e1 F (g := fr m pc L (.ref a :: r)) rfl rfl (hb C.2.1 hd)) k
theorem R_instanceof_n (C : Cx p s m meth c Z a0 EL own B n nm ret) {idx : Nat} {Kn Cn : String} (hd : Dc B pc (.instanceof idx) 3 q) (w : (Cond.classLink own idx Kn).before a0 Z = true) (F : RoadKit.Ins Z s.heap a Kn false) (E : RoadKit.Exa Z s.heap a Cn)
    (k : Run p l e R s m args below meth c Z nw EL K vm h cells slots (fr m q L (.int 0 :: r))) : Run p l e R s m args below meth c Z nw EL K vm h cells slots (fr m pc L (.ref a :: r)) := by
  obtain ⟨hd, rfl⟩ := hd
  exact Run.warm C (fun T locs X e1 hZ hown => instN X C.1 hZ hown w e1 F E (g := fr m pc L (.ref a :: r)) rfl rfl (hb C.2.1 hd)) k
theorem R_ldcInt (C : Cx p s m meth c Z a0 EL own B n nm ret) {idx : Nat} {v : Int32} (hd : Dc B pc (.ldc idx) 2 q) (w : (Cond.constant own idx v).before a0 Z = true)
    (k : Run p l e R s m args below meth c Z nw EL K vm h cells slots (fr m q L (.int v :: r))) : Run p l e R s m args below meth c Z nw EL K vm h cells slots (fr m pc L r) := by
  obtain ⟨hd, rfl⟩ := hd
  exact Run.warm C (fun T locs X e1 hZ hown => ⟨T, X, e1, X.ldcInt C.1 hown (mvT hZ w) (g := fr m pc L r) rfl (hb C.2.1 hd)⟩) k
theorem R_ldc2Long (C : Cx p s m meth c Z a0 EL own B n nm ret) {idx : Nat} {v : Int64} (hd : Dc B pc (.ldc2_w idx) 3 q) (w : (Cond.constantLong own idx v).before a0 Z = true)
    (k : Run p l e R s m args below meth c Z nw EL K vm h cells slots (fr m q L (.long v :: r))) : Run p l e R s m args below meth c Z nw EL K vm h cells slots (fr m pc L r) := by
  obtain ⟨hd, rfl⟩ := hd
  exact Run.warm C (fun T locs X e1 hZ hown => ⟨T, X, e1, X.ldc2Long C.1 hown (mvT hZ w) (g := fr m pc L r) rfl (hb C.2.1 hd)⟩) k
theorem R_return (C : Cx p s m meth c Z a0 EL own B n nm ret) {rm : Room} {Q : Option Value → Heap → Prop} (hd : Dc B pc (.return_) 1 q) (hr : ret = none) (hc : cells ≤ rm.cells) (hs : slots ≤ rm.slots) (hQ : Q none h) :
    Run p l e R s m args below meth c Z nw EL (Kf s Z nw EL rm Q) vm h cells slots (fr m pc L []) :=
  Run.out C (v := none) (fun _ => rfl) hQ hc hs (fun T locs X fs hl => X.returnOut C.1 (C.2.2.2.2.2.2.1.trans hr) (hb C.2.1 hd.1) hl)
theorem R_retI (C : Cx p s m meth c Z a0 EL own B n nm ret) {rm : Room} {Q : Option Value → Heap → Prop} {v : Int32} (hd : Dc B pc (.ireturn) 1 q) (hr : ret = some .int) (hc : cells ≤ rm.cells) (hs : slots ≤ rm.slots) (hQ : Q (some (.int v)) h) :
    Run p l e R s m args below meth c Z nw EL (Kf s Z nw EL rm Q) vm h cells slots (fr m pc L (.int v :: r)) :=
  Run.out C (v := some (.int v)) (fun z => by rw [hr] at z; cases z) hQ hc hs (fun T locs X fs hl => retOut X C.1 (C.2.2.2.2.2.2.1.trans hr) rfl (Or.inl ⟨rfl, Or.inl rfl, v, rfl⟩) (hb C.2.1 hd.1) hl)
theorem R_retN (C : Cx p s m meth c Z a0 EL own B n nm ret) {rm : Room} {Q : Option Value → Heap → Prop} {v : Int32} {t : FieldType} (hd : Dc B pc (.ireturn) 1 q) (hr : ret = some t) (ht : t = .boolean ∨ t = .byte ∨ t = .char ∨ t = .short) (hc : cells ≤ rm.cells) (hs : slots ≤ rm.slots) (hQ : Q (some (.int (nar t v))) h) :
    Run p l e R s m args below meth c Z nw EL (Kf s Z nw EL rm Q) vm h cells slots (fr m pc L (.int v :: r)) :=
  Run.out C (v := some (.int (nar t v))) (fun z => by rw [hr] at z; cases z) hQ hc hs (fun T locs X fs hl => retN X C.1 (C.2.2.2.2.2.2.1.trans hr) ht (hb C.2.1 hd.1) hl)
theorem R_retL (C : Cx p s m meth c Z a0 EL own B n nm ret) {rm : Room} {Q : Option Value → Heap → Prop} {v : Int64} (hd : Dc B pc (.lreturn) 1 q) (hr : ret = some .long) (hc : cells ≤ rm.cells) (hs : slots ≤ rm.slots) (hQ : Q (some (.long v)) h) :
    Run p l e R s m args below meth c Z nw EL (Kf s Z nw EL rm Q) vm h cells slots (fr m pc L (.long v :: r)) :=
  Run.out C (v := some (.long v)) (fun z => by rw [hr] at z; cases z) hQ hc hs (fun T locs X fs hl => retOut X C.1 (C.2.2.2.2.2.2.1.trans hr) rfl (Or.inr (Or.inl ⟨rfl, rfl, v, rfl⟩)) (hb C.2.1 hd.1) hl)
theorem nar_ref {t : FieldType} {v : Value} (hv : v.isRef = true) : narrow t v = v := by cases t <;> cases v <;> first | rfl | cases hv
theorem R_areturn (C : Cx p s m meth c Z a0 EL own B n nm ret) {rm : Room} {Q : Option Value → Heap → Prop} {v : Value} {t : FieldType} (hd : Dc B pc (.areturn) 1 q) (hr : ret = some t) (ht : t.isReference = true) (hv : v.isRef = true) (hc : cells ≤ rm.cells) (hs : slots ≤ rm.slots) (hQ : Q (some v) h) :
    Run p l e R s m args below meth c Z nw EL (Kf s Z nw EL rm Q) vm h cells slots (fr m pc L (v :: r)) :=
  Run.out C (v := some v) (fun z => by rw [hr] at z; cases z) hQ hc hs (fun T locs X fs hl => retOut X C.1 (C.2.2.2.2.2.2.1.trans hr) (nar_ref hv) (Or.inr (Or.inr (Or.inr (Or.inr ⟨rfl, ht, hv⟩)))) (hb C.2.1 hd.1) hl)
theorem R_static (C : Cx p s m meth c Z a0 EL own B n nm ret) {idx n' : Nat} {y : MethodName} {B' : ByteArray} {ret' : Option FieldType} {rm : Room} {sf : List Addr} {Q : Option Value → Heap → Prop} {ps : List FieldType} {rr : Option FieldType} {st : List Value} (argsL : List Value) (hd : Dc B pc (.invokestatic idx) 3 q)
    {nw' : Prop} (M : Met l Z nw' EL y B' n' ret' rm argsL.toArray h sf Q) (hnn : nw → nw') (w1 : (Cond.methodLink own idx y).before a0 Z = true) (w2 : (Cond.static y).before a0 Z = true) (w3 : (Cond.initialized y.cls).before a0 Z = true) (w4 : (Cond.code y B' n' ret').before a0 Z = true)
    (hy : y.cls ≠ "java/lang/invoke/MethodHandle" ∧ y.cls ≠ "java/lang/invoke/VarHandle") (pd : parseMethodDescriptor y.desc = some ⟨ps, rr⟩) (hlen : argsL.length = ps.length) (hst : st = argsL.reverse ++ r) (hz : L.length = n)
    (rf : rm.frames + 1 ≤ R.frames) (rl : (r.map fun v => v.category).sum + (n' + 11) + rm.locals ≤ R.locals) (rc : cells + rm.cells ≤ R.cells) (rs : slots + rm.slots ≤ R.slots) (hsf : ∀ x ∈ sf, Safe Z EL vm h x)
    (k : ∀ v vm' h', Q v h' → h.size ≤ h'.size → (∀ x, x < h.size → Safe Z EL vm h x → Safe Z EL vm' h' x) → (nw' → ∀ x, h.size ≤ x → Safe Z EL vm' h' x) → Run p l e R s m args below meth c Z nw EL K vm' h' (cells + rm.cells) (slots + rm.slots) (fr m q L (v.toList ++ r))) : Run p l e R s m args below meth c Z nw EL K vm h cells slots (fr m pc L st) := by
  obtain ⟨hd, rfl⟩ := hd
  refine Run.back C hnn (Q := Q) (g' := fun v => fr m (pc + 3) L (v.toList ++ r)) (q := 0) (fun kk T locs X e1 hZ hown H hE hS hk => ?_) k
  obtain ⟨v, vm1, Bp, -, X', hS', hg, hP, hst'⟩ := callSS X C.1 hown (mvT (s := s.setVm vm) hZ w1) (mvT (s := s.setVm vm) hZ w2) (mvT (s := s.setVm vm) hZ w3) (mvT (s := s.setVm vm) hZ w4) hy (backM (W := (r.map fun v => v.category).sum) M hZ w4 w3 rf rl C.2.2.2.2.2.2.2 H hE hsf) (g := fr m pc L st) rfl (by rw [C.2.2.2.1]; exact hz) (argsL := argsL) (rest := r) (lenOf pd hlen) hst (by show 2 * 0 + _ ≤ _; omega) (hb C.2.1 hd) (fun _ _ => ⟨rfl, e1, rc, rs⟩)
  exact ⟨v, Bp, X', hS', hg, hP, hst'⟩
theorem R_special (C : Cx p s m meth c Z a0 EL own B n nm ret) {idx n' : Nat} {y : MethodName} {B' : ByteArray} {rm : Room} {sf : List Addr} {Q : Option Value → Heap → Prop} {ps : List FieldType} {rr : Option FieldType} {st : List Value} (argsL : List Value) (hd : Dc B pc (.invokespecial idx) 3 q)
    {nw' : Prop} (M : Met l Z nw' EL y B' n' none rm (.ref a :: argsL).toArray h sf Q) (hnn : nw → nw') (hy1 : y.name = "<init>") (w1 : (Cond.methodLink own idx y).before a0 Z = true) (w2 : (Cond.instanceMethod y).before a0 Z = true) (w3 : (Cond.initialized y.cls).before a0 Z = true) (w4 : (Cond.code y B' n' none).before a0 Z = true)
    (hy : y.cls ≠ "java/lang/invoke/MethodHandle" ∧ y.cls ≠ "java/lang/invoke/VarHandle") (pd : parseMethodDescriptor y.desc = some ⟨ps, rr⟩) (hlen : argsL.length = ps.length) (hst : st = argsL.reverse ++ .ref a :: r) (hz : L.length = n)
    (rf : rm.frames + 1 ≤ R.frames) (rl : (r.map fun v => v.category).sum + (n' + 11) + rm.locals ≤ R.locals) (rc : cells + rm.cells ≤ R.cells) (rs : slots + rm.slots ≤ R.slots) (hsf : ∀ x ∈ sf, Safe Z EL vm h x)
    (k : ∀ v vm' h', Q v h' → h.size ≤ h'.size → (∀ x, x < h.size → Safe Z EL vm h x → Safe Z EL vm' h' x) → (nw' → ∀ x, h.size ≤ x → Safe Z EL vm' h' x) → Run p l e R s m args below meth c Z nw EL K vm' h' (cells + rm.cells) (slots + rm.slots) (fr m q L (v.toList ++ r))) : Run p l e R s m args below meth c Z nw EL K vm h cells slots (fr m pc L st) := by
  obtain ⟨hd, rfl⟩ := hd
  refine Run.back C hnn (Q := Q) (g' := fun v => fr m (pc + 3) L (v.toList ++ r)) (q := 0) (fun kk T locs X e1 hZ hown H hE hS hk => ?_) k
  obtain ⟨v, vm1, Bp, -, X', hS', hg, hP, hst'⟩ := X.specialBackS C.1 hy1 hown (mvT (s := s.setVm vm) hZ w1) (mvT (s := s.setVm vm) hZ w2) (mvT (s := s.setVm vm) hZ w4) hy (backM (W := (r.map fun v => v.category).sum) M hZ w4 w3 rf rl C.2.2.2.2.2.2.2 H hE hsf) (g := fr m pc L st) rfl (by rw [C.2.2.2.1]; exact hz) (Steps.refl _) (a := a) (argsL := argsL) (rest := r) (lenOf pd hlen) hst (by show 2 * 0 + _ ≤ _; omega) (hb C.2.1 hd) (fun _ _ => ⟨rfl, e1, rc, rs⟩)
  exact ⟨v, Bp, X', hS', hg, hP, hst'⟩
theorem R_virtual (C : Cx p s m meth c Z a0 EL own B n nm ret) {idx n' : Nat} {y : MethodName} {B' : ByteArray} {ret' : Option FieldType} {rm : Room} {sf : List Addr} {Q : Option Value → Heap → Prop} {ps : List FieldType} {rr : Option FieldType} {st : List Value} {Cn : String} (argsL : List Value) (hd : Dc B pc (.invokevirtual idx) 3 q)
    {nw' : Prop} (M : Met l Z nw' EL y B' n' ret' rm (.ref a :: argsL).toArray h sf Q) (hnn : nw → nw') (E : Exa Z h a Cn) (w1 : (Cond.methodLink own idx y).before a0 Z = true) (w2 : (Cond.declares y).before a0 Z = true) (w5 : (Cond.selects Cn y y).before a0 Z = true) (w6 : (Cond.instanceMethod y).before a0 Z = true) (w3 : (Cond.initialized y.cls).before a0 Z = true) (w4 : (Cond.code y B' n' ret').before a0 Z = true)
    (hy : y.cls ≠ "java/lang/invoke/MethodHandle" ∧ y.cls ≠ "java/lang/invoke/VarHandle") (pd : parseMethodDescriptor y.desc = some ⟨ps, rr⟩) (hlen : argsL.length = ps.length) (hst : st = argsL.reverse ++ .ref a :: r) (hz : L.length = n)
    (rf : rm.frames + 1 ≤ R.frames) (rl : (r.map fun v => v.category).sum + (n' + 11) + rm.locals ≤ R.locals) (rc : cells + rm.cells ≤ R.cells) (rs : slots + rm.slots ≤ R.slots) (hsf : ∀ x ∈ sf, Safe Z EL vm h x)
    (k : ∀ v vm' h', Q v h' → h.size ≤ h'.size → (∀ x, x < h.size → Safe Z EL vm h x → Safe Z EL vm' h' x) → (nw' → ∀ x, h.size ≤ x → Safe Z EL vm' h' x) → Run p l e R s m args below meth c Z nw EL K vm' h' (cells + rm.cells) (slots + rm.slots) (fr m q L (v.toList ++ r))) : Run p l e R s m args below meth c Z nw EL K vm h cells slots (fr m pc L st) := by
  obtain ⟨hd, rfl⟩ := hd
  refine Run.back C hnn (Q := Q) (g' := fun v => fr m (pc + 3) L (v.toList ++ r)) (q := 0) (fun kk T locs X e1 hZ hown H hE hS hk => ?_) k
  obtain ⟨cq, kq, qa, qb, qc⟩ := isOf (s := s.setVm vm) hZ e1 E
  obtain ⟨v, vm1, Bp, -, X', hS', hg, hP, hst'⟩ := X.virtualBackS C.1 hown (mvT (s := s.setVm vm) hZ w1) (mvT (s := s.setVm vm) hZ w2) (notFace_of_selects (args := #[]) (mvT (s := s.setVm vm) hZ w5)) (mvT (s := s.setVm vm) hZ w5) (mvT (s := s.setVm vm) hZ w6) hy (backM (W := (r.map fun v => v.category).sum) M hZ w4 w3 rf rl C.2.2.2.2.2.2.2 H hE hsf) qa qc (g := fr m pc L st) rfl (by rw [C.2.2.2.1]; exact hz) (Steps.refl _) (argsL := argsL) (rest := r) (lenOf pd hlen) hst (by show 2 * 0 + _ ≤ _; omega) (hb C.2.1 hd) (fun _ _ => ⟨rfl, e1, rc, rs⟩)
  exact ⟨v, Bp, X', hS', hg, hP, hst'⟩
theorem R_private (C : Cx p s m meth c Z a0 EL own B n nm ret) {idx n' : Nat} {y : MethodName} {B' : ByteArray} {ret' : Option FieldType} {rm : Room} {sf : List Addr} {Q : Option Value → Heap → Prop} {ps : List FieldType} {rr : Option FieldType} {st : List Value} {Cn : String} (argsL : List Value) (hd : Dc B pc (.invokevirtual idx) 3 q)
    {nw' : Prop} (M : Met l Z nw' EL y B' n' ret' rm (.ref a :: argsL).toArray h sf Q) (hnn : nw → nw') (E : Exa Z h a Cn) (w1 : (Cond.methodLink own idx y).before a0 Z = true) (w2 : (Cond.privateMethod y).before a0 Z = true) (w5 : (Cond.selects y.cls y y).before a0 Z = true) (w6 : (Cond.instanceMethod y).before a0 Z = true) (w3 : (Cond.initialized y.cls).before a0 Z = true) (w4 : (Cond.code y B' n' ret').before a0 Z = true)
    (hy : y.cls ≠ "java/lang/invoke/MethodHandle" ∧ y.cls ≠ "java/lang/invoke/VarHandle") (pd : parseMethodDescriptor y.desc = some ⟨ps, rr⟩) (hlen : argsL.length = ps.length) (hst : st = argsL.reverse ++ .ref a :: r) (hz : L.length = n)
    (rf : rm.frames + 1 ≤ R.frames) (rl : (r.map fun v => v.category).sum + (n' + 11) + rm.locals ≤ R.locals) (rc : cells + rm.cells ≤ R.cells) (rs : slots + rm.slots ≤ R.slots) (hsf : ∀ x ∈ sf, Safe Z EL vm h x)
    (k : ∀ v vm' h', Q v h' → h.size ≤ h'.size → (∀ x, x < h.size → Safe Z EL vm h x → Safe Z EL vm' h' x) → (nw' → ∀ x, h.size ≤ x → Safe Z EL vm' h' x) → Run p l e R s m args below meth c Z nw EL K vm' h' (cells + rm.cells) (slots + rm.slots) (fr m q L (v.toList ++ r))) : Run p l e R s m args below meth c Z nw EL K vm h cells slots (fr m pc L st) := by
  obtain ⟨hd, rfl⟩ := hd
  refine Run.back C hnn (Q := Q) (g' := fun v => fr m (pc + 3) L (v.toList ++ r)) (q := 0) (fun kk T locs X e1 hZ hown H hE hS hk => ?_) k
  obtain ⟨cell, hcell, hobj⟩ := E.cell
  obtain ⟨v, vm1, Bp, -, X', hS', hg, hP, hst'⟩ := X.privateBackS C.1 (y := y) hown (mvT (s := s.setVm vm) hZ w1) (mvT (s := s.setVm vm) hZ w6) (mvT (s := s.setVm vm) hZ w5) (Cond.privateMethod_at (mvP (s := s.setVm vm) hZ w2 (args := #[]))) (mvT (s := s.setVm vm) hZ w4) hy (backM (W := (r.map fun v => v.category).sum) M hZ w4 w3 rf rl C.2.2.2.2.2.2.2 H hE hsf) (g := fr m pc L st) rfl (by rw [C.2.2.2.1]; exact hz) (Steps.refl _) (a := a) (by rw [e1]; exact hcell) hobj (argsL := argsL) (rest := r) (lenOf pd hlen) hst (by show 2 * 0 + _ ≤ _; omega) (hb C.2.1 hd) (fun _ _ => ⟨rfl, e1, rc, rs⟩)
  exact ⟨v, Bp, X', hS', hg, hP, hst'⟩
theorem R_privateI (C : Cx p s m meth c Z a0 EL own B n nm ret) {idx n' ki : Nat} {y : MethodName} {B' : ByteArray} {ret' : Option FieldType} {rm : Room} {sf : List Addr} {Q : Option Value → Heap → Prop} {ps : List FieldType} {rr : Option FieldType} {st : List Value} {Cn : String} (argsL : List Value) (hd : Dc B pc (.invokevirtual idx) 3 q)
    {nw' : Prop} (M : Met l Z nw' EL y B' n' ret' rm (.ref a :: argsL).toArray h sf Q) (hnn : nw → nw') (E : Exa Z h a Cn) (w1 : (Cond.methodLink own idx y).before a0 Z = true) (w2 : (Cond.privateMethod y).before a0 Z = true) (w5 : (Cond.instantiable y.cls ki).before a0 Z = true) (w6 : (Cond.instanceMethod y).before a0 Z = true) (w3 : (Cond.initialized y.cls).before a0 Z = true) (w4 : (Cond.code y B' n' ret').before a0 Z = true)
    (hy : y.cls ≠ "java/lang/invoke/MethodHandle" ∧ y.cls ≠ "java/lang/invoke/VarHandle") (pd : parseMethodDescriptor y.desc = some ⟨ps, rr⟩) (hlen : argsL.length = ps.length) (hst : st = argsL.reverse ++ .ref a :: r) (hz : L.length = n)
    (rf : rm.frames + 1 ≤ R.frames) (rl : (r.map fun v => v.category).sum + (n' + 11) + rm.locals ≤ R.locals) (rc : cells + rm.cells ≤ R.cells) (rs : slots + rm.slots ≤ R.slots) (hsf : ∀ x ∈ sf, Safe Z EL vm h x)
    (k : ∀ v vm' h', Q v h' → h.size ≤ h'.size → (∀ x, x < h.size → Safe Z EL vm h x → Safe Z EL vm' h' x) → (nw' → ∀ x, h.size ≤ x → Safe Z EL vm' h' x) → Run p l e R s m args below meth c Z nw EL K vm' h' (cells + rm.cells) (slots + rm.slots) (fr m q L (v.toList ++ r))) : Run p l e R s m args below meth c Z nw EL K vm h cells slots (fr m pc L st) := by
  obtain ⟨hd, rfl⟩ := hd
  refine Run.back C hnn (Q := Q) (g' := fun v => fr m (pc + 3) L (v.toList ++ r)) (q := 0) (fun kk T locs X e1 hZ hown H hE hS hk => ?_) k
  obtain ⟨cell, hcell, hobj⟩ := E.cell
  have hK := backM (p := p) (e := e) (below := below) (s := s) (args := args) (R := R) (len := 3) (W := (r.map fun v => v.category).sum) M hZ w4 w3 rf rl C.2.2.2.2.2.2.2 H hE hsf
  obtain ⟨mk, methM, hnamed, hmethM, hstM, habM⟩ := Cond.instanceMethod_spec (mvT (s := s.setVm vm) (args := args) hZ w6)
  obtain ⟨methM', cM, hmethM', -, -, -, -, -, -, hsigM⟩ := Cond.code_spec hnamed (mvT (s := s.setVm vm) (args := args) hZ w4)
  cases hmethM.symm.trans hmethM'
  obtain ⟨ci, kP, i1, hkP, -, i4, -⟩ := Cond.instantiable_spec (mvT (s := s.setVm vm) (args := args) hZ w5)
  have hcls := findClass_of_methodNamed hnamed
  cases hcls.symm.trans i1
  have hkPi : kP.isInterface = false := (Bool.or_eq_false_iff.mp i4).1
  have hpriv := Cond.privateMethod_at (mvP (s := s.setVm vm) hZ w2 (args := #[]))
  have hselP : selectMethod e.platform (s.setVm vm).vm cell.cls mk = .method mk := selectMethod_private hmethM (hpriv mk methM hnamed hmethM)
  obtain ⟨vm₁, X₁, hstep₁⟩ := X.invokevirtual C.1 hown (mvT (s := s.setVm vm) hZ w1) hnamed hmethM hstM hkP hkPi hy (a := a) (cell := cell) (by rw [e1]; exact hcell) hobj hselP hmethM habM hkP hkPi (g := fr m pc L st) rfl (argsL := argsL) (rest := r) (lenOf pd hlen _ hsigM) hst (hb C.2.1 hd)
  obtain ⟨v, Bp, X', hS', hgr, hpost, hsteps⟩ := hK m meth c ⟨T.setVm vm₁, locs, cells, slots⟩ (fr m pc L r) (.invokevirtual idx) mk (.ref a :: argsL).toArray X₁ rfl (by rw [C.2.2.2.1]; exact hz) (hb C.2.1 hd) (by show 2 * 0 + (r.map fun v => v.category).sum ≤ (r.map fun v => v.category).sum; omega) (X₁.named hnamed) ⟨rfl, e1, rc, rs⟩
  exact ⟨v, Bp, X', hS', hgr, hpost, (hstep₁ _ fun acts => by rw [doInvoke_state]; exact Steps.refl _).trans hsteps⟩
theorem nf_of {Z : State} {a0 : Array Value} {C : String} {y y' : MethodName} (w : (Cond.selects C y' y').before a0 Z = true) (hc : y'.cls = y.cls) : NotFace Z y := fun r0 h0 => by
  obtain ⟨c2, r2, m2, q1, q2, q3, q4, kP, hkP, hkPi⟩ := Cond.selects_spec w
  have e1 := findClass_of_methodNamed q3
  have e2 := findClass_of_methodNamed h0
  rw [hc] at e1
  have e3 : m2.cls = r0.cls := Option.some.inj (e1.symm.trans e2)
  exact ⟨kP, by rw [← e3]; exact hkP, hkPi⟩
theorem same_of {Z : State} {a0 : Array Value} {C : String} {y y' : MethodName} (w : (Cond.selects C y' y').before a0 Z = true) (hc : y'.cls = y.cls) (w2 : (Cond.instanceMethod y).before a0 Z = true) (hy : y.cls ≠ "java/lang/invoke/MethodHandle" ∧ y.cls ≠ "java/lang/invoke/VarHandle") : (Cond.sameMethod y.cls y.cls y.name y.desc).before a0 Z = true := by
  obtain ⟨mk, methM, hnamed, -, -, -⟩ := Cond.instanceMethod_spec w2
  obtain ⟨kP, hkP, hkPi⟩ := nf_of w hc mk hnamed
  have e1 := findClass_of_methodNamed hnamed
  have e2 := State.methodFound?_of_named hnamed hy
  have e3 : Z.methodNamed? ⟨y.cls, y.name, y.desc⟩ = some mk := hnamed
  simp [Cond.before, Cond.holds, Cond.value, e1, e2, e3, hkP, hkPi]
theorem R_super (C : Cx p s m meth c Z a0 EL own B n nm ret) {idx n' : Nat} {y y' : MethodName} {B' : ByteArray} {ret' : Option FieldType} {rm : Room} {sf : List Addr} {Q : Option Value → Heap → Prop} {ps : List FieldType} {rr : Option FieldType} {st : List Value} {Cn Cs : String} (argsL : List Value) (hd : Dc B pc (.invokespecial idx) 3 q)
    {nw' : Prop} (M : Met l Z nw' EL y B' n' ret' rm (.ref a :: argsL).toArray h sf Q) (hnn : nw → nw') (E : Exa Z h a Cn) (w1 : (Cond.methodLink own idx y).before a0 Z = true) (w5 : (Cond.selects Cs y' y').before a0 Z = true) (hcc : y'.cls = y.cls) (w6 : (Cond.instanceMethod y).before a0 Z = true) (w7 : (Cond.superclass own y.cls).before a0 Z = true) (w3 : (Cond.initialized y.cls).before a0 Z = true) (w4 : (Cond.code y B' n' ret').before a0 Z = true) (hn1 : y.name ≠ "<init>")
    (hy : y.cls ≠ "java/lang/invoke/MethodHandle" ∧ y.cls ≠ "java/lang/invoke/VarHandle") (pd : parseMethodDescriptor y.desc = some ⟨ps, rr⟩) (hlen : argsL.length = ps.length) (hst : st = argsL.reverse ++ .ref a :: r) (hz : L.length = n)
    (rf : rm.frames + 1 ≤ R.frames) (rl : (r.map fun v => v.category).sum + (n' + 11) + rm.locals ≤ R.locals) (rc : cells + rm.cells ≤ R.cells) (rs : slots + rm.slots ≤ R.slots) (hsf : ∀ x ∈ sf, Safe Z EL vm h x)
    (k : ∀ v vm' h', Q v h' → h.size ≤ h'.size → (∀ x, x < h.size → Safe Z EL vm h x → Safe Z EL vm' h' x) → (nw' → ∀ x, h.size ≤ x → Safe Z EL vm' h' x) → Run p l e R s m args below meth c Z nw EL K vm' h' (cells + rm.cells) (slots + rm.slots) (fr m q L (v.toList ++ r))) : Run p l e R s m args below meth c Z nw EL K vm h cells slots (fr m pc L st) := by
  obtain ⟨hd, rfl⟩ := hd
  refine Run.back C hnn (Q := Q) (g' := fun v => fr m (pc + 3) L (v.toList ++ r)) (q := 0) (fun kk T locs X e1 hZ hown H hE hS hk => ?_) k
  obtain ⟨v, vm1, Bp, -, X', hS', hg, hP, hst'⟩ := superBackS X C.1 (s := s.setVm vm) hZ hown w1 (same_of w5 hcc w6 hy) w6 w7 hn1 (backM (W := (r.map fun v => v.category).sum) M hZ w4 w3 rf rl C.2.2.2.2.2.2.2 H hE hsf) e1 (RoadKit.Ins.self E) (g := fr m pc L st) rfl (by rw [C.2.2.2.1]; exact hz) w4 (argsL := argsL) (rest := r) (lenOf pd hlen) hst (by show 2 * 0 + _ ≤ _; omega) (hb C.2.1 hd) (fun _ _ => ⟨rfl, e1, rc, rs⟩)
  exact ⟨v, Bp, X', hS', hg, hP, hst'⟩
theorem R_virtual2 (C : Cx p s m meth c Z a0 EL own B n nm ret) {idx n' : Nat} {y z y' : MethodName} {B' : ByteArray} {ret' : Option FieldType} {rm : Room} {sf : List Addr} {Q : Option Value → Heap → Prop} {ps : List FieldType} {rr : Option FieldType} {st : List Value} {Cn : String} (argsL : List Value) (hd : Dc B pc (.invokevirtual idx) 3 q)
    {nw' : Prop} (M : Met l Z nw' EL z B' n' ret' rm (.ref a :: argsL).toArray h sf Q) (hnn : nw → nw') (E : Exa Z h a Cn) (w1 : (Cond.methodLink own idx y).before a0 Z = true) (w2 : (Cond.declares y).before a0 Z = true) (w5 : (Cond.selects Cn y z).before a0 Z = true) (w8 : (Cond.selects Cn y' y').before a0 Z = true) (hcc : y'.cls = y.cls) (w6 : (Cond.instanceMethod z).before a0 Z = true) (w3 : (Cond.initialized z.cls).before a0 Z = true) (w4 : (Cond.code z B' n' ret').before a0 Z = true)
    (hy : y.cls ≠ "java/lang/invoke/MethodHandle" ∧ y.cls ≠ "java/lang/invoke/VarHandle") (pd : parseMethodDescriptor y.desc = some ⟨ps, rr⟩) (hlen : argsL.length = ps.length) (hst : st = argsL.reverse ++ .ref a :: r) (hz : L.length = n)
    (rf : rm.frames + 1 ≤ R.frames) (rl : (r.map fun v => v.category).sum + (n' + 11) + rm.locals ≤ R.locals) (rc : cells + rm.cells ≤ R.cells) (rs : slots + rm.slots ≤ R.slots) (hsf : ∀ x ∈ sf, Safe Z EL vm h x)
    (k : ∀ v vm' h', Q v h' → h.size ≤ h'.size → (∀ x, x < h.size → Safe Z EL vm h x → Safe Z EL vm' h' x) → (nw' → ∀ x, h.size ≤ x → Safe Z EL vm' h' x) → Run p l e R s m args below meth c Z nw EL K vm' h' (cells + rm.cells) (slots + rm.slots) (fr m q L (v.toList ++ r))) : Run p l e R s m args below meth c Z nw EL K vm h cells slots (fr m pc L st) := by
  obtain ⟨hd, rfl⟩ := hd
  refine Run.back C hnn (Q := Q) (g' := fun v => fr m (pc + 3) L (v.toList ++ r)) (q := 0) (fun kk T locs X e1 hZ hown H hE hS hk => ?_) k
  obtain ⟨cq, kq, qa, qb, qc⟩ := isOf (s := s.setVm vm) hZ e1 E
  obtain ⟨v, vm1, Bp, -, X', hS', hg, hP, hst'⟩ := X.virtualBackS C.1 hown (mvT (s := s.setVm vm) hZ w1) (mvT (s := s.setVm vm) hZ w2) (nf_of (mvT (s := s.setVm vm) (args := #[]) hZ w8) hcc) (mvT (s := s.setVm vm) hZ w5) (mvT (s := s.setVm vm) hZ w6) hy (backM (W := (r.map fun v => v.category).sum) M hZ w4 w3 rf rl C.2.2.2.2.2.2.2 H hE hsf) qa qc (g := fr m pc L st) rfl (by rw [C.2.2.2.1]; exact hz) (Steps.refl _) (argsL := argsL) (rest := r) (lenOf pd hlen) hst (by show 2 * 0 + _ ≤ _; omega) (hb C.2.1 hd) (fun _ _ => ⟨rfl, e1, rc, rs⟩)
  exact ⟨v, Bp, X', hS', hg, hP, hst'⟩
theorem R_privateS (C : Cx p s m meth c Z a0 EL own B n nm ret) {idx n' : Nat} {y : MethodName} {B' : ByteArray} {ret' : Option FieldType} {rm : Room} {sf : List Addr} {Q : Option Value → Heap → Prop} {ps : List FieldType} {rr : Option FieldType} {st : List Value} {Cn Cs : String} (argsL : List Value) (hd : Dc B pc (.invokevirtual idx) 3 q)
    {nw' : Prop} (M : Met l Z nw' EL y B' n' ret' rm (.ref a :: argsL).toArray h sf Q) (hnn : nw → nw') (E : Exa Z h a Cn) (w1 : (Cond.methodLink own idx y).before a0 Z = true) (w2 : (Cond.privateMethod y).before a0 Z = true) (w5 : (Cond.selects Cs y y).before a0 Z = true) (w6 : (Cond.instanceMethod y).before a0 Z = true) (w3 : (Cond.initialized y.cls).before a0 Z = true) (w4 : (Cond.code y B' n' ret').before a0 Z = true)
    (hy : y.cls ≠ "java/lang/invoke/MethodHandle" ∧ y.cls ≠ "java/lang/invoke/VarHandle") (pd : parseMethodDescriptor y.desc = some ⟨ps, rr⟩) (hlen : argsL.length = ps.length) (hst : st = argsL.reverse ++ .ref a :: r) (hz : L.length = n)
    (rf : rm.frames + 1 ≤ R.frames) (rl : (r.map fun v => v.category).sum + (n' + 11) + rm.locals ≤ R.locals) (rc : cells + rm.cells ≤ R.cells) (rs : slots + rm.slots ≤ R.slots) (hsf : ∀ x ∈ sf, Safe Z EL vm h x)
    (k : ∀ v vm' h', Q v h' → h.size ≤ h'.size → (∀ x, x < h.size → Safe Z EL vm h x → Safe Z EL vm' h' x) → (nw' → ∀ x, h.size ≤ x → Safe Z EL vm' h' x) → Run p l e R s m args below meth c Z nw EL K vm' h' (cells + rm.cells) (slots + rm.slots) (fr m q L (v.toList ++ r))) : Run p l e R s m args below meth c Z nw EL K vm h cells slots (fr m pc L st) := by
  obtain ⟨hd, rfl⟩ := hd
  refine Run.back C hnn (Q := Q) (g' := fun v => fr m (pc + 3) L (v.toList ++ r)) (q := 0) (fun kk T locs X e1 hZ hown H hE hS hk => ?_) k
  obtain ⟨cell, hcell, hobj⟩ := E.cell
  have hK := backM (p := p) (e := e) (below := below) (s := s) (args := args) (R := R) (len := 3) (W := (r.map fun v => v.category).sum) M hZ w4 w3 rf rl C.2.2.2.2.2.2.2 H hE hsf
  obtain ⟨mk, methM, hnamed, hmethM, hstM, habM⟩ := Cond.instanceMethod_spec (mvT (s := s.setVm vm) (args := args) hZ w6)
  obtain ⟨methM', cM, hmethM', -, -, -, -, -, -, hsigM⟩ := Cond.code_spec hnamed (mvT (s := s.setVm vm) (args := args) hZ w4)
  cases hmethM.symm.trans hmethM'
  obtain ⟨kP, hkP, hkPi⟩ := notFace_of_selects (args := #[]) (mvT (s := s.setVm vm) hZ w5) mk hnamed
  have hpriv := Cond.privateMethod_at (mvP (s := s.setVm vm) hZ w2 (args := #[]))
  have hselP : selectMethod e.platform (s.setVm vm).vm cell.cls mk = .method mk := selectMethod_private hmethM (hpriv mk methM hnamed hmethM)
  obtain ⟨vm₁, X₁, hstep₁⟩ := X.invokevirtual C.1 hown (mvT (s := s.setVm vm) hZ w1) hnamed hmethM hstM hkP hkPi hy (a := a) (cell := cell) (by rw [e1]; exact hcell) hobj hselP hmethM habM hkP hkPi (g := fr m pc L st) rfl (argsL := argsL) (rest := r) (lenOf pd hlen _ hsigM) hst (hb C.2.1 hd)
  obtain ⟨v, Bp, X', hS', hgr, hpost, hsteps⟩ := hK m meth c ⟨T.setVm vm₁, locs, cells, slots⟩ (fr m pc L r) (.invokevirtual idx) mk (.ref a :: argsL).toArray X₁ rfl (by rw [C.2.2.2.1]; exact hz) (hb C.2.1 hd) (by show 2 * 0 + (r.map fun v => v.category).sum ≤ (r.map fun v => v.category).sum; omega) (X₁.named hnamed) ⟨rfl, e1, rc, rs⟩
  exact ⟨v, Bp, X', hS', hgr, hpost, (hstep₁ _ fun acts => by rw [doInvoke_state]; exact Steps.refl _).trans hsteps⟩
end Steps
end Jvm.Own
namespace Jvm.Own
open Sem ClassFile Op Lib Bundle Jvm.Stand Jvm.Free Jvm.LawKit Jvm.RoadKit
section Arrays
variable {p : Program} {l : Launch} {e : Env} {R : Room} {s : State} {m : MethodId} {args : Array Value} {below : List Frame} {meth : Method} {c : Code} {Z : State} {a0 : Array Value} {nw : Prop} {EL : List (String × Nat)} {K : State → Outcome → Prop} {vm : Vm} {h h' h0 : Heap} {cells slots : Nat} {own nm : String} {B : ByteArray} {n : Nat} {ret : Option FieldType} {pc q tq : Nat} {L : List Slot} {r : List Value} {a b : Addr} {ty : FieldType} {N sl : Nat} {f g : Nat → Value} {v : Value}
/-- the array at a: N places, place i holds f i -/
def AR (Z : State) (h : Heap) (a : Addr) (ty : FieldType) (N : Nat) (f : Nat → Value) : Prop :=
  ∃ cl : Cell, Arr Z h a cl ty ∧ cl.slots.size = N ∧ N < 2 ^ 31 ∧ ∀ i, i < N → cl.slots[i]? = some (f i) ∧ fits ty (f i) = true
def upd (f : Nat → Value) (j : Nat) (v : Value) : Nat → Value := fun i => if i = j then v else f i
theorem upd_eq {j : Nat} : upd f j v j = v := if_pos rfl
theorem upd_ne {i j : Nat} (q : i ≠ j) : upd f j v i = f i := if_neg q
theorem AR.lt (A : AR Z h a ty N f) : a < h.size := by obtain ⟨cl, A, -⟩ := A; exact A.lt
theorem AR.small (A : AR Z h a ty N f) : N < 2 ^ 31 := by obtain ⟨cl, A, -, q, -⟩ := A; exact q
theorem AR.ext (A : AR Z h a ty N f) (E : Ext h h') : AR Z h' a ty N f := by obtain ⟨cl, A, r⟩ := A; exact ⟨cl, A.ext E, r⟩
theorem AR.other (A : AR Z h a ty N f) (W : Wr h h' b sl v) (q : a ≠ b) : AR Z h' a ty N f := by obtain ⟨cl, A, r⟩ := A; exact ⟨cl, A.other W q, r⟩
theorem AR.keep {ws : List Addr} (A : AR Z h a ty N f) (K : Keep h h' ws) (q : a ∉ ws) : AR Z h' a ty N f := by obtain ⟨cl, A, r⟩ := A; exact ⟨cl, ⟨K.2.1 a cl A.1 q, A.2⟩, r⟩
theorem AR.cg (A : AR Z h a ty N f) (q : ∀ i, i < N → f i = g i) : AR Z h a ty N g := by
  obtain ⟨cl, A, h1, h2, H⟩ := A
  exact ⟨cl, A, h1, h2, fun i hi => by rw [← q i hi]; exact H i hi⟩
theorem AR.set (A : AR Z h a ty N f) {j : Nat} (W : Wr h h' a j v) (hv : fits ty v = true) : AR Z h' a ty N (upd f j v) := by
  obtain ⟨cl, A, hn, h31, H⟩ := A
  refine ⟨cl.setSlot j v, A.same W, by rw [sz_set]; exact hn, h31, fun i hi => ?_⟩
  unfold upd
  by_cases e : i = j
  · subst e
    rw [if_pos rfl]
    exact ⟨by simp [Cell.setSlot, hn, hi], hv⟩
  · rw [if_neg e]
    exact ⟨(Array.getElem?_setIfInBounds_ne (Ne.symm e)).trans (H i hi).1, (H i hi).2⟩
theorem AR.fit (A : AR Z h a ty N f) {i : Nat} (hi : i < N) : fits ty (f i) = true := by obtain ⟨cl, A, h1, h2, H⟩ := A; exact (H i hi).2
theorem AR.safe (A : AR Z h a ty N f) (hW : Z.Warmed39 vm) (ht : ty ≠ .byte) : Safe Z EL vm h a := by obtain ⟨cl, A, -⟩ := A; exact Safe.arr hW.alike A ht
theorem AR.neExa {C : String} {k : Nat} (A : AR Z h a ty N f) (E : Exa Z h b C) (w : (Cond.instantiable C k).before a0 Z = true) : a ≠ b := by obtain ⟨cl, A, -⟩ := A; exact (ne_arr E w A).symm
theorem AR.start (hf : Fit Z) {t : Term} (ev : t.eval args Z none [] Z = some (.ref a)) (hx : (Cond.arrayOf t ty).value args Z none Z [] = some true) {w : Int32} (hl : (Cond.eq (.length t) (.int w)).value args Z none Z [] = some true) (hw : w.toInt = N) : ∃ cl : Cell, Arr Z Z.heap a cl ty ∧ AR Z Z.heap a ty N (fun i => cl.slots.getD i .null) := by
  obtain ⟨cl, A⟩ := Arr.start ev hx
  have e1 : Z.arrayAt? a = some cl := A.fin (Vm.Alike.refl _)
  have hsz : cl.slots.size < 2 ^ 31 ∧ cl.slots.size.toInt32 = w := by
    by_cases z : cl.slots.size < 2 ^ 31
    · refine ⟨z, ?_⟩
      have z2 := len_f ev e1 z
      simp only [Cond.value, z2, Term.int_eval] at hl
      simpa using hl
    · have z2 : (Term.length t).eval args Z none [] Z = none := by simp only [Term.eval, ev, e1, Option.bind_eq_bind, Option.bind_some, if_neg z]
      simp [Cond.value, z2] at hl
  have hN : cl.slots.size = N := by
    have z := len_toInt hsz.1
    rw [hsz.2, hw] at z
    omega
  refine ⟨cl, A, cl, A, hN, by rw [← hN]; exact hsz.1, fun i hi => ?_⟩
  have hi' : i < cl.slots.size := by omega
  obtain ⟨v, v1, v2⟩ := elem_fit (j := i.toInt32) hf A (idx_in hi' hsz.1)
  have z3 : i.toInt32.toNatClampNeg = i := by simp [Int32.toNatClampNeg, len_toInt (show i < 2 ^ 31 by omega)]
  rw [z3] at v1
  have z4 : cl.slots.getD i .null = v := by simp [Array.getD_eq_getD_getElem?, v1]
  exact ⟨by show cl.slots[i]? = some (cl.slots.getD i .null); rw [z4]; exact v1, by show fits ty (cl.slots.getD i .null) = true; rw [z4]; exact v2⟩
theorem cl_of {j : Int32} {i : Nat} (hj : j.toInt = i) : j.toNatClampNeg = i := by simp [Int32.toNatClampNeg, hj]
theorem int_lit {t : Term} {w : Int32} (q : (Cond.eq t (.int w)).value args Z none Z [] = some true) : t.eval args Z none [] Z = some (.int w) := by
  obtain ⟨x, y, ex, ey, k1, k2⟩ := cmp_v (Or.inl q)
  have hy : y = .int w := (Option.some.inj ey).symm
  subst hy
  obtain ⟨x', rfl⟩ : ∃ x', x = .int x' := k2
  have z : x' = w := gotT (Cond.eq_ints ex (Term.int_eval w)) q
  rw [← z]; exact ex
theorem elem_lit {t : Term} {cl : Cell} (ev : t.eval args Z none [] Z = some (.ref a)) (A : Arr Z Z.heap a cl ty) {k w : Int32} {i : Nat} (hk : k.toInt = i) (q : (Cond.eq (.elem t (.int k)) (.int w)).value args Z none Z [] = some true) : cl.slots.getD i .null = .int w := by
  have z := elem_in (int_lit q) ev (Term.int_eval k) A.1
  rw [cl_of hk] at z
  simp [Array.getD_eq_getD_getElem?, z.2]
theorem Keep.ofExt (E : Ext h h') {ws : List Addr} : Keep h h' ws := (Keep.refl h ws).ext E
theorem nn_of {j : Int32} {i : Nat} (hj : j.toInt = i) : ¬ j < 0 := by
  rw [Int32.lt_iff_toInt_lt, hj, Int32.toInt_zero]; omega
theorem in_of {j : Int32} {i : Nat} {cl : Cell} (hj : j.toInt = i) (hi : i < N) (hn : cl.slots.size = N) : ¬ (j < 0 ∨ cl.slots.size ≤ j.toNatClampNeg) := by
  rw [cl_of hj, hn]
  intro z
  rcases z with z | z
  · exact nn_of hj z
  · omega
theorem R_arraylength (C : Cx p s m meth c Z a0 EL own B n nm ret) {w : Int32} (hd : Dc B pc (.arraylength) 1 q) (A : AR Z h a ty N f) (hv : N.toInt32 = w)
    (k : Run p l e R s m args below meth c Z nw EL K vm h cells slots (fr m q L (.int w :: r))) : Run p l e R s m args below meth c Z nw EL K vm h cells slots (fr m pc L (.ref a :: r)) := by
  obtain ⟨hd, rfl⟩ := hd
  obtain ⟨cl, A, hn, -⟩ := A
  subst hv hn
  exact Run.warm C (fun T locs X e1 hZ hown => ⟨T, X, e1, fun t st => X.arraylength C.1 (cell := cl) (by rw [e1]; exact A.1) (State.isArrayOf_alike hZ.alike A.2.1) (g := fr m pc L (.ref a :: r)) rfl rfl (hb C.2.1 hd) t st⟩) k
theorem R_iaload (C : Cx p s m meth c Z a0 EL own B n nm ret) {j : Int32} (i : Nat) (hd : Dc B pc (.iaload) 1 q) (A : AR Z h a .int N f) (hj : j.toInt = i) (hi : i < N) (hv : f i = v)
    (k : Run p l e R s m args below meth c Z nw EL K vm h cells slots (fr m q L (v :: r))) : Run p l e R s m args below meth c Z nw EL K vm h cells slots (fr m pc L (.int j :: .ref a :: r)) := by
  obtain ⟨hd, rfl⟩ := hd
  obtain ⟨cl, A, hn, h31, H⟩ := A
  subst hv
  exact Run.warm C (fun T locs X e1 hZ hown => ⟨T, X, e1, fun t st => X.iaload C.1 (cell := cl) (by rw [e1]; exact A.1) (State.isArrayOf_alike hZ.alike A.2.1) A.2.2 (in_of hj hi hn) (by rw [cl_of hj]; exact (H i hi).1) (g := fr m pc L (.int j :: .ref a :: r)) rfl rfl (hb C.2.1 hd) t st⟩) k
theorem R_caload (C : Cx p s m meth c Z a0 EL own B n nm ret) {j : Int32} (i : Nat) (hd : Dc B pc (.caload) 1 q) (A : AR Z h a .char N f) (hj : j.toInt = i) (hi : i < N) (hv : f i = v)
    (k : Run p l e R s m args below meth c Z nw EL K vm h cells slots (fr m q L (v :: r))) : Run p l e R s m args below meth c Z nw EL K vm h cells slots (fr m pc L (.int j :: .ref a :: r)) := by
  obtain ⟨hd, rfl⟩ := hd
  obtain ⟨cl, A, hn, h31, H⟩ := A
  subst hv
  exact Run.warm C (fun T locs X e1 hZ hown => ⟨T, X, e1, fun t st => X.caload C.1 (cell := cl) (by rw [e1]; exact A.1) (State.isArrayOf_alike hZ.alike A.2.1) A.2.2 (in_of hj hi hn) (by rw [cl_of hj]; exact (H i hi).1) (g := fr m pc L (.int j :: .ref a :: r)) rfl rfl (hb C.2.1 hd) t st⟩) k
theorem R_baload (C : Cx p s m meth c Z a0 EL own B n nm ret) {j : Int32} (i : Nat) (hd : Dc B pc (.baload) 1 q) (A : AR Z h a .byte N f) (hj : j.toInt = i) (hi : i < N) (hv : f i = v)
    (k : Run p l e R s m args below meth c Z nw EL K vm h cells slots (fr m q L (v :: r))) : Run p l e R s m args below meth c Z nw EL K vm h cells slots (fr m pc L (.int j :: .ref a :: r)) := by
  obtain ⟨hd, rfl⟩ := hd
  obtain ⟨cl, A, hn, h31, H⟩ := A
  subst hv
  exact Run.warm C (fun T locs X e1 hZ hown => ⟨T, X, e1, fun t st => X.baloadBytes C.1 (cell := cl) (by rw [e1]; exact A.1) (State.isArrayOf_alike hZ.alike A.2.1) A.2.2 (in_of hj hi hn) (by rw [cl_of hj]; exact (H i hi).1) (g := fr m pc L (.int j :: .ref a :: r)) rfl rfl (hb C.2.1 hd) t st⟩) k
theorem R_laload (C : Cx p s m meth c Z a0 EL own B n nm ret) {j : Int32} (i : Nat) (hd : Dc B pc (.laload) 1 q) (A : AR Z h a .long N f) (hj : j.toInt = i) (hi : i < N) (hv : f i = v)
    (k : Run p l e R s m args below meth c Z nw EL K vm h cells slots (fr m q L (v :: r))) : Run p l e R s m args below meth c Z nw EL K vm h cells slots (fr m pc L (.int j :: .ref a :: r)) := by
  obtain ⟨hd, rfl⟩ := hd
  obtain ⟨cl, A, hn, h31, H⟩ := A
  subst hv
  exact Run.warm C (fun T locs X e1 hZ hown => ⟨T, X, e1, fun t st => X.laload C.1 (cell := cl) (by rw [e1]; exact A.1) (State.isArrayOf_alike hZ.alike A.2.1) A.2.2 (in_of hj hi hn) (by rw [cl_of hj]; exact (H i hi).1) (g := fr m pc L (.int j :: .ref a :: r)) rfl rfl (hb C.2.1 hd) t st⟩) k
theorem R_aaload (C : Cx p s m meth c Z a0 EL own B n nm ret) {j : Int32} (i : Nat) (hd : Dc B pc (.aaload) 1 q) (A : AR Z h a ty N f) (ht : ty.isReference = true) (hj : j.toInt = i) (hi : i < N) (hv : f i = v)
    (k : Run p l e R s m args below meth c Z nw EL K vm h cells slots (fr m q L (v :: r))) : Run p l e R s m args below meth c Z nw EL K vm h cells slots (fr m pc L (.int j :: .ref a :: r)) := by
  obtain ⟨hd, rfl⟩ := hd
  obtain ⟨cl, A, hn, h31, H⟩ := A
  subst hv
  exact Run.warm C (fun T locs X e1 hZ hown => ⟨T, X, e1, fun t st => X.aaload C.1 (cell := cl) (by rw [e1]; exact A.1) (State.isArrayOf_alike hZ.alike A.2.1) ht A.2.2 (in_of hj hi hn) (by rw [cl_of hj]; exact (H i hi).1) (g := fr m pc L (.int j :: .ref a :: r)) rfl rfl (hb C.2.1 hd) t st⟩) k
theorem R_iastore (C : Cx p s m meth c Z a0 EL own B n nm ret) {j x : Int32} (i : Nat) (hd : Dc B pc (.iastore) 1 q) (A : AR Z h a .int N f) (hj : j.toInt = i) (hi : i < N) (ha : Z.heap.size ≤ a) (hs : Safe Z EL vm h a)
    (k : ∀ h', Wr h h' a i (.int x) → AR Z h' a .int N (upd f i (.int x)) → (∀ x, Safe Z EL vm h x → Safe Z EL vm h' x) → Run p l e R s m args below meth c Z nw EL K vm h' cells slots (fr m q L r)) : Run p l e R s m args below meth c Z nw EL K vm h cells slots (fr m pc L (.int x :: .int j :: .ref a :: r)) := by
  obtain ⟨hd, rfl⟩ := hd
  have A0 := A
  obtain ⟨cl, A, hn, h31, H⟩ := A
  refine Run.write C (a := a) (sl := i) (v := .int x) (fun T locs X e1 hZ hown => ?_) ha hs (fun h' W Sf => k h' W (A0.set W (rfl)) Sf)
  have z := stI X C.1 hZ e1 A (x := x) (in_of hj hi hn) (g := fr m pc L (.int x :: .int j :: .ref a :: r)) rfl rfl (hb C.2.1 hd)
  rw [cl_of hj] at z
  exact z
theorem R_castore (C : Cx p s m meth c Z a0 EL own B n nm ret) {j x : Int32} (i : Nat) (hd : Dc B pc (.castore) 1 q) (A : AR Z h a .char N f) (hj : j.toInt = i) (hi : i < N) (ha : Z.heap.size ≤ a) (hs : Safe Z EL vm h a)
    (k : ∀ h', Wr h h' a i (.int (nar .char x)) → AR Z h' a .char N (upd f i (.int (nar .char x))) → (∀ x, Safe Z EL vm h x → Safe Z EL vm h' x) → Run p l e R s m args below meth c Z nw EL K vm h' cells slots (fr m q L r)) : Run p l e R s m args below meth c Z nw EL K vm h cells slots (fr m pc L (.int x :: .int j :: .ref a :: r)) := by
  obtain ⟨hd, rfl⟩ := hd
  have A0 := A
  obtain ⟨cl, A, hn, h31, H⟩ := A
  refine Run.write C (a := a) (sl := i) (v := .int (nar .char x)) (fun T locs X e1 hZ hown => ?_) ha hs (fun h' W Sf => k h' W (A0.set W (fits_nar_char x)) Sf)
  have z := stC X C.1 hZ e1 A (x := x) (in_of hj hi hn) (g := fr m pc L (.int x :: .int j :: .ref a :: r)) rfl rfl (hb C.2.1 hd)
  rw [cl_of hj] at z
  exact z
theorem R_bastore (C : Cx p s m meth c Z a0 EL own B n nm ret) {j x : Int32} (i : Nat) (hd : Dc B pc (.bastore) 1 q) (A : AR Z h a .byte N f) (hj : j.toInt = i) (hi : i < N) (ha : Z.heap.size ≤ a) (hs : Safe Z EL vm h a)
    (k : ∀ h', Wr h h' a i (.int (nar .byte x)) → AR Z h' a .byte N (upd f i (.int (nar .byte x))) → (∀ x, Safe Z EL vm h x → Safe Z EL vm h' x) → Run p l e R s m args below meth c Z nw EL K vm h' cells slots (fr m q L r)) : Run p l e R s m args below meth c Z nw EL K vm h cells slots (fr m pc L (.int x :: .int j :: .ref a :: r)) := by
  obtain ⟨hd, rfl⟩ := hd
  have A0 := A
  obtain ⟨cl, A, hn, h31, H⟩ := A
  refine Run.write C (a := a) (sl := i) (v := .int (nar .byte x)) (fun T locs X e1 hZ hown => ?_) ha hs (fun h' W Sf => k h' W (A0.set W (fits_nar_byte x)) Sf)
  have z := stB X C.1 hZ e1 A (x := x) (in_of hj hi hn) (g := fr m pc L (.int x :: .int j :: .ref a :: r)) rfl rfl (hb C.2.1 hd)
  rw [cl_of hj] at z
  exact z
theorem nsz {x : Int32} (h : x.toInt = N) : N < 2 ^ 31 := by have := Int32.toInt_lt x; omega
theorem R_newarray (C : Cx p s m meth c Z a0 EL own B n nm ret) {x : Int32} {aty : ArrayType} (cap : Nat) (hd : Dc B pc (.newarray aty) 2 q) (w : (Cond.arrayClass (newarray.typeOf aty)).before a0 Z = true) (hx : x.toInt = N) (hcap : N ≤ cap) (hb8 : cap * 8 ≤ 536870912) (hc : cells + 1 ≤ R.cells) (hl : slots + cap ≤ R.slots) (hfit : fits (newarray.typeOf aty) (defaultValue (newarray.typeOf aty)) = true)
    (k : ∀ h', Ext h h' → AR Z h' h.size (newarray.typeOf aty) N (fun _ => defaultValue (newarray.typeOf aty)) → Safe Z EL vm h' h.size → (∀ x, Safe Z EL vm h x → Safe Z EL vm h' x) → Run p l e R s m args below meth c Z nw EL K vm h' (cells + 1) (slots + cap) (fr m q L (.ref h.size :: r))) : Run p l e R s m args below meth c Z nw EL K vm h cells slots (fr m pc L (.int x :: r)) := by
  obtain ⟨hd, rfl⟩ := hd
  refine Run.grow C (F := fun h' => AR Z h' h.size (newarray.typeOf aty) N (fun _ => defaultValue (newarray.typeOf aty))) (fun T locs X e1 hZ hown => ?_) (fun h' E F H Sf => k h' E F (Safe.ext E H (Safe.new (Nat.le_refl _))) Sf)
  obtain ⟨T', h', cA, X', e2, E, A, st⟩ := newP X C.1 hZ w e1 (g := fr m pc L (.int x :: r)) rfl (hb C.2.1 hd) (n := x) (rest := r) rfl (nn_of hx) (cap := cap) (by rw [cl_of hx]; exact hcap) hb8 hc hl
  refine ⟨T', h', X', e2, E, ⟨_, A, by rw [sz_new, cl_of hx], nsz hx, fun i hi => ⟨?_, hfit⟩⟩, st⟩
  simp [newA, cl_of hx, hi]
theorem Run.keepW (C : Cx p s m meth c Z a0 EL own B n nm ret) {g g' : JFrame} {F : Heap → Prop}
    (st : ∀ T locs, Stand p l e R (s.setVm vm) m args below meth c T locs cells slots → T.heap = h → Z.Warmed39 (s.setVm vm).vm → (s.setVm vm).vm.findClass own = some m.cls → ∃ T' h' L', Stand p l e R (s.setVm vm) m args below meth c T' (locs ++ L') cells slots ∧ T'.heap = h' ∧ Keep h h' [a] ∧ (∀ y ∈ L', y.base = a) ∧ F h' ∧ ∀ t, Steps p.tables e below (T'.setTop g') t → Steps p.tables e below (T.setTop g) t)
    (ha : Z.heap.size ≤ a) (hs : Safe Z EL vm h a)
    (k : ∀ h', Keep h h' [a] → F h' → (∀ x, Safe Z EL vm h x → Safe Z EL vm h' x) → Run p l e R s m args below meth c Z nw EL K vm h' cells slots g') : Run p l e R s m args below meth c Z nw EL K vm h cells slots g := by
  intro T P
  obtain ⟨kk, locs, X, e1, e2, e3, e4, e5, e6, e7, e8⟩ := P
  obtain ⟨T', h', L', X', e1', Kp, hL, hF, hst⟩ := st T locs X e1 e6 ((e4.1.alike.findClass _ _).trans C.2.2.1)
  have h1 : ∀ x ∈ [a], Safe Z EL vm h x := fun x hx => by cases List.mem_singleton.mp hx; exact hs
  exact Ends.go hst (k h' Kp hF (fun x S => Safe.keep Kp h1 e7.1.1 S) T' ⟨kk, _, X', e1', Fr.app e2 fun y hy => by rw [hL y hy]; exact ha, Ext.keep' e3 Kp fun x hx => by cases List.mem_singleton.mp hx; exact ha, e4, Nat.le_trans e5 Kp.1, e6, e7.trans (CHs.keep Kp h1 e7.1.1), e8⟩)
theorem arr_kind {cl : Cell} (A : Arr Z h a cl ty) : ∃ (k : Class) (comp : ClassId), Z.vm.classes[cl.cls]? = some k ∧ k.kind = .array comp ty := by
  obtain ⟨-, ⟨-, k, h1, comp, h2⟩, -⟩ := A
  exact ⟨k, comp, h1, h2⟩
theorem gd_of {cl : Cell} {i : Nat} (h : cl.slots[i]? = some v) : cl.slots.getD i .null = v := by
  simp [Array.getD, Array.getElem?_eq_some_iff] at h ⊢
  obtain ⟨h1, h2⟩ := h
  simp [h1, h2]
theorem R_arraycopy (C : Cx p s m meth c Z a0 EL own B n nm ret) {idx : Nat} {src dst : Addr} {sp dp nn : Int32} {Ns Nd : Nat} {fs fd : Nat → Value} (isp idp inn : Nat) (hd : Dc B pc (.invokestatic idx) 3 q)
    (w1 : (Cond.methodLink own idx acN).before a0 Z = true) (w2 : (Cond.native acN).before a0 Z = true) (w3 : (Cond.static acN).before a0 Z = true) (w4 : (Cond.initialized "java/lang/System").before a0 Z = true)
    (A : AR Z h src ty Ns fs) (D : AR Z h dst ty Nd fd) (hp : refKind ty = false) (q1 : sp.toInt = isp) (q2 : dp.toInt = idp) (q3 : nn.toInt = inn) (b1 : isp + inn ≤ Ns) (b2 : idp + inn ≤ Nd) (hz : L.length = n)
    (rf : 1 ≤ R.frames) (rl : (r.map fun v => v.category).sum + 18 ≤ R.locals) (ha : Z.heap.size ≤ dst) (hs : Safe Z EL vm h dst)
    (k : ∀ h', Keep h h' [dst] → AR Z h' dst ty Nd (fun i => if idp ≤ i ∧ i < idp + inn then fs (isp + (i - idp)) else fd i) → (∀ x, Safe Z EL vm h x → Safe Z EL vm h' x) → Run p l e R s m args below meth c Z nw EL K vm h' cells slots (fr m q L r)) : Run p l e R s m args below meth c Z nw EL K vm h cells slots (fr m pc L (.int nn :: .int dp :: .ref dst :: .int sp :: .ref src :: r)) := by
  obtain ⟨hd, rfl⟩ := hd
  obtain ⟨cs, A, hns, h31, H⟩ := A
  obtain ⟨cd, D, hnd, h31', H'⟩ := D
  refine Run.keepW C (F := fun h' => AR Z h' dst ty Nd (fun i => if idp ≤ i ∧ i < idp + inn then fs (isp + (i - idp)) else fd i)) (fun T locs X e1 hZ hown => ?_) ha hs k
  obtain ⟨ks, sc, k1, k2⟩ := arr_kind A
  obtain ⟨kd, dc, k3, k4⟩ := arr_kind D
  obtain ⟨ks', k1', ek1⟩ := hZ.alike.2.2 _ _ k1
  obtain ⟨kd', k3', ek3⟩ := hZ.alike.2.2 _ _ k3
  have hty : ((refKind ty != refKind ty) || (!refKind ty && ty != ty)) = false := by simp
  obtain ⟨vm1, hW1, X', st⟩ := X.arraycopyK C.1 hown (mvT hZ w1) (mvT hZ w2) (mvT hZ w3) (mvT hZ w4) (src := src) (dst := dst) (srcPos := sp) (destPos := dp) (n := nn) (cs := cs) (cd := cd) (by rw [e1]; exact A.1) (by rw [e1]; exact D.1) A.2.1.1 D.2.1.1 A.2.2 D.2.2 k1' k3' (by rw [ek1]; exact k2) (by rw [ek3]; exact k4) hty (nn_of q1) (nn_of q2) (nn_of q3) (by rw [q1, q3, hns]; omega) (by rw [q2, q3, hnd]; omega)
    (fun vm2 _ i hi => by
      rw [cl_of q3] at hi
      rw [cl_of q1]
      have z := H (isp + i) (by omega)
      rw [gd_of z.1]
      exact ⟨z.2, State.takes_of_prim _ _ hp z.2⟩) (g := fr m pc L (.int nn :: .int dp :: .ref dst :: .int sp :: .ref src :: r)) rfl (by rw [C.2.2.2.1]; exact hz) (rest := r) rfl (hb C.2.1 hd) rf (by show 2 * 0 + _ + (7 + 11) ≤ _; omega)
  have hfacts := Cell.storeRun_facts cd dp.toNatClampNeg (cs.stretch sp.toNatClampNeg nn.toNatClampNeg)
  have hlt : dst < h.size := D.lt
  have hnew : (h.setIfInBounds dst (copied cs cd sp dp nn))[dst]? = some (copied cs cd sp dp nn) := by simp [hlt]
  have hoth : ∀ x, x ≠ dst → (h.setIfInBounds dst (copied cs cd sp dp nn))[x]? = h[x]? := fun x hx => Array.getElem?_setIfInBounds_ne (Ne.symm hx)
  refine ⟨_, h.setIfInBounds dst (copied cs cd sp dp nn), _, X', ?_, ⟨by simp, fun x cl hx hn => ?_, fun x cl hx => ?_⟩, fun y hy => copyLocs_base hy, ⟨copied cs cd sp dp nn, ⟨hnew, ?_, ?_⟩, ?_, h31', fun i hi => ?_⟩, st⟩
  · rw [← e1]; rfl
  · rw [hoth x (fun z => hn (by rw [z]; exact List.mem_singleton.mpr rfl))]; exact hx
  · by_cases z : x = dst
    · subst z
      cases D.1.symm.trans hx
      exact ⟨_, hnew, hfacts.1, hfacts.2.1, hfacts.2.2.1⟩
    · exact ⟨cl, by rw [hoth x z]; exact hx, rfl, rfl, rfl⟩
  · obtain ⟨z1, kk, z2, z3⟩ := D.2.1
    exact ⟨by rw [hfacts.2.1]; exact z1, kk, by rw [hfacts.1]; exact z2, z3⟩
  · rw [hfacts.2.1]; exact D.2.2
  · rw [hfacts.2.2.1]; exact hnd
  · have z : (copied cs cd sp dp nn).slots[i]? = if idp ≤ i ∧ i < idp + inn then (cs.stretch isp inn)[i - idp]? else cd.slots[i]? := by
      show (cd.storeRun dp.toNatClampNeg (cs.stretch sp.toNatClampNeg nn.toNatClampNeg)).slots[i]? = _
      rw [cl_of q1, cl_of q2, cl_of q3, Cell.storeRun_get _ _ _ _ (by rw [Cell.stretch_length, hnd]; exact b2), Cell.stretch_length]
    rw [z]
    by_cases hc : idp ≤ i ∧ i < idp + inn
    · simp only [if_pos hc]
      have z2 := H (isp + (i - idp)) (by omega)
      refine ⟨?_, z2.2⟩
      have z3 : i - idp < inn := by omega
      simp only [Cell.stretch, List.getElem?_map, List.getElem?_range z3, Option.map_some]
      rw [gd_of z2.1]
    · simp only [if_neg hc]
      exact H' i hi
theorem R_checkcast_null (C : Cx p s m meth c Z a0 EL own B n nm ret) {idx : Nat} (hd : Dc B pc (.checkcast idx) 3 q)
    (k : Run p l e R s m args below meth c Z nw EL K vm h cells slots (fr m q L (.null :: r))) : Run p l e R s m args below meth c Z nw EL K vm h cells slots (fr m pc L (.null :: r)) := by
  obtain ⟨hd, rfl⟩ := hd
  exact Run.warm C (fun T locs X e1 hZ hown => ⟨T, X, e1, X.checkcastNull C.1 (g := fr m pc L (.null :: r)) rfl rfl (hb C.2.1 hd)⟩) k
theorem R_instanceof_null (C : Cx p s m meth c Z a0 EL own B n nm ret) {idx : Nat} (hd : Dc B pc (.instanceof idx) 3 q)
    (k : Run p l e R s m args below meth c Z nw EL K vm h cells slots (fr m q L (.int 0 :: r))) : Run p l e R s m args below meth c Z nw EL K vm h cells slots (fr m pc L (.null :: r)) := by
  obtain ⟨hd, rfl⟩ := hd
  exact Run.warm C (fun T locs X e1 hZ hown => ⟨T, X, e1, X.instanceofNull C.1 (g := fr m pc L (.null :: r)) rfl rfl (hb C.2.1 hd)⟩) k
/-- the clone of an array of the start -/
theorem R_clone (C : Cx p s m meth c Z a0 EL own B n nm ret) {idx : Nat} {ad : String} {cl : Cell} (hd : Dc B pc (.invokevirtual idx) 3 q)
    (w1 : (Cond.methodLink own idx ⟨ad, "clone", "()Ljava/lang/Object;"⟩).before a0 Z = true) (w2 : (Cond.sameMethod ad "java/lang/Object" "clone" "()Ljava/lang/Object;").before a0 Z = true) (w3 : (Cond.native ⟨"java/lang/Object", "clone", "()Ljava/lang/Object;"⟩).before a0 Z = true)
    (w4 : (Cond.instanceMethod ⟨"java/lang/Object", "clone", "()Ljava/lang/Object;"⟩).before a0 Z = true) (w5 : (Cond.selects ad ⟨ad, "clone", "()Ljava/lang/Object;"⟩ ⟨"java/lang/Object", "clone", "()Ljava/lang/Object;"⟩).before a0 Z = true) (w6 : (Cond.castable ad "java/lang/Cloneable").before a0 Z = true)
    (A : Arr Z h a cl ty) (hN : cl.slots.size = N) (h31 : N < 2 ^ 31) (hf : ∀ i, i < N → cl.slots[i]? = some (f i) ∧ fits ty (f i) = true) (E : Exa Z h a ad) (F : FitC Z cl) (hz : L.length = n) (rf : 1 ≤ R.frames) (rl : (r.map fun v => v.category).sum + 14 ≤ R.locals) (hc : cells + 1 ≤ R.cells) (hl : slots + N ≤ R.slots)
    (k : ∀ h', Ext h h' → AR Z h' h.size ty N f ∧ Exa Z h' h.size ad → (∀ x, Safe Z EL vm h x → Safe Z EL vm h' x) → Run p l e R s m args below meth c Z nw EL K vm h' (cells + 1) (slots + N) (fr m q L (.ref h.size :: r))) : Run p l e R s m args below meth c Z nw EL K vm h cells slots (fr m pc L (.ref a :: r)) := by
  obtain ⟨hd, rfl⟩ := hd
  refine Run.grow C (F := fun h' => AR Z h' h.size ty N f ∧ Exa Z h' h.size ad) (fun T locs X e1 hZ hown => ?_) (fun h' E F H Sf => k h' E F Sf)
  obtain ⟨T', h', X', e2, E2, A2, E3, st⟩ := cloneA X C.1 hZ hown w1 w2 w3 w4 w5 w6 e1 A E F (g := fr m pc L (.ref a :: r)) rfl (by rw [C.2.2.2.1]; exact hz) rfl (hb C.2.1 hd) rf (W := (r.map fun v => v.category).sum) (cap := N) (by show 2 * 0 + _ ≤ _; omega) rl (Nat.le_of_eq hN) hc hl
  exact ⟨T', h', X', e2, E2, ⟨⟨_, A2, hN, h31, hf⟩, E3⟩, st⟩
end Arrays
end Jvm.Own
namespace Jvm.Own
open Sem ClassFile Op Lib Bundle Jvm.Stand Jvm.Free Jvm.LawKit Jvm.RoadKit
section Cold
variable {p : Program} {l : Launch} {e : Env} {R : Room} {s : State} {m : MethodId} {args : Array Value} {below : List Frame} {meth : Method} {c : Code} {Z : State} {a0 : Array Value} {nw : Prop} {EL : List (String × Nat)} {K : State → Outcome → Prop} {vm : Vm} {h h' h0 : Heap} {cells slots : Nat} {own nm : String} {B : ByteArray} {n : Nat} {ret : Option FieldType} {pc q tq : Nat} {L : List Slot} {r : List Value} {a b : Addr} {ty : FieldType} {N sl : Nat} {f g : Nat → Value} {v : Value}
/-- ldc of a String constant that nobody reads -/
theorem R_ldcO (C : Cx p s m meth c Z a0 EL own B n nm ret) {idx : Nat} {text : String} (nn : Nat) (hd : Dc B pc (.ldc idx) 2 q) (hnw : ¬ nw) (w : (Cond.stringLink own idx text).before a0 Z = true) (wS : ∀ a ∈ Bundle.stringAtoms, a.before a0 Z = true)
    (hn : 4 * text.toList.length ≤ nn) (hbig : nn ≤ 536870912) (hc : cells + 2 ≤ R.cells) (hl : slots + (nn + 4) ≤ R.slots)
    (k : ∀ a vm' h', Ext h h' → (∀ x, x < h.size → Safe Z EL vm h x → Safe Z EL vm' h' x) → Run p l e R s m args below meth c Z nw EL K vm' h' (cells + 2) (slots + (nn + 4)) (fr m q L (.ref a :: r))) : Run p l e R s m args below meth c Z nw EL K vm h cells slots (fr m pc L r) := by
  obtain ⟨hd, rfl⟩ := hd
  intro T P
  obtain ⟨kk, locs, X, e1, e2, e3, e4, e5, e6, e7, e8⟩ := P
  obtain ⟨a, T', h', k1, X', e1', E, hS', hk', hZ', hf', hC, hL, st⟩ := ldcOH X C.1 e6 ((e4.1.alike.findClass _ _).trans C.2.2.1) w wS e1 e4 e5 C.2.2.2.2.2.2.2 e7.1.1 (g := fr m pc L r) rfl (hb C.2.1 hd) hn hbig hc hl
  exact Ends.go st (k a T'.vm h' E (fun x hx S => CHr.safe hC hx S) T' ⟨k1, locs, X', e1', e2, Ext.tr e3 E, hS', hk', hZ', e7.trans (CHs.cold hC hnw), fun z => absurd z hnw⟩)
/-- ldc of a String constant whose text is read -/
theorem R_ldcK (C : Cx p s m meth c Z a0 EL own B n nm ret) {idx : Nat} {text : String} {vs : List Value} {z : Int32} (nn : Nat) (hd : Dc B pc (.ldc idx) 2 q) (hnw : ¬ nw) (w : (Cond.stringLink own idx text).before a0 Z = true) (wS : ∀ a ∈ Bundle.stringAtoms, a.before a0 Z = true) (hmem : (own, idx) ∈ EL)
    (ht : (∀ c ∈ text.toList, c.toNat < 256) ∧ text.toList.map (fun c => Value.int (Jvm.Lit.byteI c.toNat.toUInt16)) = vs) (hz : z.toInt = vs.length)
    (hn : 4 * text.toList.length ≤ nn) (hbig : nn ≤ 536870912) (hc : cells + 2 ≤ R.cells) (hl : slots + (nn + 4) ≤ R.slots)
    (k : ∀ a b vm' h', Ext h h' → Exa Z h' a "java/lang/String" → Fld Z h' a "java/lang/String" "coder" "B" (.int 0) → Fld Z h' a "java/lang/String" "value" "[B" (.ref b) → AR Z h' b .byte vs.length (fun i => vs.getD i (.int 0)) → (∀ x, x < h.size → Safe Z EL vm h x → Safe Z EL vm' h' x) → (∀ x, Safe Z EL vm' h' x → x ≠ a ∧ x ≠ b) → Run p l e R s m args below meth c Z nw EL K vm' h' (cells + 2) (slots + (nn + 4)) (fr m q L (.ref a :: r))) : Run p l e R s m args below meth c Z nw EL K vm h cells slots (fr m pc L r) := by
  obtain ⟨hd, rfl⟩ := hd
  have hz0 : ¬ z < 0 := nn_of hz
  have hzc : z.toNatClampNeg = vs.length := cl_of hz
  intro T P
  obtain ⟨kk, locs, X, e1, e2, e3, e4, e5, e6, e7, e8⟩ := P
  obtain ⟨a, T', h', k1, b, kb, X', e1', E, hS', hk', hZ', hf', hE, hF1, hF2, hA, -, -, hC, hL, hne, st⟩ := ldcCH X C.1 e6 ((e4.1.alike.findClass _ _).trans C.2.2.1) w wS e1 e4 e5 C.2.2.2.2.2.2.2 hmem e7.1.1 ht hz0 hzc (g := fr m pc L r) rfl (hb C.2.1 hd) hn hbig hc hl
  have A : AR Z h' b .byte vs.length (fun i => vs.getD i (.int 0)) := by
    obtain ⟨cl, A1, -, A3, -, A5, A6⟩ := hA
    have hsz : cl.slots.size = vs.length := by rw [A3, hzc]
    refine ⟨cl, A1, hsz, nsz hz, fun i hi => ⟨A5 i (by omega), A6 i (by omega)⟩⟩
  exact Ends.go st (k a b T'.vm h' E hE hF1 hF2 A (fun x hx S => CHr.safe hC hx S) hne T' ⟨k1, locs, X', e1', e2, Ext.tr e3 E, hS', hk', hZ', e7.trans (CHs.cold hC hnw), fun z => absurd z hnw⟩)
end Cold
end Jvm.Own
namespace Jvm.Pilot.@@N@@
open Jvm Jvm.ClassFile Sem Op Lib Jvm.Free Jvm.Stand Jvm.LawKit Jvm.RoadKit Bundle Jvm.Own Jvm.Kit Jvm.Pilot.@@N@@.Jvm.D
theorem pd_0 : parseMethodDescriptor "()B" = some ⟨[], (some .byte)⟩ := by decide +kernel
theorem pd_1 : parseMethodDescriptor "([CI[BII)I" = some ⟨[(.array .char), .int, (.array .byte), .int, .int], (some .int)⟩ := by decide +kernel
theorem pd_2 : parseMethodDescriptor "([CII)[B" = some ⟨[(.array .char), .int, .int], (some (.array .byte))⟩ := by decide +kernel
theorem pd_3 : parseMethodDescriptor "([BI)B" = some ⟨[(.array .byte), .int], (some .byte)⟩ := by decide +kernel
theorem pd_4 : parseMethodDescriptor "([CIILjava/lang/Void;)V" = some ⟨[(.array .char), .int, .int, (.object "java/lang/Void")], none⟩ := by decide +kernel
theorem pd_5 : parseMethodDescriptor "(I)I" = some ⟨[.int], (some .int)⟩ := by decide +kernel
theorem pd_6 : parseMethodDescriptor "([BI)C" = some ⟨[(.array .byte), .int], (some .char)⟩ := by decide +kernel
theorem pd_7 : parseMethodDescriptor "(I)Z" = some ⟨[.int], (some .boolean)⟩ := by decide +kernel
theorem pd_8 : parseMethodDescriptor "()Z" = some ⟨[], (some .boolean)⟩ := by decide +kernel
theorem pd_9 : parseMethodDescriptor "([B)I" = some ⟨[(.array .byte)], (some .int)⟩ := by decide +kernel
theorem pd_10 : parseMethodDescriptor "()I" = some ⟨[], (some .int)⟩ := by decide +kernel
theorem pd_11 : parseMethodDescriptor "(Ljava/lang/Object;Ljava/lang/String;)Ljava/lang/Object;" = some ⟨[(.object "java/lang/Object"), (.object "java/lang/String")], (some (.object "java/lang/Object"))⟩ := by decide +kernel
theorem pd_12 : parseMethodDescriptor "(I)[C" = some ⟨[.int], (some (.array .char))⟩ := by decide +kernel
theorem pd_13 : parseMethodDescriptor "([C)V" = some ⟨[(.array .char)], none⟩ := by decide +kernel
theorem pd_14 : parseMethodDescriptor "(Ljava/lang/String;)Ljava/lang/String;" = some ⟨[(.object "java/lang/String")], (some (.object "java/lang/String"))⟩ := by decide +kernel
theorem pd_15 : parseMethodDescriptor "(Ljava/lang/Object;)Z" = some ⟨[(.object "java/lang/Object")], (some .boolean)⟩ := by decide +kernel
theorem cat_ref {v : Value} (h : v.isRef = true) : v.category = 1 := by cases v <;> first | rfl | cases h
theorem ofNat_toInt {x : Int32} (h : 0 ≤ x.toInt) : x = Int32.ofNat x.toInt.toNat := by
  apply Int32.toInt_inj.mp
  have := Int32.toInt_lt x
  rw [Int32.toInt_ofNat_small (by omega)]
  omega
theorem byte_back {x : Int32} (h0 : 0 ≤ x.toInt) (h1 : x.toInt ≤ 255) : nar .char (x.toInt8.toInt32 &&& 255) = x := by
  have z : ∀ k : Fin 256, nar .char ((Int32.ofNat k.val).toInt8.toInt32 &&& 255) = Int32.ofNat k.val := by decide +kernel
  have z1 := z ⟨x.toInt.toNat, by omega⟩
  rw [ofNat_toInt h0]
  exact z1
theorem nar_c (x : Int32) : nar .char x = x.toUInt32.toUInt16.toUInt32.toInt32 := rfl
theorem u16_toInt (u : UInt16) : u.toUInt32.toInt32.toInt = (u.toNat : Int) := by
  have h := u.toNat_lt
  show (u.toUInt32.toBitVec).toInt = _
  rw [BitVec.toInt_eq_toNat_of_lt]
  · rfl
  · show 2 * u.toUInt32.toNat < 2 ^ 32
    rw [UInt16.toNat_toUInt32]; omega
theorem char_bound (x : Int32) : 0 ≤ (nar .char x).toInt ∧ (nar .char x).toInt ≤ 65535 := by
  rw [nar_c, u16_toInt]
  have h1 := x.toUInt32.toUInt16.toNat_lt
  omega
theorem i32_nn_u (x : Int32) (h : 0 ≤ x.toInt) : (x.toUInt32.toNat : Int) = x.toInt := by
  show (x.toBitVec.toNat : Int) = x.toBitVec.toInt
  have : 0 ≤ x.toBitVec.toInt := h
  rw [BitVec.toInt_eq_toNat_cond] at *
  split at this
  · rw [if_pos ‹_›]
  · have := x.toBitVec.isLt
    omega
theorem nar_char_id {x : Int32} (h0 : 0 ≤ x.toInt) (h1 : x.toInt ≤ 65535) : nar .char x = x := by
  apply Int32.toInt_inj.mp
  rw [nar_c, u16_toInt]
  have q := i32_nn_u x h0
  rw [UInt32.toNat_toUInt16]
  omega
theorem nar_nar_char (x : Int32) : nar .char (nar .char x) = nar .char x := nar_char_id (char_bound x).1 (char_bound x).2
theorem lo_byte (x : Int32) : (x.toInt8.toInt32 &&& 255).toInt = x.toInt % 256 := by
  have q : (x.toInt8.toInt32 &&& 255).toInt = _ := i32_mask x.toInt8.toInt32 255 (k := 8) (by decide) (by decide)
  rw [q, Int8.toInt_toInt32, Int32.toInt_toInt8, Int.bmod_def]
  omega
theorem or_parts (x y : Int32) (h0 : 0 ≤ x.toInt) (h1 : x.toInt < 256) (h2 : 0 ≤ y.toInt) (h3 : y.toInt < 256) : (x <<< ((0 : Int32) &&& 31) ||| y <<< ((8 : Int32) &&& 31)).toInt = x.toInt + 256 * y.toInt := by
  have a1 : x <<< ((0 : Int32) &&& 31) = x := by rw [show ((0 : Int32) &&& 31) = 0 from rfl]; simp
  have a2 : (y <<< ((8 : Int32) &&& 31)).toInt = y.toInt * 256 := by
    have q := i32_shl y ((8 : Int32) &&& 31) (k := 8) (by decide) (by omega) (by omega)
    exact q
  rw [a1]
  generalize hz : y <<< ((8 : Int32) &&& 31) = z at a2 ⊢
  have b1 := i32_nn_u x h0
  have b2 := i32_nn_u z (by omega)
  have b3 : (x ||| z).toUInt32.toNat = x.toUInt32.toNat ||| z.toUInt32.toNat := rfl
  have b4 : z.toUInt32.toNat = 2 ^ 8 * y.toInt.toNat := by omega
  have b5 : x.toUInt32.toNat < 2 ^ 8 := by omega
  have b6 : (x ||| z).toUInt32.toNat = 2 ^ 8 * y.toInt.toNat + x.toUInt32.toNat := by
    rw [b3, b4, Nat.or_comm, ← Nat.two_pow_add_eq_or_of_lt b5]
  have b7 : (x ||| z).toInt = ((x ||| z).toUInt32.toNat : Int) := by
    show (x ||| z).toBitVec.toInt = _
    rw [BitVec.toInt_eq_toNat_of_lt]
    · rfl
    · show 2 * (x ||| z).toUInt32.toNat < 2 ^ 32
      omega
  rw [b7, b6]
  omega
theorem chr_back {c : Int32} (h0 : 0 ≤ c.toInt) (h1 : c.toInt ≤ 65535) : nar .char ((c.toInt8.toInt32 &&& 255) <<< ((0 : Int32) &&& 31) ||| ((c >>> ((8 : Int32) &&& 31)).toInt8.toInt32 &&& 255) <<< ((8 : Int32) &&& 31)) = c := by
  have e1 := lo_byte c
  have e2 := lo_byte (c >>> ((8 : Int32) &&& 31))
  have e3 : (c >>> ((8 : Int32) &&& 31)).toInt = c.toInt / 256 := i32_shr c ((8 : Int32) &&& 31) (k := 8) (by decide)
  have e4 := or_parts (c.toInt8.toInt32 &&& 255) ((c >>> ((8 : Int32) &&& 31)).toInt8.toInt32 &&& 255) (by omega) (by omega) (by omega) (by omega)
  have e5 : ((c.toInt8.toInt32 &&& 255) <<< ((0 : Int32) &&& 31) ||| ((c >>> ((8 : Int32) &&& 31)).toInt8.toInt32 &&& 255) <<< ((8 : Int32) &&& 31)) = c := Int32.toInt_inj.mp (by omega)
  rw [e5, nar_char_id h0 h1]
theorem nar_byte_byte (x : Int32) : nar .byte x.toInt8.toInt32 = x.toInt8.toInt32 := by simp [nar]
theorem tw2 (a b : Int32) : ∀ i, i < 2 → upd (upd (fun _ => defaultValue (newarray.typeOf .char)) 0 (.int a)) 1 (.int b) i = .int (if i = 0 then a else b) := by
  intro i hi
  match i, hi with
  | 0, _ => rfl
  | 1, _ => rfl
theorem tw1 (a : Int32) : ∀ i, i < 1 → upd (fun _ => defaultValue (newarray.typeOf .char)) 0 (.int a) i = .int a := by
  intro i hi
  match i, hi with
  | 0, _ => rfl
abbrev by8 (x : Int32) : Value := .int x.toInt8.toInt32
abbrev STR : String := "java/lang/String"
abbrev UTF : String := "java/lang/StringUTF16"
abbrev LAT : String := "java/lang/StringLatin1"
abbrev PRE : String := "jdk/internal/util/Preconditions"
abbrev BIF : String := "Ljava/util/function/BiFunction;"
theorem pn_str : plainName STR = true := by first | (simp [plainName, overriddenIn]; done) | decide +kernel
theorem pn_utf : plainName UTF = true := by first | (simp [plainName, overriddenIn]; done) | decide +kernel
theorem pn_lat : plainName LAT = true := by first | (simp [plainName, overriddenIn]; done) | decide +kernel
theorem pn_pre : plainName PRE = true := by first | (simp [plainName, overriddenIn]; done) | decide +kernel
theorem efs1 (m : MethodId) (x0 : Addr) : entryFrame m #[(.ref x0)] 1 = fr m 0 [.val (.ref x0)] [] := by first | (simp [entryFrame, mkF, argsToLocals, Value.category]; done) | rfl
theorem efRI2 (m : MethodId) (x0 : Addr) (x1 : Int32) : entryFrame m #[(.ref x0), (.int x1)] 2 = fr m 0 [.val (.ref x0), .val (.int x1)] [] := by first | (simp [entryFrame, mkF, argsToLocals, Value.category]; done) | rfl
theorem efII2 (m : MethodId) (x0 : Int32) (x1 : Int32) : entryFrame m #[(.int x0), (.int x1)] 2 = fr m 0 [.val (.int x0), .val (.int x1)] [] := by first | (simp [entryFrame, mkF, argsToLocals, Value.category]; done) | rfl
theorem efck (m : MethodId) (x0 : Int32) (x1 : Int32) (x2 : Value) (q2 : x2.category = 1) : entryFrame m #[(.int x0), (.int x1), (x2)] 3 = fr m 0 [.val (.int x0), .val (.int x1), .val (x2)] [] := by simp [entryFrame, mkF, argsToLocals, cat_int, cat_rf, cat_lng, q2]
theorem efi2 (m : MethodId) (x0 : Addr) (x1 : Addr) : entryFrame m #[(.ref x0), (.ref x1)] 2 = fr m 0 [.val (.ref x0), .val (.ref x1)] [] := by first | (simp [entryFrame, mkF, argsToLocals, Value.category]; done) | rfl
theorem efi6 (m : MethodId) (x0 : Addr) (x1 : Addr) (x2 : Int32) (x3 : Int32) (x4 : Value) (q4 : x4.category = 1) : entryFrame m #[(.ref x0), (.ref x1), (.int x2), (.int x3), (x4)] 6 = fr m 0 [.val (.ref x0), .val (.ref x1), .val (.int x2), .val (.int x3), .val (x4), .unset] [] := by simp [entryFrame, mkF, argsToLocals, cat_int, cat_rf, cat_lng, q4]
theorem efc6 (m : MethodId) (x0 : Addr) (x1 : Int32) (x2 : Int32) : entryFrame m #[(.ref x0), (.int x1), (.int x2)] 6 = fr m 0 [.val (.ref x0), .val (.int x1), .val (.int x2), .unset, .unset, .unset] [] := by first | (simp [entryFrame, mkF, argsToLocals, Value.category]; done) | rfl
theorem efl7 (m : MethodId) (x0 : Addr) (x1 : Int32) (x2 : Addr) (x3 : Int32) (x4 : Int32) : entryFrame m #[(.ref x0), (.int x1), (.ref x2), (.int x3), (.int x4)] 7 = fr m 0 [.val (.ref x0), .val (.int x1), .val (.ref x2), .val (.int x3), .val (.int x4), .unset, .unset] [] := by first | (simp [entryFrame, mkF, argsToLocals, Value.category]; done) | rfl
/-- the statics that the Strings' methods read -/
def SS (Z : State) (cs : Int32) (fm : Value) : Prop := (¬ cs = 0) ∧ Sta Z Z.heap STR "COMPACT_STRINGS" "Z" (.int cs) ∧ fm.isRef = true ∧ Sta Z Z.heap PRE "SIOOBE_FORMATTER" BIF fm
/-- the String at a is Latin-1, its bytes at b: n chars, the i-th g i -/
def StrL (Z : State) (h : Heap) (a b : Addr) (n : Nat) (g : Nat → Int32) : Prop := Exa Z h a STR ∧ Fld Z h a STR "value" "[B" (.ref b) ∧ Fld Z h a STR "coder" "B" (.int 0) ∧ AR Z h b .byte n (fun i => by8 (g i)) ∧ ∀ i, i < n → 0 ≤ (g i).toInt ∧ (g i).toInt ≤ 255
theorem cd_0 : Dc jdk_42_method_152_code 0 (.getstatic 38) 3 3 := ⟨by decide +kernel, rfl⟩
theorem cd_3 : Jp jdk_42_method_152_code 3 (.ifCond .eq 10) (10) 6 13 := ⟨by decide +kernel, rfl, by decide, by decide⟩
theorem cd_6 : Dc jdk_42_method_152_code 6 (.aload_n 0) 1 7 := ⟨by decide +kernel, rfl⟩
theorem cd_7 : Dc jdk_42_method_152_code 7 (.getfield 15) 3 10 := ⟨by decide +kernel, rfl⟩
theorem cd_10 : Jp jdk_42_method_152_code 10 (.goto 4) (4) 13 14 := ⟨by decide +kernel, rfl, by decide, by decide⟩
theorem cd_13 : Dc jdk_42_method_152_code 13 (.iconst 1) 1 14 := ⟨by decide +kernel, rfl⟩
theorem cd_14 : Dc jdk_42_method_152_code 14 (.ireturn) 1 15 := ⟨by decide +kernel, rfl⟩
theorem le_0 : Dc jdk_42_method_54_code 0 (.aload_n 0) 1 1 := ⟨by decide +kernel, rfl⟩
theorem le_1 : Dc jdk_42_method_54_code 1 (.getfield 9) 3 4 := ⟨by decide +kernel, rfl⟩
theorem le_4 : Dc jdk_42_method_54_code 4 (.arraylength) 1 5 := ⟨by decide +kernel, rfl⟩
theorem le_5 : Dc jdk_42_method_54_code 5 (.aload_n 0) 1 6 := ⟨by decide +kernel, rfl⟩
theorem le_6 : Dc jdk_42_method_54_code 6 (.invokevirtual 335) 3 9 := ⟨by decide +kernel, rfl⟩
theorem le_9 : Dc jdk_42_method_54_code 9 (.ishr) 1 10 := ⟨by decide +kernel, rfl⟩
theorem le_10 : Dc jdk_42_method_54_code 10 (.ireturn) 1 11 := ⟨by decide +kernel, rfl⟩
theorem met_coder (l : Launch) (Z : State) (a0 : Array Value) (hw : ∀ d ∈ tables_1, d.before a0 Z = true) (nw : Prop) (EL : List (String × Nat)) (hEL : EW Z a0 EL) (cs : Int32) (fm : Value) (S : SS Z cs fm) (h : Heap) (a : Addr) (k : Int32) (hk : nar .byte k = k) (F : Fld Z h a STR "coder" "B" (.int k)) :
    Met l Z nw EL ⟨STR, "coder", "()B"⟩ jdk_42_method_152_code 1 (some .byte) ⟨0, 0, 0, 0⟩ #[.ref a] h [] (fun v h' => v = some (.int k) ∧ h' = h) := by
  refine Met.mk (a0 := a0) hEL pn_str ?_
  intro p e s m below meth c C hE hS
  rw [efs1]
  refine R_getstatic C cd_0 (hw _ (List.mem_of_getElem? (i := 19) rfl)) Via.refl (S.2.1.ext hE) ?_
  refine R_if C cd_3 (fun hc => absurd hc S.1) (fun _ => ?_)
  refine R_aload_n C cd_6 rfl rfl ?_
  refine R_getfield C cd_7 (hw _ (List.mem_of_getElem? (i := 31) rfl)) Via.refl (F) ?_
  refine R_goto C cd_10 ?_
  exact R_retN C cd_14 rfl (Or.inr (Or.inl rfl)) (Nat.le_refl _) (Nat.le_refl _) ⟨by rw [hk], rfl⟩
theorem met_length (l : Launch) (Z : State) (a0 : Array Value) (hw : ∀ d ∈ tables_1, d.before a0 Z = true) (nw : Prop) (EL : List (String × Nat)) (hEL : EW Z a0 EL) (cs : Int32) (fm : Value) (S : SS Z cs fm) (h : Heap) (a b : Addr) (N : Nat) (f : Nat → Value) (k : Int32) (hk : nar .byte k = k) (E : Exa Z h a STR) (F : Fld Z h a STR "coder" "B" (.int k)) (V : Fld Z h a STR "value" "[B" (.ref b)) (A : AR Z h b .byte N f) :
    Met l Z nw EL ⟨STR, "length", "()I"⟩ jdk_42_method_54_code 1 (some .int) ⟨1, 0, 0, 13⟩ #[.ref a] h [] (fun v h' => v = some (.int (N.toInt32 >>> (k &&& 31))) ∧ h' = h) := by
  refine Met.mk (a0 := a0) hEL pn_str ?_
  intro p e s m below meth c C hE hS
  rw [efs1]
  refine R_aload_n C le_0 rfl rfl ?_
  refine R_getfield C le_1 (hw _ (List.mem_of_getElem? (i := 33) rfl)) Via.refl (V) ?_
  refine R_arraylength C le_4 (A) rfl ?_
  refine R_aload_n C le_5 rfl rfl ?_
  refine R_virtual C [] le_6 (met_coder l Z a0 hw nw EL hEL cs fm S h a k hk F) (by first | exact fun z => z | exact fun _ => trivial) (E) (hw _ (List.mem_of_getElem? (i := 86) rfl)) (hw _ (List.mem_of_getElem? (i := 87) rfl)) (hw _ (List.mem_of_getElem? (i := 89) rfl)) (hw _ (List.mem_of_getElem? (i := 88) rfl)) (hw _ (List.mem_of_getElem? (i := 8) rfl)) (hw _ (List.mem_of_getElem? (i := 90) rfl)) (by decide) pd_0 rfl rfl rfl (Nat.le_of_ble_eq_true rfl) (Nat.le_of_ble_eq_true rfl) (Nat.le_of_ble_eq_true rfl) (Nat.le_of_ble_eq_true rfl) (fun _ q => nomatch q) ?_
  intro v vm' h' hQ hsz hSf hFr
  obtain ⟨rfl, rfl⟩ := hQ
  simp only [Option.toList_some, List.cons_append, List.nil_append]
  refine R_ishr C le_9 ?_
  exact R_retI C le_10 rfl (Nat.le_refl _) (Nat.le_refl _) ⟨rfl, rfl⟩
theorem shr0 (x : Int32) : x >>> ((0 : Int32) &&& 31) = x := by
  rw [show ((0 : Int32) &&& 31) = 0 from rfl]
  simp
theorem met_lengthL (l : Launch) (Z : State) (a0 : Array Value) (hw : ∀ d ∈ tables_1, d.before a0 Z = true) (nw : Prop) (EL : List (String × Nat)) (hEL : EW Z a0 EL) (cs : Int32) (fm : Value) (S : SS Z cs fm) (h : Heap) (a b : Addr) (n : Nat) (g : Nat → Int32) (X : StrL Z h a b n g) :
    Met l Z nw EL ⟨STR, "length", "()I"⟩ jdk_42_method_54_code 1 (some .int) ⟨1, 0, 0, 13⟩ #[.ref a] h [] (fun v h' => v = some (.int n.toInt32) ∧ h' = h) := by
  have q := met_length l Z a0 hw nw EL hEL cs fm S h a b n _ 0 rfl X.1 X.2.2.1 X.2.1 X.2.2.2.1
  rw [shr0] at q
  exact q
theorem cl_0 : Dc jdk_52_method_21_code 0 (.iconst 0) 1 1 := ⟨by decide +kernel, rfl⟩
theorem cl_1 : Dc jdk_52_method_21_code 1 (.istore 5) 2 3 := ⟨by decide +kernel, rfl⟩
theorem cl_3 : Dc jdk_52_method_21_code 3 (.iload 5) 2 5 := ⟨by decide +kernel, rfl⟩
theorem cl_5 : Dc jdk_52_method_21_code 5 (.iload 4) 2 7 := ⟨by decide +kernel, rfl⟩
theorem cl_7 : Jp jdk_52_method_21_code 7 (.if_icmp .ge 37) (37) 10 44 := ⟨by decide +kernel, rfl, by decide, by decide⟩
theorem cl_10 : Dc jdk_52_method_21_code 10 (.aload_n 0) 1 11 := ⟨by decide +kernel, rfl⟩
theorem cl_11 : Dc jdk_52_method_21_code 11 (.iload_n 1) 1 12 := ⟨by decide +kernel, rfl⟩
theorem cl_12 : Dc jdk_52_method_21_code 12 (.caload) 1 13 := ⟨by decide +kernel, rfl⟩
theorem cl_13 : Dc jdk_52_method_21_code 13 (.istore 6) 2 15 := ⟨by decide +kernel, rfl⟩
theorem cl_15 : Dc jdk_52_method_21_code 15 (.iload 6) 2 17 := ⟨by decide +kernel, rfl⟩
theorem cl_17 : Dc jdk_52_method_21_code 17 (.sipush 255) 3 20 := ⟨by decide +kernel, rfl⟩
theorem cl_20 : Jp jdk_52_method_21_code 20 (.if_icmp .le 6) (6) 23 26 := ⟨by decide +kernel, rfl, by decide, by decide⟩
theorem cl_23 : Dc jdk_52_method_21_code 23 (.iload 5) 2 25 := ⟨by decide +kernel, rfl⟩
theorem cl_25 : Dc jdk_52_method_21_code 25 (.ireturn) 1 26 := ⟨by decide +kernel, rfl⟩
theorem cl_26 : Dc jdk_52_method_21_code 26 (.aload_n 2) 1 27 := ⟨by decide +kernel, rfl⟩
theorem cl_27 : Dc jdk_52_method_21_code 27 (.iload_n 3) 1 28 := ⟨by decide +kernel, rfl⟩
theorem cl_28 : Dc jdk_52_method_21_code 28 (.iload 6) 2 30 := ⟨by decide +kernel, rfl⟩
theorem cl_30 : Dc jdk_52_method_21_code 30 (.i2b) 1 31 := ⟨by decide +kernel, rfl⟩
theorem cl_31 : Dc jdk_52_method_21_code 31 (.bastore) 1 32 := ⟨by decide +kernel, rfl⟩
theorem cl_32 : Dc jdk_52_method_21_code 32 (.iinc 1 1) 3 35 := ⟨by decide +kernel, rfl⟩
theorem cl_35 : Dc jdk_52_method_21_code 35 (.iinc 3 1) 3 38 := ⟨by decide +kernel, rfl⟩
theorem cl_38 : Dc jdk_52_method_21_code 38 (.iinc 5 1) 3 41 := ⟨by decide +kernel, rfl⟩
theorem cl_41 : Jp jdk_52_method_21_code 41 (.goto (-38)) (-38) 44 3 := ⟨by decide +kernel, rfl, by decide, by decide⟩
theorem cl_44 : Dc jdk_52_method_21_code 44 (.iload 4) 2 46 := ⟨by decide +kernel, rfl⟩
theorem cl_46 : Dc jdk_52_method_21_code 46 (.ireturn) 1 47 := ⟨by decide +kernel, rfl⟩
theorem cp_0 : Dc jdk_52_method_16_code 0 (.iload_n 2) 1 1 := ⟨by decide +kernel, rfl⟩
theorem cp_1 : Dc jdk_52_method_16_code 1 (.newarray .byte) 2 3 := ⟨by decide +kernel, rfl⟩
theorem cp_3 : Dc jdk_52_method_16_code 3 (.astore_n 3) 1 4 := ⟨by decide +kernel, rfl⟩
theorem cp_4 : Dc jdk_52_method_16_code 4 (.aload_n 0) 1 5 := ⟨by decide +kernel, rfl⟩
theorem cp_5 : Dc jdk_52_method_16_code 5 (.iload_n 1) 1 6 := ⟨by decide +kernel, rfl⟩
theorem cp_6 : Dc jdk_52_method_16_code 6 (.aload_n 3) 1 7 := ⟨by decide +kernel, rfl⟩
theorem cp_7 : Dc jdk_52_method_16_code 7 (.iconst 0) 1 8 := ⟨by decide +kernel, rfl⟩
theorem cp_8 : Dc jdk_52_method_16_code 8 (.iload_n 2) 1 9 := ⟨by decide +kernel, rfl⟩
theorem cp_9 : Dc jdk_52_method_16_code 9 (.invokestatic 115) 3 12 := ⟨by decide +kernel, rfl⟩
theorem cp_12 : Dc jdk_52_method_16_code 12 (.istore 4) 2 14 := ⟨by decide +kernel, rfl⟩
theorem cp_14 : Dc jdk_52_method_16_code 14 (.iload 4) 2 16 := ⟨by decide +kernel, rfl⟩
theorem cp_16 : Dc jdk_52_method_16_code 16 (.iload_n 2) 1 17 := ⟨by decide +kernel, rfl⟩
theorem cp_17 : Jp jdk_52_method_16_code 17 (.if_icmp .eq 40) (40) 20 57 := ⟨by decide +kernel, rfl, by decide, by decide⟩
theorem cp_20 : Dc jdk_52_method_16_code 20 (.aload_n 0) 1 21 := ⟨by decide +kernel, rfl⟩
theorem cp_21 : Dc jdk_52_method_16_code 21 (.iload_n 1) 1 22 := ⟨by decide +kernel, rfl⟩
theorem cp_22 : Dc jdk_52_method_16_code 22 (.iload_n 2) 1 23 := ⟨by decide +kernel, rfl⟩
theorem cp_23 : Dc jdk_52_method_16_code 23 (.invokestatic 119) 3 26 := ⟨by decide +kernel, rfl⟩
theorem cp_26 : Dc jdk_52_method_16_code 26 (.astore 5) 2 28 := ⟨by decide +kernel, rfl⟩
theorem cp_28 : Dc jdk_52_method_16_code 28 (.aload 5) 2 30 := ⟨by decide +kernel, rfl⟩
theorem cp_30 : Dc jdk_52_method_16_code 30 (.iload 4) 2 32 := ⟨by decide +kernel, rfl⟩
theorem cp_32 : Dc jdk_52_method_16_code 32 (.invokestatic 71) 3 35 := ⟨by decide +kernel, rfl⟩
theorem cp_35 : Dc jdk_52_method_16_code 35 (.sipush 255) 3 38 := ⟨by decide +kernel, rfl⟩
theorem cp_38 : Jp jdk_52_method_16_code 38 (.if_icmp .gt 16) (16) 41 54 := ⟨by decide +kernel, rfl, by decide, by decide⟩
theorem cp_41 : Dc jdk_52_method_16_code 41 (.aload 5) 2 43 := ⟨by decide +kernel, rfl⟩
theorem cp_43 : Dc jdk_52_method_16_code 43 (.iconst 0) 1 44 := ⟨by decide +kernel, rfl⟩
theorem cp_44 : Dc jdk_52_method_16_code 44 (.aload_n 3) 1 45 := ⟨by decide +kernel, rfl⟩
theorem cp_45 : Dc jdk_52_method_16_code 45 (.iconst 0) 1 46 := ⟨by decide +kernel, rfl⟩
theorem cp_46 : Dc jdk_52_method_16_code 46 (.iload_n 2) 1 47 := ⟨by decide +kernel, rfl⟩
theorem cp_47 : Dc jdk_52_method_16_code 47 (.invokestatic 123) 3 50 := ⟨by decide +kernel, rfl⟩
theorem cp_50 : Dc jdk_52_method_16_code 50 (.iload_n 2) 1 51 := ⟨by decide +kernel, rfl⟩
theorem cp_51 : Jp jdk_52_method_16_code 51 (.if_icmp .eq 6) (6) 54 57 := ⟨by decide +kernel, rfl, by decide, by decide⟩
theorem cp_54 : Dc jdk_52_method_16_code 54 (.aload 5) 2 56 := ⟨by decide +kernel, rfl⟩
theorem cp_56 : Dc jdk_52_method_16_code 56 (.areturn) 1 57 := ⟨by decide +kernel, rfl⟩
theorem cp_57 : Dc jdk_52_method_16_code 57 (.aload_n 3) 1 58 := ⟨by decide +kernel, rfl⟩
theorem cp_58 : Dc jdk_52_method_16_code 58 (.areturn) 1 59 := ⟨by decide +kernel, rfl⟩
theorem cf_0 : Dc jdk_52_method_15_code 0 (.iload_n 1) 1 1 := ⟨by decide +kernel, rfl⟩
theorem cf_1 : Dc jdk_52_method_15_code 1 (.aload_n 0) 1 2 := ⟨by decide +kernel, rfl⟩
theorem cf_2 : Dc jdk_52_method_15_code 2 (.arraylength) 1 3 := ⟨by decide +kernel, rfl⟩
theorem cf_3 : Dc jdk_52_method_15_code 3 (.isub) 1 4 := ⟨by decide +kernel, rfl⟩
theorem cf_4 : Dc jdk_52_method_15_code 4 (.bipush 31) 2 6 := ⟨by decide +kernel, rfl⟩
theorem cf_6 : Dc jdk_52_method_15_code 6 (.iushr) 1 7 := ⟨by decide +kernel, rfl⟩
theorem cf_7 : Dc jdk_52_method_15_code 7 (.i2b) 1 8 := ⟨by decide +kernel, rfl⟩
theorem cf_8 : Dc jdk_52_method_15_code 8 (.ireturn) 1 9 := ⟨by decide +kernel, rfl⟩
theorem i6_0 : Dc jdk_42_method_149_code 0 (.aload_n 0) 1 1 := ⟨by decide +kernel, rfl⟩
theorem i6_1 : Dc jdk_42_method_149_code 1 (.invokespecial 1) 3 4 := ⟨by decide +kernel, rfl⟩
theorem i6_4 : Dc jdk_42_method_149_code 4 (.iload_n 3) 1 5 := ⟨by decide +kernel, rfl⟩
theorem i6_5 : Jp jdk_42_method_149_code 5 (.ifCond .ne 22) (22) 8 27 := ⟨by decide +kernel, rfl, by decide, by decide⟩
theorem i6_8 : Dc jdk_42_method_149_code 8 (.aload_n 0) 1 9 := ⟨by decide +kernel, rfl⟩
theorem i6_9 : Dc jdk_42_method_149_code 9 (.ldc 7) 2 11 := ⟨by decide +kernel, rfl⟩
theorem i6_11 : Dc jdk_42_method_149_code 11 (.getfield 9) 3 14 := ⟨by decide +kernel, rfl⟩
theorem i6_14 : Dc jdk_42_method_149_code 14 (.putfield 9) 3 17 := ⟨by decide +kernel, rfl⟩
theorem i6_17 : Dc jdk_42_method_149_code 17 (.aload_n 0) 1 18 := ⟨by decide +kernel, rfl⟩
theorem i6_18 : Dc jdk_42_method_149_code 18 (.ldc 7) 2 20 := ⟨by decide +kernel, rfl⟩
theorem i6_20 : Dc jdk_42_method_149_code 20 (.getfield 15) 3 23 := ⟨by decide +kernel, rfl⟩
theorem i6_23 : Dc jdk_42_method_149_code 23 (.putfield 15) 3 26 := ⟨by decide +kernel, rfl⟩
theorem i6_26 : Dc jdk_42_method_149_code 26 (.return_) 1 27 := ⟨by decide +kernel, rfl⟩
theorem i6_27 : Dc jdk_42_method_149_code 27 (.getstatic 38) 3 30 := ⟨by decide +kernel, rfl⟩
theorem i6_30 : Jp jdk_42_method_149_code 30 (.ifCond .eq 28) (28) 33 58 := ⟨by decide +kernel, rfl, by decide, by decide⟩
theorem i6_33 : Dc jdk_42_method_149_code 33 (.aload_n 1) 1 34 := ⟨by decide +kernel, rfl⟩
theorem i6_34 : Dc jdk_42_method_149_code 34 (.iload_n 2) 1 35 := ⟨by decide +kernel, rfl⟩
theorem i6_35 : Dc jdk_42_method_149_code 35 (.iload_n 3) 1 36 := ⟨by decide +kernel, rfl⟩
theorem i6_36 : Dc jdk_42_method_149_code 36 (.invokestatic 177) 3 39 := ⟨by decide +kernel, rfl⟩
theorem i6_39 : Dc jdk_42_method_149_code 39 (.astore 5) 2 41 := ⟨by decide +kernel, rfl⟩
theorem i6_41 : Dc jdk_42_method_149_code 41 (.aload_n 0) 1 42 := ⟨by decide +kernel, rfl⟩
theorem i6_42 : Dc jdk_42_method_149_code 42 (.aload 5) 2 44 := ⟨by decide +kernel, rfl⟩
theorem i6_44 : Dc jdk_42_method_149_code 44 (.iload_n 3) 1 45 := ⟨by decide +kernel, rfl⟩
theorem i6_45 : Dc jdk_42_method_149_code 45 (.invokestatic 47) 3 48 := ⟨by decide +kernel, rfl⟩
theorem i6_48 : Dc jdk_42_method_149_code 48 (.putfield 15) 3 51 := ⟨by decide +kernel, rfl⟩
theorem i6_51 : Dc jdk_42_method_149_code 51 (.aload_n 0) 1 52 := ⟨by decide +kernel, rfl⟩
theorem i6_52 : Dc jdk_42_method_149_code 52 (.aload 5) 2 54 := ⟨by decide +kernel, rfl⟩
theorem i6_54 : Dc jdk_42_method_149_code 54 (.putfield 9) 3 57 := ⟨by decide +kernel, rfl⟩
theorem i6_57 : Dc jdk_42_method_149_code 57 (.return_) 1 58 := ⟨by decide +kernel, rfl⟩
theorem i6_58 : Dc jdk_42_method_149_code 58 (.aload_n 0) 1 59 := ⟨by decide +kernel, rfl⟩
theorem i6_59 : Dc jdk_42_method_149_code 59 (.iconst 1) 1 60 := ⟨by decide +kernel, rfl⟩
theorem i6_60 : Dc jdk_42_method_149_code 60 (.putfield 15) 3 63 := ⟨by decide +kernel, rfl⟩
theorem i6_63 : Dc jdk_42_method_149_code 63 (.aload_n 0) 1 64 := ⟨by decide +kernel, rfl⟩
theorem i6_64 : Dc jdk_42_method_149_code 64 (.aload_n 1) 1 65 := ⟨by decide +kernel, rfl⟩
theorem i6_65 : Dc jdk_42_method_149_code 65 (.iload_n 2) 1 66 := ⟨by decide +kernel, rfl⟩
theorem i6_66 : Dc jdk_42_method_149_code 66 (.iload_n 3) 1 67 := ⟨by decide +kernel, rfl⟩
theorem i6_67 : Dc jdk_42_method_149_code 67 (.invokestatic 180) 3 70 := ⟨by decide +kernel, rfl⟩
theorem i6_70 : Dc jdk_42_method_149_code 70 (.putfield 9) 3 73 := ⟨by decide +kernel, rfl⟩
theorem i6_73 : Dc jdk_42_method_149_code 73 (.return_) 1 74 := ⟨by decide +kernel, rfl⟩
theorem met_cl (l : Launch) (Z : State) (a0 : Array Value) (hw : ∀ d ∈ tables_1, d.before a0 Z = true) (nw : Prop) (EL : List (String × Nat)) (hEL : EW Z a0 EL) (h : Heap) (val dst : Addr) (Nc off len : Nat) (g : Nat → Int32) (fd : Nat → Value) (A : AR Z h val .char Nc (fun i => .int (g i))) (D : AR Z h dst .byte len fd) (hne : val ≠ dst) (hb : off + len ≤ Nc) (hdst : Z.heap.size ≤ dst) (offI lenI : Int32) (ho : offI.toInt = off) (hl : lenI.toInt = len) :
    Met l Z nw EL ⟨UTF, "compress", "([CI[BII)I"⟩ jdk_52_method_21_code 7 (some .int) ⟨0, 0, 0, 0⟩ #[.ref val, .int offI, .ref dst, .int 0, .int lenI] h [dst] (fun v h' => ∃ (r : Nat) (rI : Int32), v = some (.int rI) ∧ rI.toInt = r ∧ r ≤ len ∧ (∀ i, i < r → (g (off + i)).toInt ≤ 255) ∧ (r < len → 255 < (g (off + r)).toInt) ∧ Keep h h' [dst] ∧ AR Z h' dst .byte len (fun i => if i < r then by8 (g (off + i)) else fd i)) := by
  have h31 := A.small
  refine Met.mk (a0 := a0) hEL pn_utf ?_
  intro p e s m below meth c C hE hS
  rw [efl7]
  have hvd : val ∉ [dst] := fun z => hne (List.mem_singleton.mp z)
  have one : (1 : Int32).toInt = 1 := rfl
  have loop : ∀ (t i : Nat) (h1 : Heap) (oI dI iI : Int32) (s6 : Slot), i + t = len → okSlot s6 = true → oI.toInt = (off + i : Nat) → dI.toInt = i → iI.toInt = i → (∀ j, j < i → (g (off + j)).toInt ≤ 255) → Keep h h1 [dst] → AR Z h1 dst .byte len (fun j => if j < i then by8 (g (off + j)) else fd j) → Safe Z EL s.vm h1 dst →
      Run p l e ⟨0, 0, 0, 0⟩ s m #[.ref val, .int offI, .ref dst, .int 0, .int lenI] below meth c Z nw EL (Kf s Z nw EL ⟨0, 0, 0, 0⟩ (fun v h' => ∃ (r : Nat) (rI : Int32), v = some (.int rI) ∧ rI.toInt = r ∧ r ≤ len ∧ (∀ i, i < r → (g (off + i)).toInt ≤ 255) ∧ (r < len → 255 < (g (off + r)).toInt) ∧ Keep h h' [dst] ∧ AR Z h' dst .byte len (fun i => if i < r then by8 (g (off + i)) else fd i))) s.vm h1 0 0 (fr m 3 [.val (.ref val), .val (.int oI), .val (.ref dst), .val (.int dI), .val (.int lenI), .val (.int iI), s6] []) := by
    intro t
    induction t with
    | zero =>
      intro i h1 oI dI iI s6 hi o6 q1 q2 q3 q4 K1 D1 S1
      have hi' : i = len := by omega
      subst hi'
      refine R_iload C cl_3 rfl ?_
      refine R_iload C cl_5 rfl ?_
      refine R_icmp C cl_7 (fun _ => ?_) (fun (hc : ¬ ¬ iI < lenI) => absurd (show ¬ iI < lenI from ?_) hc)
      · refine R_iload C cl_44 rfl ?_
        exact R_retI C cl_46 rfl (Nat.le_refl _) (Nat.le_refl _) ⟨i, lenI, rfl, hl, Nat.le_refl _, q4, fun z => absurd z (Nat.lt_irrefl _), K1, D1⟩
      · rw [Int32.lt_iff_toInt_lt]; omega
    | succ t ih =>
      intro i h1 oI dI iI s6 hi o6 q1 q2 q3 q4 K1 D1 S1
      refine R_iload C cl_3 rfl ?_
      refine R_iload C cl_5 rfl ?_
      refine R_icmp C cl_7 (fun (hc : ¬ iI < lenI) => absurd (Int32.lt_iff_toInt_lt.mpr (by omega)) hc) (fun _ => ?_)
      have A1 := A.keep K1 hvd
      refine R_aload_n C cl_10 rfl rfl ?_
      refine R_iload_n C cl_11 rfl ?_
      refine R_caload C (off + i) cl_12 A1 q1 (by omega) rfl ?_
      refine R_istore C cl_13 o6 ?_
      simp only [fv0, fv1, fv2, fv3, List.set_cons_zero, List.set_cons_succ]
      refine R_iload C cl_15 rfl ?_
      refine R_sipush C cl_17 (v := 255) rfl ?_
      refine R_icmp C cl_20 (fun (hc : ¬ (255 : Int32) < g (off + i)) => ?_) (fun (hc : ¬ ¬ (255 : Int32) < g (off + i)) => ?_)
      · rw [Int32.lt_iff_toInt_lt, show (255 : Int32).toInt = 255 from rfl] at hc
        refine R_aload_n C cl_26 rfl rfl ?_
        refine R_iload_n C cl_27 rfl ?_
        refine R_iload C cl_28 rfl ?_
        refine R_i2b C cl_30 ?_
        refine R_bastore C i cl_31 D1 q2 (by omega) hdst S1 ?_
        intro h2 W2 D2 Sf2
        have r1 := Jvm.Kit.i32_add (p := oI) (q := 1) (by omega) (by omega)
        have r2 := Jvm.Kit.i32_add (p := dI) (q := 1) (by omega) (by omega)
        have r3 := Jvm.Kit.i32_add (p := iI) (q := 1) (by omega) (by omega)
        refine R_iinc C cl_32 rfl rfl (dI := 1) rfl rfl ?_
        simp only [fv0, fv1, fv2, fv3, List.set_cons_zero, List.set_cons_succ]
        refine R_iinc C cl_35 rfl rfl (dI := 1) rfl rfl ?_
        simp only [fv0, fv1, fv2, fv3, List.set_cons_zero, List.set_cons_succ]
        refine R_iinc C cl_38 rfl rfl (dI := 1) rfl rfl ?_
        simp only [fv0, fv1, fv2, fv3, List.set_cons_zero, List.set_cons_succ]
        refine R_goto C cl_41 ?_
        refine ih (i + 1) h2 _ _ _ _ (by omega) rfl (by omega) (by omega) (by omega) (fun j hj => ?_) (K1.wr W2 (Or.inl (List.mem_singleton.mpr rfl))) (D2.cg fun j hj => ?_) (Sf2 _ S1)
        · by_cases z : j = i
          · subst z; omega
          · exact q4 j (by omega)
        · by_cases z : j = i
          · subst z
            rw [upd_eq, if_pos (by omega), nar_byte_byte]
          · rw [upd_ne z]
            by_cases z2 : j < i
            · rw [if_pos z2, if_pos (by omega)]
            · rw [if_neg z2, if_neg (by omega)]
      · have hc' := Int32.lt_iff_toInt_lt.mp (Decidable.not_not.mp hc)
        rw [show (255 : Int32).toInt = 255 from rfl] at hc'
        refine R_iload C cl_23 rfl ?_
        exact R_retI C cl_25 rfl (Nat.le_refl _) (Nat.le_refl _) ⟨i, iI, rfl, q3, by omega, q4, fun _ => hc', K1, D1⟩
  refine R_iconst C cl_0 (v := 0) rfl ?_
  refine R_istore C cl_1 rfl ?_
  simp only [fv0, fv1, fv2, fv3, List.set_cons_zero, List.set_cons_succ]
  exact loop len 0 h _ _ _ _ (by omega) rfl (by omega) rfl rfl (fun j hj => absurd hj (Nat.not_lt_zero _)) (Keep.refl _ _) (D.cg fun j hj => by rw [if_neg (Nat.not_lt_zero _)]) (hS dst (List.mem_singleton.mpr rfl))
theorem met_cpL (l : Launch) (Z : State) (a0 : Array Value) (hw : ∀ d ∈ tables_1, d.before a0 Z = true) (nw : Prop) (EL : List (String × Nat)) (hEL : EW Z a0 EL) (h : Heap) (val : Addr) (Nc off len cap : Nat) (g : Nat → Int32) (A : AR Z h val .char Nc (fun i => .int (g i))) (hb : off + len ≤ Nc) (hcap : len ≤ cap) (hc8 : cap * 8 ≤ 536870912) (offI lenI : Int32) (ho : offI.toInt = off) (hl : lenI.toInt = len) (hlat : ∀ i, i < len → (g (off + i)).toInt ≤ 255) :
    Met l Z nw EL ⟨UTF, "compress", "([CII)[B"⟩ jdk_52_method_16_code 6 (some (.array .byte)) ⟨1, 1, cap, 18⟩ #[.ref val, .int offI, .int lenI] h [] (fun v h' => v = some (.ref h.size) ∧ Ext h h' ∧ AR Z h' h.size .byte len (fun i => by8 (g (off + i)))) := by
  refine Met.mk (a0 := a0) hEL pn_utf ?_
  intro p e s m below meth c C hE hS
  rw [efc6]
  refine R_iload_n C cp_0 rfl ?_
  refine R_newarray C cap cp_1 (hw _ (List.mem_of_getElem? (i := 24) rfl)) hl hcap hc8 (Nat.le_refl _) (Nat.le_of_eq (Nat.zero_add _)) rfl ?_
  intro h1 E1 D1 S1 Sf1
  refine R_astore_n C cp_3 rfl rfl rfl ?_
  simp only [fv0, fv1, fv2, fv3, List.set_cons_zero, List.set_cons_succ]
  refine R_aload_n C cp_4 rfl rfl ?_
  refine R_iload_n C cp_5 rfl ?_
  refine R_aload_n C cp_6 rfl rfl ?_
  refine R_iconst C cp_7 (v := 0) rfl ?_
  refine R_iload_n C cp_8 rfl ?_
  refine R_static C [.ref val, .int offI, .ref h.size, .int 0, .int lenI] cp_9 (met_cl l Z a0 hw nw EL hEL h1 val h.size Nc off len g _ (A.ext E1) D1 (Nat.ne_of_lt A.lt) hb hE.1 offI lenI ho hl) (by first | exact fun z => z | exact fun _ => trivial) (hw _ (List.mem_of_getElem? (i := 25) rfl)) (hw _ (List.mem_of_getElem? (i := 26) rfl)) (hw _ (List.mem_of_getElem? (i := 22) rfl)) (hw _ (List.mem_of_getElem? (i := 27) rfl)) (by decide) pd_1 rfl rfl rfl (Nat.le_refl _) (Nat.le_of_ble_eq_true rfl) (Nat.le_refl _) (Nat.le_of_eq (Nat.zero_add _)) (fun x hx => by cases List.mem_singleton.mp hx; exact S1) ?_
  intro v vm2 h2 hQ hsz2 hSf2 hFr
  obtain ⟨r, rI, rfl, hr1, hr2, hr3, hr4, K2, D2⟩ := hQ
  have hrl : r = len := by
    rcases Nat.lt_or_ge r len with z | z
    · have z1 := hr4 z
      have z2 := hlat r z
      omega
    · omega
  subst hrl
  simp only [Option.toList_some, List.cons_append, List.nil_append]
  refine R_istore C cp_12 rfl ?_
  simp only [fv0, fv1, fv2, fv3, List.set_cons_zero, List.set_cons_succ]
  refine R_iload C cp_14 rfl ?_
  refine R_iload_n C cp_16 rfl ?_
  refine R_icmp C cp_17 (fun _ => ?_) (fun (hc : ¬ rI = lenI) => absurd (Int32.toInt_inj.mp (by omega)) hc)
  refine R_aload_n C cp_57 rfl rfl ?_
  refine R_areturn C cp_58 rfl rfl rfl (Nat.le_refl _) (Nat.le_of_eq (Nat.zero_add _)) ⟨rfl, E1.keep' K2 (fun x hx => by cases List.mem_singleton.mp hx; exact Nat.le_refl _), D2.cg fun i hi => by rw [if_pos hi]⟩
theorem ushr0 : (XT.ushr 0 31).toInt8.toInt32 = 0 := by decide +kernel
theorem met_cfL (l : Launch) (Z : State) (a0 : Array Value) (hw : ∀ d ∈ tables_1, d.before a0 Z = true) (nw : Prop) (EL : List (String × Nat)) (hEL : EW Z a0 EL) (h : Heap) (b : Addr) (len : Nat) (f : Nat → Value) (A : AR Z h b .byte len f) (lenI : Int32) (hl : lenI.toInt = len) :
    Met l Z nw EL ⟨UTF, "coderFromArrayLen", "([BI)B"⟩ jdk_52_method_15_code 2 (some .byte) ⟨0, 0, 0, 0⟩ #[.ref b, .int lenI] h [] (fun v h' => v = some (.int 0) ∧ h' = h) := by
  refine Met.mk (a0 := a0) hEL pn_utf ?_
  intro p e s m below meth c C hE hS
  rw [efRI2]
  have hll : len.toInt32 = lenI := Int32.toInt_inj.mp (by rw [len_toInt A.small]; omega)
  subst hll
  refine R_iload_n C cf_0 rfl ?_
  refine R_aload_n C cf_1 rfl rfl ?_
  refine R_arraylength C cf_2 (A) rfl ?_
  refine R_isub C cf_3 ?_
  refine R_bipush C cf_4 (v := 31) rfl ?_
  refine R_iushr C cf_6 ?_
  refine R_i2b C cf_7 ?_
  refine R_retN C cf_8 rfl (Or.inr (Or.inl rfl)) (Nat.le_refl _) (Nat.le_refl _) ⟨?_, rfl⟩
  rw [Int32.sub_self, ushr0]
  rfl
/-- what new String(char[], off, len) leaves -/
def InQ (Z : State) (h : Heap) (a : Addr) (len : Nat) (g : Nat → Int32) (v : Option Value) (h' : Heap) : Prop := v = none ∧ Keep h h' [a] ∧ ∃ b, StrL Z h' a b len g
theorem met_i6L (l : Launch) (Z : State) (a0 : Array Value) (hw : ∀ d ∈ tables_1, d.before a0 Z = true) (nw : Prop) (EL : List (String × Nat)) (hEL : EW Z a0 EL) (cs : Int32) (fm : Value) (S : SS Z cs fm) (h : Heap) (a val : Addr) (Nc off len cap : Nat) (g : Nat → Int32) (A : AR Z h val .char Nc (fun i => .int (g i))) (hb : off + len ≤ Nc) (hcap : len ≤ cap) (hc8 : cap * 8 ≤ 536870912) (offI lenI : Int32) (ho : offI.toInt = off) (hl : lenI.toInt = len) (hpos : 0 < len) (hlat : ∀ i, i < len → 0 ≤ (g (off + i)).toInt ∧ (g (off + i)).toInt ≤ 255) (vo : Value) (hvo : vo.category = 1)
    (E : Exa Z h a STR) (F1 : Fld Z h a STR "value" "[B" .null) (F2 : Fld Z h a STR "coder" "B" (.int 0)) (ha : Z.heap.size ≤ a) :
    Met l Z nw EL ⟨STR, "<init>", "([CIILjava/lang/Void;)V"⟩ jdk_42_method_149_code 6 none ⟨2, 1, cap, 35⟩ #[.ref a, .ref val, .int offI, .int lenI, vo] h [a] (InQ Z h a len (fun i => g (off + i))) := by
  have Lv : Laid Z a0 STR STR "value" "[B" := Or.inr (hw _ (List.mem_of_getElem? (i := 34) rfl))
  have Lc : Laid Z a0 STR STR "coder" "B" := Or.inr (hw _ (List.mem_of_getElem? (i := 32) rfl))
  have nvc := slot_ne Lv Lc (by decide) (t := .array .byte) (t' := .byte) (by decide) (by decide)
  have ncv := slot_ne Lc Lv (by decide) (t := .byte) (t' := .array .byte) (by decide) (by decide)
  refine Met.mk (a0 := a0) hEL pn_str ?_
  intro p e s m below meth c C hE hS
  rw [efi6 m _ _ _ _ _ hvo]
  refine R_aload_n C i6_0 rfl rfl ?_
  refine R_initO C i6_1 (hw _ (List.mem_of_getElem? (i := 16) rfl)) (hw _ (List.mem_of_getElem? (i := 17) rfl)) (hw _ (List.mem_of_getElem? (i := 18) rfl)) rfl (Nat.le_of_ble_eq_true rfl) (Nat.le_of_ble_eq_true rfl) ?_
  refine R_iload_n C i6_4 rfl ?_
  refine R_if C i6_5 (fun _ => ?_) (fun (hc : ¬ ¬ lenI = 0) => absurd (show ¬ lenI = 0 from fun z => ?_) hc)
  · refine R_getstatic C i6_27 (hw _ (List.mem_of_getElem? (i := 19) rfl)) Via.refl (S.2.1.ext hE) ?_
    refine R_if C i6_30 (fun hc => absurd hc S.1) (fun _ => ?_)
    refine R_aload_n C i6_33 rfl rfl ?_
    refine R_iload_n C i6_34 rfl ?_
    refine R_iload_n C i6_35 rfl ?_
    refine R_static C [.ref val, .int offI, .int lenI] i6_36 (met_cpL l Z a0 hw nw EL hEL h val Nc off len cap g A hb hcap hc8 offI lenI ho hl (fun i hi => (hlat i hi).2)) (by first | exact fun z => z | exact fun _ => trivial) (hw _ (List.mem_of_getElem? (i := 20) rfl)) (hw _ (List.mem_of_getElem? (i := 21) rfl)) (hw _ (List.mem_of_getElem? (i := 22) rfl)) (hw _ (List.mem_of_getElem? (i := 23) rfl)) (by decide) pd_2 rfl rfl rfl (Nat.le_of_ble_eq_true rfl) (Nat.le_of_ble_eq_true rfl) (Nat.le_refl _) (Nat.le_of_eq (Nat.zero_add _)) (fun _ q => nomatch q) ?_
    intro v vm2 h2 hQ hsz2 hSf2 hFr
    obtain ⟨rfl, E2, D2⟩ := hQ
    simp only [Option.toList_some, List.cons_append, List.nil_append]
    refine R_astore C i6_39 rfl rfl rfl ?_
    simp only [fv0, fv1, fv2, fv3, List.set_cons_zero, List.set_cons_succ]
    refine R_aload_n C i6_41 rfl rfl ?_
    refine R_aload C i6_42 rfl rfl ?_
    refine R_iload_n C i6_44 rfl ?_
    refine R_static C [.ref h.size, .int lenI] i6_45 (met_cfL l Z a0 hw nw EL hEL h2 h.size len _ D2 lenI hl) (by first | exact fun z => z | exact fun _ => trivial) (hw _ (List.mem_of_getElem? (i := 28) rfl)) (hw _ (List.mem_of_getElem? (i := 29) rfl)) (hw _ (List.mem_of_getElem? (i := 22) rfl)) (hw _ (List.mem_of_getElem? (i := 30) rfl)) (by decide) pd_3 rfl rfl rfl (Nat.le_of_ble_eq_true rfl) (Nat.le_of_ble_eq_true rfl) (Nat.le_refl _) (Nat.le_of_eq (by simp)) (fun _ q => nomatch q) ?_
    intro v vm3 h3 hQ hsz3 hSf3 hFr
    obtain ⟨rfl, rfl⟩ := hQ
    have Sa : Safe Z EL vm3 h3 a := hSf3 a (E.ext E2).lt (hSf2 a E.lt (hS a (List.mem_singleton.mpr rfl)))
    refine R_putfield C i6_48 (hw _ (List.mem_of_getElem? (i := 31) rfl)) Via.refl (F2.ext E2) (E.ext E2) (Or.inr ⟨(hw _ (List.mem_of_getElem? (i := 32) rfl)), rfl, rfl⟩) (hw _ (List.mem_of_getElem? (i := 7) rfl)) (ty := .byte) (by decide) rfl rfl ha Sa ?_
    intro h4 W4 Sf4
    refine R_aload_n C i6_51 rfl rfl ?_
    refine R_aload C i6_52 rfl rfl ?_
    refine R_putfield C i6_54 (hw _ (List.mem_of_getElem? (i := 33) rfl)) Via.refl ((F1.ext E2).other W4 (Or.inr nvc)) ((E.ext E2).wr W4) (Or.inr ⟨(hw _ (List.mem_of_getElem? (i := 34) rfl)), rfl, rfl⟩) (hw _ (List.mem_of_getElem? (i := 7) rfl)) (ty := .array .byte) (by decide) rfl rfl ha (Sf4 _ Sa) ?_
    intro h5 W5 Sf5
    have ne : h.size ≠ a := Nat.ne_of_gt E.lt
    refine R_return C i6_57 rfl (Nat.le_refl _) (Nat.le_of_eq (by simp)) ⟨rfl, ?_, h.size, ((E.ext E2).wr W4).wr W5, ((F1.ext E2).other W4 (Or.inr nvc)).same W5, ((F2.ext E2).same W4).other W5 (Or.inr ncv), (D2.other W4 ne).other W5 ne, hlat⟩
    exact ((Keep.ofExt E2).wr W4 (Or.inl (List.mem_singleton.mpr rfl))).wr W5 (Or.inl (List.mem_singleton.mpr rfl))
  · rw [z] at hl
    rw [Int32.toInt_zero] at hl
    omega
theorem i2_0 : Dc jdk_42_method_3_code 0 (.aload_n 0) 1 1 := ⟨by decide +kernel, rfl⟩
theorem i2_1 : Dc jdk_42_method_3_code 1 (.aload_n 1) 1 2 := ⟨by decide +kernel, rfl⟩
theorem i2_2 : Dc jdk_42_method_3_code 2 (.iconst 0) 1 3 := ⟨by decide +kernel, rfl⟩
theorem i2_3 : Dc jdk_42_method_3_code 3 (.aload_n 1) 1 4 := ⟨by decide +kernel, rfl⟩
theorem i2_4 : Dc jdk_42_method_3_code 4 (.arraylength) 1 5 := ⟨by decide +kernel, rfl⟩
theorem i2_5 : Dc jdk_42_method_3_code 5 (.aconst_null) 1 6 := ⟨by decide +kernel, rfl⟩
theorem i2_6 : Dc jdk_42_method_3_code 6 (.invokespecial 27) 3 9 := ⟨by decide +kernel, rfl⟩
theorem i2_9 : Dc jdk_42_method_3_code 9 (.return_) 1 10 := ⟨by decide +kernel, rfl⟩
theorem met_i2L (l : Launch) (Z : State) (a0 : Array Value) (hw : ∀ d ∈ tables_1, d.before a0 Z = true) (nw : Prop) (EL : List (String × Nat)) (hEL : EW Z a0 EL) (cs : Int32) (fm : Value) (S : SS Z cs fm) (h : Heap) (a val : Addr) (len cap : Nat) (g : Nat → Int32) (A : AR Z h val .char len (fun i => .int (g i))) (hcap : len ≤ cap) (hc8 : cap * 8 ≤ 536870912) (hpos : 0 < len) (hlat : ∀ i, i < len → 0 ≤ (g i).toInt ∧ (g i).toInt ≤ 255)
    (E : Exa Z h a STR) (F1 : Fld Z h a STR "value" "[B" .null) (F2 : Fld Z h a STR "coder" "B" (.int 0)) (ha : Z.heap.size ≤ a) :
    Met l Z nw EL ⟨STR, "<init>", "([C)V"⟩ jdk_42_method_3_code 2 none ⟨3, 1, cap, 52⟩ #[.ref a, .ref val] h [a] (InQ Z h a len g) := by
  refine Met.mk (a0 := a0) hEL pn_str ?_
  intro p e s m below meth c C hE hS
  rw [efi2]
  have z0 : (fun i => g (0 + i)) = g := funext fun i => by rw [Nat.zero_add]
  have M := met_i6L l Z a0 hw nw EL hEL cs fm S h a val len 0 len cap g A (by omega) hcap hc8 0 len.toInt32 rfl (len_toInt A.small) hpos (fun i hi => by rw [Nat.zero_add]; exact hlat i hi) .null rfl E F1 F2 ha
  rw [z0] at M
  refine R_aload_n C i2_0 rfl rfl ?_
  refine R_aload_n C i2_1 rfl rfl ?_
  refine R_iconst C i2_2 (v := 0) rfl ?_
  refine R_aload_n C i2_3 rfl rfl ?_
  refine R_arraylength C i2_4 (A) rfl ?_
  refine R_aconst_null C i2_5 ?_
  refine R_special C [.ref val, .int 0, .int len.toInt32, .null] i2_6 M (by first | exact fun z => z | exact fun _ => trivial) rfl (hw _ (List.mem_of_getElem? (i := 12) rfl)) (hw _ (List.mem_of_getElem? (i := 13) rfl)) (hw _ (List.mem_of_getElem? (i := 8) rfl)) (hw _ (List.mem_of_getElem? (i := 15) rfl)) (by decide) pd_4 rfl rfl rfl (Nat.le_of_ble_eq_true rfl) (Nat.le_of_ble_eq_true rfl) (Nat.le_refl _) (Nat.le_of_eq (Nat.zero_add _)) hS ?_
  intro v vm2 h2 hQ hsz2 hSf2 hFr
  obtain ⟨rfl, hQ⟩ := hQ
  exact R_return C i2_9 rfl (Nat.le_refl _) (Nat.le_of_eq (Nat.zero_add _)) ⟨rfl, hQ⟩
abbrev BRO : String := "com/example/demarc/demarc/resource/BranchOutcome"
abbrev LAW : String := "com/example/demarc/demarc/resource/BranchOutcomeRequireResourceNamePinLaw"
abbrev CDL : String := "java/lang/CharacterDataLatin1"
theorem pn_bro : plainName BRO = true := by first | (simp [plainName, overriddenIn]; done) | decide +kernel
theorem pn_law : plainName LAW = true := by first | (simp [plainName, overriddenIn]; done) | decide +kernel
theorem pn_cdl : plainName CDL = true := by first | (simp [plainName, overriddenIn]; done) | decide +kernel
theorem pn_obj : plainName "java/util/Objects" = true := by first | (simp [plainName, overriddenIn]; done) | decide +kernel
theorem mk_0 : Dc method_2_code 0 (.iload_n 0) 1 1 := ⟨by decide +kernel, rfl⟩
theorem mk_1 : Jp method_2_code 1 (.ifCond .ne 7) (7) 4 8 := ⟨by decide +kernel, rfl, by decide, by decide⟩
theorem mk_4 : Dc method_2_code 4 (.iconst 1) 1 5 := ⟨by decide +kernel, rfl⟩
theorem mk_5 : Dc method_2_code 5 (.newarray .char) 2 7 := ⟨by decide +kernel, rfl⟩
theorem mk_7 : Dc method_2_code 7 (.areturn) 1 8 := ⟨by decide +kernel, rfl⟩
theorem mk_8 : Dc method_2_code 8 (.iload_n 0) 1 9 := ⟨by decide +kernel, rfl⟩
theorem mk_9 : Dc method_2_code 9 (.iconst 1) 1 10 := ⟨by decide +kernel, rfl⟩
theorem mk_10 : Jp method_2_code 10 (.if_icmp .ne 7) (7) 13 17 := ⟨by decide +kernel, rfl, by decide, by decide⟩
theorem mk_13 : Dc method_2_code 13 (.iconst 2) 1 14 := ⟨by decide +kernel, rfl⟩
theorem mk_14 : Dc method_2_code 14 (.newarray .char) 2 16 := ⟨by decide +kernel, rfl⟩
theorem mk_16 : Dc method_2_code 16 (.areturn) 1 17 := ⟨by decide +kernel, rfl⟩
theorem mk_17 : Dc method_2_code 17 (.iload_n 0) 1 18 := ⟨by decide +kernel, rfl⟩
theorem mk_18 : Dc method_2_code 18 (.iconst 2) 1 19 := ⟨by decide +kernel, rfl⟩
theorem mk_19 : Jp method_2_code 19 (.if_icmp .ne 7) (7) 22 26 := ⟨by decide +kernel, rfl, by decide, by decide⟩
theorem mk_22 : Dc method_2_code 22 (.iconst 3) 1 23 := ⟨by decide +kernel, rfl⟩
theorem mk_23 : Dc method_2_code 23 (.newarray .char) 2 25 := ⟨by decide +kernel, rfl⟩
theorem mk_25 : Dc method_2_code 25 (.areturn) 1 26 := ⟨by decide +kernel, rfl⟩
theorem mk_26 : Dc method_2_code 26 (.iload_n 0) 1 27 := ⟨by decide +kernel, rfl⟩
theorem mk_27 : Dc method_2_code 27 (.iconst 3) 1 28 := ⟨by decide +kernel, rfl⟩
theorem mk_28 : Jp method_2_code 28 (.if_icmp .ne 8) (8) 31 36 := ⟨by decide +kernel, rfl, by decide, by decide⟩
theorem mk_31 : Dc method_2_code 31 (.bipush 119) 2 33 := ⟨by decide +kernel, rfl⟩
theorem mk_33 : Dc method_2_code 33 (.newarray .char) 2 35 := ⟨by decide +kernel, rfl⟩
theorem mk_35 : Dc method_2_code 35 (.areturn) 1 36 := ⟨by decide +kernel, rfl⟩
theorem mk_36 : Dc method_2_code 36 (.bipush 120) 2 38 := ⟨by decide +kernel, rfl⟩
theorem mk_38 : Dc method_2_code 38 (.newarray .char) 2 40 := ⟨by decide +kernel, rfl⟩
theorem mk_40 : Dc method_2_code 40 (.areturn) 1 41 := ⟨by decide +kernel, rfl⟩
theorem rn_0 : Dc jdk_31_method_11_code 0 (.aload_n 0) 1 1 := ⟨by decide +kernel, rfl⟩
theorem rn_1 : Jp jdk_31_method_11_code 1 (.ifnonnull 12) (12) 4 13 := ⟨by decide +kernel, rfl, by decide, by decide⟩
theorem rn_4 : Dc jdk_31_method_11_code 4 (.new 84) 3 7 := ⟨by decide +kernel, rfl⟩
theorem rn_7 : Dc jdk_31_method_11_code 7 (.dup) 1 8 := ⟨by decide +kernel, rfl⟩
theorem rn_8 : Dc jdk_31_method_11_code 8 (.aload_n 1) 1 9 := ⟨by decide +kernel, rfl⟩
theorem rn_9 : Dc jdk_31_method_11_code 9 (.invokespecial 87) 3 12 := ⟨by decide +kernel, rfl⟩
theorem rn_12 : Dc jdk_31_method_11_code 12 (.athrow) 1 13 := ⟨by decide +kernel, rfl⟩
theorem rn_13 : Dc jdk_31_method_11_code 13 (.aload_n 0) 1 14 := ⟨by decide +kernel, rfl⟩
theorem rn_14 : Dc jdk_31_method_11_code 14 (.areturn) 1 15 := ⟨by decide +kernel, rfl⟩
theorem gp_0 : Dc jdk_116_method_1_code 0 (.iload_n 1) 1 1 := ⟨by decide +kernel, rfl⟩
theorem gp_1 : Dc jdk_116_method_1_code 1 (.i2c) 1 2 := ⟨by decide +kernel, rfl⟩
theorem gp_2 : Dc jdk_116_method_1_code 2 (.istore_n 2) 1 3 := ⟨by decide +kernel, rfl⟩
theorem gp_3 : Dc jdk_116_method_1_code 3 (.getstatic 1) 3 6 := ⟨by decide +kernel, rfl⟩
theorem gp_6 : Dc jdk_116_method_1_code 6 (.iload_n 2) 1 7 := ⟨by decide +kernel, rfl⟩
theorem gp_7 : Dc jdk_116_method_1_code 7 (.iaload) 1 8 := ⟨by decide +kernel, rfl⟩
theorem gp_8 : Dc jdk_116_method_1_code 8 (.istore_n 3) 1 9 := ⟨by decide +kernel, rfl⟩
theorem gp_9 : Dc jdk_116_method_1_code 9 (.iload_n 3) 1 10 := ⟨by decide +kernel, rfl⟩
theorem gp_10 : Dc jdk_116_method_1_code 10 (.ireturn) 1 11 := ⟨by decide +kernel, rfl⟩
theorem iw_0 : Dc jdk_116_method_26_code 0 (.aload_n 0) 1 1 := ⟨by decide +kernel, rfl⟩
theorem iw_1 : Dc jdk_116_method_26_code 1 (.iload_n 1) 1 2 := ⟨by decide +kernel, rfl⟩
theorem iw_2 : Dc jdk_116_method_26_code 2 (.invokevirtual 15) 3 5 := ⟨by decide +kernel, rfl⟩
theorem iw_5 : Dc jdk_116_method_26_code 5 (.istore_n 2) 1 6 := ⟨by decide +kernel, rfl⟩
theorem iw_6 : Dc jdk_116_method_26_code 6 (.iload_n 2) 1 7 := ⟨by decide +kernel, rfl⟩
theorem iw_7 : Dc jdk_116_method_26_code 7 (.sipush 28672) 3 10 := ⟨by decide +kernel, rfl⟩
theorem iw_10 : Dc jdk_116_method_26_code 10 (.iand) 1 11 := ⟨by decide +kernel, rfl⟩
theorem iw_11 : Dc jdk_116_method_26_code 11 (.sipush 16384) 3 14 := ⟨by decide +kernel, rfl⟩
theorem iw_14 : Jp jdk_116_method_26_code 14 (.if_icmp .ne 7) (7) 17 21 := ⟨by decide +kernel, rfl, by decide, by decide⟩
theorem iw_17 : Dc jdk_116_method_26_code 17 (.iconst 1) 1 18 := ⟨by decide +kernel, rfl⟩
theorem iw_18 : Jp jdk_116_method_26_code 18 (.goto 4) (4) 21 22 := ⟨by decide +kernel, rfl, by decide, by decide⟩
theorem iw_21 : Dc jdk_116_method_26_code 21 (.iconst 0) 1 22 := ⟨by decide +kernel, rfl⟩
theorem iw_22 : Dc jdk_116_method_26_code 22 (.ireturn) 1 23 := ⟨by decide +kernel, rfl⟩
theorem gc_0 : Dc jdk_43_method_44_code 0 (.aload_n 0) 1 1 := ⟨by decide +kernel, rfl⟩
theorem gc_1 : Dc jdk_43_method_44_code 1 (.iload_n 1) 1 2 := ⟨by decide +kernel, rfl⟩
theorem gc_2 : Dc jdk_43_method_44_code 2 (.baload) 1 3 := ⟨by decide +kernel, rfl⟩
theorem gc_3 : Dc jdk_43_method_44_code 3 (.sipush 255) 3 6 := ⟨by decide +kernel, rfl⟩
theorem gc_6 : Dc jdk_43_method_44_code 6 (.iand) 1 7 := ⟨by decide +kernel, rfl⟩
theorem gc_7 : Dc jdk_43_method_44_code 7 (.i2c) 1 8 := ⟨by decide +kernel, rfl⟩
theorem gc_8 : Dc jdk_43_method_44_code 8 (.ireturn) 1 9 := ⟨by decide +kernel, rfl⟩
theorem nw_0 : Dc jdk_43_method_37_code 0 (.aload_n 0) 1 1 := ⟨by decide +kernel, rfl⟩
theorem nw_1 : Dc jdk_43_method_37_code 1 (.arraylength) 1 2 := ⟨by decide +kernel, rfl⟩
theorem nw_2 : Dc jdk_43_method_37_code 2 (.istore_n 1) 1 3 := ⟨by decide +kernel, rfl⟩
theorem nw_3 : Dc jdk_43_method_37_code 3 (.iconst 0) 1 4 := ⟨by decide +kernel, rfl⟩
theorem nw_4 : Dc jdk_43_method_37_code 4 (.istore_n 2) 1 5 := ⟨by decide +kernel, rfl⟩
theorem nw_5 : Dc jdk_43_method_37_code 5 (.iload_n 2) 1 6 := ⟨by decide +kernel, rfl⟩
theorem nw_6 : Dc jdk_43_method_37_code 6 (.iload_n 1) 1 7 := ⟨by decide +kernel, rfl⟩
theorem nw_7 : Jp jdk_43_method_37_code 7 (.if_icmp .ge 40) (40) 10 47 := ⟨by decide +kernel, rfl, by decide, by decide⟩
theorem nw_10 : Dc jdk_43_method_37_code 10 (.aload_n 0) 1 11 := ⟨by decide +kernel, rfl⟩
theorem nw_11 : Dc jdk_43_method_37_code 11 (.iload_n 2) 1 12 := ⟨by decide +kernel, rfl⟩
theorem nw_12 : Dc jdk_43_method_37_code 12 (.invokestatic 50) 3 15 := ⟨by decide +kernel, rfl⟩
theorem nw_15 : Dc jdk_43_method_37_code 15 (.istore_n 3) 1 16 := ⟨by decide +kernel, rfl⟩
theorem nw_16 : Dc jdk_43_method_37_code 16 (.iload_n 3) 1 17 := ⟨by decide +kernel, rfl⟩
theorem nw_17 : Dc jdk_43_method_37_code 17 (.bipush 32) 2 19 := ⟨by decide +kernel, rfl⟩
theorem nw_19 : Jp jdk_43_method_37_code 19 (.if_icmp .eq 22) (22) 22 41 := ⟨by decide +kernel, rfl, by decide, by decide⟩
theorem nw_22 : Dc jdk_43_method_37_code 22 (.iload_n 3) 1 23 := ⟨by decide +kernel, rfl⟩
theorem nw_23 : Dc jdk_43_method_37_code 23 (.bipush 9) 2 25 := ⟨by decide +kernel, rfl⟩
theorem nw_25 : Jp jdk_43_method_37_code 25 (.if_icmp .eq 16) (16) 28 41 := ⟨by decide +kernel, rfl, by decide, by decide⟩
theorem nw_28 : Dc jdk_43_method_37_code 28 (.getstatic 66) 3 31 := ⟨by decide +kernel, rfl⟩
theorem nw_31 : Dc jdk_43_method_37_code 31 (.iload_n 3) 1 32 := ⟨by decide +kernel, rfl⟩
theorem nw_32 : Dc jdk_43_method_37_code 32 (.invokevirtual 211) 3 35 := ⟨by decide +kernel, rfl⟩
theorem nw_35 : Jp jdk_43_method_37_code 35 (.ifCond .ne 6) (6) 38 41 := ⟨by decide +kernel, rfl, by decide, by decide⟩
theorem nw_38 : Jp jdk_43_method_37_code 38 (.goto 9) (9) 41 47 := ⟨by decide +kernel, rfl, by decide, by decide⟩
theorem nw_41 : Dc jdk_43_method_37_code 41 (.iinc 2 1) 3 44 := ⟨by decide +kernel, rfl⟩
theorem nw_44 : Jp jdk_43_method_37_code 44 (.goto (-39)) (-39) 47 5 := ⟨by decide +kernel, rfl, by decide, by decide⟩
theorem nw_47 : Dc jdk_43_method_37_code 47 (.iload_n 2) 1 48 := ⟨by decide +kernel, rfl⟩
theorem nw_48 : Dc jdk_43_method_37_code 48 (.ireturn) 1 49 := ⟨by decide +kernel, rfl⟩
theorem sn_0 : Dc jdk_42_method_120_code 0 (.aload_n 0) 1 1 := ⟨by decide +kernel, rfl⟩
theorem sn_1 : Dc jdk_42_method_120_code 1 (.invokevirtual 492) 3 4 := ⟨by decide +kernel, rfl⟩
theorem sn_4 : Jp jdk_42_method_120_code 4 (.ifCond .eq 13) (13) 7 17 := ⟨by decide +kernel, rfl, by decide, by decide⟩
theorem sn_7 : Dc jdk_42_method_120_code 7 (.aload_n 0) 1 8 := ⟨by decide +kernel, rfl⟩
theorem sn_8 : Dc jdk_42_method_120_code 8 (.getfield 9) 3 11 := ⟨by decide +kernel, rfl⟩
theorem sn_11 : Dc jdk_42_method_120_code 11 (.invokestatic 924) 3 14 := ⟨by decide +kernel, rfl⟩
theorem sn_14 : Jp jdk_42_method_120_code 14 (.goto 10) (10) 17 24 := ⟨by decide +kernel, rfl, by decide, by decide⟩
theorem sn_17 : Dc jdk_42_method_120_code 17 (.aload_n 0) 1 18 := ⟨by decide +kernel, rfl⟩
theorem sn_18 : Dc jdk_42_method_120_code 18 (.getfield 9) 3 21 := ⟨by decide +kernel, rfl⟩
theorem sn_21 : Dc jdk_42_method_120_code 21 (.invokestatic 926) 3 24 := ⟨by decide +kernel, rfl⟩
theorem sn_24 : Dc jdk_42_method_120_code 24 (.ireturn) 1 25 := ⟨by decide +kernel, rfl⟩
theorem ib_0 : Dc jdk_42_method_117_code 0 (.aload_n 0) 1 1 := ⟨by decide +kernel, rfl⟩
theorem ib_1 : Dc jdk_42_method_117_code 1 (.invokevirtual 876) 3 4 := ⟨by decide +kernel, rfl⟩
theorem ib_4 : Dc jdk_42_method_117_code 4 (.aload_n 0) 1 5 := ⟨by decide +kernel, rfl⟩
theorem ib_5 : Dc jdk_42_method_117_code 5 (.invokevirtual 505) 3 8 := ⟨by decide +kernel, rfl⟩
theorem ib_8 : Jp jdk_42_method_117_code 8 (.if_icmp .ne 7) (7) 11 15 := ⟨by decide +kernel, rfl, by decide, by decide⟩
theorem ib_11 : Dc jdk_42_method_117_code 11 (.iconst 1) 1 12 := ⟨by decide +kernel, rfl⟩
theorem ib_12 : Jp jdk_42_method_117_code 12 (.goto 4) (4) 15 16 := ⟨by decide +kernel, rfl, by decide, by decide⟩
theorem ib_15 : Dc jdk_42_method_117_code 15 (.iconst 0) 1 16 := ⟨by decide +kernel, rfl⟩
theorem ib_16 : Dc jdk_42_method_117_code 16 (.ireturn) 1 17 := ⟨by decide +kernel, rfl⟩
theorem il_0 : Dc jdk_42_method_154_code 0 (.getstatic 38) 3 3 := ⟨by decide +kernel, rfl⟩
theorem il_3 : Jp jdk_42_method_154_code 3 (.ifCond .eq 14) (14) 6 17 := ⟨by decide +kernel, rfl, by decide, by decide⟩
theorem il_6 : Dc jdk_42_method_154_code 6 (.aload_n 0) 1 7 := ⟨by decide +kernel, rfl⟩
theorem il_7 : Dc jdk_42_method_154_code 7 (.getfield 15) 3 10 := ⟨by decide +kernel, rfl⟩
theorem il_10 : Jp jdk_42_method_154_code 10 (.ifCond .ne 7) (7) 13 17 := ⟨by decide +kernel, rfl, by decide, by decide⟩
theorem il_13 : Dc jdk_42_method_154_code 13 (.iconst 1) 1 14 := ⟨by decide +kernel, rfl⟩
theorem il_14 : Jp jdk_42_method_154_code 14 (.goto 4) (4) 17 18 := ⟨by decide +kernel, rfl, by decide, by decide⟩
theorem il_17 : Dc jdk_42_method_154_code 17 (.iconst 0) 1 18 := ⟨by decide +kernel, rfl⟩
theorem il_18 : Dc jdk_42_method_154_code 18 (.ireturn) 1 19 := ⟨by decide +kernel, rfl⟩
theorem eq_0 : Dc jdk_42_method_66_code 0 (.aload_n 0) 1 1 := ⟨by decide +kernel, rfl⟩
theorem eq_1 : Dc jdk_42_method_66_code 1 (.aload_n 1) 1 2 := ⟨by decide +kernel, rfl⟩
theorem eq_2 : Jp jdk_42_method_66_code 2 (.if_acmp .ne 5) (5) 5 7 := ⟨by decide +kernel, rfl, by decide, by decide⟩
theorem eq_5 : Dc jdk_42_method_66_code 5 (.iconst 1) 1 6 := ⟨by decide +kernel, rfl⟩
theorem eq_6 : Dc jdk_42_method_66_code 6 (.ireturn) 1 7 := ⟨by decide +kernel, rfl⟩
theorem eq_7 : Dc jdk_42_method_66_code 7 (.aload_n 1) 1 8 := ⟨by decide +kernel, rfl⟩
theorem eq_8 : Dc jdk_42_method_66_code 8 (.instanceof 10) 3 11 := ⟨by decide +kernel, rfl⟩
theorem eq_11 : Jp jdk_42_method_66_code 11 (.ifCond .eq 43) (43) 14 54 := ⟨by decide +kernel, rfl, by decide, by decide⟩
theorem eq_14 : Dc jdk_42_method_66_code 14 (.aload_n 1) 1 15 := ⟨by decide +kernel, rfl⟩
theorem eq_15 : Dc jdk_42_method_66_code 15 (.checkcast 10) 3 18 := ⟨by decide +kernel, rfl⟩
theorem eq_18 : Dc jdk_42_method_66_code 18 (.astore_n 2) 1 19 := ⟨by decide +kernel, rfl⟩
theorem eq_19 : Dc jdk_42_method_66_code 19 (.getstatic 38) 3 22 := ⟨by decide +kernel, rfl⟩
theorem eq_22 : Jp jdk_42_method_66_code 22 (.ifCond .eq 14) (14) 25 36 := ⟨by decide +kernel, rfl, by decide, by decide⟩
theorem eq_25 : Dc jdk_42_method_66_code 25 (.aload_n 0) 1 26 := ⟨by decide +kernel, rfl⟩
theorem eq_26 : Dc jdk_42_method_66_code 26 (.getfield 15) 3 29 := ⟨by decide +kernel, rfl⟩
theorem eq_29 : Dc jdk_42_method_66_code 29 (.aload_n 2) 1 30 := ⟨by decide +kernel, rfl⟩
theorem eq_30 : Dc jdk_42_method_66_code 30 (.getfield 15) 3 33 := ⟨by decide +kernel, rfl⟩
theorem eq_33 : Jp jdk_42_method_66_code 33 (.if_icmp .ne 21) (21) 36 54 := ⟨by decide +kernel, rfl, by decide, by decide⟩
theorem eq_36 : Dc jdk_42_method_66_code 36 (.aload_n 0) 1 37 := ⟨by decide +kernel, rfl⟩
theorem eq_37 : Dc jdk_42_method_66_code 37 (.getfield 9) 3 40 := ⟨by decide +kernel, rfl⟩
theorem eq_40 : Dc jdk_42_method_66_code 40 (.aload_n 2) 1 41 := ⟨by decide +kernel, rfl⟩
theorem eq_41 : Dc jdk_42_method_66_code 41 (.getfield 9) 3 44 := ⟨by decide +kernel, rfl⟩
theorem eq_44 : Dc jdk_42_method_66_code 44 (.invokestatic 541) 3 47 := ⟨by decide +kernel, rfl⟩
theorem eq_47 : Jp jdk_42_method_66_code 47 (.ifCond .eq 7) (7) 50 54 := ⟨by decide +kernel, rfl, by decide, by decide⟩
theorem eq_50 : Dc jdk_42_method_66_code 50 (.iconst 1) 1 51 := ⟨by decide +kernel, rfl⟩
theorem eq_51 : Jp jdk_42_method_66_code 51 (.goto 4) (4) 54 55 := ⟨by decide +kernel, rfl, by decide, by decide⟩
theorem eq_54 : Dc jdk_42_method_66_code 54 (.iconst 0) 1 55 := ⟨by decide +kernel, rfl⟩
theorem eq_55 : Dc jdk_42_method_66_code 55 (.ireturn) 1 56 := ⟨by decide +kernel, rfl⟩
theorem rq_0 : Dc prog_5_method_2_code 0 (.aload_n 0) 1 1 := ⟨by decide +kernel, rfl⟩
theorem rq_1 : Dc prog_5_method_2_code 1 (.ldc 41) 2 3 := ⟨by decide +kernel, rfl⟩
theorem rq_3 : Dc prog_5_method_2_code 3 (.invokestatic 9) 3 6 := ⟨by decide +kernel, rfl⟩
theorem rq_6 : Dc prog_5_method_2_code 6 (.pop) 1 7 := ⟨by decide +kernel, rfl⟩
theorem rq_7 : Dc prog_5_method_2_code 7 (.aload_n 0) 1 8 := ⟨by decide +kernel, rfl⟩
theorem rq_8 : Dc prog_5_method_2_code 8 (.invokevirtual 43) 3 11 := ⟨by decide +kernel, rfl⟩
theorem rq_11 : Jp prog_5_method_2_code 11 (.ifCond .ne 12) (12) 14 23 := ⟨by decide +kernel, rfl, by decide, by decide⟩
theorem rq_14 : Dc prog_5_method_2_code 14 (.aload_n 0) 1 15 := ⟨by decide +kernel, rfl⟩
theorem rq_15 : Dc prog_5_method_2_code 15 (.invokevirtual 23) 3 18 := ⟨by decide +kernel, rfl⟩
theorem rq_18 : Dc prog_5_method_2_code 18 (.bipush 120) 2 20 := ⟨by decide +kernel, rfl⟩
theorem rq_20 : Jp prog_5_method_2_code 20 (.if_icmp .le 17) (17) 23 37 := ⟨by decide +kernel, rfl, by decide, by decide⟩
theorem rq_23 : Dc prog_5_method_2_code 23 (.new 47) 3 26 := ⟨by decide +kernel, rfl⟩
theorem rq_26 : Dc prog_5_method_2_code 26 (.dup) 1 27 := ⟨by decide +kernel, rfl⟩
theorem rq_27 : Dc prog_5_method_2_code 27 (.aload_n 0) 1 28 := ⟨by decide +kernel, rfl⟩
theorem rq_28 : Dc prog_5_method_2_code 28 (.invokedynamic 49) 5 33 := ⟨by decide +kernel, rfl⟩
theorem rq_33 : Dc prog_5_method_2_code 33 (.invokespecial 53) 3 36 := ⟨by decide +kernel, rfl⟩
theorem rq_36 : Dc prog_5_method_2_code 36 (.athrow) 1 37 := ⟨by decide +kernel, rfl⟩
theorem rq_37 : Dc prog_5_method_2_code 37 (.aload_n 0) 1 38 := ⟨by decide +kernel, rfl⟩
theorem rq_38 : Dc prog_5_method_2_code 38 (.areturn) 1 39 := ⟨by decide +kernel, rfl⟩
theorem lw_0 : Dc code 0 (.iload_n 3) 1 1 := ⟨by decide +kernel, rfl⟩
theorem lw_1 : Dc code 1 (.ldc 7) 2 3 := ⟨by decide +kernel, rfl⟩
theorem lw_3 : Dc code 3 (.iand) 1 4 := ⟨by decide +kernel, rfl⟩
theorem lw_4 : Dc code 4 (.iconst 5) 1 5 := ⟨by decide +kernel, rfl⟩
theorem lw_5 : Dc code 5 (.irem) 1 6 := ⟨by decide +kernel, rfl⟩
theorem lw_6 : Dc code 6 (.istore 4) 2 8 := ⟨by decide +kernel, rfl⟩
theorem lw_8 : Dc code 8 (.iload 4) 2 10 := ⟨by decide +kernel, rfl⟩
theorem lw_10 : Dc code 10 (.invokestatic 8) 3 13 := ⟨by decide +kernel, rfl⟩
theorem lw_13 : Dc code 13 (.astore 5) 2 15 := ⟨by decide +kernel, rfl⟩
theorem lw_15 : Dc code 15 (.aload 5) 2 17 := ⟨by decide +kernel, rfl⟩
theorem lw_17 : Dc code 17 (.arraylength) 1 18 := ⟨by decide +kernel, rfl⟩
theorem lw_18 : Dc code 18 (.istore 6) 2 20 := ⟨by decide +kernel, rfl⟩
theorem lw_20 : Dc code 20 (.iload_n 1) 1 21 := ⟨by decide +kernel, rfl⟩
theorem lw_21 : Dc code 21 (.sipush 255) 3 24 := ⟨by decide +kernel, rfl⟩
theorem lw_24 : Dc code 24 (.iand) 1 25 := ⟨by decide +kernel, rfl⟩
theorem lw_25 : Dc code 25 (.i2c) 1 26 := ⟨by decide +kernel, rfl⟩
theorem lw_26 : Dc code 26 (.istore 7) 2 28 := ⟨by decide +kernel, rfl⟩
theorem lw_28 : Dc code 28 (.iload_n 2) 1 29 := ⟨by decide +kernel, rfl⟩
theorem lw_29 : Dc code 29 (.sipush 255) 3 32 := ⟨by decide +kernel, rfl⟩
theorem lw_32 : Dc code 32 (.iand) 1 33 := ⟨by decide +kernel, rfl⟩
theorem lw_33 : Dc code 33 (.i2c) 1 34 := ⟨by decide +kernel, rfl⟩
theorem lw_34 : Dc code 34 (.istore 8) 2 36 := ⟨by decide +kernel, rfl⟩
theorem lw_36 : Dc code 36 (.bipush 33) 2 38 := ⟨by decide +kernel, rfl⟩
theorem lw_38 : Dc code 38 (.iload_n 0) 1 39 := ⟨by decide +kernel, rfl⟩
theorem lw_39 : Dc code 39 (.ldc 7) 2 41 := ⟨by decide +kernel, rfl⟩
theorem lw_41 : Dc code 41 (.iand) 1 42 := ⟨by decide +kernel, rfl⟩
theorem lw_42 : Dc code 42 (.sipush 223) 3 45 := ⟨by decide +kernel, rfl⟩
theorem lw_45 : Dc code 45 (.irem) 1 46 := ⟨by decide +kernel, rfl⟩
theorem lw_46 : Dc code 46 (.iadd) 1 47 := ⟨by decide +kernel, rfl⟩
theorem lw_47 : Dc code 47 (.i2c) 1 48 := ⟨by decide +kernel, rfl⟩
theorem lw_48 : Dc code 48 (.istore 9) 2 50 := ⟨by decide +kernel, rfl⟩
theorem lw_50 : Dc code 50 (.aload 5) 2 52 := ⟨by decide +kernel, rfl⟩
theorem lw_52 : Dc code 52 (.iconst 0) 1 53 := ⟨by decide +kernel, rfl⟩
theorem lw_53 : Dc code 53 (.iload 7) 2 55 := ⟨by decide +kernel, rfl⟩
theorem lw_55 : Dc code 55 (.castore) 1 56 := ⟨by decide +kernel, rfl⟩
theorem lw_56 : Dc code 56 (.aload 5) 2 58 := ⟨by decide +kernel, rfl⟩
theorem lw_58 : Dc code 58 (.iload 6) 2 60 := ⟨by decide +kernel, rfl⟩
theorem lw_60 : Dc code 60 (.iconst 1) 1 61 := ⟨by decide +kernel, rfl⟩
theorem lw_61 : Dc code 61 (.isub) 1 62 := ⟨by decide +kernel, rfl⟩
theorem lw_62 : Dc code 62 (.iload 8) 2 64 := ⟨by decide +kernel, rfl⟩
theorem lw_64 : Dc code 64 (.castore) 1 65 := ⟨by decide +kernel, rfl⟩
theorem lw_65 : Dc code 65 (.iload_n 3) 1 66 := ⟨by decide +kernel, rfl⟩
theorem lw_66 : Dc code 66 (.bipush 8) 2 68 := ⟨by decide +kernel, rfl⟩
theorem lw_68 : Dc code 68 (.iushr) 1 69 := ⟨by decide +kernel, rfl⟩
theorem lw_69 : Dc code 69 (.iconst 3) 1 70 := ⟨by decide +kernel, rfl⟩
theorem lw_70 : Dc code 70 (.iand) 1 71 := ⟨by decide +kernel, rfl⟩
theorem lw_71 : Dc code 71 (.istore 10) 2 73 := ⟨by decide +kernel, rfl⟩
theorem lw_73 : Dc code 73 (.iload 10) 2 75 := ⟨by decide +kernel, rfl⟩
theorem lw_75 : Jp code 75 (.ifCond .ne 9) (9) 78 84 := ⟨by decide +kernel, rfl, by decide, by decide⟩
theorem lw_78 : Dc code 78 (.iconst 0) 1 79 := ⟨by decide +kernel, rfl⟩
theorem lw_79 : Dc code 79 (.istore 11) 2 81 := ⟨by decide +kernel, rfl⟩
theorem lw_81 : Jp code 81 (.goto 24) (24) 84 105 := ⟨by decide +kernel, rfl, by decide, by decide⟩
theorem lw_84 : Dc code 84 (.iload 10) 2 86 := ⟨by decide +kernel, rfl⟩
theorem lw_86 : Dc code 86 (.iconst 1) 1 87 := ⟨by decide +kernel, rfl⟩
theorem lw_87 : Jp code 87 (.if_icmp .ne 12) (12) 90 99 := ⟨by decide +kernel, rfl, by decide, by decide⟩
theorem lw_90 : Dc code 90 (.iload 6) 2 92 := ⟨by decide +kernel, rfl⟩
theorem lw_92 : Dc code 92 (.iconst 1) 1 93 := ⟨by decide +kernel, rfl⟩
theorem lw_93 : Dc code 93 (.isub) 1 94 := ⟨by decide +kernel, rfl⟩
theorem lw_94 : Dc code 94 (.istore 11) 2 96 := ⟨by decide +kernel, rfl⟩
theorem lw_96 : Jp code 96 (.goto 9) (9) 99 105 := ⟨by decide +kernel, rfl, by decide, by decide⟩
theorem lw_99 : Dc code 99 (.iload 6) 2 101 := ⟨by decide +kernel, rfl⟩
theorem lw_101 : Dc code 101 (.iconst 2) 1 102 := ⟨by decide +kernel, rfl⟩
theorem lw_102 : Dc code 102 (.idiv) 1 103 := ⟨by decide +kernel, rfl⟩
theorem lw_103 : Dc code 103 (.istore 11) 2 105 := ⟨by decide +kernel, rfl⟩
theorem lw_105 : Dc code 105 (.aload 5) 2 107 := ⟨by decide +kernel, rfl⟩
theorem lw_107 : Dc code 107 (.iload 11) 2 109 := ⟨by decide +kernel, rfl⟩
theorem lw_109 : Dc code 109 (.iload 9) 2 111 := ⟨by decide +kernel, rfl⟩
theorem lw_111 : Dc code 111 (.castore) 1 112 := ⟨by decide +kernel, rfl⟩
theorem lw_112 : Dc code 112 (.new 14) 3 115 := ⟨by decide +kernel, rfl⟩
theorem lw_115 : Dc code 115 (.dup) 1 116 := ⟨by decide +kernel, rfl⟩
theorem lw_116 : Dc code 116 (.aload 5) 2 118 := ⟨by decide +kernel, rfl⟩
theorem lw_118 : Dc code 118 (.invokespecial 16) 3 121 := ⟨by decide +kernel, rfl⟩
theorem lw_121 : Dc code 121 (.astore 12) 2 123 := ⟨by decide +kernel, rfl⟩
theorem lw_123 : Dc code 123 (.aload 12) 2 125 := ⟨by decide +kernel, rfl⟩
theorem lw_125 : Dc code 125 (.invokestatic 19) 3 128 := ⟨by decide +kernel, rfl⟩
theorem lw_128 : Dc code 128 (.astore 13) 2 130 := ⟨by decide +kernel, rfl⟩
theorem lw_130 : Dc code 130 (.aload 12) 2 132 := ⟨by decide +kernel, rfl⟩
theorem lw_132 : Dc code 132 (.aload 13) 2 134 := ⟨by decide +kernel, rfl⟩
theorem lw_134 : Dc code 134 (.invokevirtual 25) 3 137 := ⟨by decide +kernel, rfl⟩
theorem lw_137 : Dc code 137 (.ireturn) 1 138 := ⟨by decide +kernel, rfl⟩
theorem efmk (m : MethodId) (x0 : Int32) : entryFrame m #[(.int x0)] 1 = fr m 0 [.val (.int x0)] [] := by first | (simp [entryFrame, mkF, argsToLocals, Value.category]; done) | rfl
theorem efRV (m : MethodId) (x0 : Addr) (x1 : Value) (q1 : x1.category = 1) : entryFrame m #[(.ref x0), (x1)] 2 = fr m 0 [.val (.ref x0), .val (x1)] [] := by simp [entryFrame, mkF, argsToLocals, cat_int, cat_rf, cat_lng, q1]
theorem efgp (m : MethodId) (x0 : Addr) (x1 : Int32) : entryFrame m #[(.ref x0), (.int x1)] 4 = fr m 0 [.val (.ref x0), .val (.int x1), .unset, .unset] [] := by first | (simp [entryFrame, mkF, argsToLocals, Value.category]; done) | rfl
theorem efiw (m : MethodId) (x0 : Addr) (x1 : Int32) : entryFrame m #[(.ref x0), (.int x1)] 3 = fr m 0 [.val (.ref x0), .val (.int x1), .unset] [] := by first | (simp [entryFrame, mkF, argsToLocals, Value.category]; done) | rfl
theorem efnw (m : MethodId) (x0 : Addr) : entryFrame m #[(.ref x0)] 4 = fr m 0 [.val (.ref x0), .unset, .unset, .unset] [] := by first | (simp [entryFrame, mkF, argsToLocals, Value.category]; done) | rfl
theorem efeq (m : MethodId) (x0 : Addr) (x1 : Addr) : entryFrame m #[(.ref x0), (.ref x1)] 3 = fr m 0 [.val (.ref x0), .val (.ref x1), .unset] [] := by first | (simp [entryFrame, mkF, argsToLocals, Value.category]; done) | rfl
theorem eflw (m : MethodId) (x0 : Int32) (x1 : Int32) (x2 : Int32) (x3 : Int32) : entryFrame m #[(.int x0), (.int x1), (.int x2), (.int x3)] 14 = fr m 0 [.val (.int x0), .val (.int x1), .val (.int x2), .val (.int x3), .unset, .unset, .unset, .unset, .unset, .unset, .unset, .unset, .unset, .unset] [] := by first | (simp [entryFrame, mkF, argsToLocals, Value.category]; done) | rfl
theorem wS_1 {Z : State} {a0 : Array Value} (hw : ∀ d ∈ tables_1, d.before a0 Z = true) : ∀ a ∈ Bundle.stringAtoms, a.before a0 Z = true := by
  intro d hd
  simp only [Bundle.stringAtoms, List.mem_cons, List.not_mem_nil, or_false] at hd
  rcases hd with rfl | rfl | rfl | rfl | rfl | rfl | rfl
  · exact (hw _ (List.mem_of_getElem? (i := 8) rfl))
  · exact (hw _ (List.mem_of_getElem? (i := 7) rfl))
  · exact (hw _ (List.mem_of_getElem? (i := 24) rfl))
  · exact (hw _ (List.mem_of_getElem? (i := 34) rfl))
  · exact (hw _ (List.mem_of_getElem? (i := 32) rfl))
  · exact (hw _ (List.mem_of_getElem? (i := 40) rfl))
  · exact (hw _ (List.mem_of_getElem? (i := 41) rfl))
def tabL : List Int32 := [1207963663, 1207963663, 1207963663, 1207963663, 1207963663, 1207963663, 1207963663, 1207963663, 1207963663, 1476411407, 1342193679, 1476411407, 1610629135, 1342193679, 1207963663, 1207963663, 1207963663, 1207963663, 1207963663, 1207963663, 1207963663, 1207963663, 1207963663, 1207963663, 1207963663, 1207963663, 1207963663, 1207963663, 1342193679, 1342193679, 1342193679, 1476411407, 1610629132, 1744830488, 1744830488, 671088664, 671113242, 671088664, 1744830488, 1744830488, -402653163, -402653162, 1744830488, 536870937, 939524120, 536870932, 939524120, 939524120, 402667017, 402667017, 402667017, 402667017, 402667017, 402667017, 402667017, 402667017, 402667017, 402667017, 939524120, 1744830488, -402653159, 1744830489, -402653159, 1744830488, 1744830488, 8552417, 8552417, 8552417, 8552417, 8552417, 8552417, 8552417, 8552417, 8552417, 8552417, 8552417, 8552417, 8552417, 8552417, 8552417, 8552417, 8552417, 8552417, 8552417, 8552417, 8552417, 8552417, 8552417, 8552417, 8552417, 8552417, -402653163, 1744830488, -402653162, 1744830491, 1744850967, 1744830491, 8486882, 8486882, 8486882, 8486882, 8486882, 8486882, 8486882, 8486882, 8486882, 8486882, 8486882, 8486882, 8486882, 8486882, 8486882, 8486882, 8486882, 8486882, 8486882, 8486882, 8486882, 8486882, 8486882, 8486882, 8486882, 8486882, -402653163, 1744830489, -402653162, 1744830489, 1207963663, 1207963663, 1207963663, 1207963663, 1207963663, 1207963663, 1342181391, 1207963663, 1207963663, 1207963663, 1207963663, 1207963663, 1207963663, 1207963663, 1207963663, 1207963663, 1207963663, 1207963663, 1207963663, 1207963663, 1207963663, 1207963663, 1207963663, 1207963663, 1207963663, 1207963663, 1207963663, 1207963663, 1207963663, 1207963663, 1207963663, 1207963663, 1207963663, 939524108, 1744830488, 671113242, 671113242, 671113242, 671113242, 1744830492, 1744830488, 1744830491, 1744830492, 28677, -402653155, 1744830489, 1207963664, 1744830492, 1744830491, 671088668, 671088665, 402654731, 402654731, 1744830491, 134049794, 1744830488, 1744830488, 1744830491, 402654475, 28677, -402653154, 1744832523, 1744832523, 1744832523, 1744830488, 8548353, 8548353, 8548353, 8548353, 8548353, 8548353, 8548353, 8548353, 8548353, 8548353, 8548353, 8548353, 8548353, 8548353, 8548353, 8548353, 8548353, 8548353, 8548353, 8548353, 8548353, 8548353, 8548353, 1744830489, 8548353, 8548353, 8548353, 8548353, 8548353, 8548353, 8548353, 134049794, 8482818, 8482818, 8482818, 8482818, 8482818, 8482818, 8482818, 8482818, 8482818, 8482818, 8482818, 8482818, 8482818, 8482818, 8482818, 8482818, 8482818, 8482818, 8482818, 8482818, 8482818, 8482818, 8482818, 1744830489, 8482818, 8482818, 8482818, 8482818, 8482818, 8482818, 8482818, 102592514]
def tabT : Term := .static "java/lang/CharacterDataLatin1" "A" "[I"
set_option maxRecDepth 65536 in
theorem stat_tab : (jdkStatics_1.drop 17).take 256 = (List.range 256).map fun i => Jvm.Cond.eq (.elem tabT (.int (Int32.ofNat i))) (.int (tabL.getD i 0)) := rfl
theorem stat_mem (i : Nat) (hi : i < 256) : Jvm.Cond.eq (.elem tabT (.int (Int32.ofNat i))) (.int (tabL.getD i 0)) ∈ jdkStatics_1 := by
  have h : Jvm.Cond.eq (.elem tabT (.int (Int32.ofNat i))) (.int (tabL.getD i 0)) ∈ (jdkStatics_1.drop 17).take 256 := by
    rw [stat_tab]
    exact List.mem_map.mpr ⟨i, List.mem_range.mpr hi, rfl⟩
  exact List.mem_of_mem_drop (List.mem_of_mem_take h)
def tabv (i : Nat) : Int32 := tabL.getD i 0
/-- the statics that the white-space tests read -/
def CD (Z : State) (ci ta : Addr) : Prop := Sta Z Z.heap CDL "instance" "Ljava/lang/CharacterDataLatin1;" (.ref ci) ∧ Exa Z Z.heap ci CDL ∧ Sta Z Z.heap CDL "A" "[I" (.ref ta) ∧ AR Z Z.heap ta .int 256 (fun i => .int (tabv i))
theorem met_gp (l : Launch) (Z : State) (a0 : Array Value) (hw : ∀ d ∈ tables_1, d.before a0 Z = true) (nw : Prop) (EL : List (String × Nat)) (hEL : EW Z a0 EL) (ci ta : Addr) (D : CD Z ci ta) (h : Heap) (a : Addr) (x : Int32) (h0 : 0 ≤ x.toInt) (h1 : x.toInt ≤ 255) :
    Met l Z nw EL ⟨CDL, "getProperties", "(I)I"⟩ jdk_116_method_1_code 4 (some .int) ⟨0, 0, 0, 0⟩ #[.ref a, .int x] h [] (fun v h' => v = some (.int (tabv x.toInt.toNat)) ∧ h' = h) := by
  refine Met.mk (a0 := a0) hEL pn_cdl ?_
  intro p e s m below meth c C hE hS
  rw [efgp]
  refine R_iload_n C gp_0 rfl ?_
  refine R_i2c C gp_1 ?_
  rw [nar_char_id h0 (by omega)]
  refine R_istore_n C gp_2 rfl ?_
  simp only [fv0, fv1, fv2, fv3, List.set_cons_zero, List.set_cons_succ]
  refine R_getstatic C gp_3 (hw _ (List.mem_of_getElem? (i := 80) rfl)) Via.refl (D.2.2.1.ext hE) ?_
  refine R_iload_n C gp_6 rfl ?_
  refine R_iaload C x.toInt.toNat gp_7 (D.2.2.2.ext hE) (by omega) (by omega) rfl ?_
  refine R_istore_n C gp_8 rfl ?_
  simp only [fv0, fv1, fv2, fv3, List.set_cons_zero, List.set_cons_succ]
  refine R_iload_n C gp_9 rfl ?_
  exact R_retI C gp_10 rfl (Nat.le_refl _) (Nat.le_refl _) ⟨rfl, rfl⟩
theorem met_iw (l : Launch) (Z : State) (a0 : Array Value) (hw : ∀ d ∈ tables_1, d.before a0 Z = true) (nw : Prop) (EL : List (String × Nat)) (hEL : EW Z a0 EL) (ci ta : Addr) (D : CD Z ci ta) (h : Heap) (X : Exa Z h ci CDL) (x : Int32) (h0 : 0 ≤ x.toInt) (h1 : x.toInt ≤ 255) :
    Met l Z nw EL ⟨CDL, "isWhitespace", "(I)Z"⟩ jdk_116_method_26_code 3 (some .boolean) ⟨1, 0, 0, 15⟩ #[.ref ci, .int x] h [] (fun v h' => v = some (.int (if tabv x.toInt.toNat &&& 28672 = 16384 then 1 else 0)) ∧ h' = h) := by
  refine Met.mk (a0 := a0) hEL pn_cdl ?_
  intro p e s m below meth c C hE hS
  rw [efiw]
  refine R_aload_n C iw_0 rfl rfl ?_
  refine R_iload_n C iw_1 rfl ?_
  refine R_virtual C [.int x] iw_2 (met_gp l Z a0 hw nw EL hEL ci ta D h ci x h0 h1) (by first | exact fun z => z | exact fun _ => trivial) (X) (hw _ (List.mem_of_getElem? (i := 75) rfl)) (hw _ (List.mem_of_getElem? (i := 76) rfl)) (hw _ (List.mem_of_getElem? (i := 78) rfl)) (hw _ (List.mem_of_getElem? (i := 77) rfl)) (hw _ (List.mem_of_getElem? (i := 69) rfl)) (hw _ (List.mem_of_getElem? (i := 79) rfl)) (by decide) pd_5 rfl rfl rfl (Nat.le_of_ble_eq_true rfl) (Nat.le_of_ble_eq_true rfl) (Nat.le_of_ble_eq_true rfl) (Nat.le_of_ble_eq_true rfl) (fun _ q => nomatch q) ?_
  intro v vm' h' hQ hsz hSf hFr
  obtain ⟨rfl, rfl⟩ := hQ
  simp only [Option.toList_some, List.cons_append, List.nil_append]
  refine R_istore_n C iw_5 rfl ?_
  simp only [fv0, fv1, fv2, fv3, List.set_cons_zero, List.set_cons_succ]
  refine R_iload_n C iw_6 rfl ?_
  refine R_sipush C iw_7 (v := 28672) rfl ?_
  refine R_iand C iw_10 ?_
  refine R_sipush C iw_11 (v := 16384) rfl ?_
  refine R_icmp C iw_14 (fun (hc : ¬ tabv x.toInt.toNat &&& 28672 = 16384) => ?_) (fun (hc : ¬ ¬ tabv x.toInt.toNat &&& 28672 = 16384) => ?_)
  · refine R_iconst C iw_21 (v := 0) rfl ?_
    exact R_retN C iw_22 rfl (Or.inl rfl) (Nat.le_refl _) (Nat.le_refl _) ⟨by rw [if_neg hc]; rfl, rfl⟩
  · refine R_iconst C iw_17 (v := 1) rfl ?_
    refine R_goto C iw_18 ?_
    exact R_retN C iw_22 rfl (Or.inl rfl) (Nat.le_refl _) (Nat.le_refl _) ⟨by rw [if_pos (Decidable.not_not.mp hc)]; rfl, rfl⟩
theorem met_gc (l : Launch) (Z : State) (a0 : Array Value) (hw : ∀ d ∈ tables_1, d.before a0 Z = true) (nw : Prop) (EL : List (String × Nat)) (hEL : EW Z a0 EL) (h : Heap) (b : Addr) (n : Nat) (g : Nat → Int32) (A : AR Z h b .byte n (fun i => by8 (g i))) (hg : ∀ i, i < n → 0 ≤ (g i).toInt ∧ (g i).toInt ≤ 255) (iI : Int32) (i : Nat) (hi : iI.toInt = i) (hin : i < n) :
    Met l Z nw EL ⟨LAT, "getChar", "([BI)C"⟩ jdk_43_method_44_code 2 (some .char) ⟨0, 0, 0, 0⟩ #[.ref b, .int iI] h [] (fun v h' => v = some (.int (g i)) ∧ h' = h) := by
  refine Met.mk (a0 := a0) hEL pn_lat ?_
  intro p e s m below meth c C hE hS
  rw [efRI2]
  refine R_aload_n C gc_0 rfl rfl ?_
  refine R_iload_n C gc_1 rfl ?_
  refine R_baload C (i) gc_2 (A) (hi) (hin) (rfl) ?_
  refine R_sipush C gc_3 (v := 255) rfl ?_
  refine R_iand C gc_6 ?_
  refine R_i2c C gc_7 ?_
  refine R_retN C gc_8 rfl (Or.inr (Or.inr (Or.inl rfl))) (Nat.le_refl _) (Nat.le_refl _) ⟨?_, rfl⟩
  rw [nar_nar_char, byte_back (hg i hin).1 (hg i hin).2]
def NonW (x : Int32) : Prop := ¬ x = 32 ∧ ¬ x = 9 ∧ ¬ tabv x.toInt.toNat &&& 28672 = 16384
theorem met_nw (l : Launch) (Z : State) (a0 : Array Value) (hw : ∀ d ∈ tables_1, d.before a0 Z = true) (nw : Prop) (EL : List (String × Nat)) (hEL : EW Z a0 EL) (ci ta : Addr) (D : CD Z ci ta) (h : Heap) (b : Addr) (n : Nat) (g : Nat → Int32) (A : AR Z h b .byte n (fun i => by8 (g i))) (hg : ∀ i, i < n → 0 ≤ (g i).toInt ∧ (g i).toInt ≤ 255) (i0 : Nat) (hi0 : i0 < n) (hn0 : NonW (g i0)) :
    Met l Z nw EL ⟨LAT, "indexOfNonWhitespace", "([B)I"⟩ jdk_43_method_37_code 4 (some .int) ⟨2, 0, 0, 29⟩ #[.ref b] h [] (fun v h' => ∃ r : Int32, v = some (.int r) ∧ 0 ≤ r.toInt ∧ r.toInt < n ∧ h' = h) := by
  have h31 := A.small
  refine Met.mk (a0 := a0) hEL pn_lat ?_
  intro p e s m below meth c C hE hS
  rw [efnw]
  have one : (1 : Int32).toInt = 1 := rfl
  have loop : ∀ (t i : Nat) (vm : Vm) (iI : Int32) (s3 : Slot), i + t = i0 → okSlot s3 = true → iI.toInt = i →
      Run p l e ⟨2, 0, 0, 29⟩ s m #[.ref b] below meth c Z nw EL (Kf s Z nw EL ⟨2, 0, 0, 29⟩ (fun v h' => ∃ r : Int32, v = some (.int r) ∧ 0 ≤ r.toInt ∧ r.toInt < n ∧ h' = h)) vm h 0 0 (fr m 5 [.val (.ref b), .val (.int n.toInt32), .val (.int iI), s3] []) := by
    intro t
    induction t with
    | zero =>
      intro i vm iI s3 ht o3 hi
      have hi' : i = i0 := by omega
      subst hi'
      refine R_iload_n C nw_5 rfl ?_
      refine R_iload_n C nw_6 rfl ?_
      refine R_icmp C nw_7 (fun (hc : ¬ iI < n.toInt32) => absurd (Int32.lt_iff_toInt_lt.mpr (by rw [len_toInt h31]; omega)) hc) (fun _ => ?_)
      refine R_aload_n C nw_10 rfl rfl ?_
      refine R_iload_n C nw_11 rfl ?_
      refine R_static C [.ref b, .int iI] nw_12 (met_gc l Z a0 hw nw EL hEL h b n g A hg iI i hi hi0) (by first | exact fun z => z | exact fun _ => trivial) (hw _ (List.mem_of_getElem? (i := 65) rfl)) (hw _ (List.mem_of_getElem? (i := 66) rfl)) (hw _ (List.mem_of_getElem? (i := 63) rfl)) (hw _ (List.mem_of_getElem? (i := 67) rfl)) (by decide) pd_6 rfl rfl rfl (Nat.le_of_ble_eq_true rfl) (Nat.le_of_ble_eq_true rfl) (Nat.le_of_ble_eq_true rfl) (Nat.le_of_ble_eq_true rfl) (fun _ q => nomatch q) ?_
      intro v vm2 h2 hQ hsz2 hSf2 hFr
      obtain ⟨rfl, rfl⟩ := hQ
      simp only [Option.toList_some, List.cons_append, List.nil_append]
      refine R_istore_n C nw_15 o3 ?_
      simp only [fv0, fv1, fv2, fv3, List.set_cons_zero, List.set_cons_succ]
      refine R_iload_n C nw_16 rfl ?_
      refine R_bipush C nw_17 (v := 32) rfl ?_
      refine R_icmp C nw_19 (fun hc => absurd hc hn0.1) (fun _ => ?_)
      refine R_iload_n C nw_22 rfl ?_
      refine R_bipush C nw_23 (v := 9) rfl ?_
      refine R_icmp C nw_25 (fun hc => absurd hc hn0.2.1) (fun _ => ?_)
      refine R_getstatic C nw_28 (hw _ (List.mem_of_getElem? (i := 68) rfl)) Via.refl (D.1.ext hE) ?_
      refine R_iload_n C nw_31 rfl ?_
      refine R_virtual C [.int (g i)] nw_32 (met_iw l Z a0 hw nw EL hEL ci ta D h2 (D.2.1.ext hE) (g i) (hg i hi0).1 (hg i hi0).2) (by first | exact fun z => z | exact fun _ => trivial) (D.2.1.ext hE) (hw _ (List.mem_of_getElem? (i := 70) rfl)) (hw _ (List.mem_of_getElem? (i := 71) rfl)) (hw _ (List.mem_of_getElem? (i := 73) rfl)) (hw _ (List.mem_of_getElem? (i := 72) rfl)) (hw _ (List.mem_of_getElem? (i := 69) rfl)) (hw _ (List.mem_of_getElem? (i := 74) rfl)) (by decide) pd_7 rfl rfl rfl (Nat.le_of_ble_eq_true rfl) (Nat.le_of_ble_eq_true rfl) (Nat.le_of_ble_eq_true rfl) (Nat.le_of_ble_eq_true rfl) (fun _ q => nomatch q) ?_
      intro v vm3 h3 hQ hsz3 hSf3 hFr
      obtain ⟨rfl, rfl⟩ := hQ
      rw [if_neg hn0.2.2]
      simp only [Option.toList_some, List.cons_append, List.nil_append]
      refine R_if C nw_35 (fun hc => absurd rfl hc) (fun _ => ?_)
      refine R_goto C nw_38 ?_
      refine R_iload_n C nw_47 rfl ?_
      exact R_retI C nw_48 rfl (Nat.le_refl _) (Nat.le_refl _) ⟨_, rfl, by omega, by omega, rfl⟩
    | succ t ih =>
      intro i vm iI s3 ht o3 hi
      have hin : i < n := by omega
      have r1 := Jvm.Kit.i32_add (p := iI) (q := 1) (by omega) (by omega)
      refine R_iload_n C nw_5 rfl ?_
      refine R_iload_n C nw_6 rfl ?_
      refine R_icmp C nw_7 (fun (hc : ¬ iI < n.toInt32) => absurd (Int32.lt_iff_toInt_lt.mpr (by rw [len_toInt h31]; omega)) hc) (fun _ => ?_)
      refine R_aload_n C nw_10 rfl rfl ?_
      refine R_iload_n C nw_11 rfl ?_
      refine R_static C [.ref b, .int iI] nw_12 (met_gc l Z a0 hw nw EL hEL h b n g A hg iI i hi hin) (by first | exact fun z => z | exact fun _ => trivial) (hw _ (List.mem_of_getElem? (i := 65) rfl)) (hw _ (List.mem_of_getElem? (i := 66) rfl)) (hw _ (List.mem_of_getElem? (i := 63) rfl)) (hw _ (List.mem_of_getElem? (i := 67) rfl)) (by decide) pd_6 rfl rfl rfl (Nat.le_of_ble_eq_true rfl) (Nat.le_of_ble_eq_true rfl) (Nat.le_of_ble_eq_true rfl) (Nat.le_of_ble_eq_true rfl) (fun _ q => nomatch q) ?_
      intro v vm2 h2 hQ hsz2 hSf2 hFr
      obtain ⟨rfl, rfl⟩ := hQ
      simp only [Option.toList_some, List.cons_append, List.nil_append]
      refine R_istore_n C nw_15 o3 ?_
      simp only [fv0, fv1, fv2, fv3, List.set_cons_zero, List.set_cons_succ]
      refine R_iload_n C nw_16 rfl ?_
      refine R_bipush C nw_17 (v := 32) rfl ?_
      refine R_icmp C nw_19 (fun _ => ?_) (fun _ => ?_)
      · refine R_iinc C nw_41 rfl rfl (dI := 1) rfl rfl ?_
        simp only [fv0, fv1, fv2, fv3, List.set_cons_zero, List.set_cons_succ]
        refine R_goto C nw_44 ?_
        exact ih (i + 1) _ _ _ (by omega) rfl (by omega)
      · refine R_iload_n C nw_22 rfl ?_
        refine R_bipush C nw_23 (v := 9) rfl ?_
        refine R_icmp C nw_25 (fun _ => ?_) (fun _ => ?_)
        · refine R_iinc C nw_41 rfl rfl (dI := 1) rfl rfl ?_
          simp only [fv0, fv1, fv2, fv3, List.set_cons_zero, List.set_cons_succ]
          refine R_goto C nw_44 ?_
          exact ih (i + 1) _ _ _ (by omega) rfl (by omega)
        · refine R_getstatic C nw_28 (hw _ (List.mem_of_getElem? (i := 68) rfl)) Via.refl (D.1.ext hE) ?_
          refine R_iload_n C nw_31 rfl ?_
          refine R_virtual C [.int (g i)] nw_32 (met_iw l Z a0 hw nw EL hEL ci ta D h2 (D.2.1.ext hE) (g i) (hg i hin).1 (hg i hin).2) (by first | exact fun z => z | exact fun _ => trivial) (D.2.1.ext hE) (hw _ (List.mem_of_getElem? (i := 70) rfl)) (hw _ (List.mem_of_getElem? (i := 71) rfl)) (hw _ (List.mem_of_getElem? (i := 73) rfl)) (hw _ (List.mem_of_getElem? (i := 72) rfl)) (hw _ (List.mem_of_getElem? (i := 69) rfl)) (hw _ (List.mem_of_getElem? (i := 74) rfl)) (by decide) pd_7 rfl rfl rfl (Nat.le_of_ble_eq_true rfl) (Nat.le_of_ble_eq_true rfl) (Nat.le_of_ble_eq_true rfl) (Nat.le_of_ble_eq_true rfl) (fun _ q => nomatch q) ?_
          intro v vm3 h3 hQ hsz3 hSf3 hFr
          obtain ⟨rfl, rfl⟩ := hQ
          simp only [Option.toList_some, List.cons_append, List.nil_append]
          refine R_if C nw_35 (fun _ => ?_) (fun _ => ?_)
          · refine R_iinc C nw_41 rfl rfl (dI := 1) rfl rfl ?_
            simp only [fv0, fv1, fv2, fv3, List.set_cons_zero, List.set_cons_succ]
            refine R_goto C nw_44 ?_
            exact ih (i + 1) _ _ _ (by omega) rfl (by omega)
          · refine R_goto C nw_38 ?_
            refine R_iload_n C nw_47 rfl ?_
            exact R_retI C nw_48 rfl (Nat.le_refl _) (Nat.le_refl _) ⟨_, rfl, by omega, by omega, rfl⟩
  refine R_aload_n C nw_0 rfl rfl ?_
  refine R_arraylength C nw_1 (A) rfl ?_
  refine R_istore_n C nw_2 rfl ?_
  simp only [fv0, fv1, fv2, fv3, List.set_cons_zero, List.set_cons_succ]
  refine R_iconst C nw_3 (v := 0) rfl ?_
  refine R_istore_n C nw_4 rfl ?_
  simp only [fv0, fv1, fv2, fv3, List.set_cons_zero, List.set_cons_succ]
  exact loop i0 0 _ _ _ (by omega) rfl rfl
theorem met_isLat (l : Launch) (Z : State) (a0 : Array Value) (hw : ∀ d ∈ tables_1, d.before a0 Z = true) (nw : Prop) (EL : List (String × Nat)) (hEL : EW Z a0 EL) (cs : Int32) (fm : Value) (S : SS Z cs fm) (h : Heap) (a : Addr) (k : Int32) (F : Fld Z h a STR "coder" "B" (.int k)) :
    Met l Z nw EL ⟨STR, "isLatin1", "()Z"⟩ jdk_42_method_154_code 1 (some .boolean) ⟨0, 0, 0, 0⟩ #[.ref a] h [] (fun v h' => v = some (.int (if k = 0 then 1 else 0)) ∧ h' = h) := by
  refine Met.mk (a0 := a0) hEL pn_str ?_
  intro p e s m below meth c C hE hS
  rw [efs1]
  refine R_getstatic C il_0 (hw _ (List.mem_of_getElem? (i := 19) rfl)) Via.refl (S.2.1.ext hE) ?_
  refine R_if C il_3 (fun hc => absurd hc S.1) (fun _ => ?_)
  refine R_aload_n C il_6 rfl rfl ?_
  refine R_getfield C il_7 (hw _ (List.mem_of_getElem? (i := 31) rfl)) Via.refl (F) ?_
  refine R_if C il_10 (fun (hc : ¬ k = 0) => ?_) (fun (hc : ¬ ¬ k = 0) => ?_)
  · refine R_iconst C il_17 (v := 0) rfl ?_
    exact R_retN C il_18 rfl (Or.inl rfl) (Nat.le_refl _) (Nat.le_refl _) ⟨by rw [if_neg hc]; rfl, rfl⟩
  · refine R_iconst C il_13 (v := 1) rfl ?_
    refine R_goto C il_14 ?_
    exact R_retN C il_18 rfl (Or.inl rfl) (Nat.le_refl _) (Nat.le_refl _) ⟨by rw [if_pos (Decidable.not_not.mp hc)]; rfl, rfl⟩
theorem met_sn (l : Launch) (Z : State) (a0 : Array Value) (hw : ∀ d ∈ tables_1, d.before a0 Z = true) (nw : Prop) (EL : List (String × Nat)) (hEL : EW Z a0 EL) (cs : Int32) (fm : Value) (S : SS Z cs fm) (ci ta : Addr) (D : CD Z ci ta) (h : Heap) (a b : Addr) (n : Nat) (g : Nat → Int32) (X : StrL Z h a b n g) (i0 : Nat) (hi0 : i0 < n) (hn0 : NonW (g i0)) :
    Met l Z nw EL ⟨STR, "indexOfNonWhitespace", "()I"⟩ jdk_42_method_120_code 1 (some .int) ⟨3, 0, 0, 44⟩ #[.ref a] h [] (fun v h' => ∃ r : Int32, v = some (.int r) ∧ 0 ≤ r.toInt ∧ r.toInt < n ∧ h' = h) := by
  obtain ⟨E, V, F, A, hg⟩ := X
  refine Met.mk (a0 := a0) hEL pn_str ?_
  intro p e s m below meth c C hE hS
  rw [efs1]
  refine R_aload_n C sn_0 rfl rfl ?_
  refine R_virtual C [] sn_1 (met_isLat l Z a0 hw nw EL hEL cs fm S h a 0 F) (by first | exact fun z => z | exact fun _ => trivial) (E) (hw _ (List.mem_of_getElem? (i := 56) rfl)) (hw _ (List.mem_of_getElem? (i := 57) rfl)) (hw _ (List.mem_of_getElem? (i := 59) rfl)) (hw _ (List.mem_of_getElem? (i := 58) rfl)) (hw _ (List.mem_of_getElem? (i := 8) rfl)) (hw _ (List.mem_of_getElem? (i := 60) rfl)) (by decide) pd_8 rfl rfl rfl (Nat.le_of_ble_eq_true rfl) (Nat.le_of_ble_eq_true rfl) (Nat.le_of_ble_eq_true rfl) (Nat.le_of_ble_eq_true rfl) (fun _ q => nomatch q) ?_
  intro v vm' h' hQ hsz hSf hFr
  obtain ⟨rfl, rfl⟩ := hQ
  rw [if_pos rfl]
  simp only [Option.toList_some, List.cons_append, List.nil_append]
  refine R_if C sn_4 (fun (hc : (1 : Int32) = 0) => absurd hc (by decide)) (fun _ => ?_)
  refine R_aload_n C sn_7 rfl rfl ?_
  refine R_getfield C sn_8 (hw _ (List.mem_of_getElem? (i := 33) rfl)) Via.refl (V) ?_
  refine R_static C [.ref b] sn_11 (met_nw l Z a0 hw nw EL hEL ci ta D h' b n g A hg i0 hi0 hn0) (by first | exact fun z => z | exact fun _ => trivial) (hw _ (List.mem_of_getElem? (i := 61) rfl)) (hw _ (List.mem_of_getElem? (i := 62) rfl)) (hw _ (List.mem_of_getElem? (i := 63) rfl)) (hw _ (List.mem_of_getElem? (i := 64) rfl)) (by decide) pd_9 rfl rfl rfl (Nat.le_of_ble_eq_true rfl) (Nat.le_of_ble_eq_true rfl) (Nat.le_of_ble_eq_true rfl) (Nat.le_of_ble_eq_true rfl) (fun _ q => nomatch q) ?_
  intro v vm2 h2 hQ hsz2 hSf2 hFr
  obtain ⟨r, rfl, q1, q2, rfl⟩ := hQ
  simp only [Option.toList_some, List.cons_append, List.nil_append]
  refine R_goto C sn_14 ?_
  exact R_retI C sn_24 rfl (Nat.le_refl _) (Nat.le_refl _) ⟨_, rfl, q1, q2, rfl⟩
theorem met_ib (l : Launch) (Z : State) (a0 : Array Value) (hw : ∀ d ∈ tables_1, d.before a0 Z = true) (nw : Prop) (EL : List (String × Nat)) (hEL : EW Z a0 EL) (cs : Int32) (fm : Value) (S : SS Z cs fm) (ci ta : Addr) (D : CD Z ci ta) (h : Heap) (a b : Addr) (n : Nat) (g : Nat → Int32) (X : StrL Z h a b n g) (i0 : Nat) (hi0 : i0 < n) (hn0 : NonW (g i0)) :
    Met l Z nw EL ⟨STR, "isBlank", "()Z"⟩ jdk_42_method_117_code 1 (some .boolean) ⟨4, 0, 0, 56⟩ #[.ref a] h [] (fun v h' => v = some (.int 0) ∧ h' = h) := by
  have h31 := X.2.2.2.1.small
  refine Met.mk (a0 := a0) hEL pn_str ?_
  intro p e s m below meth c C hE hS
  rw [efs1]
  refine R_aload_n C ib_0 rfl rfl ?_
  refine R_private C [] ib_1 (met_sn l Z a0 hw nw EL hEL cs fm S ci ta D h a b n g X i0 hi0 hn0) (by first | exact fun z => z | exact fun _ => trivial) (X.1) (hw _ (List.mem_of_getElem? (i := 51) rfl)) (hw _ (List.mem_of_getElem? (i := 53) rfl)) (hw _ (List.mem_of_getElem? (i := 54) rfl)) (hw _ (List.mem_of_getElem? (i := 52) rfl)) (hw _ (List.mem_of_getElem? (i := 8) rfl)) (hw _ (List.mem_of_getElem? (i := 55) rfl)) (by decide) pd_10 rfl rfl rfl (Nat.le_of_ble_eq_true rfl) (Nat.le_of_ble_eq_true rfl) (Nat.le_of_ble_eq_true rfl) (Nat.le_of_ble_eq_true rfl) (fun _ q => nomatch q) ?_
  intro v vm' h' hQ hsz hSf hFr
  obtain ⟨r, rfl, q1, q2, rfl⟩ := hQ
  simp only [Option.toList_some, List.cons_append, List.nil_append]
  refine R_aload_n C ib_4 rfl rfl ?_
  refine R_virtual C [] ib_5 (met_lengthL l Z a0 hw nw EL hEL cs fm S h' a b n g X) (by first | exact fun z => z | exact fun _ => trivial) (X.1) (hw _ (List.mem_of_getElem? (i := 81) rfl)) (hw _ (List.mem_of_getElem? (i := 82) rfl)) (hw _ (List.mem_of_getElem? (i := 84) rfl)) (hw _ (List.mem_of_getElem? (i := 83) rfl)) (hw _ (List.mem_of_getElem? (i := 8) rfl)) (hw _ (List.mem_of_getElem? (i := 85) rfl)) (by decide) pd_10 rfl rfl rfl (Nat.le_of_ble_eq_true rfl) (Nat.le_of_ble_eq_true rfl) (Nat.le_of_ble_eq_true rfl) (Nat.le_of_ble_eq_true rfl) (fun _ q => nomatch q) ?_
  intro v vm2 h2 hQ hsz2 hSf2 hFr
  obtain ⟨rfl, rfl⟩ := hQ
  simp only [Option.toList_some, List.cons_append, List.nil_append]
  refine R_icmp C ib_8 (fun _ => ?_) (fun (hc : ¬ ¬ r = n.toInt32) => absurd (show ¬ r = n.toInt32 from fun z => ?_) hc)
  · refine R_iconst C ib_15 (v := 0) rfl ?_
    exact R_retN C ib_16 rfl (Or.inl rfl) (Nat.le_refl _) (Nat.le_refl _) ⟨rfl, rfl⟩
  · rw [z, len_toInt h31] at q2
    omega
theorem met_rn (l : Launch) (Z : State) (a0 : Array Value) (hw : ∀ d ∈ tables_1, d.before a0 Z = true) (nw : Prop) (EL : List (String × Nat)) (hEL : EW Z a0 EL) (h : Heap) (a b : Addr) :
    Met l Z nw EL ⟨"java/util/Objects", "requireNonNull", "(Ljava/lang/Object;Ljava/lang/String;)Ljava/lang/Object;"⟩ jdk_31_method_11_code 2 (some (.object "java/lang/Object")) ⟨0, 0, 0, 0⟩ #[.ref a, .ref b] h [] (fun v h' => v = some (.ref a) ∧ h' = h) := by
  refine Met.mk (a0 := a0) hEL pn_obj ?_
  intro p e s m below meth c C hE hS
  rw [efi2]
  refine R_aload_n C rn_0 rfl rfl ?_
  refine R_ifnonnull_y C rn_1 ?_
  refine R_aload_n C rn_13 rfl rfl ?_
  exact R_areturn C rn_14 rfl rfl rfl (Nat.le_refl _) (Nat.le_refl _) ⟨rfl, rfl⟩
theorem met_eqs (l : Launch) (Z : State) (a0 : Array Value) (hw : ∀ d ∈ tables_1, d.before a0 Z = true) (nw : Prop) (EL : List (String × Nat)) (hEL : EW Z a0 EL) (h : Heap) (a : Addr) :
    Met l Z nw EL ⟨STR, "equals", "(Ljava/lang/Object;)Z"⟩ jdk_42_method_66_code 3 (some .boolean) ⟨0, 0, 0, 0⟩ #[.ref a, .ref a] h [] (fun v h' => v = some (.int 1) ∧ h' = h) := by
  refine Met.mk (a0 := a0) hEL pn_str ?_
  intro p e s m below meth c C hE hS
  rw [efeq]
  refine R_aload_n C eq_0 rfl rfl ?_
  refine R_aload_n C eq_1 rfl rfl ?_
  refine R_acmp_ne C eq_2 rfl rfl (fun z => absurd rfl z) (fun _ => ?_)
  refine R_iconst C eq_5 (v := 1) rfl ?_
  exact R_retN C eq_6 rfl (Or.inl rfl) (Nat.le_refl _) (Nat.le_refl _) ⟨rfl, rfl⟩
theorem met_rq (l : Launch) (Z : State) (a0 : Array Value) (hw : ∀ d ∈ tables_1, d.before a0 Z = true) (cs : Int32) (fm : Value) (S : SS Z cs fm) (ci ta : Addr) (D : CD Z ci ta) (h : Heap) (a b : Addr) (n : Nat) (g : Nat → Int32) (X : StrL Z h a b n g) (hn : n ≤ 120) (i0 : Nat) (hi0 : i0 < n) (hn0 : NonW (g i0)) :
    Met l Z False [] ⟨BRO, "requireResourceName", "(Ljava/lang/String;)Ljava/lang/String;"⟩ prog_5_method_2_code 1 (some (.object "java/lang/String")) ⟨5, 2, 20, 68⟩ #[.ref a] h [] (fun v h' => v = some (.ref a) ∧ Exa Z h' a STR) := by
  refine Met.mk (a0 := a0) EW.nil pn_bro ?_
  intro p e s m below meth c C hE hS
  rw [efs1]
  refine R_aload_n C rq_0 rfl rfl ?_
  refine R_ldcO C 16 rq_1 (fun z => z) (hw _ (List.mem_of_getElem? (i := 39) rfl)) (wS_1 hw) (by decide) (by decide) (Nat.le_of_ble_eq_true rfl) (Nat.le_of_ble_eq_true rfl) ?_
  intro b1 vm1 h1 E1 _
  have X1 : StrL Z h1 a b n g := ⟨X.1.ext E1, X.2.1.ext E1, X.2.2.1.ext E1, X.2.2.2.1.ext E1, X.2.2.2.2⟩
  refine R_static C [.ref a, .ref b1] rq_3 (met_rn l Z a0 hw False [] EW.nil h1 a b1) (by first | exact fun z => z | exact fun _ => trivial) (hw _ (List.mem_of_getElem? (i := 42) rfl)) (hw _ (List.mem_of_getElem? (i := 43) rfl)) (hw _ (List.mem_of_getElem? (i := 44) rfl)) (hw _ (List.mem_of_getElem? (i := 45) rfl)) (by decide) pd_11 rfl rfl rfl (Nat.le_of_ble_eq_true rfl) (Nat.le_of_ble_eq_true rfl) (Nat.le_of_ble_eq_true rfl) (Nat.le_of_ble_eq_true rfl) (fun _ q => nomatch q) ?_
  intro v vm2 h2 hQ hsz2 hSf2 hFr
  obtain ⟨rfl, rfl⟩ := hQ
  simp only [Option.toList_some, List.cons_append, List.nil_append]
  refine R_pop C rq_6 rfl ?_
  refine R_aload_n C rq_7 rfl rfl ?_
  refine R_virtual C [] rq_8 (met_ib l Z a0 hw False [] EW.nil cs fm S ci ta D h2 a b n g X1 i0 hi0 hn0) (by first | exact fun z => z | exact fun _ => trivial) (X1.1) (hw _ (List.mem_of_getElem? (i := 46) rfl)) (hw _ (List.mem_of_getElem? (i := 47) rfl)) (hw _ (List.mem_of_getElem? (i := 49) rfl)) (hw _ (List.mem_of_getElem? (i := 48) rfl)) (hw _ (List.mem_of_getElem? (i := 8) rfl)) (hw _ (List.mem_of_getElem? (i := 50) rfl)) (by decide) pd_8 rfl rfl rfl (Nat.le_of_ble_eq_true rfl) (Nat.le_of_ble_eq_true rfl) (Nat.le_of_ble_eq_true rfl) (Nat.le_of_ble_eq_true rfl) (fun _ q => nomatch q) ?_
  intro v vm3 h3 hQ hsz3 hSf3 hFr
  obtain ⟨rfl, rfl⟩ := hQ
  simp only [Option.toList_some, List.cons_append, List.nil_append]
  refine R_if C rq_11 (fun hc => absurd rfl hc) (fun _ => ?_)
  refine R_aload_n C rq_14 rfl rfl ?_
  refine R_virtual C [] rq_15 (met_lengthL l Z a0 hw False [] EW.nil cs fm S h3 a b n g X1) (by first | exact fun z => z | exact fun _ => trivial) (X1.1) (hw _ (List.mem_of_getElem? (i := 91) rfl)) (hw _ (List.mem_of_getElem? (i := 82) rfl)) (hw _ (List.mem_of_getElem? (i := 84) rfl)) (hw _ (List.mem_of_getElem? (i := 83) rfl)) (hw _ (List.mem_of_getElem? (i := 8) rfl)) (hw _ (List.mem_of_getElem? (i := 85) rfl)) (by decide) pd_10 rfl rfl rfl (Nat.le_of_ble_eq_true rfl) (Nat.le_of_ble_eq_true rfl) (Nat.le_of_ble_eq_true rfl) (Nat.le_of_ble_eq_true rfl) (fun _ q => nomatch q) ?_
  intro v vm4 h4 hQ hsz4 hSf4 hFr
  obtain ⟨rfl, rfl⟩ := hQ
  simp only [Option.toList_some, List.cons_append, List.nil_append]
  refine R_bipush C rq_18 (v := 120) rfl ?_
  refine R_icmp C rq_20 (fun _ => ?_) (fun (hc : ¬ ¬ (120 : Int32) < n.toInt32) => absurd (show ¬ (120 : Int32) < n.toInt32 from ?_) hc)
  · refine R_aload_n C rq_37 rfl rfl ?_
    exact R_areturn C rq_38 rfl rfl rfl (Nat.le_of_ble_eq_true rfl) (Nat.le_of_ble_eq_true rfl) ⟨rfl, X1.1⟩
  · rw [Int32.lt_iff_toInt_lt, len_toInt X1.2.2.2.1.small, show (120 : Int32).toInt = 120 from rfl]
    omega
theorem met_mk (l : Launch) (Z : State) (a0 : Array Value) (hw : ∀ d ∈ tables_1, d.before a0 Z = true) (h : Heap) (x : Int32) :
    Met l Z False [] ⟨LAW, "make", "(I)[C"⟩ method_2_code 1 (some (.array .char)) ⟨0, 1, 120, 0⟩ #[.int x] h [] (fun v h' => v = some (.ref h.size) ∧ Ext h h' ∧ ∃ N, 0 < N ∧ N ≤ 120 ∧ AR Z h' h.size .char N (fun _ => .int 0)) := by
  refine Met.mk (a0 := a0) EW.nil pn_law ?_
  intro p e s m below meth c C hE hS
  rw [efmk]
  refine R_iload_n C mk_0 rfl ?_
  refine R_if C mk_1 (fun _ => ?_) (fun _ => ?_)
  · refine R_iload_n C mk_8 rfl ?_
    refine R_iconst C mk_9 (v := 1) rfl ?_
    refine R_icmp C mk_10 (fun _ => ?_) (fun _ => ?_)
    · refine R_iload_n C mk_17 rfl ?_
      refine R_iconst C mk_18 (v := 2) rfl ?_
      refine R_icmp C mk_19 (fun _ => ?_) (fun _ => ?_)
      · refine R_iload_n C mk_26 rfl ?_
        refine R_iconst C mk_27 (v := 3) rfl ?_
        refine R_icmp C mk_28 (fun _ => ?_) (fun _ => ?_)
        · refine R_bipush C mk_36 (v := 120) rfl ?_
          refine R_newarray C 120 mk_38 (hw _ (List.mem_of_getElem? (i := 5) rfl)) (N := 120) rfl (by decide) (by decide) (Nat.le_of_ble_eq_true rfl) (Nat.le_of_ble_eq_true rfl) rfl ?_
          intro h1 E1 D1 _ _
          exact R_areturn C mk_40 rfl rfl rfl (Nat.le_of_ble_eq_true rfl) (Nat.le_of_ble_eq_true rfl) ⟨rfl, E1, 120, by decide, by decide, D1⟩
        · refine R_bipush C mk_31 (v := 119) rfl ?_
          refine R_newarray C 120 mk_33 (hw _ (List.mem_of_getElem? (i := 5) rfl)) (N := 119) rfl (by decide) (by decide) (Nat.le_of_ble_eq_true rfl) (Nat.le_of_ble_eq_true rfl) rfl ?_
          intro h1 E1 D1 _ _
          exact R_areturn C mk_35 rfl rfl rfl (Nat.le_of_ble_eq_true rfl) (Nat.le_of_ble_eq_true rfl) ⟨rfl, E1, 119, by decide, by decide, D1⟩
      · refine R_iconst C mk_22 (v := 3) rfl ?_
        refine R_newarray C 120 mk_23 (hw _ (List.mem_of_getElem? (i := 5) rfl)) (N := 3) rfl (by decide) (by decide) (Nat.le_of_ble_eq_true rfl) (Nat.le_of_ble_eq_true rfl) rfl ?_
        intro h1 E1 D1 _ _
        exact R_areturn C mk_25 rfl rfl rfl (Nat.le_of_ble_eq_true rfl) (Nat.le_of_ble_eq_true rfl) ⟨rfl, E1, 3, by decide, by decide, D1⟩
    · refine R_iconst C mk_13 (v := 2) rfl ?_
      refine R_newarray C 120 mk_14 (hw _ (List.mem_of_getElem? (i := 5) rfl)) (N := 2) rfl (by decide) (by decide) (Nat.le_of_ble_eq_true rfl) (Nat.le_of_ble_eq_true rfl) rfl ?_
      intro h1 E1 D1 _ _
      exact R_areturn C mk_16 rfl rfl rfl (Nat.le_of_ble_eq_true rfl) (Nat.le_of_ble_eq_true rfl) ⟨rfl, E1, 2, by decide, by decide, D1⟩
  · refine R_iconst C mk_4 (v := 1) rfl ?_
    refine R_newarray C 120 mk_5 (hw _ (List.mem_of_getElem? (i := 5) rfl)) (N := 1) rfl (by decide) (by decide) (Nat.le_of_ble_eq_true rfl) (Nat.le_of_ble_eq_true rfl) rfl ?_
    intro h1 E1 D1 _ _
    exact R_areturn C mk_7 rfl rfl rfl (Nat.le_of_ble_eq_true rfl) (Nat.le_of_ble_eq_true rfl) ⟨rfl, E1, 1, by decide, by decide, D1⟩
theorem nonw_tab : ∀ k : Fin 223, ¬ Int32.ofNat (33 + k.val) = 32 ∧ ¬ Int32.ofNat (33 + k.val) = 9 ∧ ¬ tabv (33 + k.val) &&& 28672 = 16384 := by decide +kernel
theorem nonw_of {x : Int32} (h0 : 33 ≤ x.toInt) (h1 : x.toInt ≤ 255) : NonW x := by
  have z := nonw_tab ⟨x.toInt.toNat - 33, by omega⟩
  have e1 : 33 + (x.toInt.toNat - 33) = x.toInt.toNat := by omega
  dsimp only at z
  rw [e1, ← ofNat_toInt (by omega)] at z
  exact z
theorem met_law (l : Launch) (Z : State) (a0 : Array Value) (hw : ∀ d ∈ tables_1, d.before a0 Z = true) (cs : Int32) (fm : Value) (SC : SS Z cs fm) (ci ta : Addr) (D : CD Z ci ta) (x0 x1 x2 x3 : Int32) :
    Met l Z False [] x code 14 (some .boolean) room_1 #[.int x0, .int x1, .int x2, .int x3] Z.heap [] (fun v h' => v = some (.int 1)) := by
  refine Met.mk (a0 := a0) EW.nil pn_law ?_
  intro p e s m below meth c C hE hS
  rw [eflw]
  have one : (1 : Int32).toInt = 1 := rfl
  have two : (2 : Int32).toInt = 2 := rfl
  obtain ⟨cb, hcb⟩ : ∃ z, z = nar .char (x1 &&& 255) := ⟨_, rfl⟩
  obtain ⟨cc, hcc⟩ : ∃ z, z = nar .char (x2 &&& 255) := ⟨_, rfl⟩
  obtain ⟨cg, hcg⟩ : ∃ z, z = nar .char (33 + (x0 &&& 2147483647) % 223) := ⟨_, rfl⟩
  have bcb : 0 ≤ cb.toInt ∧ cb.toInt ≤ 255 := by
    have z := i32_mask x1 255 (k := 8) (by decide) (by decide)
    rw [hcb, nar_char_id (by omega) (by omega)]
    omega
  have bcc : 0 ≤ cc.toInt ∧ cc.toInt ≤ 255 := by
    have z := i32_mask x2 255 (k := 8) (by decide) (by decide)
    rw [hcc, nar_char_id (by omega) (by omega)]
    omega
  have bcg : 33 ≤ cg.toInt ∧ cg.toInt ≤ 255 := by
    have z := i32_mask x0 2147483647 (k := 31) (by decide) (by decide)
    have z2 := i32_rem_nonneg (x := x0 &&& 2147483647) (y := 223) (by omega)
    rw [show (223 : Int32).toInt = 223 from rfl] at z2
    have z3 := Jvm.Kit.i32_add (p := 33) (q := (x0 &&& 2147483647) % 223) (by rw [show (33 : Int32).toInt = 33 from rfl]; omega) (by rw [show (33 : Int32).toInt = 33 from rfl]; omega)
    rw [show (33 : Int32).toInt = 33 from rfl] at z3
    rw [hcg, nar_char_id (by omega) (by omega)]
    omega
  refine R_iload_n C lw_0 rfl ?_
  refine R_ldcInt C lw_1 (hw _ (List.mem_of_getElem? (i := 0) rfl)) ?_
  refine R_iand C lw_3 ?_
  refine R_iconst C lw_4 (v := 5) rfl ?_
  refine R_irem C lw_5 (by decide) ?_
  refine R_istore C lw_6 rfl ?_
  simp only [fv0, fv1, fv2, fv3, List.set_cons_zero, List.set_cons_succ]
  refine R_iload C lw_8 rfl ?_
  refine R_static C [.int ((x3 &&& 2147483647) % 5)] lw_10 (met_mk l Z a0 hw Z.heap ((x3 &&& 2147483647) % 5)) (by first | exact fun z => z | exact fun _ => trivial) (hw _ (List.mem_of_getElem? (i := 1) rfl)) (hw _ (List.mem_of_getElem? (i := 2) rfl)) (hw _ (List.mem_of_getElem? (i := 3) rfl)) (hw _ (List.mem_of_getElem? (i := 4) rfl)) (by decide) pd_12 rfl rfl rfl (Nat.le_of_ble_eq_true rfl) (Nat.le_of_ble_eq_true rfl) (Nat.le_of_ble_eq_true rfl) (Nat.le_of_ble_eq_true rfl) (fun _ q => nomatch q) ?_
  intro v vm1 h1 hQ hsz1 hSf1 hFr
  obtain ⟨rfl, E1, N, hN0, hN, A1⟩ := hQ
  simp only [Option.toList_some, List.cons_append, List.nil_append]
  have hn31 : N.toInt32.toInt = N := len_toInt A1.small
  have q1 := i32_sub (p := N.toInt32) (q := 1) (by omega) (by omega)
  have hZ1 : Z.heap.size ≤ Z.heap.size := Nat.le_refl _
  refine R_astore C lw_13 rfl rfl rfl ?_
  simp only [fv0, fv1, fv2, fv3, List.set_cons_zero, List.set_cons_succ]
  refine R_aload C lw_15 rfl rfl ?_
  refine R_arraylength C lw_17 (A1) rfl ?_
  refine R_istore C lw_18 rfl ?_
  simp only [fv0, fv1, fv2, fv3, List.set_cons_zero, List.set_cons_succ]
  refine R_iload_n C lw_20 rfl ?_
  refine R_sipush C lw_21 (v := 255) rfl ?_
  refine R_iand C lw_24 ?_
  refine R_i2c C lw_25 ?_
  rw [← hcb]
  refine R_istore C lw_26 rfl ?_
  simp only [fv0, fv1, fv2, fv3, List.set_cons_zero, List.set_cons_succ]
  refine R_iload_n C lw_28 rfl ?_
  refine R_sipush C lw_29 (v := 255) rfl ?_
  refine R_iand C lw_32 ?_
  refine R_i2c C lw_33 ?_
  rw [← hcc]
  refine R_istore C lw_34 rfl ?_
  simp only [fv0, fv1, fv2, fv3, List.set_cons_zero, List.set_cons_succ]
  refine R_bipush C lw_36 (v := 33) rfl ?_
  refine R_iload_n C lw_38 rfl ?_
  refine R_ldcInt C lw_39 (hw _ (List.mem_of_getElem? (i := 0) rfl)) ?_
  refine R_iand C lw_41 ?_
  refine R_sipush C lw_42 (v := 223) rfl ?_
  refine R_irem C lw_45 (by decide) ?_
  refine R_iadd C lw_46 ?_
  refine R_i2c C lw_47 ?_
  rw [← hcg]
  refine R_istore C lw_48 rfl ?_
  simp only [fv0, fv1, fv2, fv3, List.set_cons_zero, List.set_cons_succ]
  refine R_aload C lw_50 rfl rfl ?_
  refine R_iconst C lw_52 (v := 0) rfl ?_
  refine R_iload C lw_53 rfl ?_
  refine R_castore C 0 lw_55 A1 rfl hN0 hZ1 Safe.nil ?_
  intro h2 W2 A2 _
  refine R_aload C lw_56 rfl rfl ?_
  refine R_iload C lw_58 rfl ?_
  refine R_iconst C lw_60 (v := 1) rfl ?_
  refine R_isub C lw_61 ?_
  refine R_iload C lw_62 rfl ?_
  refine R_castore C (N - 1) lw_64 A2 (by omega) (by omega) hZ1 Safe.nil ?_
  intro h3 W3 A3 _
  rw [nar_char_id bcb.1 (by omega), nar_char_id bcc.1 (by omega)] at A3
  have tail : ∀ (pI : Int32) (pn : Nat) (md : Int32), pI.toInt = pn → pn < N →
      Run p l e room_1 s m #[.int x0, .int x1, .int x2, .int x3] below meth c Z False [] (Kf s Z False [] room_1 (fun v h' => v = some (.int 1))) vm1 h3 (0 + 1) (0 + 120) (fr m 105 [.val (.int x0), .val (.int x1), .val (.int x2), .val (.int x3), .val (.int ((x3 &&& 2147483647) % 5)), .val (.ref Z.heap.size), .val (.int N.toInt32), .val (.int cb), .val (.int cc), .val (.int cg), .val (.int md), .val (.int pI), .unset, .unset] []) := by
    intro pI pn md hp hpn
    refine R_aload C lw_105 rfl rfl ?_
    refine R_iload C lw_107 rfl ?_
    refine R_iload C lw_109 rfl ?_
    refine R_castore C pn lw_111 A3 hp hpn hZ1 Safe.nil ?_
    intro h4 W4 A4 _
    rw [nar_char_id (by omega) (by omega)] at A4
    refine R_new C lw_112 (hw _ (List.mem_of_getElem? (i := 6) rfl)) (hw _ (List.mem_of_getElem? (i := 7) rfl)) (hw _ (List.mem_of_getElem? (i := 8) rfl)) (Nat.le_of_ble_eq_true rfl) (Nat.le_of_ble_eq_true rfl) ?_
    intro h5 E5 X5 _ _
    obtain ⟨X5, F5⟩ := X5
    refine R_dup C lw_115 rfl ?_
    refine R_aload C lw_116 rfl rfl ?_
    have hg : ∀ i, i < N → 0 ≤ (if i = pn then cg else if i = N - 1 then cc else if i = 0 then cb else 0).toInt ∧ (if i = pn then cg else if i = N - 1 then cc else if i = 0 then cb else 0).toInt ≤ 255 := by
      intro i hi
      split
      · omega
      · split
        · exact bcc
        · split
          · exact bcb
          · decide
    have A5 : AR Z h5 Z.heap.size .char N (fun i => .int (if i = pn then cg else if i = N - 1 then cc else if i = 0 then cb else 0)) := (A4.ext E5).cg fun i hi => by
      unfold Own.upd
      by_cases z1 : i = pn
      · rw [if_pos z1, if_pos z1]
      · rw [if_neg z1, if_neg z1]
        by_cases z2 : i = N - 1
        · rw [if_pos z2, if_pos z2]
        · rw [if_neg z2, if_neg z2]
          by_cases z3 : i = 0
          · rw [if_pos z3, if_pos z3]
          · rw [if_neg z3, if_neg z3]
    refine Run.know fun hE5 _ _ => ?_
    refine R_special C [.ref Z.heap.size] lw_118 (met_i2L l Z a0 hw False [] EW.nil cs fm SC h5 h4.size Z.heap.size N 120 _ A5 hN (by decide) hN0 hg X5 (F5 (Or.inr (hw _ (List.mem_of_getElem? (i := 34) rfl))) (ty := .array .byte) (by decide)) (F5 (Or.inr (hw _ (List.mem_of_getElem? (i := 32) rfl))) (ty := .byte) (by decide)) (Nat.le_of_lt A4.lt)) (by first | exact fun z => z | exact fun _ => trivial) rfl (hw _ (List.mem_of_getElem? (i := 9) rfl)) (hw _ (List.mem_of_getElem? (i := 10) rfl)) (hw _ (List.mem_of_getElem? (i := 8) rfl)) (hw _ (List.mem_of_getElem? (i := 11) rfl)) (by decide) pd_13 rfl rfl rfl (Nat.le_of_ble_eq_true rfl) (Nat.le_of_ble_eq_true rfl) (Nat.le_of_ble_eq_true rfl) (Nat.le_of_ble_eq_true rfl) (fun _ _ => Safe.nil) ?_
    intro v vm6 h6 hQ hsz6 hSf6 hFr
    obtain ⟨rfl, K6, b6, X6⟩ := hQ
    simp only [Option.toList_none, List.nil_append]
    refine R_astore C lw_121 rfl rfl rfl ?_
    simp only [fv0, fv1, fv2, fv3, List.set_cons_zero, List.set_cons_succ]
    refine R_aload C lw_123 rfl rfl ?_
    refine R_static C [.ref h4.size] lw_125 (met_rq l Z a0 hw cs fm SC ci ta D h6 h4.size b6 N _ X6 hN pn hpn (by rw [if_pos rfl]; exact nonw_of bcg.1 bcg.2)) (by first | exact fun z => z | exact fun _ => trivial) (hw _ (List.mem_of_getElem? (i := 35) rfl)) (hw _ (List.mem_of_getElem? (i := 36) rfl)) (hw _ (List.mem_of_getElem? (i := 37) rfl)) (hw _ (List.mem_of_getElem? (i := 38) rfl)) (by decide) pd_14 rfl rfl rfl (Nat.le_of_ble_eq_true rfl) (Nat.le_of_ble_eq_true rfl) (Nat.le_of_ble_eq_true rfl) (Nat.le_of_ble_eq_true rfl) (fun _ q => nomatch q) ?_
    intro v vm7 h7 hQ hsz7 hSf7 hFr
    obtain ⟨rfl, X7⟩ := hQ
    simp only [Option.toList_some, List.cons_append, List.nil_append]
    refine R_astore C lw_128 rfl rfl rfl ?_
    simp only [fv0, fv1, fv2, fv3, List.set_cons_zero, List.set_cons_succ]
    refine R_aload C lw_130 rfl rfl ?_
    refine R_aload C lw_132 rfl rfl ?_
    refine R_virtual C [.ref h4.size] lw_134 (met_eqs l Z a0 hw False [] EW.nil h7 h4.size) (by first | exact fun z => z | exact fun _ => trivial) (X7) (hw _ (List.mem_of_getElem? (i := 92) rfl)) (hw _ (List.mem_of_getElem? (i := 93) rfl)) (hw _ (List.mem_of_getElem? (i := 95) rfl)) (hw _ (List.mem_of_getElem? (i := 94) rfl)) (hw _ (List.mem_of_getElem? (i := 8) rfl)) (hw _ (List.mem_of_getElem? (i := 96) rfl)) (by decide) pd_15 rfl rfl rfl (Nat.le_of_ble_eq_true rfl) (Nat.le_of_ble_eq_true rfl) (Nat.le_of_ble_eq_true rfl) (Nat.le_of_ble_eq_true rfl) (fun _ q => nomatch q) ?_
    intro v vm8 h8 hQ hsz8 hSf8 hFr
    obtain ⟨rfl, rfl⟩ := hQ
    simp only [Option.toList_some, List.cons_append, List.nil_append]
    exact R_retN C lw_137 rfl (Or.inl rfl) (Nat.le_of_ble_eq_true rfl) (Nat.le_of_ble_eq_true rfl) rfl
  refine R_iload_n C lw_65 rfl ?_
  refine R_bipush C lw_66 (v := 8) rfl ?_
  refine R_iushr C lw_68 ?_
  refine R_iconst C lw_69 (v := 3) rfl ?_
  refine R_iand C lw_70 ?_
  refine R_istore C lw_71 rfl ?_
  simp only [fv0, fv1, fv2, fv3, List.set_cons_zero, List.set_cons_succ]
  refine R_iload C lw_73 rfl ?_
  refine R_if C lw_75 (fun _ => ?_) (fun _ => ?_)
  · refine R_iload C lw_84 rfl ?_
    refine R_iconst C lw_86 (v := 1) rfl ?_
    refine R_icmp C lw_87 (fun _ => ?_) (fun _ => ?_)
    · refine R_iload C lw_99 rfl ?_
      refine R_iconst C lw_101 (v := 2) rfl ?_
      refine R_idiv C lw_102 (by decide) ?_
      refine R_istore C lw_103 rfl ?_
      simp only [fv0, fv1, fv2, fv3, List.set_cons_zero, List.set_cons_succ]
      have q2 := i32_div (x := N.toInt32) (y := 2) (fun z => by omega)
      rw [hn31, two, Int.tdiv_eq_ediv_of_nonneg (by omega)] at q2
      exact tail _ (N / 2) _ (by omega) (by omega)
    · refine R_iload C lw_90 rfl ?_
      refine R_iconst C lw_92 (v := 1) rfl ?_
      refine R_isub C lw_93 ?_
      refine R_istore C lw_94 rfl ?_
      simp only [fv0, fv1, fv2, fv3, List.set_cons_zero, List.set_cons_succ]
      refine R_goto C lw_96 ?_
      exact tail _ (N - 1) _ (by omega) (by omega)
  · refine R_iconst C lw_78 (v := 0) rfl ?_
    refine R_istore C lw_79 rfl ?_
    simp only [fv0, fv1, fv2, fv3, List.set_cons_zero, List.set_cons_succ]
    refine R_goto C lw_81 ?_
    exact tail _ 0 _ rfl hN0
set_option maxRecDepth 65536 in
theorem comes_1 {Post : Tables → Env → Array Value → State → Outcome → State → Prop} (hpost : ∀ tb e args s v u, (limb_1_1.after args s (.returned v) u = true ∧ limb_1_2.after args s (.returned v) u = true ∧ True) → ReturnedEndW s (.returned v) u (Jvm.fieldLocs frame_1_writes args s ++ Jvm.arrayLocs frame_1_arrays args s ++ Jvm.staticLocs frame_1_statics s) 16 1600 → Post tb e args s (.returned v) u) :
    ArmFor flags0 classFile x code maxLocals ret World_1 tables_1 room_1 Calls_1 rest_1 Pre_1 Post := by
  intro l hfl _ _ p e ha hc hk s m args below hf hA hF happ hP
  obtain ⟨hcalls, hrest, hpre⟩ := hP
  obtain ⟨-, -, -, hnamed, -, -, -, hat⟩ := (Spec.applies_iff hf).mp happ
  obtain ⟨hg, hn⟩ := and_e (Cond.before_iff.mp (show (Jvm.Cond.and given_1 narrow_1).before args s = true from hpre))
  obtain ⟨h1, h2⟩ := and_e hg
  obtain ⟨g0, h2⟩ := and_e h2
  obtain ⟨g1, h2⟩ := and_e h2
  obtain ⟨g2, g3⟩ := and_e h2
  obtain ⟨w0, w1, w2, w3, rfl⟩ : ∃ w0 w1 w2 w3 : Value, args = #[w0, w1, w2, w3] := by
    have hs : args.size = 4 := by simpa [Cond.value, given_1] using h1
    obtain ⟨L⟩ := args
    match L, hs with
    | [w0, w1, w2, w3], _ => exact ⟨w0, w1, w2, w3, rfl⟩
  have hw := fun d (hd : d ∈ tables_1) => atoms_spec (ws := Jvm.Cond.code x code maxLocals ret :: tables_1) hat d (List.mem_cons_of_mem _ hd)
  have hfit : Fit s := fun {y c} hc i hi => by
    obtain ⟨ha, rfl⟩ := Array.getElem?_eq_some_iff.mp hc
    have q := List.all_eq_true.mp ((Array.all_eq_true_iff_forall_mem.mp hF) _ (Array.getElem_mem ha)) i (List.mem_range.mpr hi)
    simpa [Array.getElem?_eq_getElem hi] using q
  obtain ⟨i0, e0⟩ := is_v g0
  obtain rfl : w0 = (.int i0) := Option.some.inj e0
  obtain ⟨i1, e1⟩ := is_v g1
  obtain rfl : w1 = (.int i1) := Option.some.inj e1
  obtain ⟨i2, e2⟩ := is_v g2
  obtain rfl : w2 = (.int i2) := Option.some.inj e2
  obtain ⟨i3, e3⟩ := is_v g3
  obtain rfl : w3 = (.int i3) := Option.some.inj e3
  obtain ⟨hsets, hown0⟩ := atoms_of _ (rest_1_c_eq ▸ (show rest_1_c.before _ s = true from hrest))
  have m3 := not_v (Cond.before_iff.mp (hsets _ (List.mem_of_getElem? (i := 2) rfl)))
  obtain ⟨cs, c1⟩ := is_v (Cond.before_iff.mp (hsets _ (List.mem_of_getElem? (i := 1) rfl)))
  have S8 : Sta s s.heap STR "COMPACT_STRINGS" "Z" (.int cs) := Sta.start c1 (Or.inl (hsets _ (List.mem_of_getElem? (i := 0) rfl)))
  obtain ⟨fm, c2, c3⟩ := isR_v (Cond.before_iff.mp (hsets _ (List.mem_of_getElem? (i := 8) rfl)))
  have S12 : Sta s s.heap PRE "SIOOBE_FORMATTER" BIF fm := Sta.start c2 (Or.inl (hsets _ (List.mem_of_getElem? (i := 7) rfl)))
  have SC : SS s cs fm := ⟨gotF (Cond.eq_ints c1 (Term.int_eval (0))) m3, S8, c3, S12⟩
  have D : ∃ ci ta, CD s ci ta := by
    obtain ⟨ci, d1⟩ := exa_v (Cond.before_iff.mp (hsets _ (List.mem_of_getElem? (i := 11) rfl)))
    have d2 : Sta s s.heap CDL "instance" "Ljava/lang/CharacterDataLatin1;" (.ref ci) := Sta.start d1 (Or.inl (hsets _ (List.mem_of_getElem? (i := 10) rfl)))
    have d3 : Exa s s.heap ci CDL := Exa.start d1 (Cond.before_iff.mp (hsets _ (List.mem_of_getElem? (i := 11) rfl)))
    have d4 := Cond.before_iff.mp (hsets _ (List.mem_of_getElem? (i := 14) rfl))
    obtain ⟨ta, d5⟩ := arr_v d4
    have d6 : Sta s s.heap CDL "A" "[I" (.ref ta) := Sta.start d5 (Or.inl (hsets _ (List.mem_of_getElem? (i := 13) rfl)))
    obtain ⟨cl, Ar, A⟩ := AR.start hfit d5 d4 (Cond.before_iff.mp (hsets _ (List.mem_of_getElem? (i := 16) rfl))) (N := 256) rfl
    refine ⟨ci, ta, d2, d3, d6, A.cg fun i hi => ?_⟩
    have q := Cond.before_iff.mp (hsets _ (stat_mem i hi))
    exact elem_lit d5 Ar (Int32.toInt_ofNat_small (by omega)) q
  obtain ⟨ci, ta, D⟩ := D
  obtain ⟨n, o, h1, h2, h3, v, L, rfl, hv, N, -, -, hR, hWm⟩ := met_law l s _ hw cs fm SC ci ta D i0 i1 i2 i3 tables_1 p e ha hc hk s m _ below hf ((Spec.applies_iff_loose hf).mp happ).1 ⟨rfl, State.Warmed39.refl s, rfl, (fun p hp => nomatch hp), Ext.rfl', fun _ q => nomatch q⟩ trivial
  subst hv
  refine ⟨n, _, h1, h2, h3, hpost _ _ _ _ _ _ ⟨Cond.after_iff.mpr rfl, Cond.after_iff.mpr (eq_i res_at (Term.int_eval (1)) rfl), trivial⟩ ⟨hR.1, hR.2.1, hR.2.2.1, (hR.2.2.2.sift fun y hy => Or.inr (N y hy)).mono (by decide) (by decide)⟩⟩
theorem main_1_1 : Claimed_1_1 := comes_1 fun _ _ _ _ _ _ h hF => ⟨h.1, hF⟩
theorem main_1_2 : Claimed_1_2 := comes_1 fun _ _ _ _ _ _ h hF => ⟨h.2.1, hF⟩
end Jvm.Pilot.@@N@@
namespace Jvm.Pilot.@@N@@
open Jvm Jvm.ClassFile Sem Op Lib Jvm.Free Jvm.Stand Jvm.Pilot.@@N@@.Jvm.D
/-! MADE BY PROGRAM (witnessworld.py) out of the Statement's table words and the real class files: 23 classes; the members and pool entries that the words name. The judged class is class 1, her method 2. -/
namespace start1
open Jvm.ClassFile
def u (s : String) : CpInfo := .utf8 (stringToUtf16 s)
/-- a pool by its gaps: so many unusable entries, then the entry; so many at the end -/
def gap : Nat → List CpInfo → List CpInfo
  | 0, r => r
  | n + 1, r => .unusable :: gap n r
def poolList (es : List (Nat × CpInfo)) (last : Nat) : List CpInfo := es.foldr (fun e r => gap e.1 (e.2 :: r)) (gap last [])
def pool (es : List (Nat × CpInfo)) (last : Nat) : Array CpInfo := ⟨poolList es last⟩
def fileOf (pool : Array CpInfo) (this : Nat) (attrs : Array Attribute := #[]) (ms : Array MethodInfo := #[]) (fl : Nat := 33) (sup : Nat := 0) (ifs : Array Nat := #[]) (fds : Array FieldInfo := #[]) : ClassFile where
  minorVersion := 0
  majorVersion := 65
  constantPool := pool
  accessFlags := fl
  thisClass := this
  superClass := sup
  interfaces := ifs
  fields := fds
  methods := ms
  attributes := attrs
def plain (name : String) (sup : Option ClassId) : Class where
  name := name
  kind := .ordinary
  loader := none
  accessFlags := 33
  super := sup
  interfaces := #[]
  cf := none
  fields := #[]
  methods := #[]
  instanceTypes := #[]
  staticTypes := #[]
  resolved := #[]
  callSites := []
  init := .initialized
  statics := none
  mirror := none

def pool0 : Array CpInfo := pool [(5, u "<init>"), (0, u "()V"), (1, .class_ 10), (1, u "java/lang/Object")] 113

def k0c0 : Code := { maxStack := 0, maxLocals := 1, code := object_method_1_code, exceptionTable := #[], attributes := #[] }
def k0m0 : Method := { name := "<init>", desc := "()V", sig := { parameters := [], returnType := none }, accessFlags := 1, code := some k0c0 }
/-- java/lang/Object -/
def k0 : Class := { plain "java/lang/Object" none with
  accessFlags := 33
  interfaces := #[]
  cf := some (fileOf pool0 8 #[] #[{ accessFlags := 1, nameIndex := 5, descriptorIndex := 6, attributes := #[] }] 33 0 #[] #[])
  fields := #[]
  methods := #[k0m0]
  instanceTypes := #[]
  staticTypes := #[]
  resolved := Array.replicate 124 none
  statics := none }

def pool1 : Array CpInfo := pool [(2, .class_ 4), (1, u "java/lang/Object"), (0, u "<init>"), (0, u "()V"), (0, .integer 2147483647), (0, .methodref 9 10), (0, .class_ 11), (0, .nameAndType 12 13), (0, u "com/example/demarc/demarc/resource/BranchOutcomeRequireResourceNamePinLaw"), (0, u "make"), (0, u "(I)[C"), (0, .class_ 15), (0, u "java/lang/String"), (0, .methodref 14 17), (0, .nameAndType 5 18), (0, u "([C)V"), (0, .methodref 20 21), (0, .class_ 22), (0, .nameAndType 23 24), (0, u "com/example/demarc/demarc/resource/BranchOutcome"), (0, u "requireResourceName"), (0, u "(Ljava/lang/String;)Ljava/lang/String;"), (0, .methodref 14 26), (0, .nameAndType 27 28), (0, u "equals"), (0, u "(Ljava/lang/Object;)Z"), (3, u "law"), (0, u "(IIII)Z")] 4

def k1m0 : Method := { name := "<init>", desc := "()V", sig := { parameters := [], returnType := none }, accessFlags := 1, code := none }
def k1c1 : Code := { maxStack := 2, maxLocals := 1, code := method_2_code, exceptionTable := #[], attributes := #[] }
def k1m1 : Method := { name := "make", desc := "(I)[C", sig := { parameters := [.int], returnType := some (.array .char) }, accessFlags := 10, code := some k1c1 }
def k1c2 : Code := { maxStack := 3, maxLocals := 14, code := code, exceptionTable := #[], attributes := #[] }
def k1m2 : Method := { name := "law", desc := "(IIII)Z", sig := { parameters := [.int, .int, .int, .int], returnType := some .boolean }, accessFlags := 9, code := some k1c2 }
/-- com/example/demarc/demarc/resource/BranchOutcomeRequireResourceNamePinLaw -/
def k1 : Class := { plain "com/example/demarc/demarc/resource/BranchOutcomeRequireResourceNamePinLaw" (some 0) with
  accessFlags := 49
  interfaces := #[]
  cf := some (fileOf pool1 9 #[] #[{ accessFlags := 1, nameIndex := 5, descriptorIndex := 6, attributes := #[] }, { accessFlags := 10, nameIndex := 12, descriptorIndex := 13, attributes := #[] }, { accessFlags := 9, nameIndex := 32, descriptorIndex := 33, attributes := #[] }] 49 2 #[] #[])
  fields := #[]
  methods := #[k1m0, k1m1, k1m2]
  instanceTypes := #[]
  staticTypes := #[]
  resolved := Array.replicate 38 none
  statics := none }

def pool2 : Array CpInfo := pool [(1, .class_ 2), (0, u "java/io/Serializable"), (0, .class_ 4), (0, u "java/lang/Object")] 2

/-- java/io/Serializable -/
def k2 : Class := { plain "java/io/Serializable" (some 0) with
  accessFlags := 1537
  interfaces := #[]
  cf := some (fileOf pool2 1 #[] #[] 1537 3 #[] #[])
  fields := #[]
  methods := #[]
  instanceTypes := #[]
  staticTypes := #[]
  resolved := Array.replicate 7 none
  statics := none }

def pool3 : Array CpInfo := pool [(1, .class_ 2), (0, u "java/lang/Comparable"), (0, .class_ 4), (0, u "java/lang/Object")] 7

/-- java/lang/Comparable -/
def k3 : Class := { plain "java/lang/Comparable" (some 0) with
  accessFlags := 1537
  interfaces := #[]
  cf := some (fileOf pool3 1 #[] #[] 1537 3 #[] #[])
  fields := #[]
  methods := #[]
  instanceTypes := #[]
  staticTypes := #[]
  resolved := Array.replicate 12 none
  statics := none }

def pool4 : Array CpInfo := pool [(2, .class_ 4), (1, u "java/lang/CharSequence"), (42, .class_ 48), (0, u "java/lang/CharSequence$1CodePointIterator"), (10, .class_ 60), (0, u "java/lang/CharSequence$1CharIterator"), (5, .class_ 67), (0, u "java/lang/Object")] 63

/-- java/lang/CharSequence -/
def k4 : Class := { plain "java/lang/CharSequence" (some 0) with
  accessFlags := 1537
  interfaces := #[]
  cf := some (fileOf pool4 2 #[.nestMembers #[47, 59]] #[] 1537 66 #[] #[])
  fields := #[]
  methods := #[]
  instanceTypes := #[]
  staticTypes := #[]
  resolved := Array.replicate 131 none
  statics := none }

def pool5 : Array CpInfo := pool [(1, .class_ 2), (0, u "java/lang/constant/Constable"), (0, .class_ 4), (0, u "java/lang/Object")] 6

/-- java/lang/constant/Constable -/
def k5 : Class := { plain "java/lang/constant/Constable" (some 0) with
  accessFlags := 1537
  interfaces := #[]
  cf := some (fileOf pool5 1 #[] #[] 1537 3 #[] #[])
  fields := #[]
  methods := #[]
  instanceTypes := #[]
  staticTypes := #[]
  resolved := Array.replicate 11 none
  statics := none }

def pool6 : Array CpInfo := pool [(1, .class_ 2), (0, u "java/lang/constant/ConstantDesc"), (0, .class_ 4), (0, u "java/lang/Object")] 32

/-- java/lang/constant/ConstantDesc -/
def k6 : Class := { plain "java/lang/constant/ConstantDesc" (some 0) with
  accessFlags := 1537
  interfaces := #[]
  cf := some (fileOf pool6 1 #[] #[] 1537 3 #[] #[])
  fields := #[]
  methods := #[]
  instanceTypes := #[]
  staticTypes := #[]
  resolved := Array.replicate 37 none
  statics := none }

def pool7 : Array CpInfo := pool [(1, .methodref 2 3), (0, .class_ 4), (0, .nameAndType 5 6), (0, u "java/lang/Object"), (0, u "<init>"), (0, u "()V"), (2, .fieldref 10 11), (0, .class_ 12), (0, .nameAndType 13 14), (0, u "java/lang/String"), (0, u "value"), (0, u "[B"), (0, .fieldref 10 16), (0, .nameAndType 17 18), (0, u "coder"), (0, u "B"), (2, u "hash"), (0, u "I"), (2, u "hashIsZero"), (0, u "Z"), (0, .methodref 10 28), (0, .nameAndType 5 29), (0, u "([CIILjava/lang/Void;)V"), (8, .fieldref 10 39), (0, .nameAndType 40 26), (0, u "COMPACT_STRINGS"), (1, .class_ 44), (1, u "java/lang/StringUTF16"), (0, u "compress"), (1, .methodref 42 48), (0, .nameAndType 49 50), (0, u "coderFromArrayLen"), (0, u "([BI)B"), (56, .class_ 109), (1, u "java/lang/StringLatin1"), (32, u "()Z"), (34, .methodref 42 178), (0, .nameAndType 45 179), (0, u "([CII)[B"), (154, u "()I"), (0, .methodref 10 336), (0, .nameAndType 17 337), (0, u "()B"), (154, .methodref 10 493), (0, .nameAndType 494 142), (0, u "isLatin1"), (10, .methodref 10 506), (0, .nameAndType 507 334), (0, u "length"), (35, u "equals"), (29, u "(Ljava/lang/Object;)Z"), (1, .class_ 576), (0, u "java/lang/CharSequence"), (22, u "CASE_INSENSITIVE_ORDER"), (0, u "Ljava/util/Comparator;"), (30, u "([B)I"), (244, .methodref 10 877), (0, .nameAndType 878 334), (0, u "indexOfNonWhitespace"), (45, .methodref 107 925), (0, .nameAndType 878 631), (26, u "isBlank"), (57, u "([C)V"), (90, u "serialPersistentFields"), (0, u "[Ljava/io/ObjectStreamField;"), (0, .class_ 1104), (0, u "java/lang/String$CaseInsensitiveComparator"), (1, .class_ 1107), (0, u "java/io/Serializable"), (0, .class_ 1109), (0, u "java/lang/Comparable"), (0, .class_ 1111), (0, u "java/lang/constant/Constable"), (0, .class_ 1113), (0, u "java/lang/constant/ConstantDesc"), (2, u "serialVersionUID"), (0, u "J"), (3, u "REPL"), (0, u "C"), (2, u "LATIN1"), (1, u "UTF16")] 323

def k7m0 : Method := { name := "<init>", desc := "()V", sig := { parameters := [], returnType := none }, accessFlags := 1, code := none }
def k7c1 : Code := { maxStack := 5, maxLocals := 2, code := jdk_42_method_3_code, exceptionTable := #[], attributes := #[] }
def k7m1 : Method := { name := "<init>", desc := "([C)V", sig := { parameters := [(.array .char)], returnType := none }, accessFlags := 1, code := some k7c1 }
def k7c2 : Code := { maxStack := 2, maxLocals := 1, code := jdk_42_method_54_code, exceptionTable := #[], attributes := #[] }
def k7m2 : Method := { name := "length", desc := "()I", sig := { parameters := [], returnType := some .int }, accessFlags := 1, code := some k7c2 }
def k7c3 : Code := { maxStack := 2, maxLocals := 3, code := jdk_42_method_66_code, exceptionTable := #[], attributes := #[] }
def k7m3 : Method := { name := "equals", desc := "(Ljava/lang/Object;)Z", sig := { parameters := [(.object "java/lang/Object")], returnType := some .boolean }, accessFlags := 1, code := some k7c3 }
def k7c4 : Code := { maxStack := 2, maxLocals := 1, code := jdk_42_method_117_code, exceptionTable := #[], attributes := #[] }
def k7m4 : Method := { name := "isBlank", desc := "()Z", sig := { parameters := [], returnType := some .boolean }, accessFlags := 1, code := some k7c4 }
def k7c5 : Code := { maxStack := 1, maxLocals := 1, code := jdk_42_method_120_code, exceptionTable := #[], attributes := #[] }
def k7m5 : Method := { name := "indexOfNonWhitespace", desc := "()I", sig := { parameters := [], returnType := some .int }, accessFlags := 2, code := some k7c5 }
def k7c6 : Code := { maxStack := 4, maxLocals := 6, code := jdk_42_method_149_code, exceptionTable := #[], attributes := #[] }
def k7m6 : Method := { name := "<init>", desc := "([CIILjava/lang/Void;)V", sig := { parameters := [(.array .char), .int, .int, (.object "java/lang/Void")], returnType := none }, accessFlags := 2, code := some k7c6 }
def k7c7 : Code := { maxStack := 1, maxLocals := 1, code := jdk_42_method_152_code, exceptionTable := #[], attributes := #[] }
def k7m7 : Method := { name := "coder", desc := "()B", sig := { parameters := [], returnType := some .byte }, accessFlags := 0, code := some k7c7 }
def k7c8 : Code := { maxStack := 1, maxLocals := 1, code := jdk_42_method_154_code, exceptionTable := #[], attributes := #[] }
def k7m8 : Method := { name := "isLatin1", desc := "()Z", sig := { parameters := [], returnType := some .boolean }, accessFlags := 0, code := some k7c8 }
/-- java/lang/String -/
def k7 : Class := { plain "java/lang/String" (some 0) with
  accessFlags := 49
  interfaces := #[2, 3, 4, 5, 6]
  cf := some (fileOf pool7 10 #[.nestMembers #[1103]] #[{ accessFlags := 1, nameIndex := 5, descriptorIndex := 6, attributes := #[] }, { accessFlags := 1, nameIndex := 5, descriptorIndex := 1010, attributes := #[] }, { accessFlags := 1, nameIndex := 507, descriptorIndex := 334, attributes := #[] }, { accessFlags := 1, nameIndex := 543, descriptorIndex := 573, attributes := #[] }, { accessFlags := 1, nameIndex := 952, descriptorIndex := 142, attributes := #[] }, { accessFlags := 2, nameIndex := 878, descriptorIndex := 334, attributes := #[] }, { accessFlags := 2, nameIndex := 5, descriptorIndex := 29, attributes := #[] }, { accessFlags := 0, nameIndex := 17, descriptorIndex := 337, attributes := #[] }, { accessFlags := 0, nameIndex := 494, descriptorIndex := 142, attributes := #[] }] 49 2 #[1106, 1108, 575, 1110, 1112] #[{ accessFlags := 18, nameIndex := 13, descriptorIndex := 14, attributes := #[] }, { accessFlags := 18, nameIndex := 17, descriptorIndex := 18, attributes := #[] }, { accessFlags := 2, nameIndex := 21, descriptorIndex := 22, attributes := #[] }, { accessFlags := 2, nameIndex := 25, descriptorIndex := 26, attributes := #[] }, { accessFlags := 26, nameIndex := 1116, descriptorIndex := 1117, attributes := #[] }, { accessFlags := 24, nameIndex := 40, descriptorIndex := 26, attributes := #[] }, { accessFlags := 26, nameIndex := 1101, descriptorIndex := 1102, attributes := #[] }, { accessFlags := 26, nameIndex := 1121, descriptorIndex := 1122, attributes := #[] }, { accessFlags := 25, nameIndex := 599, descriptorIndex := 600, attributes := #[] }, { accessFlags := 24, nameIndex := 1125, descriptorIndex := 18, attributes := #[] }, { accessFlags := 24, nameIndex := 1127, descriptorIndex := 18, attributes := #[] }])
  fields := #[{ name := "value", type := (.array .byte), accessFlags := 18, slot := 0, constantValue := 0 }, { name := "coder", type := .byte, accessFlags := 18, slot := 1, constantValue := 0 }, { name := "hash", type := .int, accessFlags := 2, slot := 2, constantValue := 0 }, { name := "hashIsZero", type := .boolean, accessFlags := 2, slot := 3, constantValue := 0 }, { name := "serialVersionUID", type := .long, accessFlags := 26, slot := 0, constantValue := 0 }, { name := "COMPACT_STRINGS", type := .boolean, accessFlags := 24, slot := 1, constantValue := 0 }, { name := "serialPersistentFields", type := (.array (.object "java/io/ObjectStreamField")), accessFlags := 26, slot := 2, constantValue := 0 }, { name := "REPL", type := .char, accessFlags := 26, slot := 3, constantValue := 0 }, { name := "CASE_INSENSITIVE_ORDER", type := (.object "java/util/Comparator"), accessFlags := 25, slot := 4, constantValue := 0 }, { name := "LATIN1", type := .byte, accessFlags := 24, slot := 5, constantValue := 0 }, { name := "UTF16", type := .byte, accessFlags := 24, slot := 6, constantValue := 0 }]
  methods := #[k7m0, k7m1, k7m2, k7m3, k7m4, k7m5, k7m6, k7m7, k7m8]
  instanceTypes := #[(.array .byte), .byte, .int, .boolean]
  staticTypes := #[.long, .boolean, (.array (.object "java/io/ObjectStreamField")), .char, (.object "java/util/Comparator"), .byte, .byte]
  resolved := Array.replicate 1451 none
  statics := some 0 }

def pool8 : Array CpInfo := pool [(6, .class_ 8), (1, u "java/lang/Object"), (0, u "<init>"), (0, u "()V"), (1, .class_ 14), (1, u "java/lang/StringUTF16"), (31, u "$assertionsDisabled"), (0, u "Z"), (13, u "HI_BYTE_SHIFT"), (0, u "I"), (2, u "LO_BYTE_SHIFT"), (49, .methodref 12 116), (0, .nameAndType 117 118), (0, u "compress"), (0, u "([CI[BII)I"), (3, u "([CII)[B"), (138, u "coderFromArrayLen"), (0, u "([BI)B"), (106, .class_ 371), (1, u "java/lang/StringUTF16$LinesSpliterator"), (58, u "MAX_LENGTH"), (196, .class_ 628), (0, u "java/lang/StringUTF16$CodePointsSpliterator"), (0, .class_ 630), (0, u "java/lang/StringUTF16$CharsSpliterator")] 4

def k8m0 : Method := { name := "<init>", desc := "()V", sig := { parameters := [], returnType := none }, accessFlags := 0, code := none }
def k8c1 : Code := { maxStack := 2, maxLocals := 2, code := jdk_52_method_15_code, exceptionTable := #[], attributes := #[] }
def k8m1 : Method := { name := "coderFromArrayLen", desc := "([BI)B", sig := { parameters := [(.array .byte), .int], returnType := some .byte }, accessFlags := 8, code := some k8c1 }
def k8c2 : Code := { maxStack := 5, maxLocals := 6, code := jdk_52_method_16_code, exceptionTable := #[], attributes := #[] }
def k8m2 : Method := { name := "compress", desc := "([CII)[B", sig := { parameters := [(.array .char), .int, .int], returnType := some (.array .byte) }, accessFlags := 9, code := some k8c2 }
def k8c3 : Code := { maxStack := 3, maxLocals := 7, code := jdk_52_method_21_code, exceptionTable := #[], attributes := #[] }
def k8m3 : Method := { name := "compress", desc := "([CI[BII)I", sig := { parameters := [(.array .char), .int, (.array .byte), .int, .int], returnType := some .int }, accessFlags := 9, code := some k8c3 }
/-- java/lang/StringUTF16 -/
def k8 : Class := { plain "java/lang/StringUTF16" (some 0) with
  accessFlags := 48
  interfaces := #[]
  cf := some (fileOf pool8 12 #[.nestMembers #[627, 629, 369]] #[{ accessFlags := 0, nameIndex := 9, descriptorIndex := 10, attributes := #[] }, { accessFlags := 8, nameIndex := 261, descriptorIndex := 262, attributes := #[] }, { accessFlags := 9, nameIndex := 117, descriptorIndex := 122, attributes := #[] }, { accessFlags := 9, nameIndex := 117, descriptorIndex := 118, attributes := #[] }] 48 6 #[] #[{ accessFlags := 26, nameIndex := 61, descriptorIndex := 62, attributes := #[] }, { accessFlags := 26, nameIndex := 65, descriptorIndex := 62, attributes := #[] }, { accessFlags := 24, nameIndex := 430, descriptorIndex := 62, attributes := #[] }, { accessFlags := 4120, nameIndex := 46, descriptorIndex := 47, attributes := #[] }])
  fields := #[{ name := "HI_BYTE_SHIFT", type := .int, accessFlags := 26, slot := 0, constantValue := 0 }, { name := "LO_BYTE_SHIFT", type := .int, accessFlags := 26, slot := 1, constantValue := 0 }, { name := "MAX_LENGTH", type := .int, accessFlags := 24, slot := 2, constantValue := 0 }, { name := "$assertionsDisabled", type := .boolean, accessFlags := 4120, slot := 3, constantValue := 0 }]
  methods := #[k8m0, k8m1, k8m2, k8m3]
  instanceTypes := #[]
  staticTypes := #[.int, .int, .int, .boolean]
  resolved := Array.replicate 635 none
  statics := none }

def pool9 : Array CpInfo := pool [(2, .class_ 4), (1, u "java/lang/Object"), (3, u "resource"), (0, .methodref 10 11), (0, .class_ 12), (0, .nameAndType 13 14), (0, u "java/util/Objects"), (0, u "requireNonNull"), (0, u "(Ljava/lang/Object;Ljava/lang/String;)Ljava/lang/Object;"), (0, .class_ 16), (0, u "java/lang/String"), (1, .class_ 20), (1, u "com/example/demarc/demarc/resource/BranchOutcome"), (0, u "branchNumber"), (0, u "I"), (0, .methodref 15 24), (0, .nameAndType 25 26), (0, u "length"), (0, u "()I"), (6, u "Ljava/lang/String;"), (1, u "outcome"), (4, u "Lcom/example/demarc/demarc/resource/Outcome;"), (0, .string 42), (0, u "name"), (0, .methodref 15 44), (0, .nameAndType 45 46), (0, u "isBlank"), (0, u "()Z"), (5, u "(Ljava/lang/String;)Ljava/lang/String;"), (10, u "MAX_RESOURCE_LENGTH"), (6, u "requireResourceName")] 25

def k9c0 : Code := { maxStack := 3, maxLocals := 1, code := prog_5_method_2_code, exceptionTable := #[], attributes := #[] }
def k9m0 : Method := { name := "requireResourceName", desc := "(Ljava/lang/String;)Ljava/lang/String;", sig := { parameters := [(.object "java/lang/String")], returnType := some (.object "java/lang/String") }, accessFlags := 9, code := some k9c0 }
/-- com/example/demarc/demarc/resource/BranchOutcome -/
def k9 : Class := { plain "com/example/demarc/demarc/resource/BranchOutcome" (some 0) with
  accessFlags := 49
  interfaces := #[]
  cf := some (fileOf pool9 18 #[] #[{ accessFlags := 9, nameIndex := 70, descriptorIndex := 52, attributes := #[] }] 49 2 #[] #[{ accessFlags := 25, nameIndex := 63, descriptorIndex := 22, attributes := #[] }, { accessFlags := 18, nameIndex := 21, descriptorIndex := 22, attributes := #[] }, { accessFlags := 18, nameIndex := 8, descriptorIndex := 33, attributes := #[] }, { accessFlags := 18, nameIndex := 35, descriptorIndex := 40, attributes := #[] }])
  fields := #[{ name := "MAX_RESOURCE_LENGTH", type := .int, accessFlags := 25, slot := 0, constantValue := 0 }, { name := "branchNumber", type := .int, accessFlags := 18, slot := 0, constantValue := 0 }, { name := "resource", type := (.object "java/lang/String"), accessFlags := 18, slot := 1, constantValue := 0 }, { name := "outcome", type := (.object "com/example/demarc/demarc/resource/Outcome"), accessFlags := 18, slot := 2, constantValue := 0 }]
  methods := #[k9m0]
  instanceTypes := #[.int, (.object "java/lang/String"), (.object "com/example/demarc/demarc/resource/Outcome")]
  staticTypes := #[.int]
  resolved := Array.replicate 96 none
  statics := none }

def pool10 : Array CpInfo := pool [(2, .class_ 4), (1, u "java/lang/Object"), (0, u "<init>"), (0, u "()V"), (35, .class_ 44), (1, u "java/util/Objects"), (0, u "requireNonNull"), (48, u "(Ljava/lang/Object;Ljava/lang/String;)Ljava/lang/Object;")] 89

def k10m0 : Method := { name := "<init>", desc := "()V", sig := { parameters := [], returnType := none }, accessFlags := 2, code := none }
def k10c1 : Code := { maxStack := 3, maxLocals := 2, code := jdk_31_method_11_code, exceptionTable := #[], attributes := #[] }
def k10m1 : Method := { name := "requireNonNull", desc := "(Ljava/lang/Object;Ljava/lang/String;)Ljava/lang/Object;", sig := { parameters := [(.object "java/lang/Object"), (.object "java/lang/String")], returnType := some (.object "java/lang/Object") }, accessFlags := 9, code := some k10c1 }
/-- java/util/Objects -/
def k10 : Class := { plain "java/util/Objects" (some 0) with
  accessFlags := 49
  interfaces := #[]
  cf := some (fileOf pool10 42 #[] #[{ accessFlags := 2, nameIndex := 5, descriptorIndex := 6, attributes := #[] }, { accessFlags := 9, nameIndex := 45, descriptorIndex := 94, attributes := #[] }] 49 2 #[] #[])
  fields := #[]
  methods := #[k10m0, k10m1]
  instanceTypes := #[]
  staticTypes := #[]
  resolved := Array.replicate 184 none
  statics := none }

def pool11 : Array CpInfo := pool [(4, .class_ 6), (1, u "java/lang/Object"), (0, u "<init>"), (0, u "()V"), (5, .class_ 16), (1, u "java/lang/StringLatin1"), (33, .methodref 14 51), (0, .nameAndType 52 53), (0, u "getChar"), (0, u "([BI)C"), (3, u "([B)I"), (8, .fieldref 67 68), (0, .class_ 69), (0, .nameAndType 70 71), (0, u "java/lang/CharacterDataLatin1"), (0, u "instance"), (0, u "Ljava/lang/CharacterDataLatin1;"), (19, u "(I)Z"), (29, u "$assertionsDisabled"), (0, u "Z"), (88, .methodref 67 212), (0, .nameAndType 213 91), (0, u "isWhitespace"), (2, u "indexOfNonWhitespace"), (4, .class_ 223), (1, u "java/lang/StringLatin1$LinesSpliterator"), (166, .class_ 391), (0, u "java/lang/StringLatin1$CharsSpliterator")] 3

def k11m0 : Method := { name := "<init>", desc := "()V", sig := { parameters := [], returnType := none }, accessFlags := 0, code := none }
def k11c1 : Code := { maxStack := 2, maxLocals := 4, code := jdk_43_method_37_code, exceptionTable := #[], attributes := #[] }
def k11m1 : Method := { name := "indexOfNonWhitespace", desc := "([B)I", sig := { parameters := [(.array .byte)], returnType := some .int }, accessFlags := 9, code := some k11c1 }
def k11c2 : Code := { maxStack := 2, maxLocals := 2, code := jdk_43_method_44_code, exceptionTable := #[], attributes := #[] }
def k11m2 : Method := { name := "getChar", desc := "([BI)C", sig := { parameters := [(.array .byte), .int], returnType := some .char }, accessFlags := 9, code := some k11c2 }
/-- java/lang/StringLatin1 -/
def k11 : Class := { plain "java/lang/StringLatin1" (some 0) with
  accessFlags := 48
  interfaces := #[]
  cf := some (fileOf pool11 14 #[.nestMembers #[390, 221]] #[{ accessFlags := 0, nameIndex := 7, descriptorIndex := 8, attributes := #[] }, { accessFlags := 9, nameIndex := 216, descriptorIndex := 57, attributes := #[] }, { accessFlags := 9, nameIndex := 52, descriptorIndex := 53, attributes := #[] }] 48 4 #[] #[{ accessFlags := 4120, nameIndex := 121, descriptorIndex := 122, attributes := #[] }])
  fields := #[{ name := "$assertionsDisabled", type := .boolean, accessFlags := 4120, slot := 0, constantValue := 0 }]
  methods := #[k11m0, k11m1, k11m2]
  instanceTypes := #[]
  staticTypes := #[.boolean]
  resolved := Array.replicate 395 none
  statics := none }

def pool12 : Array CpInfo := pool [(2, .class_ 4), (1, u "java/lang/Object"), (0, u "<init>"), (0, u "()V"), (1, .class_ 10), (1, u "java/lang/CharacterData")] 75

def k12m0 : Method := { name := "<init>", desc := "()V", sig := { parameters := [], returnType := none }, accessFlags := 0, code := none }
/-- java/lang/CharacterData -/
def k12 : Class := { plain "java/lang/CharacterData" (some 0) with
  accessFlags := 1056
  interfaces := #[]
  cf := some (fileOf pool12 8 #[] #[{ accessFlags := 0, nameIndex := 5, descriptorIndex := 6, attributes := #[] }] 1056 2 #[] #[])
  fields := #[]
  methods := #[k12m0]
  instanceTypes := #[]
  staticTypes := #[]
  resolved := Array.replicate 86 none
  statics := none }

def pool13 : Array CpInfo := pool [(1, .fieldref 2 3), (0, .class_ 4), (0, .nameAndType 5 6), (0, u "java/lang/CharacterDataLatin1"), (0, u "A"), (0, u "[I"), (2, u "B"), (0, u "[C"), (3, u "(I)I"), (0, .methodref 2 16), (0, .nameAndType 17 14), (0, u "getProperties"), (3, u "(I)Z"), (5, u "DIGITS"), (0, u "[B"), (8, u "sharpsMap"), (1, .class_ 41), (1, u "java/lang/CharacterData"), (0, u "<init>"), (0, u "()V"), (3, u "instance"), (0, u "Ljava/lang/CharacterDataLatin1;"), (78, u "isWhitespace")] 13

def k13c0 : Code := { maxStack := 2, maxLocals := 4, code := jdk_116_method_1_code, exceptionTable := #[], attributes := #[] }
def k13m0 : Method := { name := "getProperties", desc := "(I)I", sig := { parameters := [.int], returnType := some .int }, accessFlags := 0, code := some k13c0 }
def k13c1 : Code := { maxStack := 2, maxLocals := 3, code := jdk_116_method_26_code, exceptionTable := #[], attributes := #[] }
def k13m1 : Method := { name := "isWhitespace", desc := "(I)Z", sig := { parameters := [.int], returnType := some .boolean }, accessFlags := 0, code := some k13c1 }
def k13m2 : Method := { name := "<init>", desc := "()V", sig := { parameters := [], returnType := none }, accessFlags := 2, code := none }
/-- java/lang/CharacterDataLatin1 -/
def k13 : Class := { plain "java/lang/CharacterDataLatin1" (some 12) with
  accessFlags := 32
  interfaces := #[]
  cf := some (fileOf pool13 2 #[] #[{ accessFlags := 0, nameIndex := 17, descriptorIndex := 14, attributes := #[] }, { accessFlags := 0, nameIndex := 127, descriptorIndex := 21, attributes := #[] }, { accessFlags := 2, nameIndex := 42, descriptorIndex := 43, attributes := #[] }] 32 39 #[] #[{ accessFlags := 26, nameIndex := 27, descriptorIndex := 28, attributes := #[] }, { accessFlags := 8, nameIndex := 37, descriptorIndex := 10, attributes := #[] }, { accessFlags := 24, nameIndex := 47, descriptorIndex := 48, attributes := #[] }, { accessFlags := 24, nameIndex := 5, descriptorIndex := 6, attributes := #[] }, { accessFlags := 24, nameIndex := 9, descriptorIndex := 10, attributes := #[] }])
  fields := #[{ name := "DIGITS", type := (.array .byte), accessFlags := 26, slot := 0, constantValue := 0 }, { name := "sharpsMap", type := (.array .char), accessFlags := 8, slot := 1, constantValue := 0 }, { name := "instance", type := (.object "java/lang/CharacterDataLatin1"), accessFlags := 24, slot := 2, constantValue := 0 }, { name := "A", type := (.array .int), accessFlags := 24, slot := 3, constantValue := 0 }, { name := "B", type := (.array .char), accessFlags := 24, slot := 4, constantValue := 0 }]
  methods := #[k13m0, k13m1, k13m2]
  instanceTypes := #[]
  staticTypes := #[(.array .byte), (.array .char), (.object "java/lang/CharacterDataLatin1"), (.array .int), (.array .char)]
  resolved := Array.replicate 141 none
  statics := some 1 }

def pool14 : Array CpInfo := pool [(2, .class_ 4), (1, u "java/lang/Object"), (0, u "<init>"), (0, u "()V"), (17, .class_ 26), (1, u "jdk/internal/util/Preconditions"), (28, .class_ 56), (0, u "jdk/internal/util/Preconditions$4"), (57, .class_ 115), (0, u "jdk/internal/util/Preconditions$1"), (7, u "SIOOBE_FORMATTER"), (0, u "Ljava/util/function/BiFunction;"), (0, .class_ 126), (0, u "jdk/internal/util/Preconditions$2"), (3, u "AIOOBE_FORMATTER"), (0, .class_ 132), (0, u "jdk/internal/util/Preconditions$3"), (3, u "IOOBE_FORMATTER")] 57

def k14m0 : Method := { name := "<init>", desc := "()V", sig := { parameters := [], returnType := none }, accessFlags := 1, code := none }
/-- jdk/internal/util/Preconditions -/
def k14 : Class := { plain "jdk/internal/util/Preconditions" (some 0) with
  accessFlags := 33
  interfaces := #[]
  cf := some (fileOf pool14 24 #[.nestMembers #[55, 131, 125, 114]] #[{ accessFlags := 1, nameIndex := 5, descriptorIndex := 6, attributes := #[] }] 33 2 #[] #[{ accessFlags := 25, nameIndex := 123, descriptorIndex := 124, attributes := #[] }, { accessFlags := 25, nameIndex := 130, descriptorIndex := 124, attributes := #[] }, { accessFlags := 25, nameIndex := 136, descriptorIndex := 124, attributes := #[] }])
  fields := #[{ name := "SIOOBE_FORMATTER", type := (.object "java/util/function/BiFunction"), accessFlags := 25, slot := 0, constantValue := 0 }, { name := "AIOOBE_FORMATTER", type := (.object "java/util/function/BiFunction"), accessFlags := 25, slot := 1, constantValue := 0 }, { name := "IOOBE_FORMATTER", type := (.object "java/util/function/BiFunction"), accessFlags := 25, slot := 2, constantValue := 0 }]
  methods := #[k14m0]
  instanceTypes := #[]
  staticTypes := #[(.object "java/util/function/BiFunction"), (.object "java/util/function/BiFunction"), (.object "java/util/function/BiFunction")]
  resolved := Array.replicate 194 none
  statics := some 2 }

def pool15 : Array CpInfo := pool [(9, u "<init>"), (6, .class_ 18), (1, u "java/lang/Object"), (0, u "()V"), (1, .class_ 23), (1, u "jdk/internal/util/ArraysSupport"), (0, u "LOG2_ARRAY_LONG_INDEX_SCALE"), (0, u "I"), (2, u "U"), (0, u "Ljdk/internal/misc/Unsafe;"), (8, u "BIG_ENDIAN"), (0, u "Z"), (8, u "LOG2_BYTE_BIT_SIZE"), (4, u "LOG2_ARRAY_INT_INDEX_SCALE"), (54, u "JLA"), (0, u "Ljdk/internal/access/JavaLangAccess;"), (11, u "LOG2_ARRAY_BOOLEAN_INDEX_SCALE"), (9, u "LOG2_ARRAY_BYTE_INDEX_SCALE"), (5, u "LOG2_ARRAY_CHAR_INDEX_SCALE"), (5, u "LOG2_ARRAY_SHORT_INDEX_SCALE"), (18, u "LOG2_ARRAY_FLOAT_INDEX_SCALE"), (24, u "LOG2_ARRAY_DOUBLE_INDEX_SCALE"), (89, u "T_BOOLEAN"), (2, u "T_CHAR"), (1, u "T_FLOAT"), (1, u "T_DOUBLE"), (1, u "T_BYTE"), (1, u "T_SHORT"), (1, u "T_INT"), (1, u "T_LONG"), (1, u "SOFT_MAX_ARRAY_LENGTH")] 83

def k15m0 : Method := { name := "<init>", desc := "()V", sig := { parameters := [], returnType := none }, accessFlags := 2, code := none }
/-- jdk/internal/util/ArraysSupport -/
def k15 : Class := { plain "jdk/internal/util/ArraysSupport" (some 0) with
  accessFlags := 33
  interfaces := #[]
  cf := some (fileOf pool15 21 #[] #[{ accessFlags := 2, nameIndex := 9, descriptorIndex := 19, attributes := #[] }] 33 16 #[] #[{ accessFlags := 24, nameIndex := 28, descriptorIndex := 29, attributes := #[] }, { accessFlags := 26, nameIndex := 38, descriptorIndex := 39, attributes := #[] }, { accessFlags := 25, nameIndex := 121, descriptorIndex := 25, attributes := #[] }, { accessFlags := 25, nameIndex := 131, descriptorIndex := 25, attributes := #[] }, { accessFlags := 25, nameIndex := 137, descriptorIndex := 25, attributes := #[] }, { accessFlags := 25, nameIndex := 143, descriptorIndex := 25, attributes := #[] }, { accessFlags := 25, nameIndex := 53, descriptorIndex := 25, attributes := #[] }, { accessFlags := 25, nameIndex := 24, descriptorIndex := 25, attributes := #[] }, { accessFlags := 25, nameIndex := 162, descriptorIndex := 25, attributes := #[] }, { accessFlags := 25, nameIndex := 187, descriptorIndex := 25, attributes := #[] }, { accessFlags := 26, nameIndex := 48, descriptorIndex := 25, attributes := #[] }, { accessFlags := 25, nameIndex := 277, descriptorIndex := 25, attributes := #[] }, { accessFlags := 25, nameIndex := 280, descriptorIndex := 25, attributes := #[] }, { accessFlags := 25, nameIndex := 282, descriptorIndex := 25, attributes := #[] }, { accessFlags := 25, nameIndex := 284, descriptorIndex := 25, attributes := #[] }, { accessFlags := 25, nameIndex := 286, descriptorIndex := 25, attributes := #[] }, { accessFlags := 25, nameIndex := 288, descriptorIndex := 25, attributes := #[] }, { accessFlags := 25, nameIndex := 290, descriptorIndex := 25, attributes := #[] }, { accessFlags := 25, nameIndex := 292, descriptorIndex := 25, attributes := #[] }, { accessFlags := 26, nameIndex := 108, descriptorIndex := 109, attributes := #[] }, { accessFlags := 25, nameIndex := 294, descriptorIndex := 25, attributes := #[] }])
  fields := #[{ name := "U", type := (.object "jdk/internal/misc/Unsafe"), accessFlags := 24, slot := 0, constantValue := 0 }, { name := "BIG_ENDIAN", type := .boolean, accessFlags := 26, slot := 1, constantValue := 0 }, { name := "LOG2_ARRAY_BOOLEAN_INDEX_SCALE", type := .int, accessFlags := 25, slot := 2, constantValue := 0 }, { name := "LOG2_ARRAY_BYTE_INDEX_SCALE", type := .int, accessFlags := 25, slot := 3, constantValue := 0 }, { name := "LOG2_ARRAY_CHAR_INDEX_SCALE", type := .int, accessFlags := 25, slot := 4, constantValue := 0 }, { name := "LOG2_ARRAY_SHORT_INDEX_SCALE", type := .int, accessFlags := 25, slot := 5, constantValue := 0 }, { name := "LOG2_ARRAY_INT_INDEX_SCALE", type := .int, accessFlags := 25, slot := 6, constantValue := 0 }, { name := "LOG2_ARRAY_LONG_INDEX_SCALE", type := .int, accessFlags := 25, slot := 7, constantValue := 0 }, { name := "LOG2_ARRAY_FLOAT_INDEX_SCALE", type := .int, accessFlags := 25, slot := 8, constantValue := 0 }, { name := "LOG2_ARRAY_DOUBLE_INDEX_SCALE", type := .int, accessFlags := 25, slot := 9, constantValue := 0 }, { name := "LOG2_BYTE_BIT_SIZE", type := .int, accessFlags := 26, slot := 10, constantValue := 0 }, { name := "T_BOOLEAN", type := .int, accessFlags := 25, slot := 11, constantValue := 0 }, { name := "T_CHAR", type := .int, accessFlags := 25, slot := 12, constantValue := 0 }, { name := "T_FLOAT", type := .int, accessFlags := 25, slot := 13, constantValue := 0 }, { name := "T_DOUBLE", type := .int, accessFlags := 25, slot := 14, constantValue := 0 }, { name := "T_BYTE", type := .int, accessFlags := 25, slot := 15, constantValue := 0 }, { name := "T_SHORT", type := .int, accessFlags := 25, slot := 16, constantValue := 0 }, { name := "T_INT", type := .int, accessFlags := 25, slot := 17, constantValue := 0 }, { name := "T_LONG", type := .int, accessFlags := 25, slot := 18, constantValue := 0 }, { name := "JLA", type := (.object "jdk/internal/access/JavaLangAccess"), accessFlags := 26, slot := 19, constantValue := 0 }, { name := "SOFT_MAX_ARRAY_LENGTH", type := .int, accessFlags := 25, slot := 20, constantValue := 0 }]
  methods := #[k15m0]
  instanceTypes := #[]
  staticTypes := #[(.object "jdk/internal/misc/Unsafe"), .boolean, .int, .int, .int, .int, .int, .int, .int, .int, .int, .int, .int, .int, .int, .int, .int, .int, .int, (.object "jdk/internal/access/JavaLangAccess"), .int]
  resolved := Array.replicate 378 none
  statics := none }

def pool16 : Array CpInfo := pool [(1, u "java/lang/Cloneable"), (0, .class_ 1), (0, u "java/lang/Object"), (0, .class_ 3)] 3

/-- java/lang/Cloneable -/
def k16 : Class := { plain "java/lang/Cloneable" (some 0) with
  accessFlags := 1537
  interfaces := #[]
  cf := some (fileOf pool16 2 #[] #[] 1537 4 #[] #[])
  fields := #[]
  methods := #[]
  instanceTypes := #[]
  staticTypes := #[]
  resolved := Array.replicate 8 none
  statics := none }

/-- the primitive byte -/
def k17 : Class := { plain "byte" none with kind := .primitive 'B', accessFlags := 0x411 }
/-- [B -/
def k18 : Class := { plain "[B" (some 0) with kind := .array 17 .byte, interfaces := #[16, 2], accessFlags := 1041 }

/-- the primitive char -/
def k19 : Class := { plain "char" none with kind := .primitive 'C', accessFlags := 0x411 }
/-- [C -/
def k20 : Class := { plain "[C" (some 0) with kind := .array 19 .char, interfaces := #[16, 2], accessFlags := 1041 }

/-- the primitive int -/
def k21 : Class := { plain "int" none with kind := .primitive 'I', accessFlags := 0x411 }
/-- [I -/
def k22 : Class := { plain "[I" (some 0) with kind := .array 21 .int, interfaces := #[16, 2], accessFlags := 1041 }

def heap : Heap := #[{ cls := 7, slots := #[.long 0, .int 1, .null, .int 0, .null, .int 0, .int 0], vm := .statics 7 },
  { cls := 13, slots := #[.null, .null, .ref 4, .ref 5, .null], vm := .statics 13 },
  { cls := 14, slots := #[.null, .null, .null], vm := .statics 14 },
  { cls := 15, slots := #[], vm := .none },
  { cls := 13, slots := #[], vm := .none },
  { cls := 22, slots := #[.int 1207963663, .int 1207963663, .int 1207963663, .int 1207963663, .int 1207963663, .int 1207963663, .int 1207963663, .int 1207963663, .int 1207963663, .int 1476411407, .int 1342193679, .int 1476411407, .int 1610629135, .int 1342193679, .int 1207963663, .int 1207963663, .int 1207963663, .int 1207963663, .int 1207963663, .int 1207963663, .int 1207963663, .int 1207963663, .int 1207963663, .int 1207963663, .int 1207963663, .int 1207963663, .int 1207963663, .int 1207963663, .int 1342193679, .int 1342193679, .int 1342193679, .int 1476411407, .int 1610629132, .int 1744830488, .int 1744830488, .int 671088664, .int 671113242, .int 671088664, .int 1744830488, .int 1744830488, .int (-402653163), .int (-402653162), .int 1744830488, .int 536870937, .int 939524120, .int 536870932, .int 939524120, .int 939524120, .int 402667017, .int 402667017, .int 402667017, .int 402667017, .int 402667017, .int 402667017, .int 402667017, .int 402667017, .int 402667017, .int 402667017, .int 939524120, .int 1744830488, .int (-402653159), .int 1744830489, .int (-402653159), .int 1744830488, .int 1744830488, .int 8552417, .int 8552417, .int 8552417, .int 8552417, .int 8552417, .int 8552417, .int 8552417, .int 8552417, .int 8552417, .int 8552417, .int 8552417, .int 8552417, .int 8552417, .int 8552417, .int 8552417, .int 8552417, .int 8552417, .int 8552417, .int 8552417, .int 8552417, .int 8552417, .int 8552417, .int 8552417, .int 8552417, .int 8552417, .int 8552417, .int (-402653163), .int 1744830488, .int (-402653162), .int 1744830491, .int 1744850967, .int 1744830491, .int 8486882, .int 8486882, .int 8486882, .int 8486882, .int 8486882, .int 8486882, .int 8486882, .int 8486882, .int 8486882, .int 8486882, .int 8486882, .int 8486882, .int 8486882, .int 8486882, .int 8486882, .int 8486882, .int 8486882, .int 8486882, .int 8486882, .int 8486882, .int 8486882, .int 8486882, .int 8486882, .int 8486882, .int 8486882, .int 8486882, .int (-402653163), .int 1744830489, .int (-402653162), .int 1744830489, .int 1207963663, .int 1207963663, .int 1207963663, .int 1207963663, .int 1207963663, .int 1207963663, .int 1342181391, .int 1207963663, .int 1207963663, .int 1207963663, .int 1207963663, .int 1207963663, .int 1207963663, .int 1207963663, .int 1207963663, .int 1207963663, .int 1207963663, .int 1207963663, .int 1207963663, .int 1207963663, .int 1207963663, .int 1207963663, .int 1207963663, .int 1207963663, .int 1207963663, .int 1207963663, .int 1207963663, .int 1207963663, .int 1207963663, .int 1207963663, .int 1207963663, .int 1207963663, .int 1207963663, .int 939524108, .int 1744830488, .int 671113242, .int 671113242, .int 671113242, .int 671113242, .int 1744830492, .int 1744830488, .int 1744830491, .int 1744830492, .int 28677, .int (-402653155), .int 1744830489, .int 1207963664, .int 1744830492, .int 1744830491, .int 671088668, .int 671088665, .int 402654731, .int 402654731, .int 1744830491, .int 134049794, .int 1744830488, .int 1744830488, .int 1744830491, .int 402654475, .int 28677, .int (-402653154), .int 1744832523, .int 1744832523, .int 1744832523, .int 1744830488, .int 8548353, .int 8548353, .int 8548353, .int 8548353, .int 8548353, .int 8548353, .int 8548353, .int 8548353, .int 8548353, .int 8548353, .int 8548353, .int 8548353, .int 8548353, .int 8548353, .int 8548353, .int 8548353, .int 8548353, .int 8548353, .int 8548353, .int 8548353, .int 8548353, .int 8548353, .int 8548353, .int 1744830489, .int 8548353, .int 8548353, .int 8548353, .int 8548353, .int 8548353, .int 8548353, .int 8548353, .int 134049794, .int 8482818, .int 8482818, .int 8482818, .int 8482818, .int 8482818, .int 8482818, .int 8482818, .int 8482818, .int 8482818, .int 8482818, .int 8482818, .int 8482818, .int 8482818, .int 8482818, .int 8482818, .int 8482818, .int 8482818, .int 8482818, .int 8482818, .int 8482818, .int 8482818, .int 8482818, .int 8482818, .int 1744830489, .int 8482818, .int 8482818, .int 8482818, .int 8482818, .int 8482818, .int 8482818, .int 8482818, .int 102592514], vm := .none }]
def classes : Array Class := #[k0, k1, k2, k3, k4, k5, k6, k7, k8, k9, k10, k11, k12, k13, k14, k15, k16, k17, k18, k19, k20, k21, k22]
def interned : List (Array UInt16 × Addr) := []
def slotsUsed : Nat := 271
def theMethod : MethodId := ⟨1, 2⟩
def args0 : Array Value := #[.int 3, .int 5, .int 6, .int 7]
def aboutOver (below : List Frame) : State where
  vm := { classes := classes, interned := interned.toArray }
  heap := heap
  slotsUsed := slotsUsed
  threads := #[{ frames := .invoking theMethod args0 :: below }]
def below0 : List Frame := [.native { method := ⟨0, 0⟩, args := #[] }]
def about1 : State := aboutOver below0
def p0 : Program := .bare "" "" ""
def e0 : Env := launch0.env 0 0 0
theorem w_frames : about1.frames = Frame.invoking theMethod args0 :: below0 := rfl
set_option maxRecDepth 65536 in
theorem w_args : argsFit about1.vm theMethod args0 = true := by decide +kernel
set_option maxRecDepth 65536 in
theorem w_heap : heapFits about1 = true := by decide +kernel
set_option maxRecDepth 65536 in
theorem w_runnable : about1.curStatus? = some .runnable := by decide +kernel
set_option maxRecDepth 65536 in
theorem w_alone : about1.alone = true := by decide +kernel
set_option maxRecDepth 65536 in
theorem w_named : about1.methodNamed? x = some theMethod := by decide +kernel
set_option maxRecDepth 65536 in
theorem w_hears : about1.hears theMethod below0 = true := by decide +kernel
set_option maxRecDepth 65536 in
theorem w_ripe : about1.ripe theMethod args0 below0 = true := by decide +kernel
theorem w_running : about1.status = .running := rfl
set_option maxRecDepth 65536 in
theorem w_room : about1.hasRoom e0.platform room_1 = true :=
  launch0.hasRoom_least _ room_1 (by decide +kernel) (by decide +kernel) (by decide +kernel) (by decide +kernel) (by decide +kernel) (by decide +kernel)
theorem allAtoms_all (ts : List Jvm.Cond) (a : Array Jvm.Value) (st : Jvm.State) : (allAtoms ts).before a st = ts.all (fun c => c.before a st) := by
  induction ts with
  | nil => rfl
  | cons c t ih =>
    show (Jvm.Cond.and c (allAtoms t)).before a st = _
    rw [Jvm.Cond.before_and, ih, List.all_cons]
def words1 : List Jvm.Cond := Jvm.Cond.code x code maxLocals ret :: tables_1
/-- a 'code' word, met by the world's own term for the bytes: nothing is compared byte by byte -/
theorem code_word {y : MethodName} {bytes : ByteArray} {mx : Nat} {rt : Option FieldType} {a : Array Value} {s : State} {m : MethodId} {meth : Method} {c : Code} (h1 : s.methodNamed? y = some m) (h2 : s.vm.method? m = some meth) (h3 : meth.code = some c) (h4 : c.code = bytes)
    (h5 : (c.maxLocals == mx && c.exceptionTable.isEmpty && decide (c.maxStack ≤ mostOperands) && decide (meth.sig.returnType = rt) && !meth.locks && decide (parseMethodDescriptor y.desc = some meth.sig)) = true) : (Jvm.Cond.code y bytes mx rt).before a s = true := by
  simp only [Bool.and_eq_true, beq_iff_eq, Bool.not_eq_true', decide_eq_true_eq] at h5
  obtain ⟨⟨⟨⟨⟨g1, g2⟩, g3⟩, g4⟩, g5⟩, g6⟩ := h5
  simp [Cond.before, Cond.holds, Cond.value, h1, h2, h3, h4, g1, g2, g3, g4, g5, g6]
def isCode : Jvm.Cond → Bool
  | .code _ _ _ _ => true
  | _ => false
theorem all_split {L : List Jvm.Cond} {P : Jvm.Cond → Bool} (h1 : L.all (fun c => isCode c || P c) = true) (h2 : ∀ c ∈ L.filter isCode, P c = true) : L.all P = true := by
  refine List.all_eq_true.mpr fun c hc => ?_
  have h := List.all_eq_true.mp h1 c hc
  rcases Bool.eq_false_or_eq_true (isCode c) with hi | hi
  · exact h2 c (List.mem_filter.mpr ⟨hc, hi⟩)
  · simpa [hi] using h
set_option maxRecDepth 65536 in
theorem w_c0 : (Jvm.Cond.code x code maxLocals ret).before args0 about1 = true := code_word (m := ⟨1, 2⟩) (meth := k1m2) (c := k1c2) (by decide +kernel) rfl rfl rfl (by decide +kernel)
set_option maxRecDepth 65536 in
theorem w_c1 : (Jvm.Cond.code ({ cls := "com/example/demarc/demarc/resource/BranchOutcomeRequireResourceNamePinLaw", name := "make", desc := "(I)[C" } : Jvm.MethodName) method_2_code (1 : Nat) (Option.some (Jvm.ClassFile.FieldType.array Jvm.ClassFile.FieldType.char))).before args0 about1 = true := code_word (m := ⟨1, 1⟩) (meth := k1m1) (c := k1c1) (by decide +kernel) rfl rfl rfl (by decide +kernel)
set_option maxRecDepth 65536 in
theorem w_c2 : (Jvm.Cond.code ({ cls := "java/lang/String", name := "<init>", desc := "([C)V" } : Jvm.MethodName) jdk_42_method_3_code (2 : Nat) (Option.none : Option Jvm.ClassFile.FieldType)).before args0 about1 = true := code_word (m := ⟨7, 1⟩) (meth := k7m1) (c := k7c1) (by decide +kernel) rfl rfl rfl (by decide +kernel)
set_option maxRecDepth 65536 in
theorem w_c3 : (Jvm.Cond.code ({ cls := "java/lang/String", name := "<init>", desc := "([CIILjava/lang/Void;)V" } : Jvm.MethodName) jdk_42_method_149_code (6 : Nat) (Option.none : Option Jvm.ClassFile.FieldType)).before args0 about1 = true := code_word (m := ⟨7, 6⟩) (meth := k7m6) (c := k7c6) (by decide +kernel) rfl rfl rfl (by decide +kernel)
set_option maxRecDepth 65536 in
theorem w_c4 : (Jvm.Cond.code ({ cls := "java/lang/Object", name := "<init>", desc := "()V" } : Jvm.MethodName) object_method_1_code (1 : Nat) (Option.none : Option Jvm.ClassFile.FieldType)).before args0 about1 = true := code_word (m := ⟨0, 0⟩) (meth := k0m0) (c := k0c0) (by decide +kernel) rfl rfl rfl (by decide +kernel)
set_option maxRecDepth 65536 in
theorem w_c5 : (Jvm.Cond.code ({ cls := "java/lang/StringUTF16", name := "compress", desc := "([CII)[B" } : Jvm.MethodName) jdk_52_method_16_code (6 : Nat) (Option.some (Jvm.ClassFile.FieldType.array Jvm.ClassFile.FieldType.byte))).before args0 about1 = true := code_word (m := ⟨8, 2⟩) (meth := k8m2) (c := k8c2) (by decide +kernel) rfl rfl rfl (by decide +kernel)
set_option maxRecDepth 65536 in
theorem w_c6 : (Jvm.Cond.code ({ cls := "java/lang/StringUTF16", name := "compress", desc := "([CI[BII)I" } : Jvm.MethodName) jdk_52_method_21_code (7 : Nat) (Option.some Jvm.ClassFile.FieldType.int)).before args0 about1 = true := code_word (m := ⟨8, 3⟩) (meth := k8m3) (c := k8c3) (by decide +kernel) rfl rfl rfl (by decide +kernel)
set_option maxRecDepth 65536 in
theorem w_c7 : (Jvm.Cond.code ({ cls := "java/lang/StringUTF16", name := "coderFromArrayLen", desc := "([BI)B" } : Jvm.MethodName) jdk_52_method_15_code (2 : Nat) (Option.some Jvm.ClassFile.FieldType.byte)).before args0 about1 = true := code_word (m := ⟨8, 1⟩) (meth := k8m1) (c := k8c1) (by decide +kernel) rfl rfl rfl (by decide +kernel)
set_option maxRecDepth 65536 in
theorem w_c8 : (Jvm.Cond.code ({ cls := "com/example/demarc/demarc/resource/BranchOutcome", name := "requireResourceName", desc := "(Ljava/lang/String;)Ljava/lang/String;" } : Jvm.MethodName) prog_5_method_2_code (1 : Nat) (Option.some (Jvm.ClassFile.FieldType.object "java/lang/String"))).before args0 about1 = true := code_word (m := ⟨9, 0⟩) (meth := k9m0) (c := k9c0) (by decide +kernel) rfl rfl rfl (by decide +kernel)
set_option maxRecDepth 65536 in
theorem w_c9 : (Jvm.Cond.code ({ cls := "java/util/Objects", name := "requireNonNull", desc := "(Ljava/lang/Object;Ljava/lang/String;)Ljava/lang/Object;" } : Jvm.MethodName) jdk_31_method_11_code (2 : Nat) (Option.some (Jvm.ClassFile.FieldType.object "java/lang/Object"))).before args0 about1 = true := code_word (m := ⟨10, 1⟩) (meth := k10m1) (c := k10c1) (by decide +kernel) rfl rfl rfl (by decide +kernel)
set_option maxRecDepth 65536 in
theorem w_c10 : (Jvm.Cond.code ({ cls := "java/lang/String", name := "isBlank", desc := "()Z" } : Jvm.MethodName) jdk_42_method_117_code (1 : Nat) (Option.some Jvm.ClassFile.FieldType.boolean)).before args0 about1 = true := code_word (m := ⟨7, 4⟩) (meth := k7m4) (c := k7c4) (by decide +kernel) rfl rfl rfl (by decide +kernel)
set_option maxRecDepth 65536 in
theorem w_c11 : (Jvm.Cond.code ({ cls := "java/lang/String", name := "indexOfNonWhitespace", desc := "()I" } : Jvm.MethodName) jdk_42_method_120_code (1 : Nat) (Option.some Jvm.ClassFile.FieldType.int)).before args0 about1 = true := code_word (m := ⟨7, 5⟩) (meth := k7m5) (c := k7c5) (by decide +kernel) rfl rfl rfl (by decide +kernel)
set_option maxRecDepth 65536 in
theorem w_c12 : (Jvm.Cond.code ({ cls := "java/lang/String", name := "isLatin1", desc := "()Z" } : Jvm.MethodName) jdk_42_method_154_code (1 : Nat) (Option.some Jvm.ClassFile.FieldType.boolean)).before args0 about1 = true := code_word (m := ⟨7, 8⟩) (meth := k7m8) (c := k7c8) (by decide +kernel) rfl rfl rfl (by decide +kernel)
set_option maxRecDepth 65536 in
theorem w_c13 : (Jvm.Cond.code ({ cls := "java/lang/StringLatin1", name := "indexOfNonWhitespace", desc := "([B)I" } : Jvm.MethodName) jdk_43_method_37_code (4 : Nat) (Option.some Jvm.ClassFile.FieldType.int)).before args0 about1 = true := code_word (m := ⟨11, 1⟩) (meth := k11m1) (c := k11c1) (by decide +kernel) rfl rfl rfl (by decide +kernel)
set_option maxRecDepth 65536 in
theorem w_c14 : (Jvm.Cond.code ({ cls := "java/lang/StringLatin1", name := "getChar", desc := "([BI)C" } : Jvm.MethodName) jdk_43_method_44_code (2 : Nat) (Option.some Jvm.ClassFile.FieldType.char)).before args0 about1 = true := code_word (m := ⟨11, 2⟩) (meth := k11m2) (c := k11c2) (by decide +kernel) rfl rfl rfl (by decide +kernel)
set_option maxRecDepth 65536 in
theorem w_c15 : (Jvm.Cond.code ({ cls := "java/lang/CharacterDataLatin1", name := "isWhitespace", desc := "(I)Z" } : Jvm.MethodName) jdk_116_method_26_code (3 : Nat) (Option.some Jvm.ClassFile.FieldType.boolean)).before args0 about1 = true := code_word (m := ⟨13, 1⟩) (meth := k13m1) (c := k13c1) (by decide +kernel) rfl rfl rfl (by decide +kernel)
set_option maxRecDepth 65536 in
theorem w_c16 : (Jvm.Cond.code ({ cls := "java/lang/CharacterDataLatin1", name := "getProperties", desc := "(I)I" } : Jvm.MethodName) jdk_116_method_1_code (4 : Nat) (Option.some Jvm.ClassFile.FieldType.int)).before args0 about1 = true := code_word (m := ⟨13, 0⟩) (meth := k13m0) (c := k13c0) (by decide +kernel) rfl rfl rfl (by decide +kernel)
set_option maxRecDepth 65536 in
theorem w_c17 : (Jvm.Cond.code ({ cls := "java/lang/String", name := "length", desc := "()I" } : Jvm.MethodName) jdk_42_method_54_code (1 : Nat) (Option.some Jvm.ClassFile.FieldType.int)).before args0 about1 = true := code_word (m := ⟨7, 2⟩) (meth := k7m2) (c := k7c2) (by decide +kernel) rfl rfl rfl (by decide +kernel)
set_option maxRecDepth 65536 in
theorem w_c18 : (Jvm.Cond.code ({ cls := "java/lang/String", name := "coder", desc := "()B" } : Jvm.MethodName) jdk_42_method_152_code (1 : Nat) (Option.some Jvm.ClassFile.FieldType.byte)).before args0 about1 = true := code_word (m := ⟨7, 7⟩) (meth := k7m7) (c := k7c7) (by decide +kernel) rfl rfl rfl (by decide +kernel)
set_option maxRecDepth 65536 in
theorem w_c19 : (Jvm.Cond.code ({ cls := "java/lang/String", name := "equals", desc := "(Ljava/lang/Object;)Z" } : Jvm.MethodName) jdk_42_method_66_code (3 : Nat) (Option.some Jvm.ClassFile.FieldType.boolean)).before args0 about1 = true := code_word (m := ⟨7, 3⟩) (meth := k7m3) (c := k7c3) (by decide +kernel) rfl rfl rfl (by decide +kernel)
def codes1 : List Jvm.Cond := [Jvm.Cond.code x code maxLocals ret, Jvm.Cond.code ({ cls := "com/example/demarc/demarc/resource/BranchOutcomeRequireResourceNamePinLaw", name := "make", desc := "(I)[C" } : Jvm.MethodName) method_2_code (1 : Nat) (Option.some (Jvm.ClassFile.FieldType.array Jvm.ClassFile.FieldType.char)), Jvm.Cond.code ({ cls := "java/lang/String", name := "<init>", desc := "([C)V" } : Jvm.MethodName) jdk_42_method_3_code (2 : Nat) (Option.none : Option Jvm.ClassFile.FieldType), Jvm.Cond.code ({ cls := "java/lang/String", name := "<init>", desc := "([CIILjava/lang/Void;)V" } : Jvm.MethodName) jdk_42_method_149_code (6 : Nat) (Option.none : Option Jvm.ClassFile.FieldType), Jvm.Cond.code ({ cls := "java/lang/Object", name := "<init>", desc := "()V" } : Jvm.MethodName) object_method_1_code (1 : Nat) (Option.none : Option Jvm.ClassFile.FieldType), Jvm.Cond.code ({ cls := "java/lang/StringUTF16", name := "compress", desc := "([CII)[B" } : Jvm.MethodName) jdk_52_method_16_code (6 : Nat) (Option.some (Jvm.ClassFile.FieldType.array Jvm.ClassFile.FieldType.byte)), Jvm.Cond.code ({ cls := "java/lang/StringUTF16", name := "compress", desc := "([CI[BII)I" } : Jvm.MethodName) jdk_52_method_21_code (7 : Nat) (Option.some Jvm.ClassFile.FieldType.int), Jvm.Cond.code ({ cls := "java/lang/StringUTF16", name := "coderFromArrayLen", desc := "([BI)B" } : Jvm.MethodName) jdk_52_method_15_code (2 : Nat) (Option.some Jvm.ClassFile.FieldType.byte), Jvm.Cond.code ({ cls := "com/example/demarc/demarc/resource/BranchOutcome", name := "requireResourceName", desc := "(Ljava/lang/String;)Ljava/lang/String;" } : Jvm.MethodName) prog_5_method_2_code (1 : Nat) (Option.some (Jvm.ClassFile.FieldType.object "java/lang/String")), Jvm.Cond.code ({ cls := "java/util/Objects", name := "requireNonNull", desc := "(Ljava/lang/Object;Ljava/lang/String;)Ljava/lang/Object;" } : Jvm.MethodName) jdk_31_method_11_code (2 : Nat) (Option.some (Jvm.ClassFile.FieldType.object "java/lang/Object")), Jvm.Cond.code ({ cls := "java/lang/String", name := "isBlank", desc := "()Z" } : Jvm.MethodName) jdk_42_method_117_code (1 : Nat) (Option.some Jvm.ClassFile.FieldType.boolean), Jvm.Cond.code ({ cls := "java/lang/String", name := "indexOfNonWhitespace", desc := "()I" } : Jvm.MethodName) jdk_42_method_120_code (1 : Nat) (Option.some Jvm.ClassFile.FieldType.int), Jvm.Cond.code ({ cls := "java/lang/String", name := "isLatin1", desc := "()Z" } : Jvm.MethodName) jdk_42_method_154_code (1 : Nat) (Option.some Jvm.ClassFile.FieldType.boolean), Jvm.Cond.code ({ cls := "java/lang/StringLatin1", name := "indexOfNonWhitespace", desc := "([B)I" } : Jvm.MethodName) jdk_43_method_37_code (4 : Nat) (Option.some Jvm.ClassFile.FieldType.int), Jvm.Cond.code ({ cls := "java/lang/StringLatin1", name := "getChar", desc := "([BI)C" } : Jvm.MethodName) jdk_43_method_44_code (2 : Nat) (Option.some Jvm.ClassFile.FieldType.char), Jvm.Cond.code ({ cls := "java/lang/CharacterDataLatin1", name := "isWhitespace", desc := "(I)Z" } : Jvm.MethodName) jdk_116_method_26_code (3 : Nat) (Option.some Jvm.ClassFile.FieldType.boolean), Jvm.Cond.code ({ cls := "java/lang/CharacterDataLatin1", name := "getProperties", desc := "(I)I" } : Jvm.MethodName) jdk_116_method_1_code (4 : Nat) (Option.some Jvm.ClassFile.FieldType.int), Jvm.Cond.code ({ cls := "java/lang/String", name := "length", desc := "()I" } : Jvm.MethodName) jdk_42_method_54_code (1 : Nat) (Option.some Jvm.ClassFile.FieldType.int), Jvm.Cond.code ({ cls := "java/lang/String", name := "coder", desc := "()B" } : Jvm.MethodName) jdk_42_method_152_code (1 : Nat) (Option.some Jvm.ClassFile.FieldType.byte), Jvm.Cond.code ({ cls := "java/lang/String", name := "equals", desc := "(Ljava/lang/Object;)Z" } : Jvm.MethodName) jdk_42_method_66_code (3 : Nat) (Option.some Jvm.ClassFile.FieldType.boolean)]
set_option maxRecDepth 65536 in
theorem codes_eq : words1.filter isCode = codes1 := rfl
theorem w_codes : ∀ c ∈ words1.filter isCode, c.before args0 about1 = true := by
  rw [codes_eq]
  intro c hc
  simp only [codes1, List.mem_cons, List.not_mem_nil, or_false] at hc
  rcases hc with rfl | rfl | rfl | rfl | rfl | rfl | rfl | rfl | rfl | rfl | rfl | rfl | rfl | rfl | rfl | rfl | rfl | rfl | rfl | rfl
  · exact w_c0
  · exact w_c1
  · exact w_c2
  · exact w_c3
  · exact w_c4
  · exact w_c5
  · exact w_c6
  · exact w_c7
  · exact w_c8
  · exact w_c9
  · exact w_c10
  · exact w_c11
  · exact w_c12
  · exact w_c13
  · exact w_c14
  · exact w_c15
  · exact w_c16
  · exact w_c17
  · exact w_c18
  · exact w_c19
set_option maxRecDepth 65536 in
theorem w_t1 : (words1.take 24).all (fun c => isCode c || c.before args0 about1) = true := by decide +kernel
set_option maxRecDepth 65536 in
theorem w_t2 : ((words1.drop 24).take 24).all (fun c => isCode c || c.before args0 about1) = true := by decide +kernel
set_option maxRecDepth 65536 in
theorem w_t3 : (((words1.drop 24).drop 24).take 24).all (fun c => isCode c || c.before args0 about1) = true := by decide +kernel
set_option maxRecDepth 65536 in
theorem w_t4 : ((((words1.drop 24).drop 24).drop 24).take 24).all (fun c => isCode c || c.before args0 about1) = true := by decide +kernel
set_option maxRecDepth 65536 in
theorem w_t5 : ((((words1.drop 24).drop 24).drop 24).drop 24).all (fun c => isCode c || c.before args0 about1) = true := by decide +kernel
theorem w_tables : (allAtoms (Jvm.Cond.code x code maxLocals ret :: tables_1)).before args0 about1 = true := by
  rw [allAtoms_all]
  show words1.all (fun c => c.before args0 about1) = true
  refine all_split ?_ w_codes
  rw [← List.take_append_drop 24 words1, List.all_append, w_t1, ← List.take_append_drop 24 (words1.drop 24), List.all_append, w_t2, ← List.take_append_drop 24 ((words1.drop 24).drop 24), List.all_append, w_t3, ← List.take_append_drop 24 (((words1.drop 24).drop 24).drop 24), List.all_append, w_t4, w_t5]
  rfl
set_option maxRecDepth 65536 in
theorem w_rest : rest_1_c.before args0 about1 = true := by decide +kernel
set_option maxRecDepth 65536 in
theorem w_case : (Jvm.Cond.and given_1 narrow_1).before args0 about1 = true := by decide +kernel
theorem w_applies : (headSpec (Jvm.Cond.code x code maxLocals ret :: tables_1) room_1).applies x e0.platform about1 = true :=
  (Spec.applies_iff w_frames).mpr ⟨w_running, w_runnable, w_alone, w_named, w_hears, w_ripe, w_room, w_tables⟩
theorem atStart : AtStart classFile x code maxLocals ret World_1 tables_1 room_1 Calls_1 rest_1 Pre_1 launch0 p0 e0 about1 theMethod args0 below0 :=
  ⟨lists_1, trivial, launch0.admits_env _ _ _, launch0.least_env, fairChoices_fair.cas, fairChoices_fair.clock, w_frames, w_args, w_heap, w_applies, trivial, w_rest, w_case⟩
end start1
theorem witness_1 : WitnessClaimed_1 := ⟨start1.p0, start1.e0, start1.about1, start1.theMethod, start1.args0, start1.below0, start1.atStart⟩
end Jvm.Pilot.@@N@@
