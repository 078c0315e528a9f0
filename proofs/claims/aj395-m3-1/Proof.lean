import JvmDerived
import JvmDerived.Pilot.@@N@@Statement
import JvmDerived.Pilot.@@N@@Code
set_option linter.unusedVariables false
set_option linter.unusedSimpArgs false
@@BLOCK:NumsL.lean.txt@@
namespace Jvm.RoadKit
open Sem ClassFile Op Lib Bundle Jvm.Stand Jvm.Free Jvm.LawKit
theorem Ext.rfl' {h : Heap} : Ext h h := ⟨Nat.le_refl _, fun _ _ q => q⟩
theorem Ext.tr {h h1 h2 : Heap} (A : Ext h h1) (B : Ext h1 h2) : Ext h h2 := ⟨Nat.le_trans A.1 B.1, fun a c q => B.2 a c (A.2 a c q)⟩
theorem Ext.wr' {h0 h h' : Heap} {a : Addr} {sl : Nat} {v : Value} (A : Ext h0 h) (W : Wr h h' a sl v) (ha : h0.size ≤ a) : Ext h0 h' := by
  obtain ⟨cl, -, -, -, rfl⟩ := W
  refine ⟨by simpa using A.1, fun b c q => ?_⟩
  have hb : b < h0.size := (Array.getElem?_eq_some_iff.mp q).1
  rw [Array.getElem?_setIfInBounds_ne (show a ≠ b from fun z => Nat.not_lt.mpr ha (z ▸ hb))]
  exact A.2 b c q
theorem Ext.keep' {h0 h h' : Heap} {ws : List Addr} (A : Ext h0 h) (K : Keep h h' ws) (q : ∀ x ∈ ws, h0.size ≤ x) : Ext h0 h' :=
  ⟨Nat.le_trans A.1 K.1, fun x c r => K.2.1 x c (A.2 x c r) fun z => absurd (Array.getElem?_eq_some_iff.mp r).1 (Nat.not_lt.mpr (q x z))⟩
end Jvm.RoadKit
namespace Jvm.Own
open Sem ClassFile Op Lib Bundle Jvm.Stand Jvm.Free Jvm.LawKit Jvm.RoadKit
/-! The own layer: a walk is a goal `Run .. vm h cells slots (fr m pc L st)`; each instruction is one lemma that turns the goal behind it into the goal ahead of it. -/
abbrev fr (m : MethodId) (pc : Nat) (L : List Slot) (st : List Value) : JFrame := mkF m pc ⟨L⟩ st
def Ends (tb : Tables) (e : Env) (below : List Frame) (K : State → Outcome → Prop) (T : State) (g : JFrame) : Prop :=
  ∃ s₂ o, Steps tb e below (T.setTop g) s₂ ∧ s₂.status = .running ∧ Ended s₂ below o ∧ K s₂ o
theorem Ends.go {tb : Tables} {e : Env} {below : List Frame} {K : State → Outcome → Prop} {T T' : State} {g g' : JFrame} (st : ∀ t, Steps tb e below (T'.setTop g') t → Steps tb e below (T.setTop g) t) (k : Ends tb e below K T' g') : Ends tb e below K T g := by
  obtain ⟨s₂, o, h1, h2⟩ := k
  exact ⟨s₂, o, st _ h1, h2⟩
/-- one decoded instruction and the pc behind it -/
def Dc (B : ByteArray) (pc : Nat) (i : Instr) (len q : Nat) : Prop := decode B pc = .ok (i, len) ∧ pc + len = q
/-- one decoded branch, the pc behind it and its target -/
def Jp (B : ByteArray) (pc : Nat) (i : Instr) (o : Int) (q t : Nat) : Prop := decode B pc = .ok (i, 3) ∧ pc + 3 = q ∧ 0 ≤ (pc : Int) + o ∧ ((pc : Int) + o).toNat = t
/-- CHr, and in a walk that interns nothing no cell more is a constant's -/
def CHs (nw : Prop) (Z : State) (EL : List (String × Nat)) (vm : Vm) (h : Heap) (vm' : Vm) (h' : Heap) : Prop := CHr Z EL vm h vm' h' ∧ (nw → ∀ y, Bk Z EL vm' h' y → Bk Z EL vm h y)
/-- where the walk stands -/
def Pnt (p : Program) (l : Launch) (e : Env) (R : Room) (s : State) (m : MethodId) (args : Array Value) (below : List Frame) (meth : Method) (c : Code) (Z : State) (nw : Prop) (EL : List (String × Nat)) (vm : Vm) (h : Heap) (cells slots : Nat) (T : State) : Prop :=
  ∃ (k : Nat) (locs : List Loc), Stand p l e R (s.setVm vm) m args below meth c T locs cells slots ∧ T.heap = h ∧ Fr Z.heap.size locs ∧ Ext Z.heap h ∧ s.Since vm k ∧ k ≤ h.size ∧ Z.Warmed39 vm ∧ CHs nw Z EL s.vm s.heap vm h ∧ (nw → s.WarmedH vm)
def Run (p : Program) (l : Launch) (e : Env) (R : Room) (s : State) (m : MethodId) (args : Array Value) (below : List Frame) (meth : Method) (c : Code) (Z : State) (nw : Prop) (EL : List (String × Nat)) (K : State → Outcome → Prop) (vm : Vm) (h : Heap) (cells slots : Nat) (g : JFrame) : Prop :=
  ∀ T, Pnt p l e R s m args below meth c Z nw EL vm h cells slots T → Ends p.tables e below K T g
/-- what never changes in a body's walk -/
def Cx (p : Program) (s : State) (m : MethodId) (meth : Method) (c : Code) (Z : State) (a0 : Array Value) (EL : List (String × Nat)) (own : String) (B : ByteArray) (n : Nat) (nm : String) (ret : Option FieldType) : Prop :=
  p.tables.exec = Jvm.exec ∧ c.code = B ∧ s.vm.findClass own = some m.cls ∧ c.maxLocals = n ∧ meth.locks = false ∧ meth.name = nm ∧ meth.sig.returnType = ret ∧ EW Z a0 EL
/-- how a body ends -/
def Kf (s Z : State) (nw : Prop) (EL : List (String × Nat)) (rm : Room) (Q : Option Value → Heap → Prop) (s₂ : State) (o : Outcome) : Prop :=
  ∃ v L, o = .returned v ∧ Q v s₂.heap ∧ Fr Z.heap.size L ∧ Ext Z.heap s₂.heap ∧ CHs nw Z EL s.vm s.heap s₂.vm s₂.heap ∧ ReturnedEndW s o s₂ L rm.cells rm.slots ∧ (nw → s.WarmedH s₂.vm)
/-- a body's contract -/
def Met (l : Launch) (Z : State) (nw : Prop) (EL : List (String × Nat)) (y : MethodName) (B : ByteArray) (n : Nat) (ret : Option FieldType) (rm : Room) (as : Array Value) (h : Heap) (sf : List Addr) (Q : Option Value → Heap → Prop) : Prop :=
  ∀ ws : List Jvm.Cond, MetFree l y (head1 (Cond.code y B n ret :: ws) rm) (fun a U => a = as ∧ Z.Warmed39 U.vm ∧ U.heap = h ∧ CHv Z EL U.vm h ∧ Ext Z.heap h ∧ ∀ x ∈ sf, Safe Z EL U.vm h x) (fun _ _ _ _ _ => True)
    (fun _ U o U' => Kf U Z nw EL rm Q U' o)
theorem Safe.nil {Z : State} {vm : Vm} {h : Heap} {x : Addr} : Safe Z [] vm h x := fun B => by
  obtain ⟨p, hp, -⟩ := B
  cases hp
theorem CHr.keepSafe {Z : State} {EL : List (String × Nat)} {vm vm1 : Vm} {h h' : Heap} (A : CHr Z EL vm h vm1 h') {x : Addr} (hx : x < h.size) (S : Safe Z EL vm h x) : Safe Z EL vm1 h' x := CHr.safe A hx S
theorem rew_mono {s t : State} {o : Outcome} {L : List Loc} {k n k' n' : Nat} (h : ReturnedEndW s o t L k n) (hk : k ≤ k') (hn : n ≤ n') : ReturnedEndW s o t L k' n' := by
  obtain ⟨h1, h2, h3, h4⟩ := h
  exact ⟨h1, h2, h3, h4.mono hk hn⟩
theorem CHs.refl {nw : Prop} {Z : State} {EL : List (String × Nat)} {vm : Vm} {h : Heap} (H : CHv Z EL vm h) : CHs nw Z EL vm h vm h := ⟨CHr.refl H, fun _ _ q => q⟩
theorem CHs.trans {nw : Prop} {Z : State} {EL : List (String × Nat)} {vm vm1 vm2 : Vm} {h h1 h2 : Heap} (A : CHs nw Z EL vm h vm1 h1) (B : CHs nw Z EL vm1 h1 vm2 h2) : CHs nw Z EL vm h vm2 h2 := ⟨A.1.trans B.1, fun z y q => A.2 z y (B.2 z y q)⟩
theorem CHs.wr {nw : Prop} {Z : State} {EL : List (String × Nat)} {vm : Vm} {h h' : Heap} {a : Addr} {sl : Nat} {v : Value} (W : Wr h h' a sl v) (S : Safe Z EL vm h a) (H : CHv Z EL vm h) : CHs nw Z EL vm h vm h' := ⟨CHr.wr W S H, fun _ => (H.wrStep W S).2⟩
theorem CHs.ext {nw : Prop} {Z : State} {EL : List (String × Nat)} {vm : Vm} {h h' : Heap} (E : Ext h h') (H : CHv Z EL vm h) : CHs nw Z EL vm h vm h' := ⟨CHr.ext E H, fun _ => (H.step fun _ _ _ q => E.2 _ _ q).2⟩
theorem CHs.keep {nw : Prop} {Z : State} {EL : List (String × Nat)} {vm : Vm} {h h' : Heap} {ws : List Addr} (K : Keep h h' ws) (hs : ∀ x ∈ ws, Safe Z EL vm h x) (H : CHv Z EL vm h) : CHs nw Z EL vm h vm h' := ⟨CHr.keep K hs H, fun _ => (H.keepStep K hs).2⟩
theorem CHs.of {nw : Prop} {Z : State} {EL : List (String × Nat)} {vm vm1 : Vm} {h : Heap} (A : CHr Z EL vm h vm1 h) : CHs nw Z EL vm h vm1 h := ⟨A, fun _ y q => by
  rcases A.2.2 y q with z | z
  · exact z
  · obtain ⟨cell, z2⟩ := q.there
    exact absurd (Array.getElem?_eq_some_iff.mp z2).1 (Nat.not_lt.mpr z)⟩
theorem CHs.cold {nw : Prop} {Z : State} {EL : List (String × Nat)} {vm vm1 : Vm} {h h' : Heap} (A : CHr Z EL vm h vm1 h') (hn : ¬ nw) : CHs nw Z EL vm h vm1 h' := ⟨A, fun z => absurd z hn⟩
theorem CHs.mono {nw nw' : Prop} {Z : State} {EL : List (String × Nat)} {vm vm1 : Vm} {h h' : Heap} (A : CHs nw' Z EL vm h vm1 h') (hn : nw → nw') : CHs nw Z EL vm h vm1 h' := ⟨A.1, fun z => A.2 (hn z)⟩
theorem CHs.fresh {nw : Prop} {Z : State} {EL : List (String × Nat)} {vm vm1 : Vm} {h h' : Heap} (A : CHs nw Z EL vm h vm1 h') (z : nw) {x : Addr} (hx : h.size ≤ x) : Safe Z EL vm1 h' x := fun B => by
  obtain ⟨cell, z2⟩ := (A.2 z x B).there
  exact absurd (Array.getElem?_eq_some_iff.mp z2).1 (Nat.not_lt.mpr hx)
section Body
variable {p : Program} {l : Launch} {e : Env} {R : Room} {s : State} {m : MethodId} {args : Array Value} {below : List Frame} {meth : Method} {c : Code} {Z : State} {a0 : Array Value} {nw : Prop} {EL : List (String × Nat)} {K : State → Outcome → Prop} {vm : Vm} {h : Heap} {cells slots : Nat} {own nm : String} {B : ByteArray} {n : Nat} {ret : Option FieldType}
theorem Run.plain {g g' : JFrame} (st : ∀ T, At T m c below → ∀ t, Steps p.tables e below (T.setTop g') t → Steps p.tables e below (T.setTop g) t) (k : Run p l e R s m args below meth c Z nw EL K vm h cells slots g') : Run p l e R s m args below meth c Z nw EL K vm h cells slots g := by
  intro T P
  have P' := P
  obtain ⟨kk, locs, X, -⟩ := P'
  exact Ends.go (st T X.here) (k T P)
/-- what the walk knows at every point -/
theorem Run.know {g : JFrame} (k : Ext Z.heap h → Z.Warmed39 vm → CHv Z EL vm h → Run p l e R s m args below meth c Z nw EL K vm h cells slots g) : Run p l e R s m args below meth c Z nw EL K vm h cells slots g := by
  intro T P
  have P' := P
  obtain ⟨kk, locs, X, e1, e2, e3, e4, e5, e6, e7, e8⟩ := P'
  exact k e3 e6 e7.1.1 T P
theorem Run.warm (C : Cx p s m meth c Z a0 EL own B n nm ret) {g g' : JFrame}
    (st : ∀ T locs, Stand p l e R (s.setVm vm) m args below meth c T locs cells slots → T.heap = h → Z.Warmed39 (s.setVm vm).vm → (s.setVm vm).vm.findClass own = some m.cls → ∃ T', Stand p l e R (s.setVm vm) m args below meth c T' locs cells slots ∧ T'.heap = h ∧ ∀ t, Steps p.tables e below (T'.setTop g') t → Steps p.tables e below (T.setTop g) t)
    (k : Run p l e R s m args below meth c Z nw EL K vm h cells slots g') : Run p l e R s m args below meth c Z nw EL K vm h cells slots g := by
  intro T P
  obtain ⟨kk, locs, X, e1, e2, e3, e4, e5, e6, e7, e8⟩ := P
  obtain ⟨T', X', e1', hst⟩ := st T locs X e1 e6 ((e4.1.alike.findClass _ _).trans C.2.2.1)
  exact Ends.go hst (k T' ⟨kk, locs, X', e1', e2, e3, e4, e5, e6, e7, e8⟩)
theorem Run.write (C : Cx p s m meth c Z a0 EL own B n nm ret) {g g' : JFrame} {a : Addr} {sl : Nat} {v : Value}
    (st : ∀ T locs, Stand p l e R (s.setVm vm) m args below meth c T locs cells slots → T.heap = h → Z.Warmed39 (s.setVm vm).vm → (s.setVm vm).vm.findClass own = some m.cls → ∃ T' h', Stand p l e R (s.setVm vm) m args below meth c T' (locs ++ [⟨a, sl⟩]) cells slots ∧ T'.heap = h' ∧ Wr h h' a sl v ∧ ∀ t, Steps p.tables e below (T'.setTop g') t → Steps p.tables e below (T.setTop g) t)
    (ha : Z.heap.size ≤ a) (hs : Safe Z EL vm h a)
    (k : ∀ h', Wr h h' a sl v → (∀ x, Safe Z EL vm h x → Safe Z EL vm h' x) → Run p l e R s m args below meth c Z nw EL K vm h' cells slots g') : Run p l e R s m args below meth c Z nw EL K vm h cells slots g := by
  intro T P
  obtain ⟨kk, locs, X, e1, e2, e3, e4, e5, e6, e7, e8⟩ := P
  obtain ⟨T', h', X', e1', W, hst⟩ := st T locs X e1 e6 ((e4.1.alike.findClass _ _).trans C.2.2.1)
  refine Ends.go hst (k h' W (fun x S => Safe.wr W hs e7.1.1 S) T' ⟨kk, _, X', e1', Fr.snoc X' e2 ha, Ext.wr' e3 W ha, e4, ?_, e6, e7.trans (CHs.wr W hs e7.1.1), e8⟩)
  rw [W.size]; exact e5
theorem Run.grow (C : Cx p s m meth c Z a0 EL own B n nm ret) {g g' : JFrame} {nn : Nat} {F : Heap → Prop}
    (st : ∀ T locs, Stand p l e R (s.setVm vm) m args below meth c T locs cells slots → T.heap = h → Z.Warmed39 (s.setVm vm).vm → (s.setVm vm).vm.findClass own = some m.cls → ∃ T' h', Stand p l e R (s.setVm vm) m args below meth c T' locs (cells + 1) (slots + nn) ∧ T'.heap = h' ∧ Ext h h' ∧ F h' ∧ ∀ t, Steps p.tables e below (T'.setTop g') t → Steps p.tables e below (T.setTop g) t)
    (k : ∀ h', Ext h h' → F h' → CHv Z EL vm h → (∀ x, Safe Z EL vm h x → Safe Z EL vm h' x) → Run p l e R s m args below meth c Z nw EL K vm h' (cells + 1) (slots + nn) g') : Run p l e R s m args below meth c Z nw EL K vm h cells slots g := by
  intro T P
  obtain ⟨kk, locs, X, e1, e2, e3, e4, e5, e6, e7, e8⟩ := P
  obtain ⟨T', h', X', e1', E, hF, hst⟩ := st T locs X e1 e6 ((e4.1.alike.findClass _ _).trans C.2.2.1)
  exact Ends.go hst (k h' E hF e7.1.1 (fun x S => Safe.ext E e7.1.1 S) T' ⟨kk, _, X', e1', e2, Ext.tr e3 E, e4, Nat.le_trans e5 E.1, e6, e7.trans (CHs.ext E e7.1.1), e8⟩)
/-- a bound on what was made may grow -/
theorem Run.more {g : JFrame} {cells' slots' : Nat} (hc : cells ≤ cells') (hs : slots ≤ slots') (k : Run p l e R s m args below meth c Z nw EL K vm h cells' slots' g) : Run p l e R s m args below meth c Z nw EL K vm h cells slots g := by
  intro T P
  obtain ⟨kk, locs, X, r⟩ := P
  exact k T ⟨kk, locs, X.more hc hs, r⟩
/-- the end of a body -/
theorem Run.out (C : Cx p s m meth c Z a0 EL own B n nm ret) {rm : Room} {Q : Option Value → Heap → Prop} {v : Option Value} {g : JFrame} (hv : ret = none → v = none) (hQ : Q v h) (hc : cells ≤ rm.cells) (hs : slots ≤ rm.slots)
    (st : ∀ T locs, Stand p l e R (s.setVm vm) m args below meth c T locs cells slots → ∀ fs : List Frame, (∀ (f : JFrame) (acts : List Action), f.method = m → f.locked = none → f.entered = [] → (doReturn e (T.setTop f) acts v).1 = T.setFrames fs) → Steps p.tables e below (T.setTop g) (T.setFrames fs)) :
    Run p l e R s m args below meth c Z nw EL (Kf s Z nw EL rm Q) vm h cells slots g := by
  intro T P
  obtain ⟨kk, locs, X, e1, e2, e3, e4, e5, e6, e7, e8⟩ := P
  obtain ⟨fs, hr, hrun, hended, hW⟩ := X.leaveW e4 (by rw [e1]; exact e5) (v := v) (fun q => hv (C.2.2.2.2.2.2.1.symm.trans q)) C.2.2.2.2.1
  refine ⟨_, _, st T locs X fs hr, hrun, hended, v, locs, rfl, ?_, e2, ?_, ?_, rew_mono hW hc hs, fun z => State.WarmedH.trans (t := s.setVm vm) (e8 z) X.warmed⟩
  · show Q v T.heap
    rw [e1]; exact hQ
  · show Ext Z.heap T.heap
    rw [e1]; exact e3
  · show CHs nw Z EL s.vm s.heap T.vm T.heap
    rw [e1]
    exact e7.trans (CHs.of (CHv.at X e6 C.2.2.2.2.2.2.2 e7.1.1))
/-- a body's walk gives its contract; the entry's heap named -/
theorem Met.mkH {y : MethodName} {rm : Room} {as : Array Value} {sf : List Addr} {Q : Option Value → Heap → Prop} (hw : EW Z a0 EL) (hpn : plainFor y = true)
    (body : ∀ (p : Program) (e : Env) (s : State) (m : MethodId) (below : List Frame) (meth : Method) (c : Code), Cx p s m meth c Z a0 EL y.cls B n y.name ret → s.heap = h → Ext Z.heap h → (∀ x ∈ sf, Safe Z EL s.vm h x) →
      Run p l e rm s m as below meth c Z nw EL (Kf s Z nw EL rm Q) s.vm h 0 0 (entryFrame m as n)) : Met l Z nw EL y B n ret rm as h sf Q := by
  intro ws
  refine MetFree.of_bodySF hpn hisR ?_
  intro p e s m args below meth c s₁ Bd hml0 hP hK
  obtain ⟨rfl, hZ, hh, hC, hE, hS⟩ := hP
  have X0 : Stand p l e rm s m args below meth c s₁ [] 0 0 := Stand.of_body Bd
  have e0 : s₁.heap = h := by rw [← hh, Bd.state]; rfl
  have hlk : meth.locks = false := BodyLoose.notSynchronized Bd
  have C : Cx p s m meth c Z a0 EL y.cls B n y.name ret := ⟨Bd.exec, Bd.bytes, findClass_of_methodNamed Bd.named, hml0, hlk, (name_of_methodNamed Bd.named Bd.method).1, Bd.returns, hw⟩
  exact body p e s m below meth c C hh hE hS s₁ ⟨h.size, [], X0, e0, Fr.nil _, hE, (State.WarmedH.refl s).since _, Nat.le_refl _, hZ, by rw [hh]; exact CHs.refl hC, fun _ => State.WarmedH.refl s⟩
/-- a body's walk gives its contract -/
theorem Met.mk {y : MethodName} {rm : Room} {as : Array Value} {sf : List Addr} {Q : Option Value → Heap → Prop} (hw : EW Z a0 EL) (hpn : plainName y.cls = true)
    (body : ∀ (p : Program) (e : Env) (s : State) (m : MethodId) (below : List Frame) (meth : Method) (c : Code), Cx p s m meth c Z a0 EL y.cls B n y.name ret → Ext Z.heap h → (∀ x ∈ sf, Safe Z EL s.vm h x) →
      Run p l e rm s m as below meth c Z nw EL (Kf s Z nw EL rm Q) s.vm h 0 0 (entryFrame m as n)) : Met l Z nw EL y B n ret rm as h sf Q :=
  Met.mkH hw (plainFor_of_name hpn) fun p e s m below meth c C _ hE hS => body p e s m below meth c C hE hS
theorem backM {y : MethodName} {B' : ByteArray} {n' : Nat} {ret' : Option FieldType} {rm : Room} {len W : Nat} {as : Array Value} {sf : List Addr} {Q : Option Value → Heap → Prop} (M : Met l Z nw EL y B' n' ret' rm as h sf Q)
    (hZ : Z.Warmed39 vm) (wc : (Cond.code y B' n' ret').before a0 Z = true) (wz : (Cond.initialized y.cls).before a0 Z = true) (hf : rm.frames + 1 ≤ R.frames) (hl : W + (n' + 11) + rm.locals ≤ R.locals) (hEL : EW Z a0 EL) (H : CHv Z EL vm h) (hE : Ext Z.heap h) (hsf : ∀ x ∈ sf, Safe Z EL vm h x) :
    BackS l R p e below (s.setVm vm) args y len W (fun A a => a = as ∧ A.U.heap = h ∧ A.cells + rm.cells ≤ R.cells ∧ A.slots + rm.slots ≤ R.slots)
      (fun A _ v Bp => ∃ L, Q v Bp.U.heap ∧ Fr Z.heap.size L ∧ Ext Z.heap Bp.U.heap ∧ Bp.locs = A.locs ++ L ∧ Bp.cells = A.cells + rm.cells ∧ Bp.slots = A.slots + rm.slots ∧ CHs nw Z EL vm h Bp.U.vm Bp.U.heap ∧ (nw → (s.setVm vm).WarmedH Bp.U.vm)) :=
  BackS.of_freeW (bytes := B') (maxL := n') (ret := ret') (E := fun _ first o t L k n => k = rm.cells ∧ n = rm.slots ∧ (∃ v, o = .returned v ∧ Q v t.heap) ∧ Fr Z.heap.size L ∧ Ext Z.heap t.heap ∧ CHs nw Z EL first.vm first.heap t.vm t.heap ∧ (nw → first.WarmedH t.vm)) (M []) hf hl
    (fun m meth c A a Y hp => have hU : Z.Warmed39 A.U.vm := wtrans (s := s.setVm vm) hZ Y.warmed
      ⟨by show (Cond.and _ .tt).before a A.U = true; rw [Cond.before_and, mv hU wc]; rfl, mv hU wc, mv hU wz, hp.2.2.1, hp.2.2.2⟩)
    (fun m meth c A a g mk Y hp => by
      have q := CHv.at Y hZ hEL H
      exact ⟨hp.1, wtrans (s := s.setVm vm) hZ Y.warmed, hp.2.1, q.1, hE, fun x hx => (Nat.lt_or_ge x h.size).elim (fun z => CHr.safe q z (hsf x hx)) (fun z => Safe.new z)⟩) (fun _ _ _ _ _ _ _ _ _ => trivial)
    (fun _ _ _ _ ⟨v, L, h1, h2, h3, h4, h5, h6, h7⟩ => ⟨L, _, _, h6, rfl, rfl, ⟨v, h1, h2⟩, h3, h4, h5, h7⟩)
    (fun m meth c A a g mk v t L k n Y hp _ _ ⟨e1, e2, ⟨v', e3, e4⟩, e5, e6, e7, e8⟩ => by
      cases e3; subst e1 e2
      refine ⟨L, e4, e5, e6, rfl, rfl, rfl, (CHs.of (CHv.at Y hZ hEL H)).trans ?_, fun z => State.WarmedH.trans (t := A.U.calling g mk a) Y.warmed (e8 z)⟩
      rw [← hp.2.1]; exact e7)
/-- behind any call of a contract -/
theorem Run.back (C : Cx p s m meth c Z a0 EL own B n nm ret) {nw' : Prop} (hnn : nw → nw') {g : JFrame} {q : Nat} {rm : Room} {Q : Option Value → Heap → Prop} {g' : Option Value → JFrame}
    (st : ∀ k T locs, Stand p l e R (s.setVm vm) m args below meth c T locs cells slots → T.heap = h → Z.Warmed39 vm → (s.setVm vm).vm.findClass own = some m.cls → CHv Z EL vm h → Ext Z.heap h → s.Since vm k → k ≤ h.size →
      ∃ (v : Option Value) (Bp : Pt), Stand p l e R (s.setVm Bp.U.vm) m args below meth c Bp.U Bp.locs Bp.cells Bp.slots ∧ (s.setVm vm).Since Bp.U.vm Bp.U.heap.size ∧ T.heap.size ≤ Bp.U.heap.size ∧ (∃ L, Q v Bp.U.heap ∧ Fr Z.heap.size L ∧ Ext Z.heap Bp.U.heap ∧ Bp.locs = locs ++ L ∧ Bp.cells = cells + rm.cells ∧ Bp.slots = slots + rm.slots ∧ CHs nw' Z EL vm h Bp.U.vm Bp.U.heap ∧ (nw' → (s.setVm vm).WarmedH Bp.U.vm)) ∧
        Steps p.tables e below (T.setTop g) (Bp.U.setTop (g' v)))
    (k : ∀ v vm' h', Q v h' → h.size ≤ h'.size → (∀ x, x < h.size → Safe Z EL vm h x → Safe Z EL vm' h' x) → (nw' → ∀ x, h.size ≤ x → Safe Z EL vm' h' x) → Run p l e R s m args below meth c Z nw EL K vm' h' (cells + rm.cells) (slots + rm.slots) (g' v)) :
    Run p l e R s m args below meth c Z nw EL K vm h cells slots g := by
  intro T P
  obtain ⟨kk, locs, X, e1, e2, e3, e4, e5, e6, e7, e8⟩ := P
  obtain ⟨v, Bp, X', hS, hg, ⟨L, hQ, hFr, hE, l1, l2, l3, hC, hN⟩, hst⟩ := st kk T locs X e1 e6 ((e4.1.alike.findClass _ _).trans C.2.2.1) e7.1.1 e3 e4 e5
  obtain ⟨U, ls, c1, s1⟩ := Bp
  dsimp only [Pt.U, Pt.locs, Pt.cells, Pt.slots] at X' hS hg hQ hE l1 l2 l3 hC hN hst
  subst l1 l2 l3
  have hk : kk ≤ T.heap.size := by rw [e1]; exact e5
  refine Ends.go (fun t z => hst.trans z) (k v U.vm U.heap hQ (by rw [← e1]; exact hg) (fun x hx S => CHr.safe hC.1 hx S) (fun z x hx => hC.fresh z hx) U ⟨U.heap.size, _, X', rfl, Fr.app e2 hFr, hE, e4.trans hS (Nat.le_trans hk hg), Nat.le_refl _, State.Warmed39.trans (t := s.setVm vm) e6 hS.1, e7.trans (hC.mono hnn), fun z => State.WarmedH.trans (t := s.setVm vm) (e8 z) (hN (hnn z))⟩)
end Body
theorem Met.room {l : Launch} {Z : State} {nw : Prop} {EL : List (String × Nat)} {y : MethodName} {B : ByteArray} {n : Nat} {ret : Option FieldType} {rm rm' : Room} {as : Array Value} {h : Heap} {sf : List Addr} {Q : Option Value → Heap → Prop} (M : Met l Z nw EL y B n ret rm as h sf Q) (h1 : rm.frames ≤ rm'.frames) (h2 : rm.cells ≤ rm'.cells) (h3 : rm.slots ≤ rm'.slots) (h4 : rm.locals ≤ rm'.locals) : Met l Z nw EL y B n ret rm' as h sf Q := by
  intro ws p e ha hc hk s m args below hf happ hP hK
  obtain ⟨a1, a2, a3, a4, a5, a6, a7, a8⟩ := (Spec.appliesLoose_iff hf).mp happ
  obtain ⟨k, o, b1, b2, b3, v, L, b4, b5, b6, b7, b8, b9, b10⟩ := M ws p e ha hc hk s m args below hf ((Spec.appliesLoose_iff hf).mpr ⟨a1, a2, a3, a4, a5, a6, hasRoom_mono h1 h4 h2 h3 a7, a8⟩) hP hK
  exact ⟨k, o, b1, b2, b3, v, L, b4, b5, b6, b7, b8, rew_mono b9 h2 h3, b10⟩
/-- what is promised may be weakened -/
theorem Met.imp {l : Launch} {Z : State} {nw : Prop} {EL : List (String × Nat)} {y : MethodName} {B : ByteArray} {n : Nat} {ret : Option FieldType} {rm : Room} {as : Array Value} {h : Heap} {sf : List Addr} {Q Q' : Option Value → Heap → Prop} (M : Met l Z nw EL y B n ret rm as h sf Q) (hq : ∀ v h', Q v h' → Q' v h') : Met l Z nw EL y B n ret rm as h sf Q' := by
  intro ws p e ha hc hk s m args below hf happ hP hK
  obtain ⟨k, o, b1, b2, b3, v, L, b4, b5, b6, b7, b8, b9, b10⟩ := M ws p e ha hc hk s m args below hf happ hP hK
  exact ⟨k, o, b1, b2, b3, v, L, b4, hq _ _ b5, b6, b7, b8, b9, b10⟩
section Steps
variable {p : Program} {l : Launch} {e : Env} {R : Room} {s : State} {m : MethodId} {args : Array Value} {below : List Frame} {meth : Method} {c : Code} {Z : State} {a0 : Array Value} {nw : Prop} {EL : List (String × Nat)} {K : State → Outcome → Prop} {vm : Vm} {h : Heap} {cells slots : Nat} {own nm : String} {B : ByteArray} {n : Nat} {ret : Option FieldType} {pc q tq : Nat} {L : List Slot} {r : List Value} {a : Addr}
theorem R_iadd (C : Cx p s m meth c Z a0 EL own B n nm ret) {x y : Int32} (hd : Dc B pc (.iadd) 1 q) 
    (k : Run p l e R s m args below meth c Z nw EL K vm h cells slots (fr m q L (.int (x + y) :: r))) : Run p l e R s m args below meth c Z nw EL K vm h cells slots (fr m pc L (.int y :: .int x :: r)) := by
  obtain ⟨hd, rfl⟩ := hd
  exact Run.plain (fun T A t st => XS.iadd A C.1 rfl (hb C.2.1 hd) rfl st) k
theorem R_isub (C : Cx p s m meth c Z a0 EL own B n nm ret) {x y : Int32} (hd : Dc B pc (.isub) 1 q) 
    (k : Run p l e R s m args below meth c Z nw EL K vm h cells slots (fr m q L (.int (x - y) :: r))) : Run p l e R s m args below meth c Z nw EL K vm h cells slots (fr m pc L (.int y :: .int x :: r)) := by
  obtain ⟨hd, rfl⟩ := hd
  exact Run.plain (fun T A t st => XS.isub A C.1 rfl (hb C.2.1 hd) rfl st) k
theorem R_imul (C : Cx p s m meth c Z a0 EL own B n nm ret) {x y : Int32} (hd : Dc B pc (.imul) 1 q) 
    (k : Run p l e R s m args below meth c Z nw EL K vm h cells slots (fr m q L (.int (x * y) :: r))) : Run p l e R s m args below meth c Z nw EL K vm h cells slots (fr m pc L (.int y :: .int x :: r)) := by
  obtain ⟨hd, rfl⟩ := hd
  exact Run.plain (fun T A t st => XS.imul A C.1 rfl (hb C.2.1 hd) rfl st) k
theorem R_iand (C : Cx p s m meth c Z a0 EL own B n nm ret) {x y : Int32} (hd : Dc B pc (.iand) 1 q) 
    (k : Run p l e R s m args below meth c Z nw EL K vm h cells slots (fr m q L (.int (x &&& y) :: r))) : Run p l e R s m args below meth c Z nw EL K vm h cells slots (fr m pc L (.int y :: .int x :: r)) := by
  obtain ⟨hd, rfl⟩ := hd
  exact Run.plain (fun T A t st => XS.iand A C.1 rfl (hb C.2.1 hd) rfl st) k
theorem R_ior (C : Cx p s m meth c Z a0 EL own B n nm ret) {x y : Int32} (hd : Dc B pc (.ior) 1 q) 
    (k : Run p l e R s m args below meth c Z nw EL K vm h cells slots (fr m q L (.int (x ||| y) :: r))) : Run p l e R s m args below meth c Z nw EL K vm h cells slots (fr m pc L (.int y :: .int x :: r)) := by
  obtain ⟨hd, rfl⟩ := hd
  exact Run.plain (fun T A t st => XT.ior A C.1 rfl (hb C.2.1 hd) rfl st) k
theorem R_ixor (C : Cx p s m meth c Z a0 EL own B n nm ret) {x y : Int32} (hd : Dc B pc (.ixor) 1 q) 
    (k : Run p l e R s m args below meth c Z nw EL K vm h cells slots (fr m q L (.int (x ^^^ y) :: r))) : Run p l e R s m args below meth c Z nw EL K vm h cells slots (fr m pc L (.int y :: .int x :: r)) := by
  obtain ⟨hd, rfl⟩ := hd
  exact Run.plain (fun T A t st => XT.ixor A C.1 rfl (hb C.2.1 hd) rfl st) k
theorem R_ishl (C : Cx p s m meth c Z a0 EL own B n nm ret) {x y : Int32} (hd : Dc B pc (.ishl) 1 q) 
    (k : Run p l e R s m args below meth c Z nw EL K vm h cells slots (fr m q L (.int (x <<< (y &&& 31)) :: r))) : Run p l e R s m args below meth c Z nw EL K vm h cells slots (fr m pc L (.int y :: .int x :: r)) := by
  obtain ⟨hd, rfl⟩ := hd
  exact Run.plain (fun T A t st => XT.ishl A C.1 rfl (hb C.2.1 hd) rfl st) k
theorem R_ishr (C : Cx p s m meth c Z a0 EL own B n nm ret) {x y : Int32} (hd : Dc B pc (.ishr) 1 q) 
    (k : Run p l e R s m args below meth c Z nw EL K vm h cells slots (fr m q L (.int (x >>> (y &&& 31)) :: r))) : Run p l e R s m args below meth c Z nw EL K vm h cells slots (fr m pc L (.int y :: .int x :: r)) := by
  obtain ⟨hd, rfl⟩ := hd
  exact Run.plain (fun T A t st => XT.ishr A C.1 rfl (hb C.2.1 hd) rfl st) k
theorem R_iushr (C : Cx p s m meth c Z a0 EL own B n nm ret) {x y : Int32} (hd : Dc B pc (.iushr) 1 q) 
    (k : Run p l e R s m args below meth c Z nw EL K vm h cells slots (fr m q L (.int (XT.ushr x y) :: r))) : Run p l e R s m args below meth c Z nw EL K vm h cells slots (fr m pc L (.int y :: .int x :: r)) := by
  obtain ⟨hd, rfl⟩ := hd
  exact Run.plain (fun T A t st => XT.iushr A C.1 rfl (hb C.2.1 hd) rfl st) k
theorem R_ineg (C : Cx p s m meth c Z a0 EL own B n nm ret) {x : Int32} (hd : Dc B pc (.ineg) 1 q) 
    (k : Run p l e R s m args below meth c Z nw EL K vm h cells slots (fr m q L (.int (-x) :: r))) : Run p l e R s m args below meth c Z nw EL K vm h cells slots (fr m pc L (.int x :: r)) := by
  obtain ⟨hd, rfl⟩ := hd
  exact Run.plain (fun T A t st => XS.ineg A C.1 rfl (hb C.2.1 hd) rfl st) k
theorem R_idiv (C : Cx p s m meth c Z a0 EL own B n nm ret) {x y : Int32} (hd : Dc B pc (.idiv) 1 q) (hy : y ≠ 0)
    (k : Run p l e R s m args below meth c Z nw EL K vm h cells slots (fr m q L (.int (x / y) :: r))) : Run p l e R s m args below meth c Z nw EL K vm h cells slots (fr m pc L (.int y :: .int x :: r)) := by
  obtain ⟨hd, rfl⟩ := hd
  exact Run.plain (fun T A t st => XS.idiv A C.1 rfl (hb C.2.1 hd) rfl hy st) k
theorem R_irem (C : Cx p s m meth c Z a0 EL own B n nm ret) {x y : Int32} (hd : Dc B pc (.irem) 1 q) (hy : y ≠ 0)
    (k : Run p l e R s m args below meth c Z nw EL K vm h cells slots (fr m q L (.int (x % y) :: r))) : Run p l e R s m args below meth c Z nw EL K vm h cells slots (fr m pc L (.int y :: .int x :: r)) := by
  obtain ⟨hd, rfl⟩ := hd
  refine Run.plain (fun T A t st => XS.irem A C.1 rfl (hb C.2.1 hd) rfl hy ?_) k
  have q : x - x / y * y = x % y := irem_eq_mod x y
  rw [q]; exact st
theorem R_ladd (C : Cx p s m meth c Z a0 EL own B n nm ret) {x y : Int64} (hd : Dc B pc (.ladd) 1 q) 
    (k : Run p l e R s m args below meth c Z nw EL K vm h cells slots (fr m q L (.long (x + y) :: r))) : Run p l e R s m args below meth c Z nw EL K vm h cells slots (fr m pc L (.long y :: .long x :: r)) := by
  obtain ⟨hd, rfl⟩ := hd
  exact Run.plain (fun T A t st => XT.ladd A C.1 rfl (hb C.2.1 hd) rfl st) k
theorem R_lsub (C : Cx p s m meth c Z a0 EL own B n nm ret) {x y : Int64} (hd : Dc B pc (.lsub) 1 q) 
    (k : Run p l e R s m args below meth c Z nw EL K vm h cells slots (fr m q L (.long (x - y) :: r))) : Run p l e R s m args below meth c Z nw EL K vm h cells slots (fr m pc L (.long y :: .long x :: r)) := by
  obtain ⟨hd, rfl⟩ := hd
  exact Run.plain (fun T A t st => XT.lsub A C.1 rfl (hb C.2.1 hd) rfl st) k
theorem R_lmul (C : Cx p s m meth c Z a0 EL own B n nm ret) {x y : Int64} (hd : Dc B pc (.lmul) 1 q) 
    (k : Run p l e R s m args below meth c Z nw EL K vm h cells slots (fr m q L (.long (x * y) :: r))) : Run p l e R s m args below meth c Z nw EL K vm h cells slots (fr m pc L (.long y :: .long x :: r)) := by
  obtain ⟨hd, rfl⟩ := hd
  exact Run.plain (fun T A t st => XT.lmul A C.1 rfl (hb C.2.1 hd) rfl st) k
theorem R_land (C : Cx p s m meth c Z a0 EL own B n nm ret) {x y : Int64} (hd : Dc B pc (.land) 1 q) 
    (k : Run p l e R s m args below meth c Z nw EL K vm h cells slots (fr m q L (.long (x &&& y) :: r))) : Run p l e R s m args below meth c Z nw EL K vm h cells slots (fr m pc L (.long y :: .long x :: r)) := by
  obtain ⟨hd, rfl⟩ := hd
  exact Run.plain (fun T A t st => XT.land A C.1 rfl (hb C.2.1 hd) rfl st) k
theorem R_lor (C : Cx p s m meth c Z a0 EL own B n nm ret) {x y : Int64} (hd : Dc B pc (.lor) 1 q) 
    (k : Run p l e R s m args below meth c Z nw EL K vm h cells slots (fr m q L (.long (x ||| y) :: r))) : Run p l e R s m args below meth c Z nw EL K vm h cells slots (fr m pc L (.long y :: .long x :: r)) := by
  obtain ⟨hd, rfl⟩ := hd
  exact Run.plain (fun T A t st => XT.lor A C.1 rfl (hb C.2.1 hd) rfl st) k
theorem R_lxor (C : Cx p s m meth c Z a0 EL own B n nm ret) {x y : Int64} (hd : Dc B pc (.lxor) 1 q) 
    (k : Run p l e R s m args below meth c Z nw EL K vm h cells slots (fr m q L (.long (x ^^^ y) :: r))) : Run p l e R s m args below meth c Z nw EL K vm h cells slots (fr m pc L (.long y :: .long x :: r)) := by
  obtain ⟨hd, rfl⟩ := hd
  exact Run.plain (fun T A t st => XT.lxor A C.1 rfl (hb C.2.1 hd) rfl st) k
theorem R_lushr (C : Cx p s m meth c Z a0 EL own B n nm ret) {x : Int64} {y : Int32} (hd : Dc B pc (.lushr) 1 q) 
    (k : Run p l e R s m args below meth c Z nw EL K vm h cells slots (fr m q L (.long (XT.ushrL x y) :: r))) : Run p l e R s m args below meth c Z nw EL K vm h cells slots (fr m pc L (.int y :: .long x :: r)) := by
  obtain ⟨hd, rfl⟩ := hd
  exact Run.plain (fun T A t st => XT.lushr A C.1 rfl (hb C.2.1 hd) rfl st) k
theorem R_lcmp (C : Cx p s m meth c Z a0 EL own B n nm ret) {x y : Int64} (hd : Dc B pc (.lcmp) 1 q) 
    (k : Run p l e R s m args below meth c Z nw EL K vm h cells slots (fr m q L (.int (XT.cmpL x y) :: r))) : Run p l e R s m args below meth c Z nw EL K vm h cells slots (fr m pc L (.long y :: .long x :: r)) := by
  obtain ⟨hd, rfl⟩ := hd
  exact Run.plain (fun T A t st => XT.lcmp A C.1 rfl (hb C.2.1 hd) rfl st) k
theorem R_i2l (C : Cx p s m meth c Z a0 EL own B n nm ret) {x : Int32} (hd : Dc B pc (.i2l) 1 q) 
    (k : Run p l e R s m args below meth c Z nw EL K vm h cells slots (fr m q L (.long x.toInt64 :: r))) : Run p l e R s m args below meth c Z nw EL K vm h cells slots (fr m pc L (.int x :: r)) := by
  obtain ⟨hd, rfl⟩ := hd
  exact Run.plain (fun T A t st => XT.i2l A C.1 rfl (hb C.2.1 hd) rfl st) k
theorem R_l2i (C : Cx p s m meth c Z a0 EL own B n nm ret) {x : Int64} (hd : Dc B pc (.l2i) 1 q) 
    (k : Run p l e R s m args below meth c Z nw EL K vm h cells slots (fr m q L (.int x.toInt32 :: r))) : Run p l e R s m args below meth c Z nw EL K vm h cells slots (fr m pc L (.long x :: r)) := by
  obtain ⟨hd, rfl⟩ := hd
  exact Run.plain (fun T A t st => XT.l2i A C.1 rfl (hb C.2.1 hd) rfl st) k
theorem R_i2b (C : Cx p s m meth c Z a0 EL own B n nm ret) {x : Int32} (hd : Dc B pc (.i2b) 1 q) 
    (k : Run p l e R s m args below meth c Z nw EL K vm h cells slots (fr m q L (.int x.toInt8.toInt32 :: r))) : Run p l e R s m args below meth c Z nw EL K vm h cells slots (fr m pc L (.int x :: r)) := by
  obtain ⟨hd, rfl⟩ := hd
  exact Run.plain (fun T A t st => XT.i2b A C.1 rfl (hb C.2.1 hd) rfl st) k
theorem R_i2c (C : Cx p s m meth c Z a0 EL own B n nm ret) {x : Int32} (hd : Dc B pc (.i2c) 1 q) 
    (k : Run p l e R s m args below meth c Z nw EL K vm h cells slots (fr m q L (.int (nar .char x) :: r))) : Run p l e R s m args below meth c Z nw EL K vm h cells slots (fr m pc L (.int x :: r)) := by
  obtain ⟨hd, rfl⟩ := hd
  exact Run.plain (fun T A t st => XT.i2c A C.1 rfl (hb C.2.1 hd) rfl st) k
theorem R_dup (C : Cx p s m meth c Z a0 EL own B n nm ret) {v : Value} (hd : Dc B pc (.dup) 1 q) (hc : v.category = 1)
    (k : Run p l e R s m args below meth c Z nw EL K vm h cells slots (fr m q L (v :: v :: r))) : Run p l e R s m args below meth c Z nw EL K vm h cells slots (fr m pc L (v :: r)) := by
  obtain ⟨hd, rfl⟩ := hd
  exact Run.plain (fun T A t st => XS.dup A C.1 rfl (hb C.2.1 hd) rfl hc st) k
theorem R_pop (C : Cx p s m meth c Z a0 EL own B n nm ret) {v : Value} (hd : Dc B pc (.pop) 1 q) (hc : v.category = 1)
    (k : Run p l e R s m args below meth c Z nw EL K vm h cells slots (fr m q L (r))) : Run p l e R s m args below meth c Z nw EL K vm h cells slots (fr m pc L (v :: r)) := by
  obtain ⟨hd, rfl⟩ := hd
  exact Run.plain (fun T A t st => XT.pop A C.1 rfl (hb C.2.1 hd) rfl hc st) k
theorem R_dup_x1 (C : Cx p s m meth c Z a0 EL own B n nm ret) {v w : Value} (hd : Dc B pc (.dup_x1) 1 q) (hc : v.category = 1) (hc' : w.category = 1)
    (k : Run p l e R s m args below meth c Z nw EL K vm h cells slots (fr m q L (v :: w :: v :: r))) : Run p l e R s m args below meth c Z nw EL K vm h cells slots (fr m pc L (v :: w :: r)) := by
  obtain ⟨hd, rfl⟩ := hd
  exact Run.plain (fun T A t st => XT.dupX1 A C.1 rfl (hb C.2.1 hd) rfl hc hc' st) k
theorem R_dup2 (C : Cx p s m meth c Z a0 EL own B n nm ret) {v w : Value} (hd : Dc B pc (.dup2) 1 q) (hc : v.category = 1) (hc' : w.category = 1)
    (k : Run p l e R s m args below meth c Z nw EL K vm h cells slots (fr m q L (v :: w :: v :: w :: r))) : Run p l e R s m args below meth c Z nw EL K vm h cells slots (fr m pc L (v :: w :: r)) := by
  obtain ⟨hd, rfl⟩ := hd
  exact Run.plain (fun T A t st => XT.dup2 A C.1 rfl (hb C.2.1 hd) rfl hc hc' st) k
theorem R_aconst_null (C : Cx p s m meth c Z a0 EL own B n nm ret)  (hd : Dc B pc (.aconst_null) 1 q) 
    (k : Run p l e R s m args below meth c Z nw EL K vm h cells slots (fr m q L (.null :: r))) : Run p l e R s m args below meth c Z nw EL K vm h cells slots (fr m pc L (r)) := by
  obtain ⟨hd, rfl⟩ := hd
  exact Run.plain (fun T A t st => XS.aconstNull A C.1 rfl (hb C.2.1 hd)  st) k
theorem R_iconst (C : Cx p s m meth c Z a0 EL own B n nm ret) {i : Int} {v : Int32} (hd : Dc B pc (.iconst i) 1 q) (hv : Int32.ofInt i = v)
    (k : Run p l e R s m args below meth c Z nw EL K vm h cells slots (fr m q L (.int v :: r))) : Run p l e R s m args below meth c Z nw EL K vm h cells slots (fr m pc L r) := by
  obtain ⟨hd, rfl⟩ := hd
  subst hv
  exact Run.plain (fun T A t st => XS.iconst A C.1 rfl (hb C.2.1 hd) st) k
theorem R_bipush (C : Cx p s m meth c Z a0 EL own B n nm ret) {i : Int} {v : Int32} (hd : Dc B pc (.bipush i) 2 q) (hv : (Int8.ofInt i).toInt32 = v)
    (k : Run p l e R s m args below meth c Z nw EL K vm h cells slots (fr m q L (.int v :: r))) : Run p l e R s m args below meth c Z nw EL K vm h cells slots (fr m pc L r) := by
  obtain ⟨hd, rfl⟩ := hd
  subst hv
  exact Run.plain (fun T A t st => XS.bipush A C.1 rfl (hb C.2.1 hd) st) k
theorem R_sipush (C : Cx p s m meth c Z a0 EL own B n nm ret) {i : Int} {v : Int32} (hd : Dc B pc (.sipush i) 3 q) (hv : (Int16.ofInt i).toInt32 = v)
    (k : Run p l e R s m args below meth c Z nw EL K vm h cells slots (fr m q L (.int v :: r))) : Run p l e R s m args below meth c Z nw EL K vm h cells slots (fr m pc L r) := by
  obtain ⟨hd, rfl⟩ := hd
  subst hv
  exact Run.plain (fun T A t st => XS.sipush A C.1 rfl (hb C.2.1 hd) st) k
theorem R_lconst (C : Cx p s m meth c Z a0 EL own B n nm ret) {i : Fin 2} {v : Int64} (hd : Dc B pc (.lconst i) 1 q) (hv : Int64.ofNat i = v)
    (k : Run p l e R s m args below meth c Z nw EL K vm h cells slots (fr m q L (.long v :: r))) : Run p l e R s m args below meth c Z nw EL K vm h cells slots (fr m pc L r) := by
  obtain ⟨hd, rfl⟩ := hd
  subst hv
  exact Run.plain (fun T A t st => XT.lconst A C.1 rfl (hb C.2.1 hd) st) k
theorem lget {L : List Slot} {k : Nat} {x : Slot} (h : L[k]? = some x) : (⟨L⟩ : Array Slot)[k]? = some x := by simpa using h
theorem R_iload (C : Cx p s m meth c Z a0 EL own B n nm ret) {j : Nat} {v : Int32} (hd : Dc B pc (.iload j) 2 q) (hl : L[j]? = some (.val (.int v)))
    (k : Run p l e R s m args below meth c Z nw EL K vm h cells slots (fr m q L (.int v :: r))) : Run p l e R s m args below meth c Z nw EL K vm h cells slots (fr m pc L r) := by
  obtain ⟨hd, rfl⟩ := hd
  exact Run.plain (fun T A t st => XS.iload A C.1 rfl (hb C.2.1 hd) (lget hl) st) k
theorem R_iload_n (C : Cx p s m meth c Z a0 EL own B n nm ret) {j : Fin 4} {v : Int32} (hd : Dc B pc (.iload_n j) 1 q) (hl : L[j.val]? = some (.val (.int v)))
    (k : Run p l e R s m args below meth c Z nw EL K vm h cells slots (fr m q L (.int v :: r))) : Run p l e R s m args below meth c Z nw EL K vm h cells slots (fr m pc L r) := by
  obtain ⟨hd, rfl⟩ := hd
  exact Run.plain (fun T A t st => XS.iloadN A C.1 rfl (hb C.2.1 hd) (lget hl) st) k
theorem R_lload (C : Cx p s m meth c Z a0 EL own B n nm ret) {j : Nat} {v : Int64} (hd : Dc B pc (.lload j) 2 q) (hl : L[j]? = some (.val (.long v)))
    (k : Run p l e R s m args below meth c Z nw EL K vm h cells slots (fr m q L (.long v :: r))) : Run p l e R s m args below meth c Z nw EL K vm h cells slots (fr m pc L r) := by
  obtain ⟨hd, rfl⟩ := hd
  exact Run.plain (fun T A t st => XT.lload A C.1 rfl (hb C.2.1 hd) (lget hl) st) k
theorem R_lload_n (C : Cx p s m meth c Z a0 EL own B n nm ret) {j : Fin 4} {v : Int64} (hd : Dc B pc (.lload_n j) 1 q) (hl : L[j.val]? = some (.val (.long v)))
    (k : Run p l e R s m args below meth c Z nw EL K vm h cells slots (fr m q L (.long v :: r))) : Run p l e R s m args below meth c Z nw EL K vm h cells slots (fr m pc L r) := by
  obtain ⟨hd, rfl⟩ := hd
  exact Run.plain (fun T A t st => XT.lloadN A C.1 rfl (hb C.2.1 hd) (lget hl) st) k
theorem R_aload (C : Cx p s m meth c Z a0 EL own B n nm ret) {j : Nat} {v : Value} (hd : Dc B pc (.aload j) 2 q) (hl : L[j]? = some (.val v)) (hv : v.isRef = true)
    (k : Run p l e R s m args below meth c Z nw EL K vm h cells slots (fr m q L (v :: r))) : Run p l e R s m args below meth c Z nw EL K vm h cells slots (fr m pc L r) := by
  obtain ⟨hd, rfl⟩ := hd
  exact Run.plain (fun T A t st => XS.aload A C.1 rfl (hb C.2.1 hd) (lget hl) hv st) k
theorem R_aload_n (C : Cx p s m meth c Z a0 EL own B n nm ret) {j : Fin 4} {v : Value} (hd : Dc B pc (.aload_n j) 1 q) (hl : L[j.val]? = some (.val v)) (hv : v.isRef = true)
    (k : Run p l e R s m args below meth c Z nw EL K vm h cells slots (fr m q L (v :: r))) : Run p l e R s m args below meth c Z nw EL K vm h cells slots (fr m pc L r) := by
  obtain ⟨hd, rfl⟩ := hd
  exact Run.plain (fun T A t st => XS.aloadN A C.1 rfl (hb C.2.1 hd) (lget hl) hv st) k
theorem notin1 {x a : Nat} (h : x < a) : x ∉ [a] := fun z => Nat.lt_irrefl _ ((List.mem_singleton.mp z) ▸ h)
theorem notin2 {x a b : Nat} (h1 : x < a) (h2 : x < b) : x ∉ [a, b] := fun z => by
  rcases List.mem_cons.mp z with z | z
  · rw [z] at h1; exact Nat.lt_irrefl _ h1
  · exact notin1 h2 z
theorem cat_int (x : Int32) : (Value.int x).category = 1 := rfl
theorem cat_rf (x : Addr) : (Value.ref x).category = 1 := rfl
theorem cat_lng (x : Int64) : (Value.long x).category = 2 := rfl
theorem fv0 : ((0 : Fin 4) : Nat) = 0 := rfl
theorem fv1 : ((1 : Fin 4) : Nat) = 1 := rfl
theorem fv2 : ((2 : Fin 4) : Nat) = 2 := rfl
theorem fv3 : ((3 : Fin 4) : Nat) = 3 := rfl
def okSlot (x : Slot) : Bool := match x with | .unset => true | .val v => v.category == 1 | .second => false
def okS (L : List Slot) (k : Nat) : Bool := match L[k]? with | some x => okSlot x | none => false
theorem okS_store {L : List Slot} {k : Nat} {v : Value} (h : okS L k = true) (hv : v.category = 1) : storeLocals ⟨L⟩ k v = some ⟨L.set k (.val v)⟩ := by
  have q : (⟨L⟩ : Array Slot).setIfInBounds k (.val v) = ⟨L.set k (.val v)⟩ := by simp
  rw [← q]
  unfold okS at h
  cases e : L[k]? with
  | none => rw [e] at h; cases h
  | some x =>
    rw [e] at h
    cases x with
    | unset => exact XS.store1 (lget e) (Or.inl rfl) hv
    | second => cases h
    | val w => exact XS.store1 (lget e) (Or.inr ⟨w, rfl, by simpa [okSlot] using h⟩) hv
theorem R_istore (C : Cx p s m meth c Z a0 EL own B n nm ret) {j : Nat} {v : Int32} (hd : Dc B pc (.istore j) 2 q) (hl : okS L j = true)
    (k : Run p l e R s m args below meth c Z nw EL K vm h cells slots (fr m q (L.set j (.val (.int v))) r)) : Run p l e R s m args below meth c Z nw EL K vm h cells slots (fr m pc L (.int v :: r)) := by
  obtain ⟨hd, rfl⟩ := hd
  exact Run.plain (fun T A t st => XS.istore A C.1 rfl (hb C.2.1 hd) rfl (okS_store hl rfl) st) k
theorem R_istore_n (C : Cx p s m meth c Z a0 EL own B n nm ret) {j : Fin 4} {v : Int32} (hd : Dc B pc (.istore_n j) 1 q) (hl : okS L j.val = true)
    (k : Run p l e R s m args below meth c Z nw EL K vm h cells slots (fr m q (L.set j.val (.val (.int v))) r)) : Run p l e R s m args below meth c Z nw EL K vm h cells slots (fr m pc L (.int v :: r)) := by
  obtain ⟨hd, rfl⟩ := hd
  exact Run.plain (fun T A t st => XS.istoreN A C.1 rfl (hb C.2.1 hd) rfl (okS_store hl rfl) st) k
theorem R_astore (C : Cx p s m meth c Z a0 EL own B n nm ret) {j : Nat} {v : Value} (hd : Dc B pc (.astore j) 2 q) (hv : v.isRef = true) (hc : v.category = 1) (hl : okS L j = true)
    (k : Run p l e R s m args below meth c Z nw EL K vm h cells slots (fr m q (L.set j (.val v)) r)) : Run p l e R s m args below meth c Z nw EL K vm h cells slots (fr m pc L (v :: r)) := by
  obtain ⟨hd, rfl⟩ := hd
  exact Run.plain (fun T A t st => XS.astore A C.1 rfl (hb C.2.1 hd) rfl hv (okS_store hl hc) st) k
theorem R_astore_n (C : Cx p s m meth c Z a0 EL own B n nm ret) {j : Fin 4} {v : Value} (hd : Dc B pc (.astore_n j) 1 q) (hv : v.isRef = true) (hc : v.category = 1) (hl : okS L j.val = true)
    (k : Run p l e R s m args below meth c Z nw EL K vm h cells slots (fr m q (L.set j.val (.val v)) r)) : Run p l e R s m args below meth c Z nw EL K vm h cells slots (fr m pc L (v :: r)) := by
  obtain ⟨hd, rfl⟩ := hd
  exact Run.plain (fun T A t st => XS.astoreN A C.1 rfl (hb C.2.1 hd) rfl hv (okS_store hl hc) st) k
theorem R_lstore (C : Cx p s m meth c Z a0 EL own B n nm ret) {j : Nat} {v : Int64} {L' : List Slot} (hd : Dc B pc (.lstore j) 2 q) (hl : storeLocals ⟨L⟩ j (.long v) = some ⟨L'⟩)
    (k : Run p l e R s m args below meth c Z nw EL K vm h cells slots (fr m q L' r)) : Run p l e R s m args below meth c Z nw EL K vm h cells slots (fr m pc L (.long v :: r)) := by
  obtain ⟨hd, rfl⟩ := hd
  exact Run.plain (fun T A t st => XT.lstore A C.1 rfl (hb C.2.1 hd) rfl hl st) k
theorem R_iinc (C : Cx p s m meth c Z a0 EL own B n nm ret) {j : Nat} {d : Int} {v w dI : Int32} (hd : Dc B pc (.iinc j d) 3 q) (hl : L[j]? = some (.val (.int v))) (ho : okS L j = true) (hdI : Int32.ofInt d = dI) (hw : v + dI = w)
    (k : Run p l e R s m args below meth c Z nw EL K vm h cells slots (fr m q (L.set j (.val (.int w))) r)) : Run p l e R s m args below meth c Z nw EL K vm h cells slots (fr m pc L r) := by
  obtain ⟨hd, rfl⟩ := hd
  subst hdI hw
  exact Run.plain (fun T A t st => XS.iinc A C.1 rfl (hb C.2.1 hd) (lget hl) (okS_store ho rfl) st) k
theorem R_goto (C : Cx p s m meth c Z a0 EL own B n nm ret) {o : Int} (hd : Jp B pc (.goto o) o q tq)
    (k : Run p l e R s m args below meth c Z nw EL K vm h cells slots (fr m tq L r)) : Run p l e R s m args below meth c Z nw EL K vm h cells slots (fr m pc L r) := by
  obtain ⟨hd, -, h1, h2⟩ := hd
  exact Run.plain (fun T A t st => XS.goto A C.1 rfl rfl (hb C.2.1 hd) h1 h2 st) k
abbrev cpr (cd : ClassFile.Cond) (x y : Int32) : Prop := match cd with | .eq => x = y | .ne => ¬ x = y | .lt => x < y | .ge => ¬ x < y | .gt => y < x | .le => ¬ y < x
theorem cpr_t {cd : ClassFile.Cond} {x y : Int32} (h : cpr cd x y) : if_icmp.holds cd x y = true := by
  cases cd
  · exact (teq h).1
  · exact (feq h).2
  · exact (tlt h).1
  · exact (flt h).2.1
  · exact (tlt h).2.2.1
  · exact (flt h).2.2.2
theorem cpr_f {cd : ClassFile.Cond} {x y : Int32} (h : ¬ cpr cd x y) : if_icmp.holds cd x y = false := by
  cases cd
  · exact (feq h).1
  · exact (teq (Decidable.not_not.mp h)).2
  · exact (flt h).1
  · exact (tlt (Decidable.not_not.mp h)).2.1
  · exact (flt h).2.2.1
  · exact (tlt (Decidable.not_not.mp h)).2.2.2
theorem R_icmp (C : Cx p s m meth c Z a0 EL own B n nm ret) {cd : ClassFile.Cond} {o : Int} {x y : Int32} (hd : Jp B pc (.if_icmp cd o) o q tq)
    (k1 : cpr cd x y → Run p l e R s m args below meth c Z nw EL K vm h cells slots (fr m tq L r)) (k2 : ¬ cpr cd x y → Run p l e R s m args below meth c Z nw EL K vm h cells slots (fr m q L r)) : Run p l e R s m args below meth c Z nw EL K vm h cells slots (fr m pc L (.int y :: .int x :: r)) := by
  obtain ⟨hd, rfl, h1, h2⟩ := hd
  by_cases hc : cpr cd x y
  · exact Run.plain (fun T A t st => XS.icmpYes A C.1 rfl rfl (hb C.2.1 hd) rfl (cpr_t hc) h1 h2 st) (k1 hc)
  · exact Run.plain (fun T A t st => XS.icmpNo A C.1 rfl (hb C.2.1 hd) rfl (cpr_f hc) st) (k2 hc)
theorem R_if (C : Cx p s m meth c Z a0 EL own B n nm ret) {cd : ClassFile.Cond} {o : Int} {x : Int32} (hd : Jp B pc (.ifCond cd o) o q tq)
    (k1 : cpr cd x 0 → Run p l e R s m args below meth c Z nw EL K vm h cells slots (fr m tq L r)) (k2 : ¬ cpr cd x 0 → Run p l e R s m args below meth c Z nw EL K vm h cells slots (fr m q L r)) : Run p l e R s m args below meth c Z nw EL K vm h cells slots (fr m pc L (.int x :: r)) := by
  obtain ⟨hd, rfl, h1, h2⟩ := hd
  by_cases hc : cpr cd x 0
  · exact Run.plain (fun T A t st => XS.ifYes A C.1 rfl rfl (hb C.2.1 hd) rfl ((if0 _ _).trans (cpr_t hc)) h1 h2 st) (k1 hc)
  · exact Run.plain (fun T A t st => XS.ifNo A C.1 rfl (hb C.2.1 hd) rfl ((if0 _ _).trans (cpr_f hc)) st) (k2 hc)
theorem R_ifnull_y (C : Cx p s m meth c Z a0 EL own B n nm ret) {o : Int} (hd : Jp B pc (.ifnull o) o q tq)
    (k : Run p l e R s m args below meth c Z nw EL K vm h cells slots (fr m tq L r)) : Run p l e R s m args below meth c Z nw EL K vm h cells slots (fr m pc L (.null :: r)) := by
  obtain ⟨hd, rfl, h1, h2⟩ := hd
  exact Run.plain (fun T A t st => XS.ifnullYes A C.1 rfl rfl (hb C.2.1 hd) rfl h1 h2 st) k
theorem R_ifnull_n (C : Cx p s m meth c Z a0 EL own B n nm ret) {o : Int} (hd : Jp B pc (.ifnull o) o q tq)
    (k : Run p l e R s m args below meth c Z nw EL K vm h cells slots (fr m q L r)) : Run p l e R s m args below meth c Z nw EL K vm h cells slots (fr m pc L (.ref a :: r)) := by
  obtain ⟨hd, rfl, h1, h2⟩ := hd
  exact Run.plain (fun T A t st => XS.ifnullNo A C.1 rfl (hb C.2.1 hd) rfl st) k
theorem R_ifnonnull_y (C : Cx p s m meth c Z a0 EL own B n nm ret) {o : Int} (hd : Jp B pc (.ifnonnull o) o q tq)
    (k : Run p l e R s m args below meth c Z nw EL K vm h cells slots (fr m tq L r)) : Run p l e R s m args below meth c Z nw EL K vm h cells slots (fr m pc L (.ref a :: r)) := by
  obtain ⟨hd, rfl, h1, h2⟩ := hd
  exact Run.plain (fun T A t st => XT.ifnonnullYes A C.1 rfl rfl (hb C.2.1 hd) rfl h1 h2 st) k
theorem R_ifnonnull_n (C : Cx p s m meth c Z a0 EL own B n nm ret) {o : Int} (hd : Jp B pc (.ifnonnull o) o q tq)
    (k : Run p l e R s m args below meth c Z nw EL K vm h cells slots (fr m q L r)) : Run p l e R s m args below meth c Z nw EL K vm h cells slots (fr m pc L (.null :: r)) := by
  obtain ⟨hd, rfl, h1, h2⟩ := hd
  exact Run.plain (fun T A t st => XT.ifnonnullNo A C.1 rfl (hb C.2.1 hd) rfl st) k
theorem R_acmp_ne (C : Cx p s m meth c Z a0 EL own B n nm ret) {o : Int} {v w : Value} (hd : Jp B pc (.if_acmp .ne o) o q tq) (hv : v.isRef = true) (hw : w.isRef = true)
    (k1 : v ≠ w → Run p l e R s m args below meth c Z nw EL K vm h cells slots (fr m tq L r)) (k2 : v = w → Run p l e R s m args below meth c Z nw EL K vm h cells slots (fr m q L r)) : Run p l e R s m args below meth c Z nw EL K vm h cells slots (fr m pc L (w :: v :: r)) := by
  obtain ⟨hd, rfl, h1, h2⟩ := hd
  by_cases hc : v = w
  · exact Run.plain (fun T A t st => XT.acmpNo A C.1 rfl (hb C.2.1 hd) rfl hv hw (by simp [XT.acmp, hc]) st) (k2 hc)
  · exact Run.plain (fun T A t st => XT.acmpYes A C.1 rfl rfl (hb C.2.1 hd) rfl hv hw (by simp [XT.acmp, hc]) h1 h2 st) (k1 hc)
theorem R_acmp_eq (C : Cx p s m meth c Z a0 EL own B n nm ret) {o : Int} {v w : Value} (hd : Jp B pc (.if_acmp .eq o) o q tq) (hv : v.isRef = true) (hw : w.isRef = true)
    (k1 : v = w → Run p l e R s m args below meth c Z nw EL K vm h cells slots (fr m tq L r)) (k2 : v ≠ w → Run p l e R s m args below meth c Z nw EL K vm h cells slots (fr m q L r)) : Run p l e R s m args below meth c Z nw EL K vm h cells slots (fr m pc L (w :: v :: r)) := by
  obtain ⟨hd, rfl, h1, h2⟩ := hd
  by_cases hc : v = w
  · exact Run.plain (fun T A t st => XT.acmpYes A C.1 rfl rfl (hb C.2.1 hd) rfl hv hw (by simp [XT.acmp, hc]) h1 h2 st) (k1 hc)
  · exact Run.plain (fun T A t st => XT.acmpNo A C.1 rfl (hb C.2.1 hd) rfl hv hw (by simp [XT.acmp, hc]) st) (k2 hc)
theorem R_getfield (C : Cx p s m meth c Z a0 EL own B n nm ret) {idx : Nat} {R0 O f d : String} {v : Value} (hd : Dc B pc (.getfield idx) 3 q) (w : (Cond.fieldLink own idx R0 f d).before a0 Z = true) (via : Via Z R0 O f d) (F : Fld Z h a O f d v)
    (k : Run p l e R s m args below meth c Z nw EL K vm h cells slots (fr m q L (v :: r))) : Run p l e R s m args below meth c Z nw EL K vm h cells slots (fr m pc L (.ref a :: r)) := by
  obtain ⟨hd, rfl⟩ := hd
  exact Run.warm C (fun T locs X e1 hZ hown => getF X C.1 hZ hown (host := "") (Or.inl w) via e1 F (g := fr m pc L (.ref a :: r)) rfl rfl (hb C.2.1 hd)) k
theorem R_getfieldN (C : Cx p s m meth c Z a0 EL own B n nm ret) {idx : Nat} {R0 O f d host : String} {v : Value} (hd : Dc B pc (.getfield idx) 3 q) (w : (Cond.fieldLinkNest own idx R0 f d host).before a0 Z = true) (via : Via Z R0 O f d) (F : Fld Z h a O f d v)
    (k : Run p l e R s m args below meth c Z nw EL K vm h cells slots (fr m q L (v :: r))) : Run p l e R s m args below meth c Z nw EL K vm h cells slots (fr m pc L (.ref a :: r)) := by
  obtain ⟨hd, rfl⟩ := hd
  exact Run.warm C (fun T locs X e1 hZ hown => getF X C.1 hZ hown (Or.inr w) via e1 F (g := fr m pc L (.ref a :: r)) rfl rfl (hb C.2.1 hd)) k
theorem R_putfield (C : Cx p s m meth c Z a0 EL own B n nm ret) {idx kk : Nat} {R0 O f d Cn : String} {ty : FieldType} {v old : Value} (hd : Dc B pc (.putfield idx) 3 q) (w : (Cond.fieldLink own idx R0 f d).before a0 Z = true) (via : Via Z R0 O f d)
    (F : Fld Z h a O f d old) (E : Exa Z h a Cn) (La : (Cond.lays Cn O f d).before a0 Z = true ∨ ((Cond.laysFinal Cn O f d).before a0 Z = true ∧ own = O ∧ nm = "<init>")) (wi : (Cond.instantiable Cn kk).before a0 Z = true)
    (hty : parseFieldDescriptor d = some ty) (hn : narrow ty v = v) (hf : fits ty v = true) (ha : Z.heap.size ≤ a) (hs : Safe Z EL vm h a)
    (k : ∀ h', Wr h h' a (RoadKit.slotOf Z O f d) v → (∀ x, Safe Z EL vm h x → Safe Z EL vm h' x) → Run p l e R s m args below meth c Z nw EL K vm h' cells slots (fr m q L r)) : Run p l e R s m args below meth c Z nw EL K vm h cells slots (fr m pc L (v :: .ref a :: r)) := by
  obtain ⟨hd, rfl⟩ := hd
  exact Run.write C (fun T locs X e1 hZ hown => putF X C.1 hZ hown (host := "") (Or.inl w) via e1 F E (La.imp id fun z => ⟨z.1, z.2.1, C.2.2.2.2.2.1.trans z.2.2⟩) wi hty hn hf (g := fr m pc L (v :: .ref a :: r)) rfl rfl (hb C.2.1 hd)) ha hs k
theorem R_getstatic (C : Cx p s m meth c Z a0 EL own B n nm ret) {idx : Nat} {R0 O f d : String} {v : Value} (hd : Dc B pc (.getstatic idx) 3 q) (w : (Cond.fieldLink own idx R0 f d).before a0 Z = true) (via : Via Z R0 O f d) (F : Sta Z h O f d v)
    (k : Run p l e R s m args below meth c Z nw EL K vm h cells slots (fr m q L (v :: r))) : Run p l e R s m args below meth c Z nw EL K vm h cells slots (fr m pc L r) := by
  obtain ⟨hd, rfl⟩ := hd
  exact Run.warm C (fun T locs X e1 hZ hown => getS X C.1 hZ hown (host := "") w via e1 F (g := fr m pc L r) rfl (hb C.2.1 hd)) k
theorem R_new (C : Cx p s m meth c Z a0 EL own B n nm ret) {idx nn : Nat} {Cn : String} (hd : Dc B pc (.new idx) 3 q) (w : (Cond.classLink own idx Cn).before a0 Z = true) (wi : (Cond.instantiable Cn nn).before a0 Z = true) (wz : (Cond.initialized Cn).before a0 Z = true) (hc : cells + 1 ≤ R.cells) (hl : slots + nn ≤ R.slots)
    (k : ∀ h', Ext h h' → (Exa Z h' h.size Cn ∧ (∀ {O f d : String} {ty : FieldType}, Laid Z a0 Cn O f d → parseFieldDescriptor d = some ty → Fld Z h' h.size O f d (defaultValue ty))) → Safe Z EL vm h' h.size → (∀ x, Safe Z EL vm h x → Safe Z EL vm h' x) → Run p l e R s m args below meth c Z nw EL K vm h' (cells + 1) (slots + nn) (fr m q L (.ref h.size :: r))) : Run p l e R s m args below meth c Z nw EL K vm h cells slots (fr m pc L r) := by
  obtain ⟨hd, rfl⟩ := hd
  refine Run.grow C (F := fun h' => Exa Z h' h.size Cn ∧ (∀ {O f d : String} {ty : FieldType}, Laid Z a0 Cn O f d → parseFieldDescriptor d = some ty → Fld Z h' h.size O f d (defaultValue ty))) (fun T locs X e1 hZ hown => ?_) (fun h' E F H Sf => k h' E F (Safe.ext E H (Safe.new (Nat.le_refl _))) Sf)
  obtain ⟨T', h', X', e2, E, A, D, -, st⟩ := newO X C.1 hZ hown w wi wz e1 (g := fr m pc L r) rfl (hb C.2.1 hd) hc hl
  exact ⟨T', h', X', e2, E, ⟨A, D⟩, st⟩
theorem R_initO (C : Cx p s m meth c Z a0 EL own B n nm ret) {idx : Nat} (hd : Dc B pc (.invokespecial idx) 3 q) (w1 : (Cond.methodLink own idx Lib.objectInit).before a0 Z = true) (w2 : (Cond.instanceMethod Lib.objectInit).before a0 Z = true) (w3 : (Cond.code Lib.objectInit Jvm.Pilot.@@N@@.object_method_1_code 1 none).before a0 Z = true)
    (hz : L.length = n) (hf : 1 ≤ R.frames) (hl : (r.map fun v => v.category).sum + 12 ≤ R.locals)
    (k : Run p l e R s m args below meth c Z nw EL K vm h cells slots (fr m q L r)) : Run p l e R s m args below meth c Z nw EL K vm h cells slots (fr m pc L (.ref a :: r)) := by
  obtain ⟨hd, rfl⟩ := hd
  exact Run.warm C (fun T locs X e1 hZ hown => initO X C.1 hZ hown w1 w2 w3 e1 (g := fr m pc L (.ref a :: r)) rfl (by rw [C.2.2.2.1]; exact hz) rfl (hb C.2.1 hd) hf (W := (r.map fun v => v.category).sum) (by show 2 * 0 + _ ≤ _; omega) hl) k
theorem R_checkcast (C : Cx p s m meth c Z a0 EL own B n nm ret) {idx : Nat} {Kn : String} (hd : Dc B pc (.checkcast idx) 3 q) (w : (Cond.classLink own idx Kn).before a0 Z = true) (F : RoadKit.Ins Z h a Kn true)
    (k : Run p l e R s m args below meth c Z nw EL K vm h cells slots (fr m q L (.ref a :: r))) : Run p l e R s m args below meth c Z nw EL K vm h cells slots (fr m pc L (.ref a :: r)) := by
  obtain ⟨hd, rfl⟩ := hd
  exact Run.warm C (fun T locs X e1 hZ hown => castY X C.1 hZ hown w e1 F (g := fr m pc L (.ref a :: r)) rfl rfl (hb C.2.1 hd)) k
theorem R_instanceof_y (C : Cx p s m meth c Z a0 EL own B n nm ret) {idx : Nat} {Kn : String} (hd : Dc B pc (.instanceof idx) 3 q) (w : (Cond.classLink own idx Kn).before a0 Z = true) (F : RoadKit.Ins Z h a Kn true)
    (k : Run p l e R s m args below meth c Z nw EL K vm h cells slots (fr m q L (.int 1 :: r))) : Run p l e R s m args below meth c Z nw EL K vm h cells slots (fr m pc L (.ref a :: r)) := by
  obtain ⟨hd, rfl⟩ := hd
  exact Run.warm C (fun T locs X e1 hZ hown => instY X C.1 hZ hown w e1 F (g := fr m pc L (.ref a :: r)) rfl rfl (hb C.2.1 hd)) k
theorem R_instanceof_n (C : Cx p s m meth c Z a0 EL own B n nm ret) {idx : Nat} {Kn Cn : String} (hd : Dc B pc (.instanceof idx) 3 q) (w : (Cond.classLink own idx Kn).before a0 Z = true) (F : RoadKit.Ins Z s.heap a Kn false) (E : RoadKit.Exa Z s.heap a Cn)
    (k : Run p l e R s m args below meth c Z nw EL K vm h cells slots (fr m q L (.int 0 :: r))) : Run p l e R s m args below meth c Z nw EL K vm h cells slots (fr m pc L (.ref a :: r)) := by
  obtain ⟨hd, rfl⟩ := hd
  exact Run.warm C (fun T locs X e1 hZ hown => instN X C.1 hZ hown w e1 F E (g := fr m pc L (.ref a :: r)) rfl rfl (hb C.2.1 hd)) k
theorem R_ldcInt (C : Cx p s m meth c Z a0 EL own B n nm ret) {idx : Nat} {v : Int32} (hd : Dc B pc (.ldc idx) 2 q) (w : (Cond.constant own idx v).before a0 Z = true)
    (k : Run p l e R s m args below meth c Z nw EL K vm h cells slots (fr m q L (.int v :: r))) : Run p l e R s m args below meth c Z nw EL K vm h cells slots (fr m pc L r) := by
  obtain ⟨hd, rfl⟩ := hd
  exact Run.warm C (fun T locs X e1 hZ hown => ⟨T, X, e1, X.ldcInt C.1 hown (mvT hZ w) (g := fr m pc L r) rfl (hb C.2.1 hd)⟩) k
theorem R_ldc2Long (C : Cx p s m meth c Z a0 EL own B n nm ret) {idx : Nat} {v : Int64} (hd : Dc B pc (.ldc2_w idx) 3 q) (w : (Cond.constantLong own idx v).before a0 Z = true)
    (k : Run p l e R s m args below meth c Z nw EL K vm h cells slots (fr m q L (.long v :: r))) : Run p l e R s m args below meth c Z nw EL K vm h cells slots (fr m pc L r) := by
  obtain ⟨hd, rfl⟩ := hd
  exact Run.warm C (fun T locs X e1 hZ hown => ⟨T, X, e1, X.ldc2Long C.1 hown (mvT hZ w) (g := fr m pc L r) rfl (hb C.2.1 hd)⟩) k
theorem R_return (C : Cx p s m meth c Z a0 EL own B n nm ret) {rm : Room} {Q : Option Value → Heap → Prop} (hd : Dc B pc (.return_) 1 q) (hr : ret = none) (hc : cells ≤ rm.cells) (hs : slots ≤ rm.slots) (hQ : Q none h) :
    Run p l e R s m args below meth c Z nw EL (Kf s Z nw EL rm Q) vm h cells slots (fr m pc L []) :=
  Run.out C (v := none) (fun _ => rfl) hQ hc hs (fun T locs X fs hl => X.returnOut C.1 (C.2.2.2.2.2.2.1.trans hr) (hb C.2.1 hd.1) hl)
theorem R_retI (C : Cx p s m meth c Z a0 EL own B n nm ret) {rm : Room} {Q : Option Value → Heap → Prop} {v : Int32} (hd : Dc B pc (.ireturn) 1 q) (hr : ret = some .int) (hc : cells ≤ rm.cells) (hs : slots ≤ rm.slots) (hQ : Q (some (.int v)) h) :
    Run p l e R s m args below meth c Z nw EL (Kf s Z nw EL rm Q) vm h cells slots (fr m pc L (.int v :: r)) :=
  Run.out C (v := some (.int v)) (fun z => by rw [hr] at z; cases z) hQ hc hs (fun T locs X fs hl => retOut X C.1 (C.2.2.2.2.2.2.1.trans hr) rfl (Or.inl ⟨rfl, Or.inl rfl, v, rfl⟩) (hb C.2.1 hd.1) hl)
theorem R_retN (C : Cx p s m meth c Z a0 EL own B n nm ret) {rm : Room} {Q : Option Value → Heap → Prop} {v : Int32} {t : FieldType} (hd : Dc B pc (.ireturn) 1 q) (hr : ret = some t) (ht : t = .boolean ∨ t = .byte ∨ t = .char ∨ t = .short) (hc : cells ≤ rm.cells) (hs : slots ≤ rm.slots) (hQ : Q (some (.int (nar t v))) h) :
    Run p l e R s m args below meth c Z nw EL (Kf s Z nw EL rm Q) vm h cells slots (fr m pc L (.int v :: r)) :=
  Run.out C (v := some (.int (nar t v))) (fun z => by rw [hr] at z; cases z) hQ hc hs (fun T locs X fs hl => retN X C.1 (C.2.2.2.2.2.2.1.trans hr) ht (hb C.2.1 hd.1) hl)
theorem R_retL (C : Cx p s m meth c Z a0 EL own B n nm ret) {rm : Room} {Q : Option Value → Heap → Prop} {v : Int64} (hd : Dc B pc (.lreturn) 1 q) (hr : ret = some .long) (hc : cells ≤ rm.cells) (hs : slots ≤ rm.slots) (hQ : Q (some (.long v)) h) :
    Run p l e R s m args below meth c Z nw EL (Kf s Z nw EL rm Q) vm h cells slots (fr m pc L (.long v :: r)) :=
  Run.out C (v := some (.long v)) (fun z => by rw [hr] at z; cases z) hQ hc hs (fun T locs X fs hl => retOut X C.1 (C.2.2.2.2.2.2.1.trans hr) rfl (Or.inr (Or.inl ⟨rfl, rfl, v, rfl⟩)) (hb C.2.1 hd.1) hl)
theorem nar_ref {t : FieldType} {v : Value} (hv : v.isRef = true) : narrow t v = v := by cases t <;> cases v <;> first | rfl | cases hv
theorem R_areturn (C : Cx p s m meth c Z a0 EL own B n nm ret) {rm : Room} {Q : Option Value → Heap → Prop} {v : Value} {t : FieldType} (hd : Dc B pc (.areturn) 1 q) (hr : ret = some t) (ht : t.isReference = true) (hv : v.isRef = true) (hc : cells ≤ rm.cells) (hs : slots ≤ rm.slots) (hQ : Q (some v) h) :
    Run p l e R s m args below meth c Z nw EL (Kf s Z nw EL rm Q) vm h cells slots (fr m pc L (v :: r)) :=
  Run.out C (v := some v) (fun z => by rw [hr] at z; cases z) hQ hc hs (fun T locs X fs hl => retOut X C.1 (C.2.2.2.2.2.2.1.trans hr) (nar_ref hv) (Or.inr (Or.inr (Or.inr (Or.inr ⟨rfl, ht, hv⟩)))) (hb C.2.1 hd.1) hl)
theorem R_static (C : Cx p s m meth c Z a0 EL own B n nm ret) {idx n' : Nat} {y : MethodName} {B' : ByteArray} {ret' : Option FieldType} {rm : Room} {sf : List Addr} {Q : Option Value → Heap → Prop} {ps : List FieldType} {rr : Option FieldType} {st : List Value} (argsL : List Value) (hd : Dc B pc (.invokestatic idx) 3 q)
    {nw' : Prop} (M : Met l Z nw' EL y B' n' ret' rm argsL.toArray h sf Q) (hnn : nw → nw') (w1 : (Cond.methodLink own idx y).before a0 Z = true) (w2 : (Cond.static y).before a0 Z = true) (w3 : (Cond.initialized y.cls).before a0 Z = true) (w4 : (Cond.code y B' n' ret').before a0 Z = true)
    (hy : y.cls ≠ "java/lang/invoke/MethodHandle" ∧ y.cls ≠ "java/lang/invoke/VarHandle") (pd : parseMethodDescriptor y.desc = some ⟨ps, rr⟩) (hlen : argsL.length = ps.length) (hst : st = argsL.reverse ++ r) (hz : L.length = n)
    (rf : rm.frames + 1 ≤ R.frames) (rl : (r.map fun v => v.category).sum + (n' + 11) + rm.locals ≤ R.locals) (rc : cells + rm.cells ≤ R.cells) (rs : slots + rm.slots ≤ R.slots) (hsf : ∀ x ∈ sf, Safe Z EL vm h x)
    (k : ∀ v vm' h', Q v h' → h.size ≤ h'.size → (∀ x, x < h.size → Safe Z EL vm h x → Safe Z EL vm' h' x) → (nw' → ∀ x, h.size ≤ x → Safe Z EL vm' h' x) → Run p l e R s m args below meth c Z nw EL K vm' h' (cells + rm.cells) (slots + rm.slots) (fr m q L (v.toList ++ r))) : Run p l e R s m args below meth c Z nw EL K vm h cells slots (fr m pc L st) := by
  obtain ⟨hd, rfl⟩ := hd
  refine Run.back C hnn (Q := Q) (g' := fun v => fr m (pc + 3) L (v.toList ++ r)) (q := 0) (fun kk T locs X e1 hZ hown H hE hS hk => ?_) k
  obtain ⟨v, vm1, Bp, -, X', hS', hg, hP, hst'⟩ := callSS X C.1 hown (mvT (s := s.setVm vm) hZ w1) (mvT (s := s.setVm vm) hZ w2) (mvT (s := s.setVm vm) hZ w3) (mvT (s := s.setVm vm) hZ w4) hy (backM (W := (r.map fun v => v.category).sum) M hZ w4 w3 rf rl C.2.2.2.2.2.2.2 H hE hsf) (g := fr m pc L st) rfl (by rw [C.2.2.2.1]; exact hz) (argsL := argsL) (rest := r) (lenOf pd hlen) hst (by show 2 * 0 + _ ≤ _; omega) (hb C.2.1 hd) (fun _ _ => ⟨rfl, e1, rc, rs⟩)
  exact ⟨v, Bp, X', hS', hg, hP, hst'⟩
theorem R_special (C : Cx p s m meth c Z a0 EL own B n nm ret) {idx n' : Nat} {y : MethodName} {B' : ByteArray} {rm : Room} {sf : List Addr} {Q : Option Value → Heap → Prop} {ps : List FieldType} {rr : Option FieldType} {st : List Value} (argsL : List Value) (hd : Dc B pc (.invokespecial idx) 3 q)
    {nw' : Prop} (M : Met l Z nw' EL y B' n' none rm (.ref a :: argsL).toArray h sf Q) (hnn : nw → nw') (hy1 : y.name = "<init>") (w1 : (Cond.methodLink own idx y).before a0 Z = true) (w2 : (Cond.instanceMethod y).before a0 Z = true) (w3 : (Cond.initialized y.cls).before a0 Z = true) (w4 : (Cond.code y B' n' none).before a0 Z = true)
    (hy : y.cls ≠ "java/lang/invoke/MethodHandle" ∧ y.cls ≠ "java/lang/invoke/VarHandle") (pd : parseMethodDescriptor y.desc = some ⟨ps, rr⟩) (hlen : argsL.length = ps.length) (hst : st = argsL.reverse ++ .ref a :: r) (hz : L.length = n)
    (rf : rm.frames + 1 ≤ R.frames) (rl : (r.map fun v => v.category).sum + (n' + 11) + rm.locals ≤ R.locals) (rc : cells + rm.cells ≤ R.cells) (rs : slots + rm.slots ≤ R.slots) (hsf : ∀ x ∈ sf, Safe Z EL vm h x)
    (k : ∀ v vm' h', Q v h' → h.size ≤ h'.size → (∀ x, x < h.size → Safe Z EL vm h x → Safe Z EL vm' h' x) → (nw' → ∀ x, h.size ≤ x → Safe Z EL vm' h' x) → Run p l e R s m args below meth c Z nw EL K vm' h' (cells + rm.cells) (slots + rm.slots) (fr m q L (v.toList ++ r))) : Run p l e R s m args below meth c Z nw EL K vm h cells slots (fr m pc L st) := by
  obtain ⟨hd, rfl⟩ := hd
  refine Run.back C hnn (Q := Q) (g' := fun v => fr m (pc + 3) L (v.toList ++ r)) (q := 0) (fun kk T locs X e1 hZ hown H hE hS hk => ?_) k
  obtain ⟨v, vm1, Bp, -, X', hS', hg, hP, hst'⟩ := X.specialBackS C.1 hy1 hown (mvT (s := s.setVm vm) hZ w1) (mvT (s := s.setVm vm) hZ w2) (mvT (s := s.setVm vm) hZ w4) hy (backM (W := (r.map fun v => v.category).sum) M hZ w4 w3 rf rl C.2.2.2.2.2.2.2 H hE hsf) (g := fr m pc L st) rfl (by rw [C.2.2.2.1]; exact hz) (Steps.refl _) (a := a) (argsL := argsL) (rest := r) (lenOf pd hlen) hst (by show 2 * 0 + _ ≤ _; omega) (hb C.2.1 hd) (fun _ _ => ⟨rfl, e1, rc, rs⟩)
  exact ⟨v, Bp, X', hS', hg, hP, hst'⟩
theorem R_virtual (C : Cx p s m meth c Z a0 EL own B n nm ret) {idx n' : Nat} {y : MethodName} {B' : ByteArray} {ret' : Option FieldType} {rm : Room} {sf : List Addr} {Q : Option Value → Heap → Prop} {ps : List FieldType} {rr : Option FieldType} {st : List Value} {Cn : String} (argsL : List Value) (hd : Dc B pc (.invokevirtual idx) 3 q)
    {nw' : Prop} (M : Met l Z nw' EL y B' n' ret' rm (.ref a :: argsL).toArray h sf Q) (hnn : nw → nw') (E : Exa Z h a Cn) (w1 : (Cond.methodLink own idx y).before a0 Z = true) (w2 : (Cond.declares y).before a0 Z = true) (w5 : (Cond.selects Cn y y).before a0 Z = true) (w6 : (Cond.instanceMethod y).before a0 Z = true) (w3 : (Cond.initialized y.cls).before a0 Z = true) (w4 : (Cond.code y B' n' ret').before a0 Z = true)
    (hy : y.cls ≠ "java/lang/invoke/MethodHandle" ∧ y.cls ≠ "java/lang/invoke/VarHandle") (pd : parseMethodDescriptor y.desc = some ⟨ps, rr⟩) (hlen : argsL.length = ps.length) (hst : st = argsL.reverse ++ .ref a :: r) (hz : L.length = n)
    (rf : rm.frames + 1 ≤ R.frames) (rl : (r.map fun v => v.category).sum + (n' + 11) + rm.locals ≤ R.locals) (rc : cells + rm.cells ≤ R.cells) (rs : slots + rm.slots ≤ R.slots) (hsf : ∀ x ∈ sf, Safe Z EL vm h x)
    (k : ∀ v vm' h', Q v h' → h.size ≤ h'.size → (∀ x, x < h.size → Safe Z EL vm h x → Safe Z EL vm' h' x) → (nw' → ∀ x, h.size ≤ x → Safe Z EL vm' h' x) → Run p l e R s m args below meth c Z nw EL K vm' h' (cells + rm.cells) (slots + rm.slots) (fr m q L (v.toList ++ r))) : Run p l e R s m args below meth c Z nw EL K vm h cells slots (fr m pc L st) := by
  obtain ⟨hd, rfl⟩ := hd
  refine Run.back C hnn (Q := Q) (g' := fun v => fr m (pc + 3) L (v.toList ++ r)) (q := 0) (fun kk T locs X e1 hZ hown H hE hS hk => ?_) k
  obtain ⟨cq, kq, qa, qb, qc⟩ := isOf (s := s.setVm vm) hZ e1 E
  obtain ⟨v, vm1, Bp, -, X', hS', hg, hP, hst'⟩ := X.virtualBackS C.1 hown (mvT (s := s.setVm vm) hZ w1) (mvT (s := s.setVm vm) hZ w2) (notFace_of_selects (args := #[]) (mvT (s := s.setVm vm) hZ w5)) (mvT (s := s.setVm vm) hZ w5) (mvT (s := s.setVm vm) hZ w6) hy (backM (W := (r.map fun v => v.category).sum) M hZ w4 w3 rf rl C.2.2.2.2.2.2.2 H hE hsf) qa qc (g := fr m pc L st) rfl (by rw [C.2.2.2.1]; exact hz) (Steps.refl _) (argsL := argsL) (rest := r) (lenOf pd hlen) hst (by show 2 * 0 + _ ≤ _; omega) (hb C.2.1 hd) (fun _ _ => ⟨rfl, e1, rc, rs⟩)
  exact ⟨v, Bp, X', hS', hg, hP, hst'⟩
theorem R_private (C : Cx p s m meth c Z a0 EL own B n nm ret) {idx n' : Nat} {y : MethodName} {B' : ByteArray} {ret' : Option FieldType} {rm : Room} {sf : List Addr} {Q : Option Value → Heap → Prop} {ps : List FieldType} {rr : Option FieldType} {st : List Value} {Cn : String} (argsL : List Value) (hd : Dc B pc (.invokevirtual idx) 3 q)
    {nw' : Prop} (M : Met l Z nw' EL y B' n' ret' rm (.ref a :: argsL).toArray h sf Q) (hnn : nw → nw') (E : Exa Z h a Cn) (w1 : (Cond.methodLink own idx y).before a0 Z = true) (w2 : (Cond.privateMethod y).before a0 Z = true) (w5 : (Cond.selects y.cls y y).before a0 Z = true) (w6 : (Cond.instanceMethod y).before a0 Z = true) (w3 : (Cond.initialized y.cls).before a0 Z = true) (w4 : (Cond.code y B' n' ret').before a0 Z = true)
    (hy : y.cls ≠ "java/lang/invoke/MethodHandle" ∧ y.cls ≠ "java/lang/invoke/VarHandle") (pd : parseMethodDescriptor y.desc = some ⟨ps, rr⟩) (hlen : argsL.length = ps.length) (hst : st = argsL.reverse ++ .ref a :: r) (hz : L.length = n)
    (rf : rm.frames + 1 ≤ R.frames) (rl : (r.map fun v => v.category).sum + (n' + 11) + rm.locals ≤ R.locals) (rc : cells + rm.cells ≤ R.cells) (rs : slots + rm.slots ≤ R.slots) (hsf : ∀ x ∈ sf, Safe Z EL vm h x)
    (k : ∀ v vm' h', Q v h' → h.size ≤ h'.size → (∀ x, x < h.size → Safe Z EL vm h x → Safe Z EL vm' h' x) → (nw' → ∀ x, h.size ≤ x → Safe Z EL vm' h' x) → Run p l e R s m args below meth c Z nw EL K vm' h' (cells + rm.cells) (slots + rm.slots) (fr m q L (v.toList ++ r))) : Run p l e R s m args below meth c Z nw EL K vm h cells slots (fr m pc L st) := by
  obtain ⟨hd, rfl⟩ := hd
  refine Run.back C hnn (Q := Q) (g' := fun v => fr m (pc + 3) L (v.toList ++ r)) (q := 0) (fun kk T locs X e1 hZ hown H hE hS hk => ?_) k
  obtain ⟨cell, hcell, hobj⟩ := E.cell
  obtain ⟨v, vm1, Bp, -, X', hS', hg, hP, hst'⟩ := X.privateBackS C.1 (y := y) hown (mvT (s := s.setVm vm) hZ w1) (mvT (s := s.setVm vm) hZ w6) (mvT (s := s.setVm vm) hZ w5) (Cond.privateMethod_at (mvP (s := s.setVm vm) hZ w2 (args := #[]))) (mvT (s := s.setVm vm) hZ w4) hy (backM (W := (r.map fun v => v.category).sum) M hZ w4 w3 rf rl C.2.2.2.2.2.2.2 H hE hsf) (g := fr m pc L st) rfl (by rw [C.2.2.2.1]; exact hz) (Steps.refl _) (a := a) (by rw [e1]; exact hcell) hobj (argsL := argsL) (rest := r) (lenOf pd hlen) hst (by show 2 * 0 + _ ≤ _; omega) (hb C.2.1 hd) (fun _ _ => ⟨rfl, e1, rc, rs⟩)
  exact ⟨v, Bp, X', hS', hg, hP, hst'⟩
theorem R_privateI (C : Cx p s m meth c Z a0 EL own B n nm ret) {idx n' ki : Nat} {y : MethodName} {B' : ByteArray} {ret' : Option FieldType} {rm : Room} {sf : List Addr} {Q : Option Value → Heap → Prop} {ps : List FieldType} {rr : Option FieldType} {st : List Value} {Cn : String} (argsL : List Value) (hd : Dc B pc (.invokevirtual idx) 3 q)
    {nw' : Prop} (M : Met l Z nw' EL y B' n' ret' rm (.ref a :: argsL).toArray h sf Q) (hnn : nw → nw') (E : Exa Z h a Cn) (w1 : (Cond.methodLink own idx y).before a0 Z = true) (w2 : (Cond.privateMethod y).before a0 Z = true) (w5 : (Cond.instantiable y.cls ki).before a0 Z = true) (w6 : (Cond.instanceMethod y).before a0 Z = true) (w3 : (Cond.initialized y.cls).before a0 Z = true) (w4 : (Cond.code y B' n' ret').before a0 Z = true)
    (hy : y.cls ≠ "java/lang/invoke/MethodHandle" ∧ y.cls ≠ "java/lang/invoke/VarHandle") (pd : parseMethodDescriptor y.desc = some ⟨ps, rr⟩) (hlen : argsL.length = ps.length) (hst : st = argsL.reverse ++ .ref a :: r) (hz : L.length = n)
    (rf : rm.frames + 1 ≤ R.frames) (rl : (r.map fun v => v.category).sum + (n' + 11) + rm.locals ≤ R.locals) (rc : cells + rm.cells ≤ R.cells) (rs : slots + rm.slots ≤ R.slots) (hsf : ∀ x ∈ sf, Safe Z EL vm h x)
    (k : ∀ v vm' h', Q v h' → h.size ≤ h'.size → (∀ x, x < h.size → Safe Z EL vm h x → Safe Z EL vm' h' x) → (nw' → ∀ x, h.size ≤ x → Safe Z EL vm' h' x) → Run p l e R s m args below meth c Z nw EL K vm' h' (cells + rm.cells) (slots + rm.slots) (fr m q L (v.toList ++ r))) : Run p l e R s m args below meth c Z nw EL K vm h cells slots (fr m pc L st) := by
  obtain ⟨hd, rfl⟩ := hd
  refine Run.back C hnn (Q := Q) (g' := fun v => fr m (pc + 3) L (v.toList ++ r)) (q := 0) (fun kk T locs X e1 hZ hown H hE hS hk => ?_) k
  obtain ⟨cell, hcell, hobj⟩ := E.cell
  have hK := backM (p := p) (e := e) (below := below) (s := s) (args := args) (R := R) (len := 3) (W := (r.map fun v => v.category).sum) M hZ w4 w3 rf rl C.2.2.2.2.2.2.2 H hE hsf
  obtain ⟨mk, methM, hnamed, hmethM, hstM, habM⟩ := Cond.instanceMethod_spec (mvT (s := s.setVm vm) (args := args) hZ w6)
  obtain ⟨methM', cM, hmethM', -, -, -, -, -, -, hsigM⟩ := Cond.code_spec hnamed (mvT (s := s.setVm vm) (args := args) hZ w4)
  cases hmethM.symm.trans hmethM'
  obtain ⟨ci, kP, i1, hkP, -, i4, -⟩ := Cond.instantiable_spec (mvT (s := s.setVm vm) (args := args) hZ w5)
  have hcls := findClass_of_methodNamed hnamed
  cases hcls.symm.trans i1
  have hkPi : kP.isInterface = false := (Bool.or_eq_false_iff.mp i4).1
  have hpriv := Cond.privateMethod_at (mvP (s := s.setVm vm) hZ w2 (args := #[]))
  have hselP : selectMethod e.platform (s.setVm vm).vm cell.cls mk = .method mk := selectMethod_private hmethM (hpriv mk methM hnamed hmethM)
  obtain ⟨vm₁, X₁, hstep₁⟩ := X.invokevirtual C.1 hown (mvT (s := s.setVm vm) hZ w1) hnamed hmethM hstM hkP hkPi hy (a := a) (cell := cell) (by rw [e1]; exact hcell) hobj hselP hmethM habM hkP hkPi (g := fr m pc L st) rfl (argsL := argsL) (rest := r) (lenOf pd hlen _ hsigM) hst (hb C.2.1 hd)
  obtain ⟨v, Bp, X', hS', hgr, hpost, hsteps⟩ := hK m meth c ⟨T.setVm vm₁, locs, cells, slots⟩ (fr m pc L r) (.invokevirtual idx) mk (.ref a :: argsL).toArray X₁ rfl (by rw [C.2.2.2.1]; exact hz) (hb C.2.1 hd) (by show 2 * 0 + (r.map fun v => v.category).sum ≤ (r.map fun v => v.category).sum; omega) (X₁.named hnamed) ⟨rfl, e1, rc, rs⟩
  exact ⟨v, Bp, X', hS', hgr, hpost, (hstep₁ _ fun acts => by rw [doInvoke_state]; exact Steps.refl _).trans hsteps⟩
theorem nf_of {Z : State} {a0 : Array Value} {C : String} {y y' : MethodName} (w : (Cond.selects C y' y').before a0 Z = true) (hc : y'.cls = y.cls) : NotFace Z y := fun r0 h0 => by
  obtain ⟨c2, r2, m2, q1, q2, q3, q4, kP, hkP, hkPi⟩ := Cond.selects_spec w
  have e1 := findClass_of_methodNamed q3
  have e2 := findClass_of_methodNamed h0
  rw [hc] at e1
  have e3 : m2.cls = r0.cls := Option.some.inj (e1.symm.trans e2)
  exact ⟨kP, by rw [← e3]; exact hkP, hkPi⟩
theorem same_of {Z : State} {a0 : Array Value} {C : String} {y y' : MethodName} (w : (Cond.selects C y' y').before a0 Z = true) (hc : y'.cls = y.cls) (w2 : (Cond.instanceMethod y).before a0 Z = true) (hy : y.cls ≠ "java/lang/invoke/MethodHandle" ∧ y.cls ≠ "java/lang/invoke/VarHandle") : (Cond.sameMethod y.cls y.cls y.name y.desc).before a0 Z = true := by
  obtain ⟨mk, methM, hnamed, -, -, -⟩ := Cond.instanceMethod_spec w2
  obtain ⟨kP, hkP, hkPi⟩ := nf_of w hc mk hnamed
  have e1 := findClass_of_methodNamed hnamed
  have e2 := State.methodFound?_of_named hnamed hy
  have e3 : Z.methodNamed? ⟨y.cls, y.name, y.desc⟩ = some mk := hnamed
  simp [Cond.before, Cond.holds, Cond.value, e1, e2, e3, hkP, hkPi]
theorem R_super (C : Cx p s m meth c Z a0 EL own B n nm ret) {idx n' : Nat} {y y' : MethodName} {B' : ByteArray} {ret' : Option FieldType} {rm : Room} {sf : List Addr} {Q : Option Value → Heap → Prop} {ps : List FieldType} {rr : Option FieldType} {st : List Value} {Cn Cs : String} (argsL : List Value) (hd : Dc B pc (.invokespecial idx) 3 q)
    {nw' : Prop} (M : Met l Z nw' EL y B' n' ret' rm (.ref a :: argsL).toArray h sf Q) (hnn : nw → nw') (E : Exa Z h a Cn) (w1 : (Cond.methodLink own idx y).before a0 Z = true) (w5 : (Cond.selects Cs y' y').before a0 Z = true) (hcc : y'.cls = y.cls) (w6 : (Cond.instanceMethod y).before a0 Z = true) (w7 : (Cond.superclass own y.cls).before a0 Z = true) (w3 : (Cond.initialized y.cls).before a0 Z = true) (w4 : (Cond.code y B' n' ret').before a0 Z = true) (hn1 : y.name ≠ "<init>")
    (hy : y.cls ≠ "java/lang/invoke/MethodHandle" ∧ y.cls ≠ "java/lang/invoke/VarHandle") (pd : parseMethodDescriptor y.desc = some ⟨ps, rr⟩) (hlen : argsL.length = ps.length) (hst : st = argsL.reverse ++ .ref a :: r) (hz : L.length = n)
    (rf : rm.frames + 1 ≤ R.frames) (rl : (r.map fun v => v.category).sum + (n' + 11) + rm.locals ≤ R.locals) (rc : cells + rm.cells ≤ R.cells) (rs : slots + rm.slots ≤ R.slots) (hsf : ∀ x ∈ sf, Safe Z EL vm h x)
    (k : ∀ v vm' h', Q v h' → h.size ≤ h'.size → (∀ x, x < h.size → Safe Z EL vm h x → Safe Z EL vm' h' x) → (nw' → ∀ x, h.size ≤ x → Safe Z EL vm' h' x) → Run p l e R s m args below meth c Z nw EL K vm' h' (cells + rm.cells) (slots + rm.slots) (fr m q L (v.toList ++ r))) : Run p l e R s m args below meth c Z nw EL K vm h cells slots (fr m pc L st) := by
  obtain ⟨hd, rfl⟩ := hd
  refine Run.back C hnn (Q := Q) (g' := fun v => fr m (pc + 3) L (v.toList ++ r)) (q := 0) (fun kk T locs X e1 hZ hown H hE hS hk => ?_) k
  obtain ⟨v, vm1, Bp, -, X', hS', hg, hP, hst'⟩ := superBackS X C.1 (s := s.setVm vm) hZ hown w1 (same_of w5 hcc w6 hy) w6 w7 hn1 (backM (W := (r.map fun v => v.category).sum) M hZ w4 w3 rf rl C.2.2.2.2.2.2.2 H hE hsf) e1 (RoadKit.Ins.self E) (g := fr m pc L st) rfl (by rw [C.2.2.2.1]; exact hz) w4 (argsL := argsL) (rest := r) (lenOf pd hlen) hst (by show 2 * 0 + _ ≤ _; omega) (hb C.2.1 hd) (fun _ _ => ⟨rfl, e1, rc, rs⟩)
  exact ⟨v, Bp, X', hS', hg, hP, hst'⟩
theorem R_virtual2 (C : Cx p s m meth c Z a0 EL own B n nm ret) {idx n' : Nat} {y z y' : MethodName} {B' : ByteArray} {ret' : Option FieldType} {rm : Room} {sf : List Addr} {Q : Option Value → Heap → Prop} {ps : List FieldType} {rr : Option FieldType} {st : List Value} {Cn : String} (argsL : List Value) (hd : Dc B pc (.invokevirtual idx) 3 q)
    {nw' : Prop} (M : Met l Z nw' EL z B' n' ret' rm (.ref a :: argsL).toArray h sf Q) (hnn : nw → nw') (E : Exa Z h a Cn) (w1 : (Cond.methodLink own idx y).before a0 Z = true) (w2 : (Cond.declares y).before a0 Z = true) (w5 : (Cond.selects Cn y z).before a0 Z = true) (w8 : (Cond.selects Cn y' y').before a0 Z = true) (hcc : y'.cls = y.cls) (w6 : (Cond.instanceMethod z).before a0 Z = true) (w3 : (Cond.initialized z.cls).before a0 Z = true) (w4 : (Cond.code z B' n' ret').before a0 Z = true)
    (hy : y.cls ≠ "java/lang/invoke/MethodHandle" ∧ y.cls ≠ "java/lang/invoke/VarHandle") (pd : parseMethodDescriptor y.desc = some ⟨ps, rr⟩) (hlen : argsL.length = ps.length) (hst : st = argsL.reverse ++ .ref a :: r) (hz : L.length = n)
    (rf : rm.frames + 1 ≤ R.frames) (rl : (r.map fun v => v.category).sum + (n' + 11) + rm.locals ≤ R.locals) (rc : cells + rm.cells ≤ R.cells) (rs : slots + rm.slots ≤ R.slots) (hsf : ∀ x ∈ sf, Safe Z EL vm h x)
    (k : ∀ v vm' h', Q v h' → h.size ≤ h'.size → (∀ x, x < h.size → Safe Z EL vm h x → Safe Z EL vm' h' x) → (nw' → ∀ x, h.size ≤ x → Safe Z EL vm' h' x) → Run p l e R s m args below meth c Z nw EL K vm' h' (cells + rm.cells) (slots + rm.slots) (fr m q L (v.toList ++ r))) : Run p l e R s m args below meth c Z nw EL K vm h cells slots (fr m pc L st) := by
  obtain ⟨hd, rfl⟩ := hd
  refine Run.back C hnn (Q := Q) (g' := fun v => fr m (pc + 3) L (v.toList ++ r)) (q := 0) (fun kk T locs X e1 hZ hown H hE hS hk => ?_) k
  obtain ⟨cq, kq, qa, qb, qc⟩ := isOf (s := s.setVm vm) hZ e1 E
  obtain ⟨v, vm1, Bp, -, X', hS', hg, hP, hst'⟩ := X.virtualBackS C.1 hown (mvT (s := s.setVm vm) hZ w1) (mvT (s := s.setVm vm) hZ w2) (nf_of (mvT (s := s.setVm vm) (args := #[]) hZ w8) hcc) (mvT (s := s.setVm vm) hZ w5) (mvT (s := s.setVm vm) hZ w6) hy (backM (W := (r.map fun v => v.category).sum) M hZ w4 w3 rf rl C.2.2.2.2.2.2.2 H hE hsf) qa qc (g := fr m pc L st) rfl (by rw [C.2.2.2.1]; exact hz) (Steps.refl _) (argsL := argsL) (rest := r) (lenOf pd hlen) hst (by show 2 * 0 + _ ≤ _; omega) (hb C.2.1 hd) (fun _ _ => ⟨rfl, e1, rc, rs⟩)
  exact ⟨v, Bp, X', hS', hg, hP, hst'⟩
theorem R_privateS (C : Cx p s m meth c Z a0 EL own B n nm ret) {idx n' : Nat} {y : MethodName} {B' : ByteArray} {ret' : Option FieldType} {rm : Room} {sf : List Addr} {Q : Option Value → Heap → Prop} {ps : List FieldType} {rr : Option FieldType} {st : List Value} {Cn Cs : String} (argsL : List Value) (hd : Dc B pc (.invokevirtual idx) 3 q)
    {nw' : Prop} (M : Met l Z nw' EL y B' n' ret' rm (.ref a :: argsL).toArray h sf Q) (hnn : nw → nw') (E : Exa Z h a Cn) (w1 : (Cond.methodLink own idx y).before a0 Z = true) (w2 : (Cond.privateMethod y).before a0 Z = true) (w5 : (Cond.selects Cs y y).before a0 Z = true) (w6 : (Cond.instanceMethod y).before a0 Z = true) (w3 : (Cond.initialized y.cls).before a0 Z = true) (w4 : (Cond.code y B' n' ret').before a0 Z = true)
    (hy : y.cls ≠ "java/lang/invoke/MethodHandle" ∧ y.cls ≠ "java/lang/invoke/VarHandle") (pd : parseMethodDescriptor y.desc = some ⟨ps, rr⟩) (hlen : argsL.length = ps.length) (hst : st = argsL.reverse ++ .ref a :: r) (hz : L.length = n)
    (rf : rm.frames + 1 ≤ R.frames) (rl : (r.map fun v => v.category).sum + (n' + 11) + rm.locals ≤ R.locals) (rc : cells + rm.cells ≤ R.cells) (rs : slots + rm.slots ≤ R.slots) (hsf : ∀ x ∈ sf, Safe Z EL vm h x)
    (k : ∀ v vm' h', Q v h' → h.size ≤ h'.size → (∀ x, x < h.size → Safe Z EL vm h x → Safe Z EL vm' h' x) → (nw' → ∀ x, h.size ≤ x → Safe Z EL vm' h' x) → Run p l e R s m args below meth c Z nw EL K vm' h' (cells + rm.cells) (slots + rm.slots) (fr m q L (v.toList ++ r))) : Run p l e R s m args below meth c Z nw EL K vm h cells slots (fr m pc L st) := by
  obtain ⟨hd, rfl⟩ := hd
  refine Run.back C hnn (Q := Q) (g' := fun v => fr m (pc + 3) L (v.toList ++ r)) (q := 0) (fun kk T locs X e1 hZ hown H hE hS hk => ?_) k
  obtain ⟨cell, hcell, hobj⟩ := E.cell
  have hK := backM (p := p) (e := e) (below := below) (s := s) (args := args) (R := R) (len := 3) (W := (r.map fun v => v.category).sum) M hZ w4 w3 rf rl C.2.2.2.2.2.2.2 H hE hsf
  obtain ⟨mk, methM, hnamed, hmethM, hstM, habM⟩ := Cond.instanceMethod_spec (mvT (s := s.setVm vm) (args := args) hZ w6)
  obtain ⟨methM', cM, hmethM', -, -, -, -, -, -, hsigM⟩ := Cond.code_spec hnamed (mvT (s := s.setVm vm) (args := args) hZ w4)
  cases hmethM.symm.trans hmethM'
  obtain ⟨kP, hkP, hkPi⟩ := notFace_of_selects (args := #[]) (mvT (s := s.setVm vm) hZ w5) mk hnamed
  have hpriv := Cond.privateMethod_at (mvP (s := s.setVm vm) hZ w2 (args := #[]))
  have hselP : selectMethod e.platform (s.setVm vm).vm cell.cls mk = .method mk := selectMethod_private hmethM (hpriv mk methM hnamed hmethM)
  obtain ⟨vm₁, X₁, hstep₁⟩ := X.invokevirtual C.1 hown (mvT (s := s.setVm vm) hZ w1) hnamed hmethM hstM hkP hkPi hy (a := a) (cell := cell) (by rw [e1]; exact hcell) hobj hselP hmethM habM hkP hkPi (g := fr m pc L st) rfl (argsL := argsL) (rest := r) (lenOf pd hlen _ hsigM) hst (hb C.2.1 hd)
  obtain ⟨v, Bp, X', hS', hgr, hpost, hsteps⟩ := hK m meth c ⟨T.setVm vm₁, locs, cells, slots⟩ (fr m pc L r) (.invokevirtual idx) mk (.ref a :: argsL).toArray X₁ rfl (by rw [C.2.2.2.1]; exact hz) (hb C.2.1 hd) (by show 2 * 0 + (r.map fun v => v.category).sum ≤ (r.map fun v => v.category).sum; omega) (X₁.named hnamed) ⟨rfl, e1, rc, rs⟩
  exact ⟨v, Bp, X', hS', hgr, hpost, (hstep₁ _ fun acts => by rw [doInvoke_state]; exact Steps.refl _).trans hsteps⟩
end Steps
end Jvm.Own
namespace Jvm.Own
open Sem ClassFile Op Lib Bundle Jvm.Stand Jvm.Free Jvm.LawKit Jvm.RoadKit
section Arrays
variable {p : Program} {l : Launch} {e : Env} {R : Room} {s : State} {m : MethodId} {args : Array Value} {below : List Frame} {meth : Method} {c : Code} {Z : State} {a0 : Array Value} {nw : Prop} {EL : List (String × Nat)} {K : State → Outcome → Prop} {vm : Vm} {h h' h0 : Heap} {cells slots : Nat} {own nm : String} {B : ByteArray} {n : Nat} {ret : Option FieldType} {pc q tq : Nat} {L : List Slot} {r : List Value} {a b : Addr} {ty : FieldType} {N sl : Nat} {f g : Nat → Value} {v : Value}
/-- the array at a: N places, place i holds f i -/
def AR (Z : State) (h : Heap) (a : Addr) (ty : FieldType) (N : Nat) (f : Nat → Value) : Prop :=
  ∃ cl : Cell, Arr Z h a cl ty ∧ cl.slots.size = N ∧ N < 2 ^ 31 ∧ ∀ i, i < N → cl.slots[i]? = some (f i) ∧ fits ty (f i) = true
def upd (f : Nat → Value) (j : Nat) (v : Value) : Nat → Value := fun i => if i = j then v else f i
theorem upd_eq {j : Nat} : upd f j v j = v := if_pos rfl
theorem upd_ne {i j : Nat} (q : i ≠ j) : upd f j v i = f i := if_neg q
theorem AR.lt (A : AR Z h a ty N f) : a < h.size := by obtain ⟨cl, A, -⟩ := A; exact A.lt
theorem AR.small (A : AR Z h a ty N f) : N < 2 ^ 31 := by obtain ⟨cl, A, -, q, -⟩ := A; exact q
theorem AR.ext (A : AR Z h a ty N f) (E : Ext h h') : AR Z h' a ty N f := by obtain ⟨cl, A, r⟩ := A; exact ⟨cl, A.ext E, r⟩
theorem AR.other (A : AR Z h a ty N f) (W : Wr h h' b sl v) (q : a ≠ b) : AR Z h' a ty N f := by obtain ⟨cl, A, r⟩ := A; exact ⟨cl, A.other W q, r⟩
theorem AR.keep {ws : List Addr} (A : AR Z h a ty N f) (K : Keep h h' ws) (q : a ∉ ws) : AR Z h' a ty N f := by obtain ⟨cl, A, r⟩ := A; exact ⟨cl, ⟨K.2.1 a cl A.1 q, A.2⟩, r⟩
theorem AR.cg (A : AR Z h a ty N f) (q : ∀ i, i < N → f i = g i) : AR Z h a ty N g := by
  obtain ⟨cl, A, h1, h2, H⟩ := A
  exact ⟨cl, A, h1, h2, fun i hi => by rw [← q i hi]; exact H i hi⟩
theorem AR.set (A : AR Z h a ty N f) {j : Nat} (W : Wr h h' a j v) (hv : fits ty v = true) : AR Z h' a ty N (upd f j v) := by
  obtain ⟨cl, A, hn, h31, H⟩ := A
  refine ⟨cl.setSlot j v, A.same W, by rw [sz_set]; exact hn, h31, fun i hi => ?_⟩
  unfold upd
  by_cases e : i = j
  · subst e
    rw [if_pos rfl]
    exact ⟨by simp [Cell.setSlot, hn, hi], hv⟩
  · rw [if_neg e]
    exact ⟨(Array.getElem?_setIfInBounds_ne (Ne.symm e)).trans (H i hi).1, (H i hi).2⟩
theorem AR.fit (A : AR Z h a ty N f) {i : Nat} (hi : i < N) : fits ty (f i) = true := by obtain ⟨cl, A, h1, h2, H⟩ := A; exact (H i hi).2
theorem AR.safe (A : AR Z h a ty N f) (hW : Z.Warmed39 vm) (ht : ty ≠ .byte) : Safe Z EL vm h a := by obtain ⟨cl, A, -⟩ := A; exact Safe.arr hW.alike A ht
theorem AR.neExa {C : String} {k : Nat} (A : AR Z h a ty N f) (E : Exa Z h b C) (w : (Cond.instantiable C k).before a0 Z = true) : a ≠ b := by obtain ⟨cl, A, -⟩ := A; exact (ne_arr E w A).symm
theorem AR.start (hf : Fit Z) {t : Term} (ev : t.eval args Z none [] Z = some (.ref a)) (hx : (Cond.arrayOf t ty).value args Z none Z [] = some true) {w : Int32} (hl : (Cond.eq (.length t) (.int w)).value args Z none Z [] = some true) (hw : w.toInt = N) : ∃ cl : Cell, Arr Z Z.heap a cl ty ∧ AR Z Z.heap a ty N (fun i => cl.slots.getD i .null) := by
  obtain ⟨cl, A⟩ := Arr.start ev hx
  have e1 : Z.arrayAt? a = some cl := A.fin (Vm.Alike.refl _)
  have hsz : cl.slots.size < 2 ^ 31 ∧ cl.slots.size.toInt32 = w := by
    by_cases z : cl.slots.size < 2 ^ 31
    · refine ⟨z, ?_⟩
      have z2 := len_f ev e1 z
      simp only [Cond.value, z2, Term.int_eval] at hl
      simpa using hl
    · have z2 : (Term.length t).eval args Z none [] Z = none := by simp only [Term.eval, ev, e1, Option.bind_eq_bind, Option.bind_some, if_neg z]
      simp [Cond.value, z2] at hl
  have hN : cl.slots.size = N := by
    have z := len_toInt hsz.1
    rw [hsz.2, hw] at z
    omega
  refine ⟨cl, A, cl, A, hN, by rw [← hN]; exact hsz.1, fun i hi => ?_⟩
  have hi' : i < cl.slots.size := by omega
  obtain ⟨v, v1, v2⟩ := elem_fit (j := i.toInt32) hf A (idx_in hi' hsz.1)
  have z3 : i.toInt32.toNatClampNeg = i := by simp [Int32.toNatClampNeg, len_toInt (show i < 2 ^ 31 by omega)]
  rw [z3] at v1
  have z4 : cl.slots.getD i .null = v := by simp [Array.getD_eq_getD_getElem?, v1]
  exact ⟨by show cl.slots[i]? = some (cl.slots.getD i .null); rw [z4]; exact v1, by show fits ty (cl.slots.getD i .null) = true; rw [z4]; exact v2⟩
theorem cl_of {j : Int32} {i : Nat} (hj : j.toInt = i) : j.toNatClampNeg = i := by simp [Int32.toNatClampNeg, hj]
theorem int_lit {t : Term} {w : Int32} (q : (Cond.eq t (.int w)).value args Z none Z [] = some true) : t.eval args Z none [] Z = some (.int w) := by
  obtain ⟨x, y, ex, ey, k1, k2⟩ := cmp_v (Or.inl q)
  have hy : y = .int w := (Option.some.inj ey).symm
  subst hy
  obtain ⟨x', rfl⟩ : ∃ x', x = .int x' := k2
  have z : x' = w := gotT (Cond.eq_ints ex (Term.int_eval w)) q
  rw [← z]; exact ex
theorem elem_lit {t : Term} {cl : Cell} (ev : t.eval args Z none [] Z = some (.ref a)) (A : Arr Z Z.heap a cl ty) {k w : Int32} {i : Nat} (hk : k.toInt = i) (q : (Cond.eq (.elem t (.int k)) (.int w)).value args Z none Z [] = some true) : cl.slots.getD i .null = .int w := by
  have z := elem_in (int_lit q) ev (Term.int_eval k) A.1
  rw [cl_of hk] at z
  simp [Array.getD_eq_getD_getElem?, z.2]
theorem Keep.ofExt (E : Ext h h') {ws : List Addr} : Keep h h' ws := (Keep.refl h ws).ext E
theorem nn_of {j : Int32} {i : Nat} (hj : j.toInt = i) : ¬ j < 0 := by
  rw [Int32.lt_iff_toInt_lt, hj, Int32.toInt_zero]; omega
theorem in_of {j : Int32} {i : Nat} {cl : Cell} (hj : j.toInt = i) (hi : i < N) (hn : cl.slots.size = N) : ¬ (j < 0 ∨ cl.slots.size ≤ j.toNatClampNeg) := by
  rw [cl_of hj, hn]
  intro z
  rcases z with z | z
  · exact nn_of hj z
  · omega
theorem R_arraylength (C : Cx p s m meth c Z a0 EL own B n nm ret) {w : Int32} (hd : Dc B pc (.arraylength) 1 q) (A : AR Z h a ty N f) (hv : N.toInt32 = w)
    (k : Run p l e R s m args below meth c Z nw EL K vm h cells slots (fr m q L (.int w :: r))) : Run p l e R s m args below meth c Z nw EL K vm h cells slots (fr m pc L (.ref a :: r)) := by
  obtain ⟨hd, rfl⟩ := hd
  obtain ⟨cl, A, hn, -⟩ := A
  subst hv hn
  exact Run.warm C (fun T locs X e1 hZ hown => ⟨T, X, e1, fun t st => X.arraylength C.1 (cell := cl) (by rw [e1]; exact A.1) (State.isArrayOf_alike hZ.alike A.2.1) (g := fr m pc L (.ref a :: r)) rfl rfl (hb C.2.1 hd) t st⟩) k
theorem R_iaload (C : Cx p s m meth c Z a0 EL own B n nm ret) {j : Int32} (i : Nat) (hd : Dc B pc (.iaload) 1 q) (A : AR Z h a .int N f) (hj : j.toInt = i) (hi : i < N) (hv : f i = v)
    (k : Run p l e R s m args below meth c Z nw EL K vm h cells slots (fr m q L (v :: r))) : Run p l e R s m args below meth c Z nw EL K vm h cells slots (fr m pc L (.int j :: .ref a :: r)) := by
  obtain ⟨hd, rfl⟩ := hd
  obtain ⟨cl, A, hn, h31, H⟩ := A
  subst hv
  exact Run.warm C (fun T locs X e1 hZ hown => ⟨T, X, e1, fun t st => X.iaload C.1 (cell := cl) (by rw [e1]; exact A.1) (State.isArrayOf_alike hZ.alike A.2.1) A.2.2 (in_of hj hi hn) (by rw [cl_of hj]; exact (H i hi).1) (g := fr m pc L (.int j :: .ref a :: r)) rfl rfl (hb C.2.1 hd) t st⟩) k
theorem R_caload (C : Cx p s m meth c Z a0 EL own B n nm ret) {j : Int32} (i : Nat) (hd : Dc B pc (.caload) 1 q) (A : AR Z h a .char N f) (hj : j.toInt = i) (hi : i < N) (hv : f i = v)
    (k : Run p l e R s m args below meth c Z nw EL K vm h cells slots (fr m q L (v :: r))) : Run p l e R s m args below meth c Z nw EL K vm h cells slots (fr m pc L (.int j :: .ref a :: r)) := by
  obtain ⟨hd, rfl⟩ := hd
  obtain ⟨cl, A, hn, h31, H⟩ := A
  subst hv
  exact Run.warm C (fun T locs X e1 hZ hown => ⟨T, X, e1, fun t st => X.caload C.1 (cell := cl) (by rw [e1]; exact A.1) (State.isArrayOf_alike hZ.alike A.2.1) A.2.2 (in_of hj hi hn) (by rw [cl_of hj]; exact (H i hi).1) (g := fr m pc L (.int j :: .ref a :: r)) rfl rfl (hb C.2.1 hd) t st⟩) k
theorem R_baload (C : Cx p s m meth c Z a0 EL own B n nm ret) {j : Int32} (i : Nat) (hd : Dc B pc (.baload) 1 q) (A : AR Z h a .byte N f) (hj : j.toInt = i) (hi : i < N) (hv : f i = v)
    (k : Run p l e R s m args below meth c Z nw EL K vm h cells slots (fr m q L (v :: r))) : Run p l e R s m args below meth c Z nw EL K vm h cells slots (fr m pc L (.int j :: .ref a :: r)) := by
  obtain ⟨hd, rfl⟩ := hd
  obtain ⟨cl, A, hn, h31, H⟩ := A
  subst hv
  exact Run.warm C (fun T locs X e1 hZ hown => ⟨T, X, e1, fun t st => X.baloadBytes C.1 (cell := cl) (by rw [e1]; exact A.1) (State.isArrayOf_alike hZ.alike A.2.1) A.2.2 (in_of hj hi hn) (by rw [cl_of hj]; exact (H i hi).1) (g := fr m pc L (.int j :: .ref a :: r)) rfl rfl (hb C.2.1 hd) t st⟩) k
theorem R_laload (C : Cx p s m meth c Z a0 EL own B n nm ret) {j : Int32} (i : Nat) (hd : Dc B pc (.laload) 1 q) (A : AR Z h a .long N f) (hj : j.toInt = i) (hi : i < N) (hv : f i = v)
    (k : Run p l e R s m args below meth c Z nw EL K vm h cells slots (fr m q L (v :: r))) : Run p l e R s m args below meth c Z nw EL K vm h cells slots (fr m pc L (.int j :: .ref a :: r)) := by
  obtain ⟨hd, rfl⟩ := hd
  obtain ⟨cl, A, hn, h31, H⟩ := A
  subst hv
  exact Run.warm C (fun T locs X e1 hZ hown => ⟨T, X, e1, fun t st => X.laload C.1 (cell := cl) (by rw [e1]; exact A.1) (State.isArrayOf_alike hZ.alike A.2.1) A.2.2 (in_of hj hi hn) (by rw [cl_of hj]; exact (H i hi).1) (g := fr m pc L (.int j :: .ref a :: r)) rfl rfl (hb C.2.1 hd) t st⟩) k
theorem R_aaload (C : Cx p s m meth c Z a0 EL own B n nm ret) {j : Int32} (i : Nat) (hd : Dc B pc (.aaload) 1 q) (A : AR Z h a ty N f) (ht : ty.isReference = true) (hj : j.toInt = i) (hi : i < N) (hv : f i = v)
    (k : Run p l e R s m args below meth c Z nw EL K vm h cells slots (fr m q L (v :: r))) : Run p l e R s m args below meth c Z nw EL K vm h cells slots (fr m pc L (.int j :: .ref a :: r)) := by
  obtain ⟨hd, rfl⟩ := hd
  obtain ⟨cl, A, hn, h31, H⟩ := A
  subst hv
  exact Run.warm C (fun T locs X e1 hZ hown => ⟨T, X, e1, fun t st => X.aaload C.1 (cell := cl) (by rw [e1]; exact A.1) (State.isArrayOf_alike hZ.alike A.2.1) ht A.2.2 (in_of hj hi hn) (by rw [cl_of hj]; exact (H i hi).1) (g := fr m pc L (.int j :: .ref a :: r)) rfl rfl (hb C.2.1 hd) t st⟩) k
theorem R_iastore (C : Cx p s m meth c Z a0 EL own B n nm ret) {j x : Int32} (i : Nat) (hd : Dc B pc (.iastore) 1 q) (A : AR Z h a .int N f) (hj : j.toInt = i) (hi : i < N) (ha : Z.heap.size ≤ a) (hs : Safe Z EL vm h a)
    (k : ∀ h', Wr h h' a i (.int x) → AR Z h' a .int N (upd f i (.int x)) → (∀ x, Safe Z EL vm h x → Safe Z EL vm h' x) → Run p l e R s m args below meth c Z nw EL K vm h' cells slots (fr m q L r)) : Run p l e R s m args below meth c Z nw EL K vm h cells slots (fr m pc L (.int x :: .int j :: .ref a :: r)) := by
  obtain ⟨hd, rfl⟩ := hd
  have A0 := A
  obtain ⟨cl, A, hn, h31, H⟩ := A
  refine Run.write C (a := a) (sl := i) (v := .int x) (fun T locs X e1 hZ hown => ?_) ha hs (fun h' W Sf => k h' W (A0.set W (rfl)) Sf)
  have z := stI X C.1 hZ e1 A (x := x) (in_of hj hi hn) (g := fr m pc L (.int x :: .int j :: .ref a :: r)) rfl rfl (hb C.2.1 hd)
  rw [cl_of hj] at z
  exact z
theorem R_castore (C : Cx p s m meth c Z a0 EL own B n nm ret) {j x : Int32} (i : Nat) (hd : Dc B pc (.castore) 1 q) (A : AR Z h a .char N f) (hj : j.toInt = i) (hi : i < N) (ha : Z.heap.size ≤ a) (hs : Safe Z EL vm h a)
    (k : ∀ h', Wr h h' a i (.int (nar .char x)) → AR Z h' a .char N (upd f i (.int (nar .char x))) → (∀ x, Safe Z EL vm h x → Safe Z EL vm h' x) → Run p l e R s m args below meth c Z nw EL K vm h' cells slots (fr m q L r)) : Run p l e R s m args below meth c Z nw EL K vm h cells slots (fr m pc L (.int x :: .int j :: .ref a :: r)) := by
  obtain ⟨hd, rfl⟩ := hd
  have A0 := A
  obtain ⟨cl, A, hn, h31, H⟩ := A
  refine Run.write C (a := a) (sl := i) (v := .int (nar .char x)) (fun T locs X e1 hZ hown => ?_) ha hs (fun h' W Sf => k h' W (A0.set W (fits_nar_char x)) Sf)
  have z := stC X C.1 hZ e1 A (x := x) (in_of hj hi hn) (g := fr m pc L (.int x :: .int j :: .ref a :: r)) rfl rfl (hb C.2.1 hd)
  rw [cl_of hj] at z
  exact z
theorem R_bastore (C : Cx p s m meth c Z a0 EL own B n nm ret) {j x : Int32} (i : Nat) (hd : Dc B pc (.bastore) 1 q) (A : AR Z h a .byte N f) (hj : j.toInt = i) (hi : i < N) (ha : Z.heap.size ≤ a) (hs : Safe Z EL vm h a)
    (k : ∀ h', Wr h h' a i (.int (nar .byte x)) → AR Z h' a .byte N (upd f i (.int (nar .byte x))) → (∀ x, Safe Z EL vm h x → Safe Z EL vm h' x) → Run p l e R s m args below meth c Z nw EL K vm h' cells slots (fr m q L r)) : Run p l e R s m args below meth c Z nw EL K vm h cells slots (fr m pc L (.int x :: .int j :: .ref a :: r)) := by
  obtain ⟨hd, rfl⟩ := hd
  have A0 := A
  obtain ⟨cl, A, hn, h31, H⟩ := A
  refine Run.write C (a := a) (sl := i) (v := .int (nar .byte x)) (fun T locs X e1 hZ hown => ?_) ha hs (fun h' W Sf => k h' W (A0.set W (fits_nar_byte x)) Sf)
  have z := stB X C.1 hZ e1 A (x := x) (in_of hj hi hn) (g := fr m pc L (.int x :: .int j :: .ref a :: r)) rfl rfl (hb C.2.1 hd)
  rw [cl_of hj] at z
  exact z
theorem nsz {x : Int32} (h : x.toInt = N) : N < 2 ^ 31 := by have := Int32.toInt_lt x; omega
theorem R_newarray (C : Cx p s m meth c Z a0 EL own B n nm ret) {x : Int32} {aty : ArrayType} (cap : Nat) (hd : Dc B pc (.newarray aty) 2 q) (w : (Cond.arrayClass (newarray.typeOf aty)).before a0 Z = true) (hx : x.toInt = N) (hcap : N ≤ cap) (hb8 : cap * 8 ≤ 536870912) (hc : cells + 1 ≤ R.cells) (hl : slots + cap ≤ R.slots) (hfit : fits (newarray.typeOf aty) (defaultValue (newarray.typeOf aty)) = true)
    (k : ∀ h', Ext h h' → AR Z h' h.size (newarray.typeOf aty) N (fun _ => defaultValue (newarray.typeOf aty)) → Safe Z EL vm h' h.size → (∀ x, Safe Z EL vm h x → Safe Z EL vm h' x) → Run p l e R s m args below meth c Z nw EL K vm h' (cells + 1) (slots + cap) (fr m q L (.ref h.size :: r))) : Run p l e R s m args below meth c Z nw EL K vm h cells slots (fr m pc L (.int x :: r)) := by
  obtain ⟨hd, rfl⟩ := hd
  refine Run.grow C (F := fun h' => AR Z h' h.size (newarray.typeOf aty) N (fun _ => defaultValue (newarray.typeOf aty))) (fun T locs X e1 hZ hown => ?_) (fun h' E F H Sf => k h' E F (Safe.ext E H (Safe.new (Nat.le_refl _))) Sf)
  obtain ⟨T', h', cA, X', e2, E, A, st⟩ := newP X C.1 hZ w e1 (g := fr m pc L (.int x :: r)) rfl (hb C.2.1 hd) (n := x) (rest := r) rfl (nn_of hx) (cap := cap) (by rw [cl_of hx]; exact hcap) hb8 hc hl
  refine ⟨T', h', X', e2, E, ⟨_, A, by rw [sz_new, cl_of hx], nsz hx, fun i hi => ⟨?_, hfit⟩⟩, st⟩
  simp [newA, cl_of hx, hi]
theorem Run.keepW (C : Cx p s m meth c Z a0 EL own B n nm ret) {g g' : JFrame} {F : Heap → Prop}
    (st : ∀ T locs, Stand p l e R (s.setVm vm) m args below meth c T locs cells slots → T.heap = h → Z.Warmed39 (s.setVm vm).vm → (s.setVm vm).vm.findClass own = some m.cls → ∃ T' h' L', Stand p l e R (s.setVm vm) m args below meth c T' (locs ++ L') cells slots ∧ T'.heap = h' ∧ Keep h h' [a] ∧ (∀ y ∈ L', y.base = a) ∧ F h' ∧ ∀ t, Steps p.tables e below (T'.setTop g') t → Steps p.tables e below (T.setTop g) t)
    (ha : Z.heap.size ≤ a) (hs : Safe Z EL vm h a)
    (k : ∀ h', Keep h h' [a] → F h' → (∀ x, Safe Z EL vm h x → Safe Z EL vm h' x) → Run p l e R s m args below meth c Z nw EL K vm h' cells slots g') : Run p l e R s m args below meth c Z nw EL K vm h cells slots g := by
  intro T P
  obtain ⟨kk, locs, X, e1, e2, e3, e4, e5, e6, e7, e8⟩ := P
  obtain ⟨T', h', L', X', e1', Kp, hL, hF, hst⟩ := st T locs X e1 e6 ((e4.1.alike.findClass _ _).trans C.2.2.1)
  have h1 : ∀ x ∈ [a], Safe Z EL vm h x := fun x hx => by cases List.mem_singleton.mp hx; exact hs
  exact Ends.go hst (k h' Kp hF (fun x S => Safe.keep Kp h1 e7.1.1 S) T' ⟨kk, _, X', e1', Fr.app e2 fun y hy => by rw [hL y hy]; exact ha, Ext.keep' e3 Kp fun x hx => by cases List.mem_singleton.mp hx; exact ha, e4, Nat.le_trans e5 Kp.1, e6, e7.trans (CHs.keep Kp h1 e7.1.1), e8⟩)
theorem arr_kind {cl : Cell} (A : Arr Z h a cl ty) : ∃ (k : Class) (comp : ClassId), Z.vm.classes[cl.cls]? = some k ∧ k.kind = .array comp ty := by
  obtain ⟨-, ⟨-, k, h1, comp, h2⟩, -⟩ := A
  exact ⟨k, comp, h1, h2⟩
theorem gd_of {cl : Cell} {i : Nat} (h : cl.slots[i]? = some v) : cl.slots.getD i .null = v := by
  simp [Array.getD, Array.getElem?_eq_some_iff] at h ⊢
  obtain ⟨h1, h2⟩ := h
  simp [h1, h2]
theorem R_arraycopy (C : Cx p s m meth c Z a0 EL own B n nm ret) {idx : Nat} {src dst : Addr} {sp dp nn : Int32} {Ns Nd : Nat} {fs fd : Nat → Value} (isp idp inn : Nat) (hd : Dc B pc (.invokestatic idx) 3 q)
    (w1 : (Cond.methodLink own idx acN).before a0 Z = true) (w2 : (Cond.native acN).before a0 Z = true) (w3 : (Cond.static acN).before a0 Z = true) (w4 : (Cond.initialized "java/lang/System").before a0 Z = true)
    (A : AR Z h src ty Ns fs) (D : AR Z h dst ty Nd fd) (hp : refKind ty = false) (q1 : sp.toInt = isp) (q2 : dp.toInt = idp) (q3 : nn.toInt = inn) (b1 : isp + inn ≤ Ns) (b2 : idp + inn ≤ Nd) (hz : L.length = n)
    (rf : 1 ≤ R.frames) (rl : (r.map fun v => v.category).sum + 18 ≤ R.locals) (ha : Z.heap.size ≤ dst) (hs : Safe Z EL vm h dst)
    (k : ∀ h', Keep h h' [dst] → AR Z h' dst ty Nd (fun i => if idp ≤ i ∧ i < idp + inn then fs (isp + (i - idp)) else fd i) → (∀ x, Safe Z EL vm h x → Safe Z EL vm h' x) → Run p l e R s m args below meth c Z nw EL K vm h' cells slots (fr m q L r)) : Run p l e R s m args below meth c Z nw EL K vm h cells slots (fr m pc L (.int nn :: .int dp :: .ref dst :: .int sp :: .ref src :: r)) := by
  obtain ⟨hd, rfl⟩ := hd
  obtain ⟨cs, A, hns, h31, H⟩ := A
  obtain ⟨cd, D, hnd, h31', H'⟩ := D
  refine Run.keepW C (F := fun h' => AR Z h' dst ty Nd (fun i => if idp ≤ i ∧ i < idp + inn then fs (isp + (i - idp)) else fd i)) (fun T locs X e1 hZ hown => ?_) ha hs k
  obtain ⟨ks, sc, k1, k2⟩ := arr_kind A
  obtain ⟨kd, dc, k3, k4⟩ := arr_kind D
  obtain ⟨ks', k1', ek1⟩ := hZ.alike.2.2 _ _ k1
  obtain ⟨kd', k3', ek3⟩ := hZ.alike.2.2 _ _ k3
  have hty : ((refKind ty != refKind ty) || (!refKind ty && ty != ty)) = false := by simp
  obtain ⟨vm1, hW1, X', st⟩ := X.arraycopyK C.1 hown (mvT hZ w1) (mvT hZ w2) (mvT hZ w3) (mvT hZ w4) (src := src) (dst := dst) (srcPos := sp) (destPos := dp) (n := nn) (cs := cs) (cd := cd) (by rw [e1]; exact A.1) (by rw [e1]; exact D.1) A.2.1.1 D.2.1.1 A.2.2 D.2.2 k1' k3' (by rw [ek1]; exact k2) (by rw [ek3]; exact k4) hty (nn_of q1) (nn_of q2) (nn_of q3) (by rw [q1, q3, hns]; omega) (by rw [q2, q3, hnd]; omega)
    (fun vm2 _ i hi => by
      rw [cl_of q3] at hi
      rw [cl_of q1]
      have z := H (isp + i) (by omega)
      rw [gd_of z.1]
      exact ⟨z.2, State.takes_of_prim _ _ hp z.2⟩) (g := fr m pc L (.int nn :: .int dp :: .ref dst :: .int sp :: .ref src :: r)) rfl (by rw [C.2.2.2.1]; exact hz) (rest := r) rfl (hb C.2.1 hd) rf (by show 2 * 0 + _ + (7 + 11) ≤ _; omega)
  have hfacts := Cell.storeRun_facts cd dp.toNatClampNeg (cs.stretch sp.toNatClampNeg nn.toNatClampNeg)
  have hlt : dst < h.size := D.lt
  have hnew : (h.setIfInBounds dst (copied cs cd sp dp nn))[dst]? = some (copied cs cd sp dp nn) := by simp [hlt]
  have hoth : ∀ x, x ≠ dst → (h.setIfInBounds dst (copied cs cd sp dp nn))[x]? = h[x]? := fun x hx => Array.getElem?_setIfInBounds_ne (Ne.symm hx)
  refine ⟨_, h.setIfInBounds dst (copied cs cd sp dp nn), _, X', ?_, ⟨by simp, fun x cl hx hn => ?_, fun x cl hx => ?_⟩, fun y hy => copyLocs_base hy, ⟨copied cs cd sp dp nn, ⟨hnew, ?_, ?_⟩, ?_, h31', fun i hi => ?_⟩, st⟩
  · rw [← e1]; rfl
  · rw [hoth x (fun z => hn (by rw [z]; exact List.mem_singleton.mpr rfl))]; exact hx
  · by_cases z : x = dst
    · subst z
      cases D.1.symm.trans hx
      exact ⟨_, hnew, hfacts.1, hfacts.2.1, hfacts.2.2.1⟩
    · exact ⟨cl, by rw [hoth x z]; exact hx, rfl, rfl, rfl⟩
  · obtain ⟨z1, kk, z2, z3⟩ := D.2.1
    exact ⟨by rw [hfacts.2.1]; exact z1, kk, by rw [hfacts.1]; exact z2, z3⟩
  · rw [hfacts.2.1]; exact D.2.2
  · rw [hfacts.2.2.1]; exact hnd
  · have z : (copied cs cd sp dp nn).slots[i]? = if idp ≤ i ∧ i < idp + inn then (cs.stretch isp inn)[i - idp]? else cd.slots[i]? := by
      show (cd.storeRun dp.toNatClampNeg (cs.stretch sp.toNatClampNeg nn.toNatClampNeg)).slots[i]? = _
      rw [cl_of q1, cl_of q2, cl_of q3, Cell.storeRun_get _ _ _ _ (by rw [Cell.stretch_length, hnd]; exact b2), Cell.stretch_length]
    rw [z]
    by_cases hc : idp ≤ i ∧ i < idp + inn
    · simp only [if_pos hc]
      have z2 := H (isp + (i - idp)) (by omega)
      refine ⟨?_, z2.2⟩
      have z3 : i - idp < inn := by omega
      simp only [Cell.stretch, List.getElem?_map, List.getElem?_range z3, Option.map_some]
      rw [gd_of z2.1]
    · simp only [if_neg hc]
      exact H' i hi
theorem R_checkcast_null (C : Cx p s m meth c Z a0 EL own B n nm ret) {idx : Nat} (hd : Dc B pc (.checkcast idx) 3 q)
    (k : Run p l e R s m args below meth c Z nw EL K vm h cells slots (fr m q L (.null :: r))) : Run p l e R s m args below meth c Z nw EL K vm h cells slots (fr m pc L (.null :: r)) := by
  obtain ⟨hd, rfl⟩ := hd
  exact Run.warm C (fun T locs X e1 hZ hown => ⟨T, X, e1, X.checkcastNull C.1 (g := fr m pc L (.null :: r)) rfl rfl (hb C.2.1 hd)⟩) k
theorem R_instanceof_null (C : Cx p s m meth c Z a0 EL own B n nm ret) {idx : Nat} (hd : Dc B pc (.instanceof idx) 3 q)
    (k : Run p l e R s m args below meth c Z nw EL K vm h cells slots (fr m q L (.int 0 :: r))) : Run p l e R s m args below meth c Z nw EL K vm h cells slots (fr m pc L (.null :: r)) := by
  obtain ⟨hd, rfl⟩ := hd
  exact Run.warm C (fun T locs X e1 hZ hown => ⟨T, X, e1, X.instanceofNull C.1 (g := fr m pc L (.null :: r)) rfl rfl (hb C.2.1 hd)⟩) k
/-- the clone of an array of the start -/
theorem R_clone (C : Cx p s m meth c Z a0 EL own B n nm ret) {idx : Nat} {ad : String} {cl : Cell} (hd : Dc B pc (.invokevirtual idx) 3 q)
    (w1 : (Cond.methodLink own idx ⟨ad, "clone", "()Ljava/lang/Object;"⟩).before a0 Z = true) (w2 : (Cond.sameMethod ad "java/lang/Object" "clone" "()Ljava/lang/Object;").before a0 Z = true) (w3 : (Cond.native ⟨"java/lang/Object", "clone", "()Ljava/lang/Object;"⟩).before a0 Z = true)
    (w4 : (Cond.instanceMethod ⟨"java/lang/Object", "clone", "()Ljava/lang/Object;"⟩).before a0 Z = true) (w5 : (Cond.selects ad ⟨ad, "clone", "()Ljava/lang/Object;"⟩ ⟨"java/lang/Object", "clone", "()Ljava/lang/Object;"⟩).before a0 Z = true) (w6 : (Cond.castable ad "java/lang/Cloneable").before a0 Z = true)
    (A : Arr Z h a cl ty) (hN : cl.slots.size = N) (h31 : N < 2 ^ 31) (hf : ∀ i, i < N → cl.slots[i]? = some (f i) ∧ fits ty (f i) = true) (E : Exa Z h a ad) (F : FitC Z cl) (hz : L.length = n) (rf : 1 ≤ R.frames) (rl : (r.map fun v => v.category).sum + 14 ≤ R.locals) (hc : cells + 1 ≤ R.cells) (hl : slots + N ≤ R.slots)
    (k : ∀ h', Ext h h' → AR Z h' h.size ty N f ∧ Exa Z h' h.size ad → (∀ x, Safe Z EL vm h x → Safe Z EL vm h' x) → Run p l e R s m args below meth c Z nw EL K vm h' (cells + 1) (slots + N) (fr m q L (.ref h.size :: r))) : Run p l e R s m args below meth c Z nw EL K vm h cells slots (fr m pc L (.ref a :: r)) := by
  obtain ⟨hd, rfl⟩ := hd
  refine Run.grow C (F := fun h' => AR Z h' h.size ty N f ∧ Exa Z h' h.size ad) (fun T locs X e1 hZ hown => ?_) (fun h' E F H Sf => k h' E F Sf)
  obtain ⟨T', h', X', e2, E2, A2, E3, st⟩ := cloneA X C.1 hZ hown w1 w2 w3 w4 w5 w6 e1 A E F (g := fr m pc L (.ref a :: r)) rfl (by rw [C.2.2.2.1]; exact hz) rfl (hb C.2.1 hd) rf (W := (r.map fun v => v.category).sum) (cap := N) (by show 2 * 0 + _ ≤ _; omega) rl (Nat.le_of_eq hN) hc hl
  exact ⟨T', h', X', e2, E2, ⟨⟨_, A2, hN, h31, hf⟩, E3⟩, st⟩
end Arrays
end Jvm.Own
namespace Jvm.Own
open Sem ClassFile Op Lib Bundle Jvm.Stand Jvm.Free Jvm.LawKit Jvm.RoadKit
section Cold
variable {p : Program} {l : Launch} {e : Env} {R : Room} {s : State} {m : MethodId} {args : Array Value} {below : List Frame} {meth : Method} {c : Code} {Z : State} {a0 : Array Value} {nw : Prop} {EL : List (String × Nat)} {K : State → Outcome → Prop} {vm : Vm} {h h' h0 : Heap} {cells slots : Nat} {own nm : String} {B : ByteArray} {n : Nat} {ret : Option FieldType} {pc q tq : Nat} {L : List Slot} {r : List Value} {a b : Addr} {ty : FieldType} {N sl : Nat} {f g : Nat → Value} {v : Value}
/-- ldc of a String constant that nobody reads -/
theorem R_ldcO (C : Cx p s m meth c Z a0 EL own B n nm ret) {idx : Nat} {text : String} (nn : Nat) (hd : Dc B pc (.ldc idx) 2 q) (hnw : ¬ nw) (w : (Cond.stringLink own idx text).before a0 Z = true) (wS : ∀ a ∈ Bundle.stringAtoms, a.before a0 Z = true)
    (hn : 4 * text.toList.length ≤ nn) (hbig : nn ≤ 536870912) (hc : cells + 2 ≤ R.cells) (hl : slots + (nn + 4) ≤ R.slots)
    (k : ∀ a vm' h', Ext h h' → (∀ x, x < h.size → Safe Z EL vm h x → Safe Z EL vm' h' x) → Run p l e R s m args below meth c Z nw EL K vm' h' (cells + 2) (slots + (nn + 4)) (fr m q L (.ref a :: r))) : Run p l e R s m args below meth c Z nw EL K vm h cells slots (fr m pc L r) := by
  obtain ⟨hd, rfl⟩ := hd
  intro T P
  obtain ⟨kk, locs, X, e1, e2, e3, e4, e5, e6, e7, e8⟩ := P
  obtain ⟨a, T', h', k1, X', e1', E, hS', hk', hZ', hf', hC, hL, st⟩ := ldcOH X C.1 e6 ((e4.1.alike.findClass _ _).trans C.2.2.1) w wS e1 e4 e5 C.2.2.2.2.2.2.2 e7.1.1 (g := fr m pc L r) rfl (hb C.2.1 hd) hn hbig hc hl
  exact Ends.go st (k a T'.vm h' E (fun x hx S => CHr.safe hC hx S) T' ⟨k1, locs, X', e1', e2, Ext.tr e3 E, hS', hk', hZ', e7.trans (CHs.cold hC hnw), fun z => absurd z hnw⟩)
/-- ldc of a String constant whose text is read -/
theorem R_ldcK (C : Cx p s m meth c Z a0 EL own B n nm ret) {idx : Nat} {text : String} {vs : List Value} {z : Int32} (nn : Nat) (hd : Dc B pc (.ldc idx) 2 q) (hnw : ¬ nw) (w : (Cond.stringLink own idx text).before a0 Z = true) (wS : ∀ a ∈ Bundle.stringAtoms, a.before a0 Z = true) (hmem : (own, idx) ∈ EL)
    (ht : (∀ c ∈ text.toList, c.toNat < 256) ∧ text.toList.map (fun c => Value.int (Jvm.Lit.byteI c.toNat.toUInt16)) = vs) (hz : z.toInt = vs.length)
    (hn : 4 * text.toList.length ≤ nn) (hbig : nn ≤ 536870912) (hc : cells + 2 ≤ R.cells) (hl : slots + (nn + 4) ≤ R.slots)
    (k : ∀ a b vm' h', Ext h h' → Exa Z h' a "java/lang/String" → Fld Z h' a "java/lang/String" "coder" "B" (.int 0) → Fld Z h' a "java/lang/String" "value" "[B" (.ref b) → AR Z h' b .byte vs.length (fun i => vs.getD i (.int 0)) → (∀ x, x < h.size → Safe Z EL vm h x → Safe Z EL vm' h' x) → (∀ x, Safe Z EL vm' h' x → x ≠ a ∧ x ≠ b) → Run p l e R s m args below meth c Z nw EL K vm' h' (cells + 2) (slots + (nn + 4)) (fr m q L (.ref a :: r))) : Run p l e R s m args below meth c Z nw EL K vm h cells slots (fr m pc L r) := by
  obtain ⟨hd, rfl⟩ := hd
  have hz0 : ¬ z < 0 := nn_of hz
  have hzc : z.toNatClampNeg = vs.length := cl_of hz
  intro T P
  obtain ⟨kk, locs, X, e1, e2, e3, e4, e5, e6, e7, e8⟩ := P
  obtain ⟨a, T', h', k1, b, kb, X', e1', E, hS', hk', hZ', hf', hE, hF1, hF2, hA, -, -, hC, hL, hne, st⟩ := ldcCH X C.1 e6 ((e4.1.alike.findClass _ _).trans C.2.2.1) w wS e1 e4 e5 C.2.2.2.2.2.2.2 hmem e7.1.1 ht hz0 hzc (g := fr m pc L r) rfl (hb C.2.1 hd) hn hbig hc hl
  have A : AR Z h' b .byte vs.length (fun i => vs.getD i (.int 0)) := by
    obtain ⟨cl, A1, -, A3, -, A5, A6⟩ := hA
    have hsz : cl.slots.size = vs.length := by rw [A3, hzc]
    refine ⟨cl, A1, hsz, nsz hz, fun i hi => ⟨A5 i (by omega), A6 i (by omega)⟩⟩
  exact Ends.go st (k a b T'.vm h' E hE hF1 hF2 A (fun x hx S => CHr.safe hC hx S) hne T' ⟨k1, locs, X', e1', e2, Ext.tr e3 E, hS', hk', hZ', e7.trans (CHs.cold hC hnw), fun z => absurd z hnw⟩)
end Cold
end Jvm.Own
namespace Jvm.Pilot.@@N@@
open Jvm Jvm.ClassFile Sem Op Lib Jvm.Free Jvm.Stand Jvm.LawKit Jvm.RoadKit Bundle Jvm.Own Jvm.Kit Jvm.Pilot.@@N@@.Jvm.D
theorem pd_0 : parseMethodDescriptor "()B" = some ⟨[], (some .byte)⟩ := by decide +kernel
theorem pd_1 : parseMethodDescriptor "([CI[BII)I" = some ⟨[(.array .char), .int, (.array .byte), .int, .int], (some .int)⟩ := by decide +kernel
theorem pd_2 : parseMethodDescriptor "([CII)[B" = some ⟨[(.array .char), .int, .int], (some (.array .byte))⟩ := by decide +kernel
theorem pd_3 : parseMethodDescriptor "([BI)B" = some ⟨[(.array .byte), .int], (some .byte)⟩ := by decide +kernel
theorem pd_4 : parseMethodDescriptor "([CIILjava/lang/Void;)V" = some ⟨[(.array .char), .int, .int, (.object "java/lang/Void")], none⟩ := by decide +kernel
theorem pd_5 : parseMethodDescriptor "(IILjava/util/function/BiFunction;)I" = some ⟨[.int, .int, (.object "java/util/function/BiFunction")], (some .int)⟩ := by decide +kernel
theorem pd_6 : parseMethodDescriptor "(II)V" = some ⟨[.int, .int], none⟩ := by decide +kernel
theorem pd_7 : parseMethodDescriptor "()Z" = some ⟨[], (some .boolean)⟩ := by decide +kernel
theorem pd_8 : parseMethodDescriptor "([BI)C" = some ⟨[(.array .byte), .int], (some .char)⟩ := by decide +kernel
theorem pd_9 : parseMethodDescriptor "(I)I" = some ⟨[.int], (some .int)⟩ := by decide +kernel
theorem pd_10 : parseMethodDescriptor "([BII)V" = some ⟨[(.array .byte), .int, .int], none⟩ := by decide +kernel
theorem pd_11 : parseMethodDescriptor "(I)[B" = some ⟨[.int], (some (.array .byte))⟩ := by decide +kernel
theorem pd_12 : parseMethodDescriptor "([B)I" = some ⟨[(.array .byte)], (some .int)⟩ := by decide +kernel
theorem pd_13 : parseMethodDescriptor "(I[B)V" = some ⟨[.int, (.array .byte)], none⟩ := by decide +kernel
theorem pd_14 : parseMethodDescriptor "(I)Z" = some ⟨[.int], (some .boolean)⟩ := by decide +kernel
theorem pd_15 : parseMethodDescriptor "()I" = some ⟨[], (some .int)⟩ := by decide +kernel
theorem pd_16 : parseMethodDescriptor "(I)C" = some ⟨[.int], (some .char)⟩ := by decide +kernel
theorem pd_17 : parseMethodDescriptor "(C)Z" = some ⟨[.char], (some .boolean)⟩ := by decide +kernel
theorem pd_18 : parseMethodDescriptor "(II)I" = some ⟨[.int, .int], (some .int)⟩ := by decide +kernel
theorem pd_19 : parseMethodDescriptor "(IC)V" = some ⟨[.int, .char], none⟩ := by decide +kernel
theorem pd_20 : parseMethodDescriptor "(Ljava/lang/String;)V" = some ⟨[(.object "java/lang/String")], none⟩ := by decide +kernel
theorem pd_21 : parseMethodDescriptor "([BIB)V" = some ⟨[(.array .byte), .int, .byte], none⟩ := by decide +kernel
theorem pd_22 : parseMethodDescriptor "(I)V" = some ⟨[.int], none⟩ := by decide +kernel
theorem pd_23 : parseMethodDescriptor "(ILjava/lang/String;)V" = some ⟨[.int, (.object "java/lang/String")], none⟩ := by decide +kernel
theorem pd_24 : parseMethodDescriptor "(Ljava/lang/String;)Ljava/lang/AbstractStringBuilder;" = some ⟨[(.object "java/lang/String")], (some (.object "java/lang/AbstractStringBuilder"))⟩ := by decide +kernel
theorem pd_25 : parseMethodDescriptor "(Ljava/lang/String;)Ljava/lang/StringBuilder;" = some ⟨[(.object "java/lang/String")], (some (.object "java/lang/StringBuilder"))⟩ := by decide +kernel
theorem pd_26 : parseMethodDescriptor "([BII)[B" = some ⟨[(.array .byte), .int, .int], (some (.array .byte))⟩ := by decide +kernel
theorem pd_27 : parseMethodDescriptor "(IIILjava/util/function/BiFunction;)I" = some ⟨[.int, .int, .int, (.object "java/util/function/BiFunction")], (some .int)⟩ := by decide +kernel
theorem pd_28 : parseMethodDescriptor "(III)I" = some ⟨[.int, .int, .int], (some .int)⟩ := by decide +kernel
theorem pd_29 : parseMethodDescriptor "(II[B)V" = some ⟨[.int, .int, (.array .byte)], none⟩ := by decide +kernel
theorem pd_30 : parseMethodDescriptor "([BI[BII)I" = some ⟨[(.array .byte), .int, (.array .byte), .int, .int], (some .int)⟩ := by decide +kernel
theorem pd_31 : parseMethodDescriptor "()[B" = some ⟨[], (some (.array .byte))⟩ := by decide +kernel
theorem pd_32 : parseMethodDescriptor "(Ljava/lang/AbstractStringBuilder;Ljava/lang/Void;)V" = some ⟨[(.object "java/lang/AbstractStringBuilder"), (.object "java/lang/Void")], none⟩ := by decide +kernel
theorem pd_33 : parseMethodDescriptor "(Ljava/lang/StringBuilder;)V" = some ⟨[(.object "java/lang/StringBuilder")], none⟩ := by decide +kernel
theorem pd_34 : parseMethodDescriptor "(Ljava/lang/String;)Z" = some ⟨[(.object "java/lang/String")], (some .boolean)⟩ := by decide +kernel
theorem pd_35 : parseMethodDescriptor "()Ljava/lang/String;" = some ⟨[], (some (.object "java/lang/String"))⟩ := by decide +kernel
theorem pd_36 : parseMethodDescriptor "(C)C" = some ⟨[.char], (some .char)⟩ := by decide +kernel
theorem pd_37 : parseMethodDescriptor "(ICCC)[C" = some ⟨[.int, .char, .char, .char], (some (.array .char))⟩ := by decide +kernel
theorem pd_38 : parseMethodDescriptor "([C)V" = some ⟨[(.array .char)], none⟩ := by decide +kernel
theorem pd_39 : parseMethodDescriptor "(Ljava/lang/String;)Ljava/lang/String;" = some ⟨[(.object "java/lang/String")], (some (.object "java/lang/String"))⟩ := by decide +kernel
theorem cat_ref {v : Value} (h : v.isRef = true) : v.category = 1 := by cases v <;> first | rfl | cases h
theorem ofNat_toInt {x : Int32} (h : 0 ≤ x.toInt) : x = Int32.ofNat x.toInt.toNat := by
  apply Int32.toInt_inj.mp
  have := Int32.toInt_lt x
  rw [Int32.toInt_ofNat_small (by omega)]
  omega
theorem byte_back {x : Int32} (h0 : 0 ≤ x.toInt) (h1 : x.toInt ≤ 255) : nar .char (x.toInt8.toInt32 &&& 255) = x := by
  have z : ∀ k : Fin 256, nar .char ((Int32.ofNat k.val).toInt8.toInt32 &&& 255) = Int32.ofNat k.val := by decide +kernel
  have z1 := z ⟨x.toInt.toNat, by omega⟩
  rw [ofNat_toInt h0]
  exact z1
theorem nar_c (x : Int32) : nar .char x = x.toUInt32.toUInt16.toUInt32.toInt32 := rfl
theorem u16_toInt (u : UInt16) : u.toUInt32.toInt32.toInt = (u.toNat : Int) := by
  have h := u.toNat_lt
  show (u.toUInt32.toBitVec).toInt = _
  rw [BitVec.toInt_eq_toNat_of_lt]
  · rfl
  · show 2 * u.toUInt32.toNat < 2 ^ 32
    rw [UInt16.toNat_toUInt32]; omega
theorem char_bound (x : Int32) : 0 ≤ (nar .char x).toInt ∧ (nar .char x).toInt ≤ 65535 := by
  rw [nar_c, u16_toInt]
  have h1 := x.toUInt32.toUInt16.toNat_lt
  omega
theorem i32_nn_u (x : Int32) (h : 0 ≤ x.toInt) : (x.toUInt32.toNat : Int) = x.toInt := by
  show (x.toBitVec.toNat : Int) = x.toBitVec.toInt
  have : 0 ≤ x.toBitVec.toInt := h
  rw [BitVec.toInt_eq_toNat_cond] at *
  split at this
  · rw [if_pos ‹_›]
  · have := x.toBitVec.isLt
    omega
theorem nar_char_id {x : Int32} (h0 : 0 ≤ x.toInt) (h1 : x.toInt ≤ 65535) : nar .char x = x := by
  apply Int32.toInt_inj.mp
  rw [nar_c, u16_toInt]
  have q := i32_nn_u x h0
  rw [UInt32.toNat_toUInt16]
  omega
theorem nar_nar_char (x : Int32) : nar .char (nar .char x) = nar .char x := nar_char_id (char_bound x).1 (char_bound x).2
theorem lo_byte (x : Int32) : (x.toInt8.toInt32 &&& 255).toInt = x.toInt % 256 := by
  have q : (x.toInt8.toInt32 &&& 255).toInt = _ := i32_mask x.toInt8.toInt32 255 (k := 8) (by decide) (by decide)
  rw [q, Int8.toInt_toInt32, Int32.toInt_toInt8, Int.bmod_def]
  omega
theorem or_parts (x y : Int32) (h0 : 0 ≤ x.toInt) (h1 : x.toInt < 256) (h2 : 0 ≤ y.toInt) (h3 : y.toInt < 256) : (x <<< ((0 : Int32) &&& 31) ||| y <<< ((8 : Int32) &&& 31)).toInt = x.toInt + 256 * y.toInt := by
  have a1 : x <<< ((0 : Int32) &&& 31) = x := by rw [show ((0 : Int32) &&& 31) = 0 from rfl]; simp
  have a2 : (y <<< ((8 : Int32) &&& 31)).toInt = y.toInt * 256 := by
    have q := i32_shl y ((8 : Int32) &&& 31) (k := 8) (by decide) (by omega) (by omega)
    exact q
  rw [a1]
  generalize hz : y <<< ((8 : Int32) &&& 31) = z at a2 ⊢
  have b1 := i32_nn_u x h0
  have b2 := i32_nn_u z (by omega)
  have b3 : (x ||| z).toUInt32.toNat = x.toUInt32.toNat ||| z.toUInt32.toNat := rfl
  have b4 : z.toUInt32.toNat = 2 ^ 8 * y.toInt.toNat := by omega
  have b5 : x.toUInt32.toNat < 2 ^ 8 := by omega
  have b6 : (x ||| z).toUInt32.toNat = 2 ^ 8 * y.toInt.toNat + x.toUInt32.toNat := by
    rw [b3, b4, Nat.or_comm, ← Nat.two_pow_add_eq_or_of_lt b5]
  have b7 : (x ||| z).toInt = ((x ||| z).toUInt32.toNat : Int) := by
    show (x ||| z).toBitVec.toInt = _
    rw [BitVec.toInt_eq_toNat_of_lt]
    · rfl
    · show 2 * (x ||| z).toUInt32.toNat < 2 ^ 32
      omega
  rw [b7, b6]
  omega
theorem chr_back {c : Int32} (h0 : 0 ≤ c.toInt) (h1 : c.toInt ≤ 65535) : nar .char ((c.toInt8.toInt32 &&& 255) <<< ((0 : Int32) &&& 31) ||| ((c >>> ((8 : Int32) &&& 31)).toInt8.toInt32 &&& 255) <<< ((8 : Int32) &&& 31)) = c := by
  have e1 := lo_byte c
  have e2 := lo_byte (c >>> ((8 : Int32) &&& 31))
  have e3 : (c >>> ((8 : Int32) &&& 31)).toInt = c.toInt / 256 := i32_shr c ((8 : Int32) &&& 31) (k := 8) (by decide)
  have e4 := or_parts (c.toInt8.toInt32 &&& 255) ((c >>> ((8 : Int32) &&& 31)).toInt8.toInt32 &&& 255) (by omega) (by omega) (by omega) (by omega)
  have e5 : ((c.toInt8.toInt32 &&& 255) <<< ((0 : Int32) &&& 31) ||| ((c >>> ((8 : Int32) &&& 31)).toInt8.toInt32 &&& 255) <<< ((8 : Int32) &&& 31)) = c := Int32.toInt_inj.mp (by omega)
  rw [e5, nar_char_id h0 h1]
theorem nar_byte_byte (x : Int32) : nar .byte x.toInt8.toInt32 = x.toInt8.toInt32 := by simp [nar]
theorem tw2 (a b : Int32) : ∀ i, i < 2 → upd (upd (fun _ => defaultValue (newarray.typeOf .char)) 0 (.int a)) 1 (.int b) i = .int (if i = 0 then a else b) := by
  intro i hi
  match i, hi with
  | 0, _ => rfl
  | 1, _ => rfl
theorem tw1 (a : Int32) : ∀ i, i < 1 → upd (fun _ => defaultValue (newarray.typeOf .char)) 0 (.int a) i = .int a := by
  intro i hi
  match i, hi with
  | 0, _ => rfl
abbrev by8 (x : Int32) : Value := .int x.toInt8.toInt32
abbrev STR : String := "java/lang/String"
abbrev UTF : String := "java/lang/StringUTF16"
abbrev LAT : String := "java/lang/StringLatin1"
abbrev PRE : String := "jdk/internal/util/Preconditions"
abbrev BIF : String := "Ljava/util/function/BiFunction;"
theorem pn_str : plainName STR = true := by first | (simp [plainName, overriddenIn]; done) | decide +kernel
theorem pn_utf : plainName UTF = true := by first | (simp [plainName, overriddenIn]; done) | decide +kernel
theorem pn_lat : plainName LAT = true := by first | (simp [plainName, overriddenIn]; done) | decide +kernel
theorem pn_pre : plainName PRE = true := by first | (simp [plainName, overriddenIn]; done) | decide +kernel
theorem efs1 (m : MethodId) (x0 : Addr) : entryFrame m #[(.ref x0)] 1 = fr m 0 [.val (.ref x0)] [] := by first | (simp [entryFrame, mkF, argsToLocals, Value.category]; done) | rfl
theorem efRI2 (m : MethodId) (x0 : Addr) (x1 : Int32) : entryFrame m #[(.ref x0), (.int x1)] 2 = fr m 0 [.val (.ref x0), .val (.int x1)] [] := by first | (simp [entryFrame, mkF, argsToLocals, Value.category]; done) | rfl
theorem efII2 (m : MethodId) (x0 : Int32) (x1 : Int32) : entryFrame m #[(.int x0), (.int x1)] 2 = fr m 0 [.val (.int x0), .val (.int x1)] [] := by first | (simp [entryFrame, mkF, argsToLocals, Value.category]; done) | rfl
theorem efck (m : MethodId) (x0 : Int32) (x1 : Int32) (x2 : Value) (q2 : x2.category = 1) : entryFrame m #[(.int x0), (.int x1), (x2)] 3 = fr m 0 [.val (.int x0), .val (.int x1), .val (x2)] [] := by simp [entryFrame, mkF, argsToLocals, cat_int, cat_rf, cat_lng, q2]
theorem efi2 (m : MethodId) (x0 : Addr) (x1 : Addr) : entryFrame m #[(.ref x0), (.ref x1)] 2 = fr m 0 [.val (.ref x0), .val (.ref x1)] [] := by first | (simp [entryFrame, mkF, argsToLocals, Value.category]; done) | rfl
theorem efi6 (m : MethodId) (x0 : Addr) (x1 : Addr) (x2 : Int32) (x3 : Int32) (x4 : Value) (q4 : x4.category = 1) : entryFrame m #[(.ref x0), (.ref x1), (.int x2), (.int x3), (x4)] 6 = fr m 0 [.val (.ref x0), .val (.ref x1), .val (.int x2), .val (.int x3), .val (x4), .unset] [] := by simp [entryFrame, mkF, argsToLocals, cat_int, cat_rf, cat_lng, q4]
theorem efc6 (m : MethodId) (x0 : Addr) (x1 : Int32) (x2 : Int32) : entryFrame m #[(.ref x0), (.int x1), (.int x2)] 6 = fr m 0 [.val (.ref x0), .val (.int x1), .val (.int x2), .unset, .unset, .unset] [] := by first | (simp [entryFrame, mkF, argsToLocals, Value.category]; done) | rfl
theorem efl7 (m : MethodId) (x0 : Addr) (x1 : Int32) (x2 : Addr) (x3 : Int32) (x4 : Int32) : entryFrame m #[(.ref x0), (.int x1), (.ref x2), (.int x3), (.int x4)] 7 = fr m 0 [.val (.ref x0), .val (.int x1), .val (.ref x2), .val (.int x3), .val (.int x4), .unset, .unset] [] := by first | (simp [entryFrame, mkF, argsToLocals, Value.category]; done) | rfl
/-- the statics that the Strings' methods read -/
def SS (Z : State) (cs : Int32) (fm : Value) : Prop := (¬ cs = 0) ∧ Sta Z Z.heap STR "COMPACT_STRINGS" "Z" (.int cs) ∧ fm.isRef = true ∧ Sta Z Z.heap PRE "SIOOBE_FORMATTER" BIF fm
/-- the String at a is Latin-1, its bytes at b: n chars, the i-th g i -/
def StrL (Z : State) (h : Heap) (a b : Addr) (n : Nat) (g : Nat → Int32) : Prop := Exa Z h a STR ∧ Fld Z h a STR "value" "[B" (.ref b) ∧ Fld Z h a STR "coder" "B" (.int 0) ∧ AR Z h b .byte n (fun i => by8 (g i)) ∧ ∀ i, i < n → 0 ≤ (g i).toInt ∧ (g i).toInt ≤ 255
theorem cd_0 : Dc jdk_42_method_152_code 0 (.getstatic 38) 3 3 := ⟨by decide +kernel, rfl⟩
theorem cd_3 : Jp jdk_42_method_152_code 3 (.ifCond .eq 10) (10) 6 13 := ⟨by decide +kernel, rfl, by decide, by decide⟩
theorem cd_6 : Dc jdk_42_method_152_code 6 (.aload_n 0) 1 7 := ⟨by decide +kernel, rfl⟩
theorem cd_7 : Dc jdk_42_method_152_code 7 (.getfield 15) 3 10 := ⟨by decide +kernel, rfl⟩
theorem cd_10 : Jp jdk_42_method_152_code 10 (.goto 4) (4) 13 14 := ⟨by decide +kernel, rfl, by decide, by decide⟩
theorem cd_13 : Dc jdk_42_method_152_code 13 (.iconst 1) 1 14 := ⟨by decide +kernel, rfl⟩
theorem cd_14 : Dc jdk_42_method_152_code 14 (.ireturn) 1 15 := ⟨by decide +kernel, rfl⟩
theorem le_0 : Dc jdk_42_method_54_code 0 (.aload_n 0) 1 1 := ⟨by decide +kernel, rfl⟩
theorem le_1 : Dc jdk_42_method_54_code 1 (.getfield 9) 3 4 := ⟨by decide +kernel, rfl⟩
theorem le_4 : Dc jdk_42_method_54_code 4 (.arraylength) 1 5 := ⟨by decide +kernel, rfl⟩
theorem le_5 : Dc jdk_42_method_54_code 5 (.aload_n 0) 1 6 := ⟨by decide +kernel, rfl⟩
theorem le_6 : Dc jdk_42_method_54_code 6 (.invokevirtual 335) 3 9 := ⟨by decide +kernel, rfl⟩
theorem le_9 : Dc jdk_42_method_54_code 9 (.ishr) 1 10 := ⟨by decide +kernel, rfl⟩
theorem le_10 : Dc jdk_42_method_54_code 10 (.ireturn) 1 11 := ⟨by decide +kernel, rfl⟩
theorem met_coder (l : Launch) (Z : State) (a0 : Array Value) (hw : ∀ d ∈ tables_1, d.before a0 Z = true) (nw : Prop) (EL : List (String × Nat)) (hEL : EW Z a0 EL) (cs : Int32) (fm : Value) (S : SS Z cs fm) (h : Heap) (a : Addr) (k : Int32) (hk : nar .byte k = k) (F : Fld Z h a STR "coder" "B" (.int k)) :
    Met l Z nw EL ⟨STR, "coder", "()B"⟩ jdk_42_method_152_code 1 (some .byte) ⟨0, 0, 0, 0⟩ #[.ref a] h [] (fun v h' => v = some (.int k) ∧ h' = h) := by
  refine Met.mk (a0 := a0) hEL pn_str ?_
  intro p e s m below meth c C hE hS
  rw [efs1]
  refine R_getstatic C cd_0 (hw _ (List.mem_of_getElem? (i := 19) rfl)) Via.refl (S.2.1.ext hE) ?_
  refine R_if C cd_3 (fun hc => absurd hc S.1) (fun _ => ?_)
  refine R_aload_n C cd_6 rfl rfl ?_
  refine R_getfield C cd_7 (hw _ (List.mem_of_getElem? (i := 31) rfl)) Via.refl (F) ?_
  refine R_goto C cd_10 ?_
  exact R_retN C cd_14 rfl (Or.inr (Or.inl rfl)) (Nat.le_refl _) (Nat.le_refl _) ⟨by rw [hk], rfl⟩
theorem met_length (l : Launch) (Z : State) (a0 : Array Value) (hw : ∀ d ∈ tables_1, d.before a0 Z = true) (nw : Prop) (EL : List (String × Nat)) (hEL : EW Z a0 EL) (cs : Int32) (fm : Value) (S : SS Z cs fm) (h : Heap) (a b : Addr) (N : Nat) (f : Nat → Value) (k : Int32) (hk : nar .byte k = k) (E : Exa Z h a STR) (F : Fld Z h a STR "coder" "B" (.int k)) (V : Fld Z h a STR "value" "[B" (.ref b)) (A : AR Z h b .byte N f) :
    Met l Z nw EL ⟨STR, "length", "()I"⟩ jdk_42_method_54_code 1 (some .int) ⟨1, 0, 0, 13⟩ #[.ref a] h [] (fun v h' => v = some (.int (N.toInt32 >>> (k &&& 31))) ∧ h' = h) := by
  refine Met.mk (a0 := a0) hEL pn_str ?_
  intro p e s m below meth c C hE hS
  rw [efs1]
  refine R_aload_n C le_0 rfl rfl ?_
  refine R_getfield C le_1 (hw _ (List.mem_of_getElem? (i := 33) rfl)) Via.refl (V) ?_
  refine R_arraylength C le_4 (A) rfl ?_
  refine R_aload_n C le_5 rfl rfl ?_
  refine R_virtual C [] le_6 (met_coder l Z a0 hw nw EL hEL cs fm S h a k hk F) (by first | exact fun z => z | exact fun _ => trivial) (E) (hw _ (List.mem_of_getElem? (i := 47) rfl)) (hw _ (List.mem_of_getElem? (i := 48) rfl)) (hw _ (List.mem_of_getElem? (i := 50) rfl)) (hw _ (List.mem_of_getElem? (i := 49) rfl)) (hw _ (List.mem_of_getElem? (i := 8) rfl)) (hw _ (List.mem_of_getElem? (i := 51) rfl)) (by decide) pd_0 rfl rfl rfl (Nat.le_of_ble_eq_true rfl) (Nat.le_of_ble_eq_true rfl) (Nat.le_of_ble_eq_true rfl) (Nat.le_of_ble_eq_true rfl) (fun _ q => nomatch q) ?_
  intro v vm' h' hQ hsz hSf hFr
  obtain ⟨rfl, rfl⟩ := hQ
  simp only [Option.toList_some, List.cons_append, List.nil_append]
  refine R_ishr C le_9 ?_
  exact R_retI C le_10 rfl (Nat.le_refl _) (Nat.le_refl _) ⟨rfl, rfl⟩
theorem shr0 (x : Int32) : x >>> ((0 : Int32) &&& 31) = x := by
  rw [show ((0 : Int32) &&& 31) = 0 from rfl]
  simp
theorem met_lengthL (l : Launch) (Z : State) (a0 : Array Value) (hw : ∀ d ∈ tables_1, d.before a0 Z = true) (nw : Prop) (EL : List (String × Nat)) (hEL : EW Z a0 EL) (cs : Int32) (fm : Value) (S : SS Z cs fm) (h : Heap) (a b : Addr) (n : Nat) (g : Nat → Int32) (X : StrL Z h a b n g) :
    Met l Z nw EL ⟨STR, "length", "()I"⟩ jdk_42_method_54_code 1 (some .int) ⟨1, 0, 0, 13⟩ #[.ref a] h [] (fun v h' => v = some (.int n.toInt32) ∧ h' = h) := by
  have q := met_length l Z a0 hw nw EL hEL cs fm S h a b n _ 0 rfl X.1 X.2.2.1 X.2.1 X.2.2.2.1
  rw [shr0] at q
  exact q
theorem cl_0 : Dc jdk_52_method_21_code 0 (.iconst 0) 1 1 := ⟨by decide +kernel, rfl⟩
theorem cl_1 : Dc jdk_52_method_21_code 1 (.istore 5) 2 3 := ⟨by decide +kernel, rfl⟩
theorem cl_3 : Dc jdk_52_method_21_code 3 (.iload 5) 2 5 := ⟨by decide +kernel, rfl⟩
theorem cl_5 : Dc jdk_52_method_21_code 5 (.iload 4) 2 7 := ⟨by decide +kernel, rfl⟩
theorem cl_7 : Jp jdk_52_method_21_code 7 (.if_icmp .ge 37) (37) 10 44 := ⟨by decide +kernel, rfl, by decide, by decide⟩
theorem cl_10 : Dc jdk_52_method_21_code 10 (.aload_n 0) 1 11 := ⟨by decide +kernel, rfl⟩
theorem cl_11 : Dc jdk_52_method_21_code 11 (.iload_n 1) 1 12 := ⟨by decide +kernel, rfl⟩
theorem cl_12 : Dc jdk_52_method_21_code 12 (.caload) 1 13 := ⟨by decide +kernel, rfl⟩
theorem cl_13 : Dc jdk_52_method_21_code 13 (.istore 6) 2 15 := ⟨by decide +kernel, rfl⟩
theorem cl_15 : Dc jdk_52_method_21_code 15 (.iload 6) 2 17 := ⟨by decide +kernel, rfl⟩
theorem cl_17 : Dc jdk_52_method_21_code 17 (.sipush 255) 3 20 := ⟨by decide +kernel, rfl⟩
theorem cl_20 : Jp jdk_52_method_21_code 20 (.if_icmp .le 6) (6) 23 26 := ⟨by decide +kernel, rfl, by decide, by decide⟩
theorem cl_23 : Dc jdk_52_method_21_code 23 (.iload 5) 2 25 := ⟨by decide +kernel, rfl⟩
theorem cl_25 : Dc jdk_52_method_21_code 25 (.ireturn) 1 26 := ⟨by decide +kernel, rfl⟩
theorem cl_26 : Dc jdk_52_method_21_code 26 (.aload_n 2) 1 27 := ⟨by decide +kernel, rfl⟩
theorem cl_27 : Dc jdk_52_method_21_code 27 (.iload_n 3) 1 28 := ⟨by decide +kernel, rfl⟩
theorem cl_28 : Dc jdk_52_method_21_code 28 (.iload 6) 2 30 := ⟨by decide +kernel, rfl⟩
theorem cl_30 : Dc jdk_52_method_21_code 30 (.i2b) 1 31 := ⟨by decide +kernel, rfl⟩
theorem cl_31 : Dc jdk_52_method_21_code 31 (.bastore) 1 32 := ⟨by decide +kernel, rfl⟩
theorem cl_32 : Dc jdk_52_method_21_code 32 (.iinc 1 1) 3 35 := ⟨by decide +kernel, rfl⟩
theorem cl_35 : Dc jdk_52_method_21_code 35 (.iinc 3 1) 3 38 := ⟨by decide +kernel, rfl⟩
theorem cl_38 : Dc jdk_52_method_21_code 38 (.iinc 5 1) 3 41 := ⟨by decide +kernel, rfl⟩
theorem cl_41 : Jp jdk_52_method_21_code 41 (.goto (-38)) (-38) 44 3 := ⟨by decide +kernel, rfl, by decide, by decide⟩
theorem cl_44 : Dc jdk_52_method_21_code 44 (.iload 4) 2 46 := ⟨by decide +kernel, rfl⟩
theorem cl_46 : Dc jdk_52_method_21_code 46 (.ireturn) 1 47 := ⟨by decide +kernel, rfl⟩
theorem cp_0 : Dc jdk_52_method_16_code 0 (.iload_n 2) 1 1 := ⟨by decide +kernel, rfl⟩
theorem cp_1 : Dc jdk_52_method_16_code 1 (.newarray .byte) 2 3 := ⟨by decide +kernel, rfl⟩
theorem cp_3 : Dc jdk_52_method_16_code 3 (.astore_n 3) 1 4 := ⟨by decide +kernel, rfl⟩
theorem cp_4 : Dc jdk_52_method_16_code 4 (.aload_n 0) 1 5 := ⟨by decide +kernel, rfl⟩
theorem cp_5 : Dc jdk_52_method_16_code 5 (.iload_n 1) 1 6 := ⟨by decide +kernel, rfl⟩
theorem cp_6 : Dc jdk_52_method_16_code 6 (.aload_n 3) 1 7 := ⟨by decide +kernel, rfl⟩
theorem cp_7 : Dc jdk_52_method_16_code 7 (.iconst 0) 1 8 := ⟨by decide +kernel, rfl⟩
theorem cp_8 : Dc jdk_52_method_16_code 8 (.iload_n 2) 1 9 := ⟨by decide +kernel, rfl⟩
theorem cp_9 : Dc jdk_52_method_16_code 9 (.invokestatic 115) 3 12 := ⟨by decide +kernel, rfl⟩
theorem cp_12 : Dc jdk_52_method_16_code 12 (.istore 4) 2 14 := ⟨by decide +kernel, rfl⟩
theorem cp_14 : Dc jdk_52_method_16_code 14 (.iload 4) 2 16 := ⟨by decide +kernel, rfl⟩
theorem cp_16 : Dc jdk_52_method_16_code 16 (.iload_n 2) 1 17 := ⟨by decide +kernel, rfl⟩
theorem cp_17 : Jp jdk_52_method_16_code 17 (.if_icmp .eq 40) (40) 20 57 := ⟨by decide +kernel, rfl, by decide, by decide⟩
theorem cp_20 : Dc jdk_52_method_16_code 20 (.aload_n 0) 1 21 := ⟨by decide +kernel, rfl⟩
theorem cp_21 : Dc jdk_52_method_16_code 21 (.iload_n 1) 1 22 := ⟨by decide +kernel, rfl⟩
theorem cp_22 : Dc jdk_52_method_16_code 22 (.iload_n 2) 1 23 := ⟨by decide +kernel, rfl⟩
theorem cp_23 : Dc jdk_52_method_16_code 23 (.invokestatic 119) 3 26 := ⟨by decide +kernel, rfl⟩
theorem cp_26 : Dc jdk_52_method_16_code 26 (.astore 5) 2 28 := ⟨by decide +kernel, rfl⟩
theorem cp_28 : Dc jdk_52_method_16_code 28 (.aload 5) 2 30 := ⟨by decide +kernel, rfl⟩
theorem cp_30 : Dc jdk_52_method_16_code 30 (.iload 4) 2 32 := ⟨by decide +kernel, rfl⟩
theorem cp_32 : Dc jdk_52_method_16_code 32 (.invokestatic 71) 3 35 := ⟨by decide +kernel, rfl⟩
theorem cp_35 : Dc jdk_52_method_16_code 35 (.sipush 255) 3 38 := ⟨by decide +kernel, rfl⟩
theorem cp_38 : Jp jdk_52_method_16_code 38 (.if_icmp .gt 16) (16) 41 54 := ⟨by decide +kernel, rfl, by decide, by decide⟩
theorem cp_41 : Dc jdk_52_method_16_code 41 (.aload 5) 2 43 := ⟨by decide +kernel, rfl⟩
theorem cp_43 : Dc jdk_52_method_16_code 43 (.iconst 0) 1 44 := ⟨by decide +kernel, rfl⟩
theorem cp_44 : Dc jdk_52_method_16_code 44 (.aload_n 3) 1 45 := ⟨by decide +kernel, rfl⟩
theorem cp_45 : Dc jdk_52_method_16_code 45 (.iconst 0) 1 46 := ⟨by decide +kernel, rfl⟩
theorem cp_46 : Dc jdk_52_method_16_code 46 (.iload_n 2) 1 47 := ⟨by decide +kernel, rfl⟩
theorem cp_47 : Dc jdk_52_method_16_code 47 (.invokestatic 123) 3 50 := ⟨by decide +kernel, rfl⟩
theorem cp_50 : Dc jdk_52_method_16_code 50 (.iload_n 2) 1 51 := ⟨by decide +kernel, rfl⟩
theorem cp_51 : Jp jdk_52_method_16_code 51 (.if_icmp .eq 6) (6) 54 57 := ⟨by decide +kernel, rfl, by decide, by decide⟩
theorem cp_54 : Dc jdk_52_method_16_code 54 (.aload 5) 2 56 := ⟨by decide +kernel, rfl⟩
theorem cp_56 : Dc jdk_52_method_16_code 56 (.areturn) 1 57 := ⟨by decide +kernel, rfl⟩
theorem cp_57 : Dc jdk_52_method_16_code 57 (.aload_n 3) 1 58 := ⟨by decide +kernel, rfl⟩
theorem cp_58 : Dc jdk_52_method_16_code 58 (.areturn) 1 59 := ⟨by decide +kernel, rfl⟩
theorem cf_0 : Dc jdk_52_method_15_code 0 (.iload_n 1) 1 1 := ⟨by decide +kernel, rfl⟩
theorem cf_1 : Dc jdk_52_method_15_code 1 (.aload_n 0) 1 2 := ⟨by decide +kernel, rfl⟩
theorem cf_2 : Dc jdk_52_method_15_code 2 (.arraylength) 1 3 := ⟨by decide +kernel, rfl⟩
theorem cf_3 : Dc jdk_52_method_15_code 3 (.isub) 1 4 := ⟨by decide +kernel, rfl⟩
theorem cf_4 : Dc jdk_52_method_15_code 4 (.bipush 31) 2 6 := ⟨by decide +kernel, rfl⟩
theorem cf_6 : Dc jdk_52_method_15_code 6 (.iushr) 1 7 := ⟨by decide +kernel, rfl⟩
theorem cf_7 : Dc jdk_52_method_15_code 7 (.i2b) 1 8 := ⟨by decide +kernel, rfl⟩
theorem cf_8 : Dc jdk_52_method_15_code 8 (.ireturn) 1 9 := ⟨by decide +kernel, rfl⟩
theorem i6_0 : Dc jdk_42_method_149_code 0 (.aload_n 0) 1 1 := ⟨by decide +kernel, rfl⟩
theorem i6_1 : Dc jdk_42_method_149_code 1 (.invokespecial 1) 3 4 := ⟨by decide +kernel, rfl⟩
theorem i6_4 : Dc jdk_42_method_149_code 4 (.iload_n 3) 1 5 := ⟨by decide +kernel, rfl⟩
theorem i6_5 : Jp jdk_42_method_149_code 5 (.ifCond .ne 22) (22) 8 27 := ⟨by decide +kernel, rfl, by decide, by decide⟩
theorem i6_8 : Dc jdk_42_method_149_code 8 (.aload_n 0) 1 9 := ⟨by decide +kernel, rfl⟩
theorem i6_9 : Dc jdk_42_method_149_code 9 (.ldc 7) 2 11 := ⟨by decide +kernel, rfl⟩
theorem i6_11 : Dc jdk_42_method_149_code 11 (.getfield 9) 3 14 := ⟨by decide +kernel, rfl⟩
theorem i6_14 : Dc jdk_42_method_149_code 14 (.putfield 9) 3 17 := ⟨by decide +kernel, rfl⟩
theorem i6_17 : Dc jdk_42_method_149_code 17 (.aload_n 0) 1 18 := ⟨by decide +kernel, rfl⟩
theorem i6_18 : Dc jdk_42_method_149_code 18 (.ldc 7) 2 20 := ⟨by decide +kernel, rfl⟩
theorem i6_20 : Dc jdk_42_method_149_code 20 (.getfield 15) 3 23 := ⟨by decide +kernel, rfl⟩
theorem i6_23 : Dc jdk_42_method_149_code 23 (.putfield 15) 3 26 := ⟨by decide +kernel, rfl⟩
theorem i6_26 : Dc jdk_42_method_149_code 26 (.return_) 1 27 := ⟨by decide +kernel, rfl⟩
theorem i6_27 : Dc jdk_42_method_149_code 27 (.getstatic 38) 3 30 := ⟨by decide +kernel, rfl⟩
theorem i6_30 : Jp jdk_42_method_149_code 30 (.ifCond .eq 28) (28) 33 58 := ⟨by decide +kernel, rfl, by decide, by decide⟩
theorem i6_33 : Dc jdk_42_method_149_code 33 (.aload_n 1) 1 34 := ⟨by decide +kernel, rfl⟩
theorem i6_34 : Dc jdk_42_method_149_code 34 (.iload_n 2) 1 35 := ⟨by decide +kernel, rfl⟩
theorem i6_35 : Dc jdk_42_method_149_code 35 (.iload_n 3) 1 36 := ⟨by decide +kernel, rfl⟩
theorem i6_36 : Dc jdk_42_method_149_code 36 (.invokestatic 177) 3 39 := ⟨by decide +kernel, rfl⟩
theorem i6_39 : Dc jdk_42_method_149_code 39 (.astore 5) 2 41 := ⟨by decide +kernel, rfl⟩
theorem i6_41 : Dc jdk_42_method_149_code 41 (.aload_n 0) 1 42 := ⟨by decide +kernel, rfl⟩
theorem i6_42 : Dc jdk_42_method_149_code 42 (.aload 5) 2 44 := ⟨by decide +kernel, rfl⟩
theorem i6_44 : Dc jdk_42_method_149_code 44 (.iload_n 3) 1 45 := ⟨by decide +kernel, rfl⟩
theorem i6_45 : Dc jdk_42_method_149_code 45 (.invokestatic 47) 3 48 := ⟨by decide +kernel, rfl⟩
theorem i6_48 : Dc jdk_42_method_149_code 48 (.putfield 15) 3 51 := ⟨by decide +kernel, rfl⟩
theorem i6_51 : Dc jdk_42_method_149_code 51 (.aload_n 0) 1 52 := ⟨by decide +kernel, rfl⟩
theorem i6_52 : Dc jdk_42_method_149_code 52 (.aload 5) 2 54 := ⟨by decide +kernel, rfl⟩
theorem i6_54 : Dc jdk_42_method_149_code 54 (.putfield 9) 3 57 := ⟨by decide +kernel, rfl⟩
theorem i6_57 : Dc jdk_42_method_149_code 57 (.return_) 1 58 := ⟨by decide +kernel, rfl⟩
theorem i6_58 : Dc jdk_42_method_149_code 58 (.aload_n 0) 1 59 := ⟨by decide +kernel, rfl⟩
theorem i6_59 : Dc jdk_42_method_149_code 59 (.iconst 1) 1 60 := ⟨by decide +kernel, rfl⟩
theorem i6_60 : Dc jdk_42_method_149_code 60 (.putfield 15) 3 63 := ⟨by decide +kernel, rfl⟩
theorem i6_63 : Dc jdk_42_method_149_code 63 (.aload_n 0) 1 64 := ⟨by decide +kernel, rfl⟩
theorem i6_64 : Dc jdk_42_method_149_code 64 (.aload_n 1) 1 65 := ⟨by decide +kernel, rfl⟩
theorem i6_65 : Dc jdk_42_method_149_code 65 (.iload_n 2) 1 66 := ⟨by decide +kernel, rfl⟩
theorem i6_66 : Dc jdk_42_method_149_code 66 (.iload_n 3) 1 67 := ⟨by decide +kernel, rfl⟩
theorem i6_67 : Dc jdk_42_method_149_code 67 (.invokestatic 180) 3 70 := ⟨by decide +kernel, rfl⟩
theorem i6_70 : Dc jdk_42_method_149_code 70 (.putfield 9) 3 73 := ⟨by decide +kernel, rfl⟩
theorem i6_73 : Dc jdk_42_method_149_code 73 (.return_) 1 74 := ⟨by decide +kernel, rfl⟩
theorem met_cl (l : Launch) (Z : State) (a0 : Array Value) (hw : ∀ d ∈ tables_1, d.before a0 Z = true) (nw : Prop) (EL : List (String × Nat)) (hEL : EW Z a0 EL) (h : Heap) (val dst : Addr) (Nc off len : Nat) (g : Nat → Int32) (fd : Nat → Value) (A : AR Z h val .char Nc (fun i => .int (g i))) (D : AR Z h dst .byte len fd) (hne : val ≠ dst) (hb : off + len ≤ Nc) (hdst : Z.heap.size ≤ dst) (offI lenI : Int32) (ho : offI.toInt = off) (hl : lenI.toInt = len) :
    Met l Z nw EL ⟨UTF, "compress", "([CI[BII)I"⟩ jdk_52_method_21_code 7 (some .int) ⟨0, 0, 0, 0⟩ #[.ref val, .int offI, .ref dst, .int 0, .int lenI] h [dst] (fun v h' => ∃ (r : Nat) (rI : Int32), v = some (.int rI) ∧ rI.toInt = r ∧ r ≤ len ∧ (∀ i, i < r → (g (off + i)).toInt ≤ 255) ∧ (r < len → 255 < (g (off + r)).toInt) ∧ Keep h h' [dst] ∧ AR Z h' dst .byte len (fun i => if i < r then by8 (g (off + i)) else fd i)) := by
  have h31 := A.small
  refine Met.mk (a0 := a0) hEL pn_utf ?_
  intro p e s m below meth c C hE hS
  rw [efl7]
  have hvd : val ∉ [dst] := fun z => hne (List.mem_singleton.mp z)
  have one : (1 : Int32).toInt = 1 := rfl
  have loop : ∀ (t i : Nat) (h1 : Heap) (oI dI iI : Int32) (s6 : Slot), i + t = len → okSlot s6 = true → oI.toInt = (off + i : Nat) → dI.toInt = i → iI.toInt = i → (∀ j, j < i → (g (off + j)).toInt ≤ 255) → Keep h h1 [dst] → AR Z h1 dst .byte len (fun j => if j < i then by8 (g (off + j)) else fd j) → Safe Z EL s.vm h1 dst →
      Run p l e ⟨0, 0, 0, 0⟩ s m #[.ref val, .int offI, .ref dst, .int 0, .int lenI] below meth c Z nw EL (Kf s Z nw EL ⟨0, 0, 0, 0⟩ (fun v h' => ∃ (r : Nat) (rI : Int32), v = some (.int rI) ∧ rI.toInt = r ∧ r ≤ len ∧ (∀ i, i < r → (g (off + i)).toInt ≤ 255) ∧ (r < len → 255 < (g (off + r)).toInt) ∧ Keep h h' [dst] ∧ AR Z h' dst .byte len (fun i => if i < r then by8 (g (off + i)) else fd i))) s.vm h1 0 0 (fr m 3 [.val (.ref val), .val (.int oI), .val (.ref dst), .val (.int dI), .val (.int lenI), .val (.int iI), s6] []) := by
    intro t
    induction t with
    | zero =>
      intro i h1 oI dI iI s6 hi o6 q1 q2 q3 q4 K1 D1 S1
      have hi' : i = len := by omega
      subst hi'
      refine R_iload C cl_3 rfl ?_
      refine R_iload C cl_5 rfl ?_
      refine R_icmp C cl_7 (fun _ => ?_) (fun (hc : ¬ ¬ iI < lenI) => absurd (show ¬ iI < lenI from ?_) hc)
      · refine R_iload C cl_44 rfl ?_
        exact R_retI C cl_46 rfl (Nat.le_refl _) (Nat.le_refl _) ⟨i, lenI, rfl, hl, Nat.le_refl _, q4, fun z => absurd z (Nat.lt_irrefl _), K1, D1⟩
      · rw [Int32.lt_iff_toInt_lt]; omega
    | succ t ih =>
      intro i h1 oI dI iI s6 hi o6 q1 q2 q3 q4 K1 D1 S1
      refine R_iload C cl_3 rfl ?_
      refine R_iload C cl_5 rfl ?_
      refine R_icmp C cl_7 (fun (hc : ¬ iI < lenI) => absurd (Int32.lt_iff_toInt_lt.mpr (by omega)) hc) (fun _ => ?_)
      have A1 := A.keep K1 hvd
      refine R_aload_n C cl_10 rfl rfl ?_
      refine R_iload_n C cl_11 rfl ?_
      refine R_caload C (off + i) cl_12 A1 q1 (by omega) rfl ?_
      refine R_istore C cl_13 o6 ?_
      simp only [fv0, fv1, fv2, fv3, List.set_cons_zero, List.set_cons_succ]
      refine R_iload C cl_15 rfl ?_
      refine R_sipush C cl_17 (v := 255) rfl ?_
      refine R_icmp C cl_20 (fun (hc : ¬ (255 : Int32) < g (off + i)) => ?_) (fun (hc : ¬ ¬ (255 : Int32) < g (off + i)) => ?_)
      · rw [Int32.lt_iff_toInt_lt, show (255 : Int32).toInt = 255 from rfl] at hc
        refine R_aload_n C cl_26 rfl rfl ?_
        refine R_iload_n C cl_27 rfl ?_
        refine R_iload C cl_28 rfl ?_
        refine R_i2b C cl_30 ?_
        refine R_bastore C i cl_31 D1 q2 (by omega) hdst S1 ?_
        intro h2 W2 D2 Sf2
        have r1 := Jvm.Kit.i32_add (p := oI) (q := 1) (by omega) (by omega)
        have r2 := Jvm.Kit.i32_add (p := dI) (q := 1) (by omega) (by omega)
        have r3 := Jvm.Kit.i32_add (p := iI) (q := 1) (by omega) (by omega)
        refine R_iinc C cl_32 rfl rfl (dI := 1) rfl rfl ?_
        simp only [fv0, fv1, fv2, fv3, List.set_cons_zero, List.set_cons_succ]
        refine R_iinc C cl_35 rfl rfl (dI := 1) rfl rfl ?_
        simp only [fv0, fv1, fv2, fv3, List.set_cons_zero, List.set_cons_succ]
        refine R_iinc C cl_38 rfl rfl (dI := 1) rfl rfl ?_
        simp only [fv0, fv1, fv2, fv3, List.set_cons_zero, List.set_cons_succ]
        refine R_goto C cl_41 ?_
        refine ih (i + 1) h2 _ _ _ _ (by omega) rfl (by omega) (by omega) (by omega) (fun j hj => ?_) (K1.wr W2 (Or.inl (List.mem_singleton.mpr rfl))) (D2.cg fun j hj => ?_) (Sf2 _ S1)
        · by_cases z : j = i
          · subst z; omega
          · exact q4 j (by omega)
        · by_cases z : j = i
          · subst z
            rw [upd_eq, if_pos (by omega), nar_byte_byte]
          · rw [upd_ne z]
            by_cases z2 : j < i
            · rw [if_pos z2, if_pos (by omega)]
            · rw [if_neg z2, if_neg (by omega)]
      · have hc' := Int32.lt_iff_toInt_lt.mp (Decidable.not_not.mp hc)
        rw [show (255 : Int32).toInt = 255 from rfl] at hc'
        refine R_iload C cl_23 rfl ?_
        exact R_retI C cl_25 rfl (Nat.le_refl _) (Nat.le_refl _) ⟨i, iI, rfl, q3, by omega, q4, fun _ => hc', K1, D1⟩
  refine R_iconst C cl_0 (v := 0) rfl ?_
  refine R_istore C cl_1 rfl ?_
  simp only [fv0, fv1, fv2, fv3, List.set_cons_zero, List.set_cons_succ]
  exact loop len 0 h _ _ _ _ (by omega) rfl (by omega) rfl rfl (fun j hj => absurd hj (Nat.not_lt_zero _)) (Keep.refl _ _) (D.cg fun j hj => by rw [if_neg (Nat.not_lt_zero _)]) (hS dst (List.mem_singleton.mpr rfl))
theorem met_cpL (l : Launch) (Z : State) (a0 : Array Value) (hw : ∀ d ∈ tables_1, d.before a0 Z = true) (nw : Prop) (EL : List (String × Nat)) (hEL : EW Z a0 EL) (h : Heap) (val : Addr) (Nc off len cap : Nat) (g : Nat → Int32) (A : AR Z h val .char Nc (fun i => .int (g i))) (hb : off + len ≤ Nc) (hcap : len ≤ cap) (hc8 : cap * 8 ≤ 536870912) (offI lenI : Int32) (ho : offI.toInt = off) (hl : lenI.toInt = len) (hlat : ∀ i, i < len → (g (off + i)).toInt ≤ 255) :
    Met l Z nw EL ⟨UTF, "compress", "([CII)[B"⟩ jdk_52_method_16_code 6 (some (.array .byte)) ⟨1, 1, cap, 18⟩ #[.ref val, .int offI, .int lenI] h [] (fun v h' => v = some (.ref h.size) ∧ Ext h h' ∧ AR Z h' h.size .byte len (fun i => by8 (g (off + i)))) := by
  refine Met.mk (a0 := a0) hEL pn_utf ?_
  intro p e s m below meth c C hE hS
  rw [efc6]
  refine R_iload_n C cp_0 rfl ?_
  refine R_newarray C cap cp_1 (hw _ (List.mem_of_getElem? (i := 24) rfl)) hl hcap hc8 (Nat.le_refl _) (Nat.le_of_eq (Nat.zero_add _)) rfl ?_
  intro h1 E1 D1 S1 Sf1
  refine R_astore_n C cp_3 rfl rfl rfl ?_
  simp only [fv0, fv1, fv2, fv3, List.set_cons_zero, List.set_cons_succ]
  refine R_aload_n C cp_4 rfl rfl ?_
  refine R_iload_n C cp_5 rfl ?_
  refine R_aload_n C cp_6 rfl rfl ?_
  refine R_iconst C cp_7 (v := 0) rfl ?_
  refine R_iload_n C cp_8 rfl ?_
  refine R_static C [.ref val, .int offI, .ref h.size, .int 0, .int lenI] cp_9 (met_cl l Z a0 hw nw EL hEL h1 val h.size Nc off len g _ (A.ext E1) D1 (Nat.ne_of_lt A.lt) hb hE.1 offI lenI ho hl) (by first | exact fun z => z | exact fun _ => trivial) (hw _ (List.mem_of_getElem? (i := 25) rfl)) (hw _ (List.mem_of_getElem? (i := 26) rfl)) (hw _ (List.mem_of_getElem? (i := 22) rfl)) (hw _ (List.mem_of_getElem? (i := 27) rfl)) (by decide) pd_1 rfl rfl rfl (Nat.le_refl _) (Nat.le_of_ble_eq_true rfl) (Nat.le_refl _) (Nat.le_of_eq (Nat.zero_add _)) (fun x hx => by cases List.mem_singleton.mp hx; exact S1) ?_
  intro v vm2 h2 hQ hsz2 hSf2 hFr
  obtain ⟨r, rI, rfl, hr1, hr2, hr3, hr4, K2, D2⟩ := hQ
  have hrl : r = len := by
    rcases Nat.lt_or_ge r len with z | z
    · have z1 := hr4 z
      have z2 := hlat r z
      omega
    · omega
  subst hrl
  simp only [Option.toList_some, List.cons_append, List.nil_append]
  refine R_istore C cp_12 rfl ?_
  simp only [fv0, fv1, fv2, fv3, List.set_cons_zero, List.set_cons_succ]
  refine R_iload C cp_14 rfl ?_
  refine R_iload_n C cp_16 rfl ?_
  refine R_icmp C cp_17 (fun _ => ?_) (fun (hc : ¬ rI = lenI) => absurd (Int32.toInt_inj.mp (by omega)) hc)
  refine R_aload_n C cp_57 rfl rfl ?_
  refine R_areturn C cp_58 rfl rfl rfl (Nat.le_refl _) (Nat.le_of_eq (Nat.zero_add _)) ⟨rfl, E1.keep' K2 (fun x hx => by cases List.mem_singleton.mp hx; exact Nat.le_refl _), D2.cg fun i hi => by rw [if_pos hi]⟩
theorem ushr0 : (XT.ushr 0 31).toInt8.toInt32 = 0 := by decide +kernel
theorem met_cfL (l : Launch) (Z : State) (a0 : Array Value) (hw : ∀ d ∈ tables_1, d.before a0 Z = true) (nw : Prop) (EL : List (String × Nat)) (hEL : EW Z a0 EL) (h : Heap) (b : Addr) (len : Nat) (f : Nat → Value) (A : AR Z h b .byte len f) (lenI : Int32) (hl : lenI.toInt = len) :
    Met l Z nw EL ⟨UTF, "coderFromArrayLen", "([BI)B"⟩ jdk_52_method_15_code 2 (some .byte) ⟨0, 0, 0, 0⟩ #[.ref b, .int lenI] h [] (fun v h' => v = some (.int 0) ∧ h' = h) := by
  refine Met.mk (a0 := a0) hEL pn_utf ?_
  intro p e s m below meth c C hE hS
  rw [efRI2]
  have hll : len.toInt32 = lenI := Int32.toInt_inj.mp (by rw [len_toInt A.small]; omega)
  subst hll
  refine R_iload_n C cf_0 rfl ?_
  refine R_aload_n C cf_1 rfl rfl ?_
  refine R_arraylength C cf_2 (A) rfl ?_
  refine R_isub C cf_3 ?_
  refine R_bipush C cf_4 (v := 31) rfl ?_
  refine R_iushr C cf_6 ?_
  refine R_i2b C cf_7 ?_
  refine R_retN C cf_8 rfl (Or.inr (Or.inl rfl)) (Nat.le_refl _) (Nat.le_refl _) ⟨?_, rfl⟩
  rw [Int32.sub_self, ushr0]
  rfl
/-- what new String(char[], off, len) leaves -/
def InQ (Z : State) (h : Heap) (a : Addr) (len : Nat) (g : Nat → Int32) (v : Option Value) (h' : Heap) : Prop := v = none ∧ Keep h h' [a] ∧ ∃ b, StrL Z h' a b len g
theorem met_i6L (l : Launch) (Z : State) (a0 : Array Value) (hw : ∀ d ∈ tables_1, d.before a0 Z = true) (nw : Prop) (EL : List (String × Nat)) (hEL : EW Z a0 EL) (cs : Int32) (fm : Value) (S : SS Z cs fm) (h : Heap) (a val : Addr) (Nc off len cap : Nat) (g : Nat → Int32) (A : AR Z h val .char Nc (fun i => .int (g i))) (hb : off + len ≤ Nc) (hcap : len ≤ cap) (hc8 : cap * 8 ≤ 536870912) (offI lenI : Int32) (ho : offI.toInt = off) (hl : lenI.toInt = len) (hpos : 0 < len) (hlat : ∀ i, i < len → 0 ≤ (g (off + i)).toInt ∧ (g (off + i)).toInt ≤ 255) (vo : Value) (hvo : vo.category = 1)
    (E : Exa Z h a STR) (F1 : Fld Z h a STR "value" "[B" .null) (F2 : Fld Z h a STR "coder" "B" (.int 0)) (ha : Z.heap.size ≤ a) :
    Met l Z nw EL ⟨STR, "<init>", "([CIILjava/lang/Void;)V"⟩ jdk_42_method_149_code 6 none ⟨2, 1, cap, 35⟩ #[.ref a, .ref val, .int offI, .int lenI, vo] h [a] (InQ Z h a len (fun i => g (off + i))) := by
  have Lv : Laid Z a0 STR STR "value" "[B" := Or.inr (hw _ (List.mem_of_getElem? (i := 34) rfl))
  have Lc : Laid Z a0 STR STR "coder" "B" := Or.inr (hw _ (List.mem_of_getElem? (i := 32) rfl))
  have nvc := slot_ne Lv Lc (by decide) (t := .array .byte) (t' := .byte) (by decide) (by decide)
  have ncv := slot_ne Lc Lv (by decide) (t := .byte) (t' := .array .byte) (by decide) (by decide)
  refine Met.mk (a0 := a0) hEL pn_str ?_
  intro p e s m below meth c C hE hS
  rw [efi6 m _ _ _ _ _ hvo]
  refine R_aload_n C i6_0 rfl rfl ?_
  refine R_initO C i6_1 (hw _ (List.mem_of_getElem? (i := 16) rfl)) (hw _ (List.mem_of_getElem? (i := 17) rfl)) (hw _ (List.mem_of_getElem? (i := 18) rfl)) rfl (Nat.le_of_ble_eq_true rfl) (Nat.le_of_ble_eq_true rfl) ?_
  refine R_iload_n C i6_4 rfl ?_
  refine R_if C i6_5 (fun _ => ?_) (fun (hc : ¬ ¬ lenI = 0) => absurd (show ¬ lenI = 0 from fun z => ?_) hc)
  · refine R_getstatic C i6_27 (hw _ (List.mem_of_getElem? (i := 19) rfl)) Via.refl (S.2.1.ext hE) ?_
    refine R_if C i6_30 (fun hc => absurd hc S.1) (fun _ => ?_)
    refine R_aload_n C i6_33 rfl rfl ?_
    refine R_iload_n C i6_34 rfl ?_
    refine R_iload_n C i6_35 rfl ?_
    refine R_static C [.ref val, .int offI, .int lenI] i6_36 (met_cpL l Z a0 hw nw EL hEL h val Nc off len cap g A hb hcap hc8 offI lenI ho hl (fun i hi => (hlat i hi).2)) (by first | exact fun z => z | exact fun _ => trivial) (hw _ (List.mem_of_getElem? (i := 20) rfl)) (hw _ (List.mem_of_getElem? (i := 21) rfl)) (hw _ (List.mem_of_getElem? (i := 22) rfl)) (hw _ (List.mem_of_getElem? (i := 23) rfl)) (by decide) pd_2 rfl rfl rfl (Nat.le_of_ble_eq_true rfl) (Nat.le_of_ble_eq_true rfl) (Nat.le_refl _) (Nat.le_of_eq (Nat.zero_add _)) (fun _ q => nomatch q) ?_
    intro v vm2 h2 hQ hsz2 hSf2 hFr
    obtain ⟨rfl, E2, D2⟩ := hQ
    simp only [Option.toList_some, List.cons_append, List.nil_append]
    refine R_astore C i6_39 rfl rfl rfl ?_
    simp only [fv0, fv1, fv2, fv3, List.set_cons_zero, List.set_cons_succ]
    refine R_aload_n C i6_41 rfl rfl ?_
    refine R_aload C i6_42 rfl rfl ?_
    refine R_iload_n C i6_44 rfl ?_
    refine R_static C [.ref h.size, .int lenI] i6_45 (met_cfL l Z a0 hw nw EL hEL h2 h.size len _ D2 lenI hl) (by first | exact fun z => z | exact fun _ => trivial) (hw _ (List.mem_of_getElem? (i := 28) rfl)) (hw _ (List.mem_of_getElem? (i := 29) rfl)) (hw _ (List.mem_of_getElem? (i := 22) rfl)) (hw _ (List.mem_of_getElem? (i := 30) rfl)) (by decide) pd_3 rfl rfl rfl (Nat.le_of_ble_eq_true rfl) (Nat.le_of_ble_eq_true rfl) (Nat.le_refl _) (Nat.le_of_eq (by simp)) (fun _ q => nomatch q) ?_
    intro v vm3 h3 hQ hsz3 hSf3 hFr
    obtain ⟨rfl, rfl⟩ := hQ
    have Sa : Safe Z EL vm3 h3 a := hSf3 a (E.ext E2).lt (hSf2 a E.lt (hS a (List.mem_singleton.mpr rfl)))
    refine R_putfield C i6_48 (hw _ (List.mem_of_getElem? (i := 31) rfl)) Via.refl (F2.ext E2) (E.ext E2) (Or.inr ⟨(hw _ (List.mem_of_getElem? (i := 32) rfl)), rfl, rfl⟩) (hw _ (List.mem_of_getElem? (i := 7) rfl)) (ty := .byte) (by decide) rfl rfl ha Sa ?_
    intro h4 W4 Sf4
    refine R_aload_n C i6_51 rfl rfl ?_
    refine R_aload C i6_52 rfl rfl ?_
    refine R_putfield C i6_54 (hw _ (List.mem_of_getElem? (i := 33) rfl)) Via.refl ((F1.ext E2).other W4 (Or.inr nvc)) ((E.ext E2).wr W4) (Or.inr ⟨(hw _ (List.mem_of_getElem? (i := 34) rfl)), rfl, rfl⟩) (hw _ (List.mem_of_getElem? (i := 7) rfl)) (ty := .array .byte) (by decide) rfl rfl ha (Sf4 _ Sa) ?_
    intro h5 W5 Sf5
    have ne : h.size ≠ a := Nat.ne_of_gt E.lt
    refine R_return C i6_57 rfl (Nat.le_refl _) (Nat.le_of_eq (by simp)) ⟨rfl, ?_, h.size, ((E.ext E2).wr W4).wr W5, ((F1.ext E2).other W4 (Or.inr nvc)).same W5, ((F2.ext E2).same W4).other W5 (Or.inr ncv), (D2.other W4 ne).other W5 ne, hlat⟩
    exact ((Keep.ofExt E2).wr W4 (Or.inl (List.mem_singleton.mpr rfl))).wr W5 (Or.inl (List.mem_singleton.mpr rfl))
  · rw [z] at hl
    rw [Int32.toInt_zero] at hl
    omega
theorem wS_1 {Z : State} {a0 : Array Value} (hw : ∀ d ∈ tables_1, d.before a0 Z = true) : ∀ a ∈ Bundle.stringAtoms, a.before a0 Z = true := by
  intro d hd
  simp only [Bundle.stringAtoms, List.mem_cons, List.not_mem_nil, or_false] at hd
  rcases hd with rfl | rfl | rfl | rfl | rfl | rfl | rfl
  · exact (hw _ (List.mem_of_getElem? (i := 8) rfl))
  · exact (hw _ (List.mem_of_getElem? (i := 7) rfl))
  · exact (hw _ (List.mem_of_getElem? (i := 24) rfl))
  · exact (hw _ (List.mem_of_getElem? (i := 34) rfl))
  · exact (hw _ (List.mem_of_getElem? (i := 32) rfl))
  · exact (hw _ (List.mem_of_getElem? (i := 220) rfl))
  · exact (hw _ (List.mem_of_getElem? (i := 221) rfl))
theorem met_i6E (l : Launch) (Z : State) (a0 : Array Value) (hw : ∀ d ∈ tables_1, d.before a0 Z = true) (EL : List (String × Nat)) (hEL : EW Z a0 EL) (hmem : ("java/lang/String", 7) ∈ EL) (h : Heap) (a val : Addr) (g : Nat → Int32) (offI : Int32) (vo : Value) (hvo : vo.category = 1)
    (E : Exa Z h a STR) (F1 : Fld Z h a STR "value" "[B" .null) (F2 : Fld Z h a STR "coder" "B" (.int 0)) (ha : Z.heap.size ≤ a) :
    Met l Z False EL ⟨STR, "<init>", "([CIILjava/lang/Void;)V"⟩ jdk_42_method_149_code 6 none ⟨2, 4, 8, 35⟩ #[.ref a, .ref val, .int offI, .int 0, vo] h [a] (InQ Z h a 0 g) := by
  have Lv : Laid Z a0 STR STR "value" "[B" := Or.inr (hw _ (List.mem_of_getElem? (i := 34) rfl))
  have Lc : Laid Z a0 STR STR "coder" "B" := Or.inr (hw _ (List.mem_of_getElem? (i := 32) rfl))
  have nvc := slot_ne Lv Lc (by decide) (t := .array .byte) (t' := .byte) (by decide) (by decide)
  have ncv := slot_ne Lc Lv (by decide) (t := .byte) (t' := .array .byte) (by decide) (by decide)
  refine Met.mk (a0 := a0) hEL pn_str ?_
  intro p e s m below meth c C hE hS
  rw [efi6 m _ _ _ _ _ hvo]
  refine R_aload_n C i6_0 rfl rfl ?_
  refine R_initO C i6_1 (hw _ (List.mem_of_getElem? (i := 16) rfl)) (hw _ (List.mem_of_getElem? (i := 17) rfl)) (hw _ (List.mem_of_getElem? (i := 18) rfl)) rfl (Nat.le_of_ble_eq_true rfl) (Nat.le_of_ble_eq_true rfl) ?_
  refine R_iload_n C i6_4 rfl ?_
  refine R_if C i6_5 (fun (hc : ¬ (0 : Int32) = 0) => absurd rfl hc) (fun _ => ?_)
  refine R_aload_n C i6_8 rfl rfl ?_
  refine R_ldcK C 0 i6_9 (fun z => z) (hw _ (List.mem_of_getElem? (i := 219) rfl)) (wS_1 hw) hmem (vs := []) (z := 0) ⟨by intro c hc; simp at hc, rfl⟩ rfl (Nat.le_of_ble_eq_true rfl) (Nat.le_of_ble_eq_true rfl) (Nat.le_of_ble_eq_true rfl) (Nat.le_of_ble_eq_true rfl) ?_
  intro l1 b1 vm1 h1 E1 X1 C1 V1 A1 Sf1 Ne1
  have Sa : Safe Z EL vm1 h1 a := Sf1 a E.lt (hS a (List.mem_singleton.mpr rfl))
  refine R_getfield C i6_11 (hw _ (List.mem_of_getElem? (i := 33) rfl)) Via.refl (V1) ?_
  refine R_putfield C i6_14 (hw _ (List.mem_of_getElem? (i := 33) rfl)) Via.refl (F1.ext E1) (E.ext E1) (Or.inr ⟨(hw _ (List.mem_of_getElem? (i := 34) rfl)), rfl, rfl⟩) (hw _ (List.mem_of_getElem? (i := 7) rfl)) (ty := .array .byte) (by decide) rfl rfl ha Sa ?_
  intro h2 W2 Sf2
  have Sa2 := Sf2 a Sa
  have nab : b1 ≠ a := (Ne1 a Sa).2.symm
  have E2 := (E.ext E1).wr W2
  have F22 := (F2.ext E1).other W2 (Or.inr ncv)
  have F12 := (F1.ext E1).same W2
  have A2 := A1.other W2 nab
  refine R_aload_n C i6_17 rfl rfl ?_
  refine R_ldcK C 0 i6_18 (fun z => z) (hw _ (List.mem_of_getElem? (i := 219) rfl)) (wS_1 hw) hmem (vs := []) (z := 0) ⟨by intro c hc; simp at hc, rfl⟩ rfl (Nat.le_of_ble_eq_true rfl) (Nat.le_of_ble_eq_true rfl) (Nat.le_of_ble_eq_true rfl) (Nat.le_of_ble_eq_true rfl) ?_
  intro l3 b3 vm3 h3 E3 X3 C3 V3 A3 Sf3 Ne3
  have Sa3 := Sf3 a E2.lt Sa2
  refine R_getfield C i6_20 (hw _ (List.mem_of_getElem? (i := 31) rfl)) Via.refl (C3) ?_
  refine R_putfield C i6_23 (hw _ (List.mem_of_getElem? (i := 31) rfl)) Via.refl (F22.ext E3) (E2.ext E3) (Or.inr ⟨(hw _ (List.mem_of_getElem? (i := 32) rfl)), rfl, rfl⟩) (hw _ (List.mem_of_getElem? (i := 7) rfl)) (ty := .byte) (by decide) rfl rfl ha Sa3 ?_
  intro h4 W4 Sf4
  refine R_return C i6_26 rfl (Nat.le_of_ble_eq_true rfl) (Nat.le_of_ble_eq_true rfl) ⟨rfl, ?_, b1, (E2.ext E3).wr W4, (F12.ext E3).other W4 (Or.inr nvc), (F22.ext E3).same W4, ((A2.ext E3).other W4 nab).cg (fun i hi => absurd hi (Nat.not_lt_zero _)), fun i hi => absurd hi (Nat.not_lt_zero _)⟩
  exact (((Keep.ofExt E1).wr W2 (Or.inl (List.mem_singleton.mpr rfl))).ext E3).wr W4 (Or.inl (List.mem_singleton.mpr rfl))
theorem i2_0 : Dc jdk_42_method_3_code 0 (.aload_n 0) 1 1 := ⟨by decide +kernel, rfl⟩
theorem i2_1 : Dc jdk_42_method_3_code 1 (.aload_n 1) 1 2 := ⟨by decide +kernel, rfl⟩
theorem i2_2 : Dc jdk_42_method_3_code 2 (.iconst 0) 1 3 := ⟨by decide +kernel, rfl⟩
theorem i2_3 : Dc jdk_42_method_3_code 3 (.aload_n 1) 1 4 := ⟨by decide +kernel, rfl⟩
theorem i2_4 : Dc jdk_42_method_3_code 4 (.arraylength) 1 5 := ⟨by decide +kernel, rfl⟩
theorem i2_5 : Dc jdk_42_method_3_code 5 (.aconst_null) 1 6 := ⟨by decide +kernel, rfl⟩
theorem i2_6 : Dc jdk_42_method_3_code 6 (.invokespecial 27) 3 9 := ⟨by decide +kernel, rfl⟩
theorem i2_9 : Dc jdk_42_method_3_code 9 (.return_) 1 10 := ⟨by decide +kernel, rfl⟩
theorem met_i2L (l : Launch) (Z : State) (a0 : Array Value) (hw : ∀ d ∈ tables_1, d.before a0 Z = true) (nw : Prop) (EL : List (String × Nat)) (hEL : EW Z a0 EL) (cs : Int32) (fm : Value) (S : SS Z cs fm) (h : Heap) (a val : Addr) (len cap : Nat) (g : Nat → Int32) (A : AR Z h val .char len (fun i => .int (g i))) (hcap : len ≤ cap) (hc8 : cap * 8 ≤ 536870912) (hpos : 0 < len) (hlat : ∀ i, i < len → 0 ≤ (g i).toInt ∧ (g i).toInt ≤ 255)
    (E : Exa Z h a STR) (F1 : Fld Z h a STR "value" "[B" .null) (F2 : Fld Z h a STR "coder" "B" (.int 0)) (ha : Z.heap.size ≤ a) :
    Met l Z nw EL ⟨STR, "<init>", "([C)V"⟩ jdk_42_method_3_code 2 none ⟨3, 1, cap, 52⟩ #[.ref a, .ref val] h [a] (InQ Z h a len g) := by
  refine Met.mk (a0 := a0) hEL pn_str ?_
  intro p e s m below meth c C hE hS
  rw [efi2]
  have z0 : (fun i => g (0 + i)) = g := funext fun i => by rw [Nat.zero_add]
  have M := met_i6L l Z a0 hw nw EL hEL cs fm S h a val len 0 len cap g A (by omega) hcap hc8 0 len.toInt32 rfl (len_toInt A.small) hpos (fun i hi => by rw [Nat.zero_add]; exact hlat i hi) .null rfl E F1 F2 ha
  rw [z0] at M
  refine R_aload_n C i2_0 rfl rfl ?_
  refine R_aload_n C i2_1 rfl rfl ?_
  refine R_iconst C i2_2 (v := 0) rfl ?_
  refine R_aload_n C i2_3 rfl rfl ?_
  refine R_arraylength C i2_4 (A) rfl ?_
  refine R_aconst_null C i2_5 ?_
  refine R_special C [.ref val, .int 0, .int len.toInt32, .null] i2_6 M (by first | exact fun z => z | exact fun _ => trivial) rfl (hw _ (List.mem_of_getElem? (i := 12) rfl)) (hw _ (List.mem_of_getElem? (i := 13) rfl)) (hw _ (List.mem_of_getElem? (i := 8) rfl)) (hw _ (List.mem_of_getElem? (i := 15) rfl)) (by decide) pd_4 rfl rfl rfl (Nat.le_of_ble_eq_true rfl) (Nat.le_of_ble_eq_true rfl) (Nat.le_refl _) (Nat.le_of_eq (Nat.zero_add _)) hS ?_
  intro v vm2 h2 hQ hsz2 hSf2 hFr
  obtain ⟨rfl, hQ⟩ := hQ
  exact R_return C i2_9 rfl (Nat.le_refl _) (Nat.le_of_eq (Nat.zero_add _)) ⟨rfl, hQ⟩
theorem il_0 : Dc jdk_42_method_154_code 0 (.getstatic 38) 3 3 := ⟨by decide +kernel, rfl⟩
theorem il_3 : Jp jdk_42_method_154_code 3 (.ifCond .eq 14) (14) 6 17 := ⟨by decide +kernel, rfl, by decide, by decide⟩
theorem il_6 : Dc jdk_42_method_154_code 6 (.aload_n 0) 1 7 := ⟨by decide +kernel, rfl⟩
theorem il_7 : Dc jdk_42_method_154_code 7 (.getfield 15) 3 10 := ⟨by decide +kernel, rfl⟩
theorem il_10 : Jp jdk_42_method_154_code 10 (.ifCond .ne 7) (7) 13 17 := ⟨by decide +kernel, rfl, by decide, by decide⟩
theorem il_13 : Dc jdk_42_method_154_code 13 (.iconst 1) 1 14 := ⟨by decide +kernel, rfl⟩
theorem il_14 : Jp jdk_42_method_154_code 14 (.goto 4) (4) 17 18 := ⟨by decide +kernel, rfl, by decide, by decide⟩
theorem il_17 : Dc jdk_42_method_154_code 17 (.iconst 0) 1 18 := ⟨by decide +kernel, rfl⟩
theorem il_18 : Dc jdk_42_method_154_code 18 (.ireturn) 1 19 := ⟨by decide +kernel, rfl⟩
theorem pk_0 : Dc jdk_41_method_11_code 0 (.iload_n 0) 1 1 := ⟨by decide +kernel, rfl⟩
theorem pk_1 : Jp jdk_41_method_11_code 1 (.ifCond .lt 8) (8) 4 9 := ⟨by decide +kernel, rfl, by decide, by decide⟩
theorem pk_4 : Dc jdk_41_method_11_code 4 (.iload_n 0) 1 5 := ⟨by decide +kernel, rfl⟩
theorem pk_5 : Dc jdk_41_method_11_code 5 (.iload_n 1) 1 6 := ⟨by decide +kernel, rfl⟩
theorem pk_6 : Jp jdk_41_method_11_code 6 (.if_icmp .lt 10) (10) 9 16 := ⟨by decide +kernel, rfl, by decide, by decide⟩
theorem pk_9 : Dc jdk_41_method_11_code 9 (.aload_n 2) 1 10 := ⟨by decide +kernel, rfl⟩
theorem pk_10 : Dc jdk_41_method_11_code 10 (.iload_n 0) 1 11 := ⟨by decide +kernel, rfl⟩
theorem pk_11 : Dc jdk_41_method_11_code 11 (.iload_n 1) 1 12 := ⟨by decide +kernel, rfl⟩
theorem pk_12 : Dc jdk_41_method_11_code 12 (.invokestatic 95) 3 15 := ⟨by decide +kernel, rfl⟩
theorem pk_15 : Dc jdk_41_method_11_code 15 (.athrow) 1 16 := ⟨by decide +kernel, rfl⟩
theorem pk_16 : Dc jdk_41_method_11_code 16 (.iload_n 0) 1 17 := ⟨by decide +kernel, rfl⟩
theorem pk_17 : Dc jdk_41_method_11_code 17 (.ireturn) 1 18 := ⟨by decide +kernel, rfl⟩
theorem ck_0 : Dc jdk_42_method_155_code 0 (.iload_n 0) 1 1 := ⟨by decide +kernel, rfl⟩
theorem ck_1 : Dc jdk_42_method_155_code 1 (.iload_n 1) 1 2 := ⟨by decide +kernel, rfl⟩
theorem ck_2 : Dc jdk_42_method_155_code 2 (.getstatic 1053) 3 5 := ⟨by decide +kernel, rfl⟩
theorem ck_5 : Dc jdk_42_method_155_code 5 (.invokestatic 1059) 3 8 := ⟨by decide +kernel, rfl⟩
theorem ck_8 : Dc jdk_42_method_155_code 8 (.pop) 1 9 := ⟨by decide +kernel, rfl⟩
theorem ck_9 : Dc jdk_42_method_155_code 9 (.return_) 1 10 := ⟨by decide +kernel, rfl⟩
theorem lc_0 : Dc jdk_43_method_2_code 0 (.iload_n 1) 1 1 := ⟨by decide +kernel, rfl⟩
theorem lc_1 : Dc jdk_43_method_2_code 1 (.aload_n 0) 1 2 := ⟨by decide +kernel, rfl⟩
theorem lc_2 : Dc jdk_43_method_2_code 2 (.arraylength) 1 3 := ⟨by decide +kernel, rfl⟩
theorem lc_3 : Dc jdk_43_method_2_code 3 (.invokestatic 9) 3 6 := ⟨by decide +kernel, rfl⟩
theorem lc_6 : Dc jdk_43_method_2_code 6 (.aload_n 0) 1 7 := ⟨by decide +kernel, rfl⟩
theorem lc_7 : Dc jdk_43_method_2_code 7 (.iload_n 1) 1 8 := ⟨by decide +kernel, rfl⟩
theorem lc_8 : Dc jdk_43_method_2_code 8 (.baload) 1 9 := ⟨by decide +kernel, rfl⟩
theorem lc_9 : Dc jdk_43_method_2_code 9 (.sipush 255) 3 12 := ⟨by decide +kernel, rfl⟩
theorem lc_12 : Dc jdk_43_method_2_code 12 (.iand) 1 13 := ⟨by decide +kernel, rfl⟩
theorem lc_13 : Dc jdk_43_method_2_code 13 (.i2c) 1 14 := ⟨by decide +kernel, rfl⟩
theorem lc_14 : Dc jdk_43_method_2_code 14 (.ireturn) 1 15 := ⟨by decide +kernel, rfl⟩
theorem ca_0 : Dc jdk_42_method_56_code 0 (.aload_n 0) 1 1 := ⟨by decide +kernel, rfl⟩
theorem ca_1 : Dc jdk_42_method_56_code 1 (.invokevirtual 492) 3 4 := ⟨by decide +kernel, rfl⟩
theorem ca_4 : Jp jdk_42_method_56_code 4 (.ifCond .eq 12) (12) 7 16 := ⟨by decide +kernel, rfl, by decide, by decide⟩
theorem ca_7 : Dc jdk_42_method_56_code 7 (.aload_n 0) 1 8 := ⟨by decide +kernel, rfl⟩
theorem ca_8 : Dc jdk_42_method_56_code 8 (.getfield 9) 3 11 := ⟨by decide +kernel, rfl⟩
theorem ca_11 : Dc jdk_42_method_56_code 11 (.iload_n 1) 1 12 := ⟨by decide +kernel, rfl⟩
theorem ca_12 : Dc jdk_42_method_56_code 12 (.invokestatic 495) 3 15 := ⟨by decide +kernel, rfl⟩
theorem ca_15 : Dc jdk_42_method_56_code 15 (.ireturn) 1 16 := ⟨by decide +kernel, rfl⟩
theorem ca_16 : Dc jdk_42_method_56_code 16 (.aload_n 0) 1 17 := ⟨by decide +kernel, rfl⟩
theorem ca_17 : Dc jdk_42_method_56_code 17 (.getfield 9) 3 20 := ⟨by decide +kernel, rfl⟩
theorem ca_20 : Dc jdk_42_method_56_code 20 (.iload_n 1) 1 21 := ⟨by decide +kernel, rfl⟩
theorem ca_21 : Dc jdk_42_method_56_code 21 (.invokestatic 498) 3 24 := ⟨by decide +kernel, rfl⟩
theorem ca_24 : Dc jdk_42_method_56_code 24 (.ireturn) 1 25 := ⟨by decide +kernel, rfl⟩
theorem met_isLat (l : Launch) (Z : State) (a0 : Array Value) (hw : ∀ d ∈ tables_1, d.before a0 Z = true) (nw : Prop) (EL : List (String × Nat)) (hEL : EW Z a0 EL) (cs : Int32) (fm : Value) (S : SS Z cs fm) (h : Heap) (a : Addr) (k : Int32) (F : Fld Z h a STR "coder" "B" (.int k)) :
    Met l Z nw EL ⟨STR, "isLatin1", "()Z"⟩ jdk_42_method_154_code 1 (some .boolean) ⟨0, 0, 0, 0⟩ #[.ref a] h [] (fun v h' => v = some (.int (if k = 0 then 1 else 0)) ∧ h' = h) := by
  refine Met.mk (a0 := a0) hEL pn_str ?_
  intro p e s m below meth c C hE hS
  rw [efs1]
  refine R_getstatic C il_0 (hw _ (List.mem_of_getElem? (i := 19) rfl)) Via.refl (S.2.1.ext hE) ?_
  refine R_if C il_3 (fun hc => absurd hc S.1) (fun _ => ?_)
  refine R_aload_n C il_6 rfl rfl ?_
  refine R_getfield C il_7 (hw _ (List.mem_of_getElem? (i := 31) rfl)) Via.refl (F) ?_
  refine R_if C il_10 (fun (hc : ¬ k = 0) => ?_) (fun (hc : ¬ ¬ k = 0) => ?_)
  · refine R_iconst C il_17 (v := 0) rfl ?_
    exact R_retN C il_18 rfl (Or.inl rfl) (Nat.le_refl _) (Nat.le_refl _) ⟨by rw [if_neg hc]; rfl, rfl⟩
  · refine R_iconst C il_13 (v := 1) rfl ?_
    refine R_goto C il_14 ?_
    exact R_retN C il_18 rfl (Or.inl rfl) (Nat.le_refl _) (Nat.le_refl _) ⟨by rw [if_pos (Decidable.not_not.mp hc)]; rfl, rfl⟩
theorem met_pk (l : Launch) (Z : State) (a0 : Array Value) (hw : ∀ d ∈ tables_1, d.before a0 Z = true) (nw : Prop) (EL : List (String × Nat)) (hEL : EW Z a0 EL) (h : Heap) (i n : Int32) (fm : Value) (hfm : fm.isRef = true) (h1 : ¬ i < 0) (h2 : i < n) :
    Met l Z nw EL ⟨PRE, "checkIndex", "(IILjava/util/function/BiFunction;)I"⟩ jdk_41_method_11_code 3 (some .int) ⟨0, 0, 0, 0⟩ #[.int i, .int n, fm] h [] (fun v h' => v = some (.int i) ∧ h' = h) := by
  refine Met.mk (a0 := a0) hEL pn_pre ?_
  intro p e s m below meth c C hE hS
  rw [efck m _ _ _ (cat_ref hfm)]
  refine R_iload_n C pk_0 rfl ?_
  refine R_if C pk_1 (fun hc => absurd hc h1) (fun _ => ?_)
  refine R_iload_n C pk_4 rfl ?_
  refine R_iload_n C pk_5 rfl ?_
  refine R_icmp C pk_6 (fun _ => ?_) (fun hc => absurd h2 hc)
  refine R_iload_n C pk_16 rfl ?_
  exact R_retI C pk_17 rfl (Nat.le_refl _) (Nat.le_refl _) ⟨rfl, rfl⟩
theorem met_ck (l : Launch) (Z : State) (a0 : Array Value) (hw : ∀ d ∈ tables_1, d.before a0 Z = true) (nw : Prop) (EL : List (String × Nat)) (hEL : EW Z a0 EL) (cs : Int32) (fm : Value) (S : SS Z cs fm) (h : Heap) (i n : Int32) (h1 : ¬ i < 0) (h2 : i < n) :
    Met l Z nw EL ⟨STR, "checkIndex", "(II)V"⟩ jdk_42_method_155_code 2 none ⟨1, 0, 0, 14⟩ #[.int i, .int n] h [] (fun v h' => v = none ∧ h' = h) := by
  refine Met.mk (a0 := a0) hEL pn_str ?_
  intro p e s m below meth c C hE hS
  rw [efII2]
  refine R_iload_n C ck_0 rfl ?_
  refine R_iload_n C ck_1 rfl ?_
  refine R_getstatic C ck_2 (hw _ (List.mem_of_getElem? (i := 69) rfl)) Via.refl (S.2.2.2.ext hE) ?_
  refine R_static C [.int i, .int n, fm] ck_5 (met_pk l Z a0 hw nw EL hEL h i n fm S.2.2.1 h1 h2) (by first | exact fun z => z | exact fun _ => trivial) (hw _ (List.mem_of_getElem? (i := 71) rfl)) (hw _ (List.mem_of_getElem? (i := 72) rfl)) (hw _ (List.mem_of_getElem? (i := 70) rfl)) (hw _ (List.mem_of_getElem? (i := 73) rfl)) (by decide) pd_5 rfl rfl rfl (Nat.le_of_ble_eq_true rfl) (Nat.le_of_ble_eq_true rfl) (Nat.le_of_ble_eq_true rfl) (Nat.le_of_ble_eq_true rfl) (fun _ q => nomatch q) ?_
  intro v vm' h' hQ hsz hSf hFr
  obtain ⟨rfl, rfl⟩ := hQ
  simp only [Option.toList_some, List.cons_append, List.nil_append]
  refine R_pop C ck_8 rfl ?_
  exact R_return C ck_9 rfl (Nat.le_refl _) (Nat.le_refl _) ⟨rfl, rfl⟩
theorem met_lc (l : Launch) (Z : State) (a0 : Array Value) (hw : ∀ d ∈ tables_1, d.before a0 Z = true) (nw : Prop) (EL : List (String × Nat)) (hEL : EW Z a0 EL) (cs : Int32) (fm : Value) (S : SS Z cs fm) (h : Heap) (b : Addr) (n : Nat) (g : Nat → Int32) (A : AR Z h b .byte n (fun i => by8 (g i))) (hg : ∀ i, i < n → 0 ≤ (g i).toInt ∧ (g i).toInt ≤ 255) (iI : Int32) (i : Nat) (hi : iI.toInt = i) (hin : i < n) :
    Met l Z nw EL ⟨LAT, "charAt", "([BI)C"⟩ jdk_43_method_2_code 2 (some .char) ⟨2, 0, 0, 27⟩ #[.ref b, .int iI] h [] (fun v h' => v = some (.int (g i)) ∧ h' = h) := by
  have h31 := A.small
  refine Met.mk (a0 := a0) hEL pn_lat ?_
  intro p e s m below meth c C hE hS
  rw [efRI2]
  refine R_iload_n C lc_0 rfl ?_
  refine R_aload_n C lc_1 rfl rfl ?_
  refine R_arraylength C lc_2 (A) rfl ?_
  refine R_static C [.int iI, .int n.toInt32] lc_3 (met_ck l Z a0 hw nw EL hEL cs fm S h iI n.toInt32 (nn_of hi) (by rw [Int32.lt_iff_toInt_lt, len_toInt h31]; omega)) (by first | exact fun z => z | exact fun _ => trivial) (hw _ (List.mem_of_getElem? (i := 66) rfl)) (hw _ (List.mem_of_getElem? (i := 67) rfl)) (hw _ (List.mem_of_getElem? (i := 8) rfl)) (hw _ (List.mem_of_getElem? (i := 68) rfl)) (by decide) pd_6 rfl rfl rfl (Nat.le_of_ble_eq_true rfl) (Nat.le_of_ble_eq_true rfl) (Nat.le_of_ble_eq_true rfl) (Nat.le_of_ble_eq_true rfl) (fun _ q => nomatch q) ?_
  intro v vm' h' hQ hsz hSf hFr
  obtain ⟨rfl, rfl⟩ := hQ
  simp only [Option.toList_none, List.nil_append]
  refine R_aload_n C lc_6 rfl rfl ?_
  refine R_iload_n C lc_7 rfl ?_
  refine R_baload C (i) lc_8 (A) (hi) (hin) (rfl) ?_
  refine R_sipush C lc_9 (v := 255) rfl ?_
  refine R_iand C lc_12 ?_
  refine R_i2c C lc_13 ?_
  refine R_retN C lc_14 rfl (Or.inr (Or.inr (Or.inl rfl))) (Nat.le_refl _) (Nat.le_refl _) ⟨?_, rfl⟩
  rw [nar_nar_char, byte_back (hg i hin).1 (hg i hin).2]
theorem met_charAtL (l : Launch) (Z : State) (a0 : Array Value) (hw : ∀ d ∈ tables_1, d.before a0 Z = true) (nw : Prop) (EL : List (String × Nat)) (hEL : EW Z a0 EL) (cs : Int32) (fm : Value) (S : SS Z cs fm) (h : Heap) (a b : Addr) (n : Nat) (g : Nat → Int32) (X : StrL Z h a b n g) (iI : Int32) (i : Nat) (hi : iI.toInt = i) (hin : i < n) :
    Met l Z nw EL ⟨STR, "charAt", "(I)C"⟩ jdk_42_method_56_code 2 (some .char) ⟨3, 0, 0, 40⟩ #[.ref a, .int iI] h [] (fun v h' => v = some (.int (g i)) ∧ h' = h) := by
  obtain ⟨E, V, F, A, hg⟩ := X
  refine Met.mk (a0 := a0) hEL pn_str ?_
  intro p e s m below meth c C hE hS
  rw [efRI2]
  refine R_aload_n C ca_0 rfl rfl ?_
  refine R_virtual C [] ca_1 (met_isLat l Z a0 hw nw EL hEL cs fm S h a 0 F) (by first | exact fun z => z | exact fun _ => trivial) (E) (hw _ (List.mem_of_getElem? (i := 57) rfl)) (hw _ (List.mem_of_getElem? (i := 58) rfl)) (hw _ (List.mem_of_getElem? (i := 60) rfl)) (hw _ (List.mem_of_getElem? (i := 59) rfl)) (hw _ (List.mem_of_getElem? (i := 8) rfl)) (hw _ (List.mem_of_getElem? (i := 61) rfl)) (by decide) pd_7 rfl rfl rfl (Nat.le_of_ble_eq_true rfl) (Nat.le_of_ble_eq_true rfl) (Nat.le_of_ble_eq_true rfl) (Nat.le_of_ble_eq_true rfl) (fun _ q => nomatch q) ?_
  intro v vm' h' hQ hsz hSf hFr
  obtain ⟨rfl, rfl⟩ := hQ
  rw [if_pos rfl]
  simp only [Option.toList_some, List.cons_append, List.nil_append]
  refine R_if C ca_4 (fun (hc : (1 : Int32) = 0) => absurd hc (by decide)) (fun _ => ?_)
  refine R_aload_n C ca_7 rfl rfl ?_
  refine R_getfield C ca_8 (hw _ (List.mem_of_getElem? (i := 33) rfl)) Via.refl (V) ?_
  refine R_iload_n C ca_11 rfl ?_
  refine R_static C [.ref b, .int iI] ca_12 (met_lc l Z a0 hw nw EL hEL cs fm S h' b n g A hg iI i hi hin) (by first | exact fun z => z | exact fun _ => trivial) (hw _ (List.mem_of_getElem? (i := 62) rfl)) (hw _ (List.mem_of_getElem? (i := 63) rfl)) (hw _ (List.mem_of_getElem? (i := 64) rfl)) (hw _ (List.mem_of_getElem? (i := 65) rfl)) (by decide) pd_8 rfl rfl rfl (Nat.le_of_ble_eq_true rfl) (Nat.le_of_ble_eq_true rfl) (Nat.le_of_ble_eq_true rfl) (Nat.le_of_ble_eq_true rfl) (fun _ q => nomatch q) ?_
  intro v vm2 h2 hQ hsz2 hSf2 hFr
  obtain ⟨rfl, rfl⟩ := hQ
  simp only [Option.toList_some, List.cons_append, List.nil_append]
  refine R_retN C ca_15 rfl (Or.inr (Or.inr (Or.inl rfl))) (Nat.le_refl _) (Nat.le_refl _) ⟨?_, rfl⟩
  have z : nar .char (g i) = g i := by
    conv => rhs; rw [← byte_back (hg i hin).1 (hg i hin).2]
    conv => lhs; rw [← byte_back (hg i hin).1 (hg i hin).2]
    rw [nar_nar_char]
  rw [z]
theorem ul_0 : Dc jdk_52_method_6_code 0 (.aload_n 0) 1 1 := ⟨by decide +kernel, rfl⟩
theorem ul_1 : Dc jdk_52_method_6_code 1 (.arraylength) 1 2 := ⟨by decide +kernel, rfl⟩
theorem ul_2 : Dc jdk_52_method_6_code 2 (.iconst 1) 1 3 := ⟨by decide +kernel, rfl⟩
theorem ul_3 : Dc jdk_52_method_6_code 3 (.ishr) 1 4 := ⟨by decide +kernel, rfl⟩
theorem ul_4 : Dc jdk_52_method_6_code 4 (.ireturn) 1 5 := ⟨by decide +kernel, rfl⟩
theorem nl_0 : Dc jdk_52_method_3_code 0 (.iload_n 0) 1 1 := ⟨by decide +kernel, rfl⟩
theorem nl_1 : Jp jdk_52_method_3_code 1 (.ifCond .ge 11) (11) 4 12 := ⟨by decide +kernel, rfl, by decide, by decide⟩
theorem nl_4 : Dc jdk_52_method_3_code 4 (.new 17) 3 7 := ⟨by decide +kernel, rfl⟩
theorem nl_7 : Dc jdk_52_method_3_code 7 (.dup) 1 8 := ⟨by decide +kernel, rfl⟩
theorem nl_8 : Dc jdk_52_method_3_code 8 (.invokespecial 19) 3 11 := ⟨by decide +kernel, rfl⟩
theorem nl_11 : Dc jdk_52_method_3_code 11 (.athrow) 1 12 := ⟨by decide +kernel, rfl⟩
theorem nl_12 : Dc jdk_52_method_3_code 12 (.iload_n 0) 1 13 := ⟨by decide +kernel, rfl⟩
theorem nl_13 : Dc jdk_52_method_3_code 13 (.ldc 20) 2 15 := ⟨by decide +kernel, rfl⟩
theorem nl_15 : Jp jdk_52_method_3_code 15 (.if_icmp .lt 40) (40) 18 55 := ⟨by decide +kernel, rfl, by decide, by decide⟩
theorem nl_18 : Dc jdk_52_method_3_code 18 (.new 21) 3 21 := ⟨by decide +kernel, rfl⟩
theorem nl_21 : Dc jdk_52_method_3_code 21 (.dup) 1 22 := ⟨by decide +kernel, rfl⟩
theorem nl_22 : Dc jdk_52_method_3_code 22 (.new 23) 3 25 := ⟨by decide +kernel, rfl⟩
theorem nl_25 : Dc jdk_52_method_3_code 25 (.dup) 1 26 := ⟨by decide +kernel, rfl⟩
theorem nl_26 : Dc jdk_52_method_3_code 26 (.invokespecial 25) 3 29 := ⟨by decide +kernel, rfl⟩
theorem nl_29 : Dc jdk_52_method_3_code 29 (.ldc 26) 2 31 := ⟨by decide +kernel, rfl⟩
theorem nl_31 : Dc jdk_52_method_3_code 31 (.invokevirtual 28) 3 34 := ⟨by decide +kernel, rfl⟩
theorem nl_34 : Dc jdk_52_method_3_code 34 (.iload_n 0) 1 35 := ⟨by decide +kernel, rfl⟩
theorem nl_35 : Dc jdk_52_method_3_code 35 (.invokevirtual 32) 3 38 := ⟨by decide +kernel, rfl⟩
theorem nl_38 : Dc jdk_52_method_3_code 38 (.ldc 35) 2 40 := ⟨by decide +kernel, rfl⟩
theorem nl_40 : Dc jdk_52_method_3_code 40 (.invokevirtual 28) 3 43 := ⟨by decide +kernel, rfl⟩
theorem nl_43 : Dc jdk_52_method_3_code 43 (.ldc 20) 2 45 := ⟨by decide +kernel, rfl⟩
theorem nl_45 : Dc jdk_52_method_3_code 45 (.invokevirtual 32) 3 48 := ⟨by decide +kernel, rfl⟩
theorem nl_48 : Dc jdk_52_method_3_code 48 (.invokevirtual 37) 3 51 := ⟨by decide +kernel, rfl⟩
theorem nl_51 : Dc jdk_52_method_3_code 51 (.invokespecial 41) 3 54 := ⟨by decide +kernel, rfl⟩
theorem nl_54 : Dc jdk_52_method_3_code 54 (.athrow) 1 55 := ⟨by decide +kernel, rfl⟩
theorem nl_55 : Dc jdk_52_method_3_code 55 (.iload_n 0) 1 56 := ⟨by decide +kernel, rfl⟩
theorem nl_56 : Dc jdk_52_method_3_code 56 (.iconst 1) 1 57 := ⟨by decide +kernel, rfl⟩
theorem nl_57 : Dc jdk_52_method_3_code 57 (.ishl) 1 58 := ⟨by decide +kernel, rfl⟩
theorem nl_58 : Dc jdk_52_method_3_code 58 (.ireturn) 1 59 := ⟨by decide +kernel, rfl⟩
theorem nf_0 : Dc jdk_52_method_2_code 0 (.iload_n 0) 1 1 := ⟨by decide +kernel, rfl⟩
theorem nf_1 : Dc jdk_52_method_2_code 1 (.invokestatic 11) 3 4 := ⟨by decide +kernel, rfl⟩
theorem nf_4 : Dc jdk_52_method_2_code 4 (.newarray .byte) 2 6 := ⟨by decide +kernel, rfl⟩
theorem nf_6 : Dc jdk_52_method_2_code 6 (.areturn) 1 7 := ⟨by decide +kernel, rfl⟩
theorem pu_0 : Dc jdk_52_method_4_code 0 (.getstatic 44) 3 3 := ⟨by decide +kernel, rfl⟩
theorem pu_3 : Jp jdk_52_method_4_code 3 (.ifCond .ne 25) (25) 6 28 := ⟨by decide +kernel, rfl, by decide, by decide⟩
theorem pu_6 : Dc jdk_52_method_4_code 6 (.iload_n 1) 1 7 := ⟨by decide +kernel, rfl⟩
theorem pu_7 : Jp jdk_52_method_4_code 7 (.ifCond .lt 11) (11) 10 18 := ⟨by decide +kernel, rfl, by decide, by decide⟩
theorem pu_10 : Dc jdk_52_method_4_code 10 (.iload_n 1) 1 11 := ⟨by decide +kernel, rfl⟩
theorem pu_11 : Dc jdk_52_method_4_code 11 (.aload_n 0) 1 12 := ⟨by decide +kernel, rfl⟩
theorem pu_12 : Dc jdk_52_method_4_code 12 (.invokestatic 48) 3 15 := ⟨by decide +kernel, rfl⟩
theorem pu_15 : Jp jdk_52_method_4_code 15 (.if_icmp .lt 13) (13) 18 28 := ⟨by decide +kernel, rfl, by decide, by decide⟩
theorem pu_18 : Dc jdk_52_method_4_code 18 (.new 52) 3 21 := ⟨by decide +kernel, rfl⟩
theorem pu_21 : Dc jdk_52_method_4_code 21 (.dup) 1 22 := ⟨by decide +kernel, rfl⟩
theorem pu_22 : Dc jdk_52_method_4_code 22 (.ldc 54) 2 24 := ⟨by decide +kernel, rfl⟩
theorem pu_24 : Dc jdk_52_method_4_code 24 (.invokespecial 56) 3 27 := ⟨by decide +kernel, rfl⟩
theorem pu_27 : Dc jdk_52_method_4_code 27 (.athrow) 1 28 := ⟨by decide +kernel, rfl⟩
theorem pu_28 : Dc jdk_52_method_4_code 28 (.iload_n 1) 1 29 := ⟨by decide +kernel, rfl⟩
theorem pu_29 : Dc jdk_52_method_4_code 29 (.iconst 1) 1 30 := ⟨by decide +kernel, rfl⟩
theorem pu_30 : Dc jdk_52_method_4_code 30 (.ishl) 1 31 := ⟨by decide +kernel, rfl⟩
theorem pu_31 : Dc jdk_52_method_4_code 31 (.istore_n 1) 1 32 := ⟨by decide +kernel, rfl⟩
theorem pu_32 : Dc jdk_52_method_4_code 32 (.aload_n 0) 1 33 := ⟨by decide +kernel, rfl⟩
theorem pu_33 : Dc jdk_52_method_4_code 33 (.iload_n 1) 1 34 := ⟨by decide +kernel, rfl⟩
theorem pu_34 : Dc jdk_52_method_4_code 34 (.iinc 1 1) 3 37 := ⟨by decide +kernel, rfl⟩
theorem pu_37 : Dc jdk_52_method_4_code 37 (.iload_n 2) 1 38 := ⟨by decide +kernel, rfl⟩
theorem pu_38 : Dc jdk_52_method_4_code 38 (.getstatic 59) 3 41 := ⟨by decide +kernel, rfl⟩
theorem pu_41 : Dc jdk_52_method_4_code 41 (.ishr) 1 42 := ⟨by decide +kernel, rfl⟩
theorem pu_42 : Dc jdk_52_method_4_code 42 (.i2b) 1 43 := ⟨by decide +kernel, rfl⟩
theorem pu_43 : Dc jdk_52_method_4_code 43 (.bastore) 1 44 := ⟨by decide +kernel, rfl⟩
theorem pu_44 : Dc jdk_52_method_4_code 44 (.aload_n 0) 1 45 := ⟨by decide +kernel, rfl⟩
theorem pu_45 : Dc jdk_52_method_4_code 45 (.iload_n 1) 1 46 := ⟨by decide +kernel, rfl⟩
theorem pu_46 : Dc jdk_52_method_4_code 46 (.iload_n 2) 1 47 := ⟨by decide +kernel, rfl⟩
theorem pu_47 : Dc jdk_52_method_4_code 47 (.getstatic 63) 3 50 := ⟨by decide +kernel, rfl⟩
theorem pu_50 : Dc jdk_52_method_4_code 50 (.ishr) 1 51 := ⟨by decide +kernel, rfl⟩
theorem pu_51 : Dc jdk_52_method_4_code 51 (.i2b) 1 52 := ⟨by decide +kernel, rfl⟩
theorem pu_52 : Dc jdk_52_method_4_code 52 (.bastore) 1 53 := ⟨by decide +kernel, rfl⟩
theorem pu_53 : Dc jdk_52_method_4_code 53 (.return_) 1 54 := ⟨by decide +kernel, rfl⟩
theorem gu_0 : Dc jdk_52_method_5_code 0 (.getstatic 44) 3 3 := ⟨by decide +kernel, rfl⟩
theorem gu_3 : Jp jdk_52_method_5_code 3 (.ifCond .ne 25) (25) 6 28 := ⟨by decide +kernel, rfl, by decide, by decide⟩
theorem gu_6 : Dc jdk_52_method_5_code 6 (.iload_n 1) 1 7 := ⟨by decide +kernel, rfl⟩
theorem gu_7 : Jp jdk_52_method_5_code 7 (.ifCond .lt 11) (11) 10 18 := ⟨by decide +kernel, rfl, by decide, by decide⟩
theorem gu_10 : Dc jdk_52_method_5_code 10 (.iload_n 1) 1 11 := ⟨by decide +kernel, rfl⟩
theorem gu_11 : Dc jdk_52_method_5_code 11 (.aload_n 0) 1 12 := ⟨by decide +kernel, rfl⟩
theorem gu_12 : Dc jdk_52_method_5_code 12 (.invokestatic 48) 3 15 := ⟨by decide +kernel, rfl⟩
theorem gu_15 : Jp jdk_52_method_5_code 15 (.if_icmp .lt 13) (13) 18 28 := ⟨by decide +kernel, rfl, by decide, by decide⟩
theorem gu_18 : Dc jdk_52_method_5_code 18 (.new 52) 3 21 := ⟨by decide +kernel, rfl⟩
theorem gu_21 : Dc jdk_52_method_5_code 21 (.dup) 1 22 := ⟨by decide +kernel, rfl⟩
theorem gu_22 : Dc jdk_52_method_5_code 22 (.ldc 54) 2 24 := ⟨by decide +kernel, rfl⟩
theorem gu_24 : Dc jdk_52_method_5_code 24 (.invokespecial 56) 3 27 := ⟨by decide +kernel, rfl⟩
theorem gu_27 : Dc jdk_52_method_5_code 27 (.athrow) 1 28 := ⟨by decide +kernel, rfl⟩
theorem gu_28 : Dc jdk_52_method_5_code 28 (.iload_n 1) 1 29 := ⟨by decide +kernel, rfl⟩
theorem gu_29 : Dc jdk_52_method_5_code 29 (.iconst 1) 1 30 := ⟨by decide +kernel, rfl⟩
theorem gu_30 : Dc jdk_52_method_5_code 30 (.ishl) 1 31 := ⟨by decide +kernel, rfl⟩
theorem gu_31 : Dc jdk_52_method_5_code 31 (.istore_n 1) 1 32 := ⟨by decide +kernel, rfl⟩
theorem gu_32 : Dc jdk_52_method_5_code 32 (.aload_n 0) 1 33 := ⟨by decide +kernel, rfl⟩
theorem gu_33 : Dc jdk_52_method_5_code 33 (.iload_n 1) 1 34 := ⟨by decide +kernel, rfl⟩
theorem gu_34 : Dc jdk_52_method_5_code 34 (.iinc 1 1) 3 37 := ⟨by decide +kernel, rfl⟩
theorem gu_37 : Dc jdk_52_method_5_code 37 (.baload) 1 38 := ⟨by decide +kernel, rfl⟩
theorem gu_38 : Dc jdk_52_method_5_code 38 (.sipush 255) 3 41 := ⟨by decide +kernel, rfl⟩
theorem gu_41 : Dc jdk_52_method_5_code 41 (.iand) 1 42 := ⟨by decide +kernel, rfl⟩
theorem gu_42 : Dc jdk_52_method_5_code 42 (.getstatic 59) 3 45 := ⟨by decide +kernel, rfl⟩
theorem gu_45 : Dc jdk_52_method_5_code 45 (.ishl) 1 46 := ⟨by decide +kernel, rfl⟩
theorem gu_46 : Dc jdk_52_method_5_code 46 (.aload_n 0) 1 47 := ⟨by decide +kernel, rfl⟩
theorem gu_47 : Dc jdk_52_method_5_code 47 (.iload_n 1) 1 48 := ⟨by decide +kernel, rfl⟩
theorem gu_48 : Dc jdk_52_method_5_code 48 (.baload) 1 49 := ⟨by decide +kernel, rfl⟩
theorem gu_49 : Dc jdk_52_method_5_code 49 (.sipush 255) 3 52 := ⟨by decide +kernel, rfl⟩
theorem gu_52 : Dc jdk_52_method_5_code 52 (.iand) 1 53 := ⟨by decide +kernel, rfl⟩
theorem gu_53 : Dc jdk_52_method_5_code 53 (.getstatic 63) 3 56 := ⟨by decide +kernel, rfl⟩
theorem gu_56 : Dc jdk_52_method_5_code 56 (.ishl) 1 57 := ⟨by decide +kernel, rfl⟩
theorem gu_57 : Dc jdk_52_method_5_code 57 (.ior) 1 58 := ⟨by decide +kernel, rfl⟩
theorem gu_58 : Dc jdk_52_method_5_code 58 (.i2c) 1 59 := ⟨by decide +kernel, rfl⟩
theorem gu_59 : Dc jdk_52_method_5_code 59 (.ireturn) 1 60 := ⟨by decide +kernel, rfl⟩
theorem tb_0 : Dc jdk_52_method_14_code 0 (.iload_n 2) 1 1 := ⟨by decide +kernel, rfl⟩
theorem tb_1 : Dc jdk_52_method_14_code 1 (.invokestatic 107) 3 4 := ⟨by decide +kernel, rfl⟩
theorem tb_4 : Dc jdk_52_method_14_code 4 (.astore_n 3) 1 5 := ⟨by decide +kernel, rfl⟩
theorem tb_5 : Dc jdk_52_method_14_code 5 (.iconst 0) 1 6 := ⟨by decide +kernel, rfl⟩
theorem tb_6 : Dc jdk_52_method_14_code 6 (.istore 4) 2 8 := ⟨by decide +kernel, rfl⟩
theorem tb_8 : Dc jdk_52_method_14_code 8 (.iload 4) 2 10 := ⟨by decide +kernel, rfl⟩
theorem tb_10 : Dc jdk_52_method_14_code 10 (.iload_n 2) 1 11 := ⟨by decide +kernel, rfl⟩
theorem tb_11 : Jp jdk_52_method_14_code 11 (.if_icmp .ge 21) (21) 14 32 := ⟨by decide +kernel, rfl, by decide, by decide⟩
theorem tb_14 : Dc jdk_52_method_14_code 14 (.aload_n 3) 1 15 := ⟨by decide +kernel, rfl⟩
theorem tb_15 : Dc jdk_52_method_14_code 15 (.iload 4) 2 17 := ⟨by decide +kernel, rfl⟩
theorem tb_17 : Dc jdk_52_method_14_code 17 (.aload_n 0) 1 18 := ⟨by decide +kernel, rfl⟩
theorem tb_18 : Dc jdk_52_method_14_code 18 (.iload_n 1) 1 19 := ⟨by decide +kernel, rfl⟩
theorem tb_19 : Dc jdk_52_method_14_code 19 (.caload) 1 20 := ⟨by decide +kernel, rfl⟩
theorem tb_20 : Dc jdk_52_method_14_code 20 (.invokestatic 111) 3 23 := ⟨by decide +kernel, rfl⟩
theorem tb_23 : Dc jdk_52_method_14_code 23 (.iinc 1 1) 3 26 := ⟨by decide +kernel, rfl⟩
theorem tb_26 : Dc jdk_52_method_14_code 26 (.iinc 4 1) 3 29 := ⟨by decide +kernel, rfl⟩
theorem tb_29 : Jp jdk_52_method_14_code 29 (.goto (-21)) (-21) 32 8 := ⟨by decide +kernel, rfl, by decide, by decide⟩
theorem tb_32 : Dc jdk_52_method_14_code 32 (.aload_n 3) 1 33 := ⟨by decide +kernel, rfl⟩
theorem tb_33 : Dc jdk_52_method_14_code 33 (.areturn) 1 34 := ⟨by decide +kernel, rfl⟩
theorem efu1 (m : MethodId) (x0 : Addr) : entryFrame m #[(.ref x0)] 1 = fr m 0 [.val (.ref x0)] [] := by first | (simp [entryFrame, mkF, argsToLocals, Value.category]; done) | rfl
theorem efI1 (m : MethodId) (x0 : Int32) : entryFrame m #[(.int x0)] 1 = fr m 0 [.val (.int x0)] [] := by first | (simp [entryFrame, mkF, argsToLocals, Value.category]; done) | rfl
theorem efRII3 (m : MethodId) (x0 : Addr) (x1 : Int32) (x2 : Int32) : entryFrame m #[(.ref x0), (.int x1), (.int x2)] 3 = fr m 0 [.val (.ref x0), .val (.int x1), .val (.int x2)] [] := by first | (simp [entryFrame, mkF, argsToLocals, Value.category]; done) | rfl
theorem eftb (m : MethodId) (x0 : Addr) (x1 : Int32) (x2 : Int32) : entryFrame m #[(.ref x0), (.int x1), (.int x2)] 5 = fr m 0 [.val (.ref x0), .val (.int x1), .val (.int x2), .unset, .unset] [] := by first | (simp [entryFrame, mkF, argsToLocals, Value.category]; done) | rfl
/-- the statics that StringUTF16's methods read -/
def SU (Z : State) : Prop := Sta Z Z.heap UTF "$assertionsDisabled" "Z" (.int 1) ∧ Sta Z Z.heap UTF "HI_BYTE_SHIFT" "I" (.int 0) ∧ Sta Z Z.heap UTF "LO_BYTE_SHIFT" "I" (.int 8)
def ub (g : Nat → Int32) (i : Nat) : Value := if i % 2 = 0 then by8 (g (i / 2)) else by8 (g (i / 2) >>> ((8 : Int32) &&& 31))
def StrU (Z : State) (h : Heap) (a b : Addr) (n : Nat) (g : Nat → Int32) : Prop := Exa Z h a STR ∧ Fld Z h a STR "value" "[B" (.ref b) ∧ Fld Z h a STR "coder" "B" (.int 1) ∧ AR Z h b .byte (2 * n) (ub g) ∧ ∀ i, i < n → 0 ≤ (g i).toInt ∧ (g i).toInt ≤ 65535
theorem dbl {x : Int32} (h0 : 0 ≤ x.toInt) (h1 : x.toInt < 1000000) : (x <<< ((1 : Int32) &&& 31)).toInt = x.toInt * 2 := by
  have z := i32_shl x ((1 : Int32) &&& 31) (k := 1) (by decide) (by omega) (by omega)
  omega
theorem hlf {N : Nat} (h : 2 * N < 2 ^ 31) : (2 * N).toInt32 >>> ((1 : Int32) &&& 31) = N.toInt32 := by
  apply Int32.toInt_inj.mp
  have z := i32_shr (2 * N).toInt32 ((1 : Int32) &&& 31) (k := 1) (by decide)
  rw [z, len_toInt h, len_toInt (by omega)]
  omega
theorem met_ul (l : Launch) (Z : State) (a0 : Array Value) (hw : ∀ d ∈ tables_1, d.before a0 Z = true) (nw : Prop) (EL : List (String × Nat)) (hEL : EW Z a0 EL) (h : Heap) (b : Addr) (n : Nat) (f : Nat → Value) (A : AR Z h b .byte (2 * n) f) :
    Met l Z nw EL ⟨UTF, "length", "([B)I"⟩ jdk_52_method_6_code 1 (some .int) ⟨0, 0, 0, 0⟩ #[.ref b] h [] (fun v h' => v = some (.int n.toInt32) ∧ h' = h) := by
  refine Met.mk (a0 := a0) hEL pn_utf ?_
  intro p e s m below meth c C hE hS
  rw [efu1]
  refine R_aload_n C ul_0 rfl rfl ?_
  refine R_arraylength C ul_1 (A) rfl ?_
  refine R_iconst C ul_2 (v := 1) rfl ?_
  refine R_ishr C ul_3 ?_
  refine R_retI C ul_4 rfl (Nat.le_refl _) (Nat.le_refl _) ⟨?_, rfl⟩
  rw [hlf A.small]
theorem met_nl (l : Launch) (Z : State) (a0 : Array Value) (hw : ∀ d ∈ tables_1, d.before a0 Z = true) (nw : Prop) (EL : List (String × Nat)) (hEL : EW Z a0 EL) (h : Heap) (x : Int32) (h0 : 0 ≤ x.toInt) (h1 : x.toInt < 1000000) :
    Met l Z nw EL ⟨UTF, "newBytesLength", "(I)I"⟩ jdk_52_method_3_code 1 (some .int) ⟨0, 0, 0, 0⟩ #[.int x] h [] (fun v h' => v = some (.int (x <<< ((1 : Int32) &&& 31))) ∧ h' = h) := by
  refine Met.mk (a0 := a0) hEL pn_utf ?_
  intro p e s m below meth c C hE hS
  rw [efI1]
  refine R_iload_n C nl_0 rfl ?_
  refine R_if C nl_1 (fun _ => ?_) (fun (hc : ¬ ¬ x < 0) => absurd (show ¬ x < 0 from ?_) hc)
  · refine R_iload_n C nl_12 rfl ?_
    refine R_ldcInt C nl_13 (hw _ (List.mem_of_getElem? (i := 231) rfl)) ?_
    refine R_icmp C nl_15 (fun _ => ?_) (fun (hc : ¬ x < 1073741823) => absurd (Int32.lt_iff_toInt_lt.mpr (by rw [show (1073741823 : Int32).toInt = 1073741823 from rfl]; omega)) hc)
    refine R_iload_n C nl_55 rfl ?_
    refine R_iconst C nl_56 (v := 1) rfl ?_
    refine R_ishl C nl_57 ?_
    exact R_retI C nl_58 rfl (Nat.le_refl _) (Nat.le_refl _) ⟨rfl, rfl⟩
  · rw [Int32.lt_iff_toInt_lt, Int32.toInt_zero]; omega
theorem met_nf (l : Launch) (Z : State) (a0 : Array Value) (hw : ∀ d ∈ tables_1, d.before a0 Z = true) (nw : Prop) (EL : List (String × Nat)) (hEL : EW Z a0 EL) (h : Heap) (x : Int32) (n cap : Nat) (hx : x.toInt = n) (hn : n < 1000000) (hcap : 2 * n ≤ cap) (hc8 : cap * 8 ≤ 536870912) :
    Met l Z nw EL ⟨UTF, "newBytesFor", "(I)[B"⟩ jdk_52_method_2_code 1 (some (.array .byte)) ⟨1, 1, cap, 12⟩ #[.int x] h [] (fun v h' => v = some (.ref h.size) ∧ Ext h h' ∧ AR Z h' h.size .byte (2 * n) (fun _ => .int 0)) := by
  have hd := dbl (x := x) (by omega) (by omega)
  refine Met.mk (a0 := a0) hEL pn_utf ?_
  intro p e s m below meth c C hE hS
  rw [efI1]
  refine R_iload_n C nf_0 rfl ?_
  refine R_static C [.int x] nf_1 (met_nl l Z a0 hw nw EL hEL h x (by omega) (by omega)) (by first | exact fun z => z | exact fun _ => trivial) (hw _ (List.mem_of_getElem? (i := 228) rfl)) (hw _ (List.mem_of_getElem? (i := 229) rfl)) (hw _ (List.mem_of_getElem? (i := 22) rfl)) (hw _ (List.mem_of_getElem? (i := 230) rfl)) (by decide) pd_9 rfl rfl rfl (Nat.le_of_ble_eq_true rfl) (Nat.le_of_ble_eq_true rfl) (Nat.zero_le _) (Nat.zero_le _) (fun _ q => nomatch q) ?_
  intro v vm2 h2 hQ hsz2 hSf2 hFr
  obtain ⟨rfl, rfl⟩ := hQ
  simp only [Option.toList_some, List.cons_append, List.nil_append]
  refine R_newarray C cap nf_4 (hw _ (List.mem_of_getElem? (i := 24) rfl)) (N := 2 * n) (by omega) hcap hc8 (Nat.le_refl _) (Nat.le_of_eq (by simp)) rfl ?_
  intro h1 E1 D1 S1 Sf1
  exact R_areturn C nf_6 rfl rfl rfl (Nat.le_refl _) (Nat.le_of_eq (by simp)) ⟨rfl, E1, D1⟩
theorem met_pu (l : Launch) (Z : State) (a0 : Array Value) (hw : ∀ d ∈ tables_1, d.before a0 Z = true) (nw : Prop) (EL : List (String × Nat)) (hEL : EW Z a0 EL) (SX : SU Z) (h : Heap) (b : Addr) (N i : Nat) (f : Nat → Value) (A : AR Z h b .byte N f) (hb : Z.heap.size ≤ b) (iI c : Int32) (hi : iI.toInt = i) (hi2 : 2 * i + 1 < N) (hN : N < 1000000) :
    Met l Z nw EL ⟨UTF, "putChar", "([BII)V"⟩ jdk_52_method_4_code 3 none ⟨0, 0, 0, 0⟩ #[.ref b, .int iI, .int c] h [b] (fun v h' => v = none ∧ Keep h h' [b] ∧ AR Z h' b .byte N (upd (upd f (2 * i) (by8 c)) (2 * i + 1) (by8 (c >>> ((8 : Int32) &&& 31))))) := by
  have hd := dbl (x := iI) (by omega) (by omega)
  have one : (1 : Int32).toInt = 1 := rfl
  have hd1 := Jvm.Kit.i32_add (p := iI <<< ((1 : Int32) &&& 31)) (q := 1) (by omega) (by omega)
  refine Met.mk (a0 := a0) hEL pn_utf ?_
  intro p e s m below meth cc C hE hS
  rw [efRII3]
  refine R_getstatic C pu_0 (hw _ (List.mem_of_getElem? (i := 235) rfl)) Via.refl (SX.1.ext hE) ?_
  refine R_if C pu_3 (fun _ => ?_) (fun (hc : ¬ ¬ (1 : Int32) = 0) => absurd (by decide) hc)
  refine R_iload_n C pu_28 rfl ?_
  refine R_iconst C pu_29 (v := 1) rfl ?_
  refine R_ishl C pu_30 ?_
  refine R_istore_n C pu_31 rfl ?_
  simp only [fv0, fv1, fv2, fv3, List.set_cons_zero, List.set_cons_succ]
  refine R_aload_n C pu_32 rfl rfl ?_
  refine R_iload_n C pu_33 rfl ?_
  refine R_iinc C pu_34 rfl rfl (dI := 1) rfl rfl ?_
  simp only [fv0, fv1, fv2, fv3, List.set_cons_zero, List.set_cons_succ]
  refine R_iload_n C pu_37 rfl ?_
  refine R_getstatic C pu_38 (hw _ (List.mem_of_getElem? (i := 236) rfl)) Via.refl (SX.2.1.ext hE) ?_
  refine R_ishr C pu_41 ?_
  refine R_i2b C pu_42 ?_
  refine R_bastore C (2 * i) pu_43 A (by omega) (by omega) hb (hS b (List.mem_singleton.mpr rfl)) ?_
  intro h1 W1 A1 Sf1
  refine Run.know fun hE1 _ _ => ?_
  refine R_aload_n C pu_44 rfl rfl ?_
  refine R_iload_n C pu_45 rfl ?_
  refine R_iload_n C pu_46 rfl ?_
  refine R_getstatic C pu_47 (hw _ (List.mem_of_getElem? (i := 237) rfl)) Via.refl (SX.2.2.ext hE1) ?_
  refine R_ishr C pu_50 ?_
  refine R_i2b C pu_51 ?_
  refine R_bastore C (2 * i + 1) pu_52 A1 (by omega) (by omega) hb (Sf1 _ (hS b (List.mem_singleton.mpr rfl))) ?_
  intro h2 W2 A2 Sf2
  refine R_return C pu_53 rfl (Nat.le_refl _) (Nat.le_refl _) ⟨rfl, (Keep.of_wr W1).wr W2 (Or.inl (List.mem_singleton.mpr rfl)), ?_⟩
  rw [nar_byte_byte, nar_byte_byte, shr0] at A2
  exact A2
theorem met_gu (l : Launch) (Z : State) (a0 : Array Value) (hw : ∀ d ∈ tables_1, d.before a0 Z = true) (nw : Prop) (EL : List (String × Nat)) (hEL : EW Z a0 EL) (SX : SU Z) (h : Heap) (b : Addr) (n i : Nat) (g : Nat → Int32) (A : AR Z h b .byte (2 * n) (ub g)) (iI : Int32) (hi : iI.toInt = i) (hin : i < n) (hN : n < 400000) (hg : 0 ≤ (g i).toInt ∧ (g i).toInt ≤ 65535) :
    Met l Z nw EL ⟨UTF, "getChar", "([BI)C"⟩ jdk_52_method_5_code 2 (some .char) ⟨0, 0, 0, 0⟩ #[.ref b, .int iI] h [] (fun v h' => v = some (.int (g i)) ∧ h' = h) := by
  have hd := dbl (x := iI) (by omega) (by omega)
  have one : (1 : Int32).toInt = 1 := rfl
  have hd1 := Jvm.Kit.i32_add (p := iI <<< ((1 : Int32) &&& 31)) (q := 1) (by omega) (by omega)
  have e1 : ub g (2 * i) = by8 (g i) := by
    unfold ub
    rw [if_pos (by omega), show 2 * i / 2 = i by omega]
  have e2 : ub g (2 * i + 1) = by8 (g i >>> ((8 : Int32) &&& 31)) := by
    unfold ub
    rw [if_neg (by omega), show (2 * i + 1) / 2 = i by omega]
  refine Met.mk (a0 := a0) hEL pn_utf ?_
  intro p e s m below meth cc C hE hS
  rw [efRI2]
  refine R_getstatic C gu_0 (hw _ (List.mem_of_getElem? (i := 235) rfl)) Via.refl (SX.1.ext hE) ?_
  refine R_if C gu_3 (fun _ => ?_) (fun (hc : ¬ ¬ (1 : Int32) = 0) => absurd (by decide) hc)
  refine R_iload_n C gu_28 rfl ?_
  refine R_iconst C gu_29 (v := 1) rfl ?_
  refine R_ishl C gu_30 ?_
  refine R_istore_n C gu_31 rfl ?_
  simp only [fv0, fv1, fv2, fv3, List.set_cons_zero, List.set_cons_succ]
  refine R_aload_n C gu_32 rfl rfl ?_
  refine R_iload_n C gu_33 rfl ?_
  refine R_iinc C gu_34 rfl rfl (dI := 1) rfl rfl ?_
  simp only [fv0, fv1, fv2, fv3, List.set_cons_zero, List.set_cons_succ]
  refine R_baload C (2 * i) gu_37 A (by omega) (by omega) e1 ?_
  refine R_sipush C gu_38 (v := 255) rfl ?_
  refine R_iand C gu_41 ?_
  refine R_getstatic C gu_42 (hw _ (List.mem_of_getElem? (i := 236) rfl)) Via.refl (SX.2.1.ext hE) ?_
  refine R_ishl C gu_45 ?_
  refine R_aload_n C gu_46 rfl rfl ?_
  refine R_iload_n C gu_47 rfl ?_
  refine R_baload C (2 * i + 1) gu_48 A (by omega) (by omega) e2 ?_
  refine R_sipush C gu_49 (v := 255) rfl ?_
  refine R_iand C gu_52 ?_
  refine R_getstatic C gu_53 (hw _ (List.mem_of_getElem? (i := 237) rfl)) Via.refl (SX.2.2.ext hE) ?_
  refine R_ishl C gu_56 ?_
  refine R_ior C gu_57 ?_
  refine R_i2c C gu_58 ?_
  refine R_retN C gu_59 rfl (Or.inr (Or.inr (Or.inl rfl))) (Nat.le_refl _) (Nat.le_refl _) ⟨?_, rfl⟩
  rw [nar_nar_char, chr_back hg.1 hg.2]
theorem met_tb (l : Launch) (Z : State) (a0 : Array Value) (hw : ∀ d ∈ tables_1, d.before a0 Z = true) (nw : Prop) (EL : List (String × Nat)) (hEL : EW Z a0 EL) (SX : SU Z) (h : Heap) (val : Addr) (Nc off len cap : Nat) (g : Nat → Int32) (A : AR Z h val .char Nc (fun i => .int (g i))) (hb : off + len ≤ Nc) (hlen : len < 100000) (hcap : 2 * len ≤ cap) (hc8 : cap * 8 ≤ 536870912) (offI lenI : Int32) (ho : offI.toInt = off) (hl : lenI.toInt = len) :
    Met l Z nw EL ⟨UTF, "toBytes", "([CII)[B"⟩ jdk_52_method_14_code 5 (some (.array .byte)) ⟨2, 1, cap, 24⟩ #[.ref val, .int offI, .int lenI] h [] (fun v h' => v = some (.ref h.size) ∧ Ext h h' ∧ AR Z h' h.size .byte (2 * len) (ub fun i => g (off + i))) := by
  have h31 := A.small
  refine Met.mk (a0 := a0) hEL pn_utf ?_
  intro p e s m below meth c C hE hS
  rw [eftb]
  have one : (1 : Int32).toInt = 1 := rfl
  have loop : ∀ (t i : Nat) (vm : Vm) (h1 : Heap) (oI iI : Int32), i + t = len → oI.toInt = (off + i : Nat) → iI.toInt = i → Ext h h1 → AR Z h1 h.size .byte (2 * len) (fun j => if j < 2 * i then ub (fun k => g (off + k)) j else .int 0) → Safe Z EL vm h1 h.size →
      Run p l e ⟨2, 1, cap, 24⟩ s m #[.ref val, .int offI, .int lenI] below meth c Z nw EL (Kf s Z nw EL ⟨2, 1, cap, 24⟩ (fun v h' => v = some (.ref h.size) ∧ Ext h h' ∧ AR Z h' h.size .byte (2 * len) (ub fun i => g (off + i)))) vm h1 (0 + 1) (0 + cap) (fr m 8 [.val (.ref val), .val (.int oI), .val (.int lenI), .val (.ref h.size), .val (.int iI)] []) := by
    intro t
    induction t with
    | zero =>
      intro i vm h1 oI iI ht q1 q2 E1 D1 S1
      have hi' : i = len := by omega
      subst hi'
      refine R_iload C tb_8 rfl ?_
      refine R_iload_n C tb_10 rfl ?_
      refine R_icmp C tb_11 (fun _ => ?_) (fun (hc : ¬ ¬ iI < lenI) => absurd (show ¬ iI < lenI from ?_) hc)
      · refine R_aload_n C tb_32 rfl rfl ?_
        exact R_areturn C tb_33 rfl rfl rfl (Nat.le_refl _) (Nat.le_of_eq (Nat.zero_add _)) ⟨rfl, E1, D1.cg fun j hj => by rw [if_pos hj]⟩
      · rw [Int32.lt_iff_toInt_lt]; omega
    | succ t ih =>
      intro i vm h1 oI iI ht q1 q2 E1 D1 S1
      have r1 := Jvm.Kit.i32_add (p := oI) (q := 1) (by omega) (by omega)
      have r2 := Jvm.Kit.i32_add (p := iI) (q := 1) (by omega) (by omega)
      refine R_iload C tb_8 rfl ?_
      refine R_iload_n C tb_10 rfl ?_
      refine R_icmp C tb_11 (fun (hc : ¬ iI < lenI) => absurd (Int32.lt_iff_toInt_lt.mpr (by omega)) hc) (fun _ => ?_)
      refine R_aload_n C tb_14 rfl rfl ?_
      refine R_iload C tb_15 rfl ?_
      refine R_aload_n C tb_17 rfl rfl ?_
      refine R_iload_n C tb_18 rfl ?_
      refine R_caload C (off + i) tb_19 (A.ext E1) q1 (by omega) rfl ?_
      refine R_static C [.ref h.size, .int iI, .int (g (off + i))] tb_20 (met_pu l Z a0 hw nw EL hEL SX h1 h.size (2 * len) i _ D1 hE.1 iI (g (off + i)) q2 (by omega) (by omega)) (by first | exact fun z => z | exact fun _ => trivial) (hw _ (List.mem_of_getElem? (i := 232) rfl)) (hw _ (List.mem_of_getElem? (i := 233) rfl)) (hw _ (List.mem_of_getElem? (i := 22) rfl)) (hw _ (List.mem_of_getElem? (i := 234) rfl)) (by decide) pd_10 rfl rfl rfl (Nat.le_of_ble_eq_true rfl) (Nat.le_of_ble_eq_true rfl) (Nat.le_refl _) (Nat.le_of_eq (by simp)) (fun x hx => by cases List.mem_singleton.mp hx; exact S1) ?_
      intro v vm2 h2 hQ hsz2 hSf2 hFr
      obtain ⟨rfl, K2, D2⟩ := hQ
      simp only [Option.toList_none, List.nil_append]
      refine R_iinc C tb_23 rfl rfl (dI := 1) rfl rfl ?_
      simp only [fv0, fv1, fv2, fv3, List.set_cons_zero, List.set_cons_succ]
      refine R_iinc C tb_26 rfl rfl (dI := 1) rfl rfl ?_
      simp only [fv0, fv1, fv2, fv3, List.set_cons_zero, List.set_cons_succ]
      refine R_goto C tb_29 ?_
      refine ih (i + 1) vm2 h2 _ _ (by omega) (by omega) (by omega) (E1.keep' K2 fun x hx => by cases List.mem_singleton.mp hx; exact Nat.le_refl _) (D2.cg fun j hj => ?_) (hSf2 _ D1.lt S1)
      unfold Own.upd
      by_cases z1 : j = 2 * i + 1
      · subst z1
        rw [if_pos rfl, if_pos (by omega)]
        unfold ub
        rw [if_neg (by omega), show (2 * i + 1) / 2 = i by omega]
      · rw [if_neg z1]
        by_cases z2 : j = 2 * i
        · subst z2
          rw [if_pos rfl, if_pos (by omega)]
          unfold ub
          rw [if_pos (by omega), show 2 * i / 2 = i by omega]
        · rw [if_neg z2]
          by_cases z3 : j < 2 * i
          · simp only [if_pos z3, if_pos (show j < 2 * (i + 1) by omega)]
          · simp only [if_neg z3, if_neg (show ¬ j < 2 * (i + 1) by omega)]
  refine R_iload_n C tb_0 rfl ?_
  refine R_static C [.int lenI] tb_1 (met_nf l Z a0 hw True EL hEL h lenI len cap hl (by omega) hcap hc8) (by first | exact fun z => z | exact fun _ => trivial) (hw _ (List.mem_of_getElem? (i := 225) rfl)) (hw _ (List.mem_of_getElem? (i := 226) rfl)) (hw _ (List.mem_of_getElem? (i := 22) rfl)) (hw _ (List.mem_of_getElem? (i := 227) rfl)) (by decide) pd_11 rfl rfl rfl (Nat.le_of_ble_eq_true rfl) (Nat.le_of_ble_eq_true rfl) (Nat.le_refl _) (Nat.le_of_eq (Nat.zero_add _)) (fun _ q => nomatch q) ?_
  intro v vm1 h1 hQ hsz1 hSf1 hFr
  obtain ⟨rfl, E1, D1⟩ := hQ
  simp only [Option.toList_some, List.cons_append, List.nil_append]
  have S1 : Safe Z EL vm1 h1 h.size := hFr trivial _ (Nat.le_refl _)
  refine R_astore_n C tb_4 rfl rfl rfl ?_
  simp only [fv0, fv1, fv2, fv3, List.set_cons_zero, List.set_cons_succ]
  refine R_iconst C tb_5 (v := 0) rfl ?_
  refine R_istore C tb_6 rfl ?_
  simp only [fv0, fv1, fv2, fv3, List.set_cons_zero, List.set_cons_succ]
  exact loop len 0 vm1 h1 _ _ (by omega) (by omega) rfl E1 (D1.cg fun j hj => by rw [if_neg (by omega)]) S1
theorem met_cpU (l : Launch) (Z : State) (a0 : Array Value) (hw : ∀ d ∈ tables_1, d.before a0 Z = true) (nw : Prop) (EL : List (String × Nat)) (hEL : EW Z a0 EL) (SX : SU Z) (h : Heap) (val : Addr) (Nc off len cap : Nat) (g : Nat → Int32) (A : AR Z h val .char Nc (fun i => .int (g i))) (hb : off + len ≤ Nc) (hlen : len < 100000) (hcap : 2 * len ≤ cap) (hc8 : cap * 8 ≤ 536870912) (offI lenI : Int32) (ho : offI.toInt = off) (hl : lenI.toInt = len) (hg : ∀ i, i < len → 0 ≤ (g (off + i)).toInt ∧ (g (off + i)).toInt ≤ 65535) (hwide : ¬ ∀ i, i < len → (g (off + i)).toInt ≤ 255) :
    Met l Z nw EL ⟨UTF, "compress", "([CII)[B"⟩ jdk_52_method_16_code 6 (some (.array .byte)) ⟨3, 2, cap + cap, 40⟩ #[.ref val, .int offI, .int lenI] h [] (fun v h' => ∃ b, v = some (.ref b) ∧ h.size ≤ b ∧ Ext h h' ∧ AR Z h' b .byte (2 * len) (ub fun i => g (off + i))) := by
  refine Met.mk (a0 := a0) hEL pn_utf ?_
  intro p e s m below meth c C hE hS
  rw [efc6]
  refine R_iload_n C cp_0 rfl ?_
  refine R_newarray C cap cp_1 (hw _ (List.mem_of_getElem? (i := 24) rfl)) hl (by omega) hc8 (Nat.le_of_ble_eq_true rfl) (by show 0 + cap ≤ cap + cap; omega) rfl ?_
  intro h1 E1 D1 S1 Sf1
  refine R_astore_n C cp_3 rfl rfl rfl ?_
  simp only [fv0, fv1, fv2, fv3, List.set_cons_zero, List.set_cons_succ]
  refine R_aload_n C cp_4 rfl rfl ?_
  refine R_iload_n C cp_5 rfl ?_
  refine R_aload_n C cp_6 rfl rfl ?_
  refine R_iconst C cp_7 (v := 0) rfl ?_
  refine R_iload_n C cp_8 rfl ?_
  refine R_static C [.ref val, .int offI, .ref h.size, .int 0, .int lenI] cp_9 (met_cl l Z a0 hw True EL hEL h1 val h.size Nc off len g _ (A.ext E1) D1 (Nat.ne_of_lt A.lt) hb hE.1 offI lenI ho hl) (by first | exact fun z => z | exact fun _ => trivial) (hw _ (List.mem_of_getElem? (i := 25) rfl)) (hw _ (List.mem_of_getElem? (i := 26) rfl)) (hw _ (List.mem_of_getElem? (i := 22) rfl)) (hw _ (List.mem_of_getElem? (i := 27) rfl)) (by decide) pd_1 rfl rfl rfl (Nat.le_of_ble_eq_true rfl) (Nat.le_of_ble_eq_true rfl) (Nat.le_of_ble_eq_true rfl) (by show 0 + cap + 0 ≤ cap + cap; omega) (fun x hx => by cases List.mem_singleton.mp hx; exact S1) ?_
  intro v vm2 h2 hQ hsz2 hSf2 hFr
  obtain ⟨r, rI, rfl, hr1, hr2, hr3, hr4, K2, D2⟩ := hQ
  have hrl : r < len := by
    rcases Nat.lt_or_ge r len with z | z
    · exact z
    · exact absurd (fun i hi => hr3 i (by omega)) hwide
  have E2 : Ext h h2 := E1.keep' K2 fun x hx => by cases List.mem_singleton.mp hx; exact Nat.le_refl _
  simp only [Option.toList_some, List.cons_append, List.nil_append]
  refine R_istore C cp_12 rfl ?_
  simp only [fv0, fv1, fv2, fv3, List.set_cons_zero, List.set_cons_succ]
  refine R_iload C cp_14 rfl ?_
  refine R_iload_n C cp_16 rfl ?_
  refine R_icmp C cp_17 (fun (hc : rI = lenI) => absurd (congrArg Int32.toInt hc) (by omega)) (fun _ => ?_)
  refine R_aload_n C cp_20 rfl rfl ?_
  refine R_iload_n C cp_21 rfl ?_
  refine R_iload_n C cp_22 rfl ?_
  refine R_static C [.ref val, .int offI, .int lenI] cp_23 (met_tb l Z a0 hw True EL hEL SX h2 val Nc off len cap g (A.ext E2) hb hlen hcap hc8 offI lenI ho hl) (by first | exact fun z => z | exact fun _ => trivial) (hw _ (List.mem_of_getElem? (i := 222) rfl)) (hw _ (List.mem_of_getElem? (i := 223) rfl)) (hw _ (List.mem_of_getElem? (i := 22) rfl)) (hw _ (List.mem_of_getElem? (i := 224) rfl)) (by decide) pd_2 rfl rfl rfl (Nat.le_of_ble_eq_true rfl) (Nat.le_of_ble_eq_true rfl) (Nat.le_of_ble_eq_true rfl) (by show 0 + cap + 0 + cap ≤ cap + cap; omega) (fun _ q => nomatch q) ?_
  intro v vm3 h3 hQ hsz3 hSf3 hFr
  obtain ⟨rfl, E3, D3⟩ := hQ
  simp only [Option.toList_some, List.cons_append, List.nil_append]
  refine R_astore C cp_26 rfl rfl rfl ?_
  simp only [fv0, fv1, fv2, fv3, List.set_cons_zero, List.set_cons_succ]
  refine R_aload C cp_28 rfl rfl ?_
  refine R_iload C cp_30 rfl ?_
  refine R_static C [.ref h2.size, .int rI] cp_32 (met_gu l Z a0 hw True EL hEL SX h3 h2.size len r _ D3 rI hr1 hrl (by omega) (hg r hrl)) (by first | exact fun z => z | exact fun _ => trivial) (hw _ (List.mem_of_getElem? (i := 238) rfl)) (hw _ (List.mem_of_getElem? (i := 239) rfl)) (hw _ (List.mem_of_getElem? (i := 22) rfl)) (hw _ (List.mem_of_getElem? (i := 240) rfl)) (by decide) pd_8 rfl rfl rfl (Nat.le_of_ble_eq_true rfl) (Nat.le_of_ble_eq_true rfl) (Nat.le_of_ble_eq_true rfl) (by show 0 + cap + 0 + cap + 0 ≤ cap + cap; omega) (fun _ q => nomatch q) ?_
  intro v vm4 h4 hQ hsz4 hSf4 hFr
  obtain ⟨rfl, rfl⟩ := hQ
  simp only [Option.toList_some, List.cons_append, List.nil_append]
  refine R_sipush C cp_35 (v := 255) rfl ?_
  refine R_icmp C cp_38 (fun _ => ?_) (fun (hc : ¬ (255 : Int32) < g (off + r)) => absurd (Int32.lt_iff_toInt_lt.mpr (by rw [show (255 : Int32).toInt = 255 from rfl]; exact hr4 hrl)) hc)
  refine R_aload C cp_54 rfl rfl ?_
  exact R_areturn C cp_56 rfl rfl rfl (Nat.le_of_ble_eq_true rfl) (by show 0 + cap + 0 + cap + 0 ≤ cap + cap; omega) ⟨_, rfl, Nat.le_trans E1.1 hsz2, E2.tr E3, D3⟩
theorem cfu : ∀ k : Fin 100, 0 < k.val → (XT.ushr (Int32.ofNat k.val - Int32.ofNat (2 * k.val)) 31).toInt8.toInt32 = 1 := by decide +kernel
theorem met_cfU (l : Launch) (Z : State) (a0 : Array Value) (hw : ∀ d ∈ tables_1, d.before a0 Z = true) (nw : Prop) (EL : List (String × Nat)) (hEL : EW Z a0 EL) (h : Heap) (b : Addr) (len : Nat) (f : Nat → Value) (A : AR Z h b .byte (2 * len) f) (lenI : Int32) (hl : lenI.toInt = len) (h0 : 0 < len) (h1 : len < 100) :
    Met l Z nw EL ⟨UTF, "coderFromArrayLen", "([BI)B"⟩ jdk_52_method_15_code 2 (some .byte) ⟨0, 0, 0, 0⟩ #[.ref b, .int lenI] h [] (fun v h' => v = some (.int 1) ∧ h' = h) := by
  refine Met.mk (a0 := a0) hEL pn_utf ?_
  intro p e s m below meth c C hE hS
  rw [efRI2]
  have hll : lenI = Int32.ofNat len := Int32.toInt_inj.mp (by rw [Int32.toInt_ofNat_small (by omega)]; omega)
  subst hll
  refine R_iload_n C cf_0 rfl ?_
  refine R_aload_n C cf_1 rfl rfl ?_
  refine R_arraylength C cf_2 (A) rfl ?_
  refine R_isub C cf_3 ?_
  refine R_bipush C cf_4 (v := 31) rfl ?_
  refine R_iushr C cf_6 ?_
  refine R_i2b C cf_7 ?_
  refine R_retN C cf_8 rfl (Or.inr (Or.inl rfl)) (Nat.le_refl _) (Nat.le_refl _) ⟨?_, rfl⟩
  have z := cfu ⟨len, h1⟩ h0
  dsimp only at z
  rw [show (2 * len).toInt32 = Int32.ofNat (2 * len) from rfl, z]
  rfl
def InU (Z : State) (h : Heap) (a : Addr) (len : Nat) (g : Nat → Int32) (v : Option Value) (h' : Heap) : Prop := v = none ∧ Keep h h' [a] ∧ ∃ b, StrU Z h' a b len g
theorem met_i6U (l : Launch) (Z : State) (a0 : Array Value) (hw : ∀ d ∈ tables_1, d.before a0 Z = true) (nw : Prop) (EL : List (String × Nat)) (hEL : EW Z a0 EL) (cs : Int32) (fm : Value) (S : SS Z cs fm) (SX : SU Z) (h : Heap) (a val : Addr) (Nc off len cap : Nat) (g : Nat → Int32) (A : AR Z h val .char Nc (fun i => .int (g i))) (hb : off + len ≤ Nc) (hlen : len < 100) (hcap : 2 * len ≤ cap) (hc8 : cap * 8 ≤ 536870912) (offI lenI : Int32) (ho : offI.toInt = off) (hl : lenI.toInt = len) (hg : ∀ i, i < len → 0 ≤ (g (off + i)).toInt ∧ (g (off + i)).toInt ≤ 65535) (hwide : ¬ ∀ i, i < len → (g (off + i)).toInt ≤ 255) (vo : Value) (hvo : vo.category = 1)
    (E : Exa Z h a STR) (F1 : Fld Z h a STR "value" "[B" .null) (F2 : Fld Z h a STR "coder" "B" (.int 0)) (ha : Z.heap.size ≤ a) :
    Met l Z nw EL ⟨STR, "<init>", "([CIILjava/lang/Void;)V"⟩ jdk_42_method_149_code 6 none ⟨4, 2, cap + cap, 57⟩ #[.ref a, .ref val, .int offI, .int lenI, vo] h [a] (InU Z h a len (fun i => g (off + i))) := by
  have Lv : Laid Z a0 STR STR "value" "[B" := Or.inr (hw _ (List.mem_of_getElem? (i := 34) rfl))
  have Lc : Laid Z a0 STR STR "coder" "B" := Or.inr (hw _ (List.mem_of_getElem? (i := 32) rfl))
  have nvc := slot_ne Lv Lc (by decide) (t := .array .byte) (t' := .byte) (by decide) (by decide)
  have ncv := slot_ne Lc Lv (by decide) (t := .byte) (t' := .array .byte) (by decide) (by decide)
  have hpos : 0 < len := by
    rcases Nat.eq_zero_or_pos len with z | z
    · exact absurd (fun i hi => by omega) hwide
    · exact z
  refine Met.mk (a0 := a0) hEL pn_str ?_
  intro p e s m below meth c C hE hS
  rw [efi6 m _ _ _ _ _ hvo]
  refine R_aload_n C i6_0 rfl rfl ?_
  refine R_initO C i6_1 (hw _ (List.mem_of_getElem? (i := 16) rfl)) (hw _ (List.mem_of_getElem? (i := 17) rfl)) (hw _ (List.mem_of_getElem? (i := 18) rfl)) rfl (Nat.le_of_ble_eq_true rfl) (Nat.le_of_ble_eq_true rfl) ?_
  refine R_iload_n C i6_4 rfl ?_
  refine R_if C i6_5 (fun _ => ?_) (fun (hc : ¬ ¬ lenI = 0) => absurd (show ¬ lenI = 0 from fun z => ?_) hc)
  · refine R_getstatic C i6_27 (hw _ (List.mem_of_getElem? (i := 19) rfl)) Via.refl (S.2.1.ext hE) ?_
    refine R_if C i6_30 (fun hc => absurd hc S.1) (fun _ => ?_)
    refine R_aload_n C i6_33 rfl rfl ?_
    refine R_iload_n C i6_34 rfl ?_
    refine R_iload_n C i6_35 rfl ?_
    refine R_static C [.ref val, .int offI, .int lenI] i6_36 (met_cpU l Z a0 hw nw EL hEL SX h val Nc off len cap g A hb (by omega) hcap hc8 offI lenI ho hl hg hwide) (by first | exact fun z => z | exact fun _ => trivial) (hw _ (List.mem_of_getElem? (i := 20) rfl)) (hw _ (List.mem_of_getElem? (i := 21) rfl)) (hw _ (List.mem_of_getElem? (i := 22) rfl)) (hw _ (List.mem_of_getElem? (i := 23) rfl)) (by decide) pd_2 rfl rfl rfl (Nat.le_of_ble_eq_true rfl) (Nat.le_of_ble_eq_true rfl) (Nat.le_refl _) (Nat.le_of_eq (Nat.zero_add _)) (fun _ q => nomatch q) ?_
    intro v vm2 h2 hQ hsz2 hSf2 hFr
    obtain ⟨b, rfl, hbn, E2, D2⟩ := hQ
    simp only [Option.toList_some, List.cons_append, List.nil_append]
    refine R_astore C i6_39 rfl rfl rfl ?_
    simp only [fv0, fv1, fv2, fv3, List.set_cons_zero, List.set_cons_succ]
    refine R_aload_n C i6_41 rfl rfl ?_
    refine R_aload C i6_42 rfl rfl ?_
    refine R_iload_n C i6_44 rfl ?_
    refine R_static C [.ref b, .int lenI] i6_45 (met_cfU l Z a0 hw nw EL hEL h2 b len _ D2 lenI hl hpos hlen) (by first | exact fun z => z | exact fun _ => trivial) (hw _ (List.mem_of_getElem? (i := 28) rfl)) (hw _ (List.mem_of_getElem? (i := 29) rfl)) (hw _ (List.mem_of_getElem? (i := 22) rfl)) (hw _ (List.mem_of_getElem? (i := 30) rfl)) (by decide) pd_3 rfl rfl rfl (Nat.le_of_ble_eq_true rfl) (Nat.le_of_ble_eq_true rfl) (Nat.le_refl _) (Nat.le_of_eq (by simp)) (fun _ q => nomatch q) ?_
    intro v vm3 h3 hQ hsz3 hSf3 hFr
    obtain ⟨rfl, rfl⟩ := hQ
    have Sa : Safe Z EL vm3 h3 a := hSf3 a (E.ext E2).lt (hSf2 a E.lt (hS a (List.mem_singleton.mpr rfl)))
    refine R_putfield C i6_48 (hw _ (List.mem_of_getElem? (i := 31) rfl)) Via.refl (F2.ext E2) (E.ext E2) (Or.inr ⟨(hw _ (List.mem_of_getElem? (i := 32) rfl)), rfl, rfl⟩) (hw _ (List.mem_of_getElem? (i := 7) rfl)) (ty := .byte) (by decide) rfl rfl ha Sa ?_
    intro h4 W4 Sf4
    refine R_aload_n C i6_51 rfl rfl ?_
    refine R_aload C i6_52 rfl rfl ?_
    refine R_putfield C i6_54 (hw _ (List.mem_of_getElem? (i := 33) rfl)) Via.refl ((F1.ext E2).other W4 (Or.inr nvc)) ((E.ext E2).wr W4) (Or.inr ⟨(hw _ (List.mem_of_getElem? (i := 34) rfl)), rfl, rfl⟩) (hw _ (List.mem_of_getElem? (i := 7) rfl)) (ty := .array .byte) (by decide) rfl rfl ha (Sf4 _ Sa) ?_
    intro h5 W5 Sf5
    have ne : b ≠ a := Nat.ne_of_gt (Nat.lt_of_lt_of_le E.lt hbn)
    refine R_return C i6_57 rfl (Nat.le_refl _) (Nat.le_of_eq (by simp)) ⟨rfl, ?_, b, ((E.ext E2).wr W4).wr W5, ((F1.ext E2).other W4 (Or.inr nvc)).same W5, ((F2.ext E2).same W4).other W5 (Or.inr ncv), (D2.other W4 ne).other W5 ne, hg⟩
    exact ((Keep.ofExt E2).wr W4 (Or.inl (List.mem_singleton.mpr rfl))).wr W5 (Or.inl (List.mem_singleton.mpr rfl))
  · rw [z] at hl
    rw [Int32.toInt_zero] at hl
    omega
theorem uk_0 : Dc jdk_52_method_91_code 0 (.iload_n 0) 1 1 := ⟨by decide +kernel, rfl⟩
theorem uk_1 : Dc jdk_52_method_91_code 1 (.aload_n 1) 1 2 := ⟨by decide +kernel, rfl⟩
theorem uk_2 : Dc jdk_52_method_91_code 2 (.invokestatic 48) 3 5 := ⟨by decide +kernel, rfl⟩
theorem uk_5 : Dc jdk_52_method_91_code 5 (.invokestatic 414) 3 8 := ⟨by decide +kernel, rfl⟩
theorem uk_8 : Dc jdk_52_method_91_code 8 (.return_) 1 9 := ⟨by decide +kernel, rfl⟩
theorem uc_0 : Dc jdk_52_method_83_code 0 (.iload_n 1) 1 1 := ⟨by decide +kernel, rfl⟩
theorem uc_1 : Dc jdk_52_method_83_code 1 (.aload_n 0) 1 2 := ⟨by decide +kernel, rfl⟩
theorem uc_2 : Dc jdk_52_method_83_code 2 (.invokestatic 67) 3 5 := ⟨by decide +kernel, rfl⟩
theorem uc_5 : Dc jdk_52_method_83_code 5 (.aload_n 0) 1 6 := ⟨by decide +kernel, rfl⟩
theorem uc_6 : Dc jdk_52_method_83_code 6 (.iload_n 1) 1 7 := ⟨by decide +kernel, rfl⟩
theorem uc_7 : Dc jdk_52_method_83_code 7 (.invokestatic 71) 3 10 := ⟨by decide +kernel, rfl⟩
theorem uc_10 : Dc jdk_52_method_83_code 10 (.ireturn) 1 11 := ⟨by decide +kernel, rfl⟩
theorem efIR2 (m : MethodId) (x0 : Int32) (x1 : Addr) : entryFrame m #[(.int x0), (.ref x1)] 2 = fr m 0 [.val (.int x0), .val (.ref x1)] [] := by first | (simp [entryFrame, mkF, argsToLocals, Value.category]; done) | rfl
theorem met_uk (l : Launch) (Z : State) (a0 : Array Value) (hw : ∀ d ∈ tables_1, d.before a0 Z = true) (nw : Prop) (EL : List (String × Nat)) (hEL : EW Z a0 EL) (cs : Int32) (fm : Value) (S : SS Z cs fm) (h : Heap) (b : Addr) (n i : Nat) (f : Nat → Value) (A : AR Z h b .byte (2 * n) f) (iI : Int32) (hi : iI.toInt = i) (hin : i < n) :
    Met l Z nw EL ⟨UTF, "checkIndex", "(I[B)V"⟩ jdk_52_method_91_code 2 none ⟨2, 0, 0, 27⟩ #[.int iI, .ref b] h [] (fun v h' => v = none ∧ h' = h) := by
  have h31 := A.small
  refine Met.mk (a0 := a0) hEL pn_utf ?_
  intro p e s m below meth c C hE hS
  rw [efIR2]
  refine R_iload_n C uk_0 rfl ?_
  refine R_aload_n C uk_1 rfl rfl ?_
  refine R_static C [.ref b] uk_2 (met_ul l Z a0 hw nw EL hEL h b n f A) (by first | exact fun z => z | exact fun _ => trivial) (hw _ (List.mem_of_getElem? (i := 247) rfl)) (hw _ (List.mem_of_getElem? (i := 248) rfl)) (hw _ (List.mem_of_getElem? (i := 22) rfl)) (hw _ (List.mem_of_getElem? (i := 249) rfl)) (by decide) pd_12 rfl rfl rfl (Nat.le_of_ble_eq_true rfl) (Nat.le_of_ble_eq_true rfl) (Nat.le_of_ble_eq_true rfl) (Nat.le_of_ble_eq_true rfl) (fun _ q => nomatch q) ?_
  intro v vm2 h2 hQ hsz2 hSf2 hFr
  obtain ⟨rfl, rfl⟩ := hQ
  simp only [Option.toList_some, List.cons_append, List.nil_append]
  refine R_static C [.int iI, .int n.toInt32] uk_5 (met_ck l Z a0 hw nw EL hEL cs fm S h2 iI n.toInt32 (nn_of hi) (by rw [Int32.lt_iff_toInt_lt, len_toInt (by omega)]; omega)) (by first | exact fun z => z | exact fun _ => trivial) (hw _ (List.mem_of_getElem? (i := 250) rfl)) (hw _ (List.mem_of_getElem? (i := 67) rfl)) (hw _ (List.mem_of_getElem? (i := 8) rfl)) (hw _ (List.mem_of_getElem? (i := 68) rfl)) (by decide) pd_6 rfl rfl rfl (Nat.le_of_ble_eq_true rfl) (Nat.le_of_ble_eq_true rfl) (Nat.le_of_ble_eq_true rfl) (Nat.le_of_ble_eq_true rfl) (fun _ q => nomatch q) ?_
  intro v vm3 h3 hQ hsz3 hSf3 hFr
  obtain ⟨rfl, rfl⟩ := hQ
  exact R_return C uk_8 rfl (Nat.le_refl _) (Nat.le_refl _) ⟨rfl, rfl⟩
theorem met_uc (l : Launch) (Z : State) (a0 : Array Value) (hw : ∀ d ∈ tables_1, d.before a0 Z = true) (nw : Prop) (EL : List (String × Nat)) (hEL : EW Z a0 EL) (cs : Int32) (fm : Value) (S : SS Z cs fm) (SX : SU Z) (h : Heap) (b : Addr) (n i : Nat) (g : Nat → Int32) (A : AR Z h b .byte (2 * n) (ub g)) (iI : Int32) (hi : iI.toInt = i) (hin : i < n) (hN : n < 400000) (hg : 0 ≤ (g i).toInt ∧ (g i).toInt ≤ 65535) :
    Met l Z nw EL ⟨UTF, "charAt", "([BI)C"⟩ jdk_52_method_83_code 2 (some .char) ⟨3, 0, 0, 40⟩ #[.ref b, .int iI] h [] (fun v h' => v = some (.int (g i)) ∧ h' = h) := by
  refine Met.mk (a0 := a0) hEL pn_utf ?_
  intro p e s m below meth c C hE hS
  rw [efRI2]
  refine R_iload_n C uc_0 rfl ?_
  refine R_aload_n C uc_1 rfl rfl ?_
  refine R_static C [.int iI, .ref b] uc_2 (met_uk l Z a0 hw nw EL hEL cs fm S h b n i _ A iI hi hin) (by first | exact fun z => z | exact fun _ => trivial) (hw _ (List.mem_of_getElem? (i := 244) rfl)) (hw _ (List.mem_of_getElem? (i := 245) rfl)) (hw _ (List.mem_of_getElem? (i := 22) rfl)) (hw _ (List.mem_of_getElem? (i := 246) rfl)) (by decide) pd_13 rfl rfl rfl (Nat.le_of_ble_eq_true rfl) (Nat.le_of_ble_eq_true rfl) (Nat.le_of_ble_eq_true rfl) (Nat.le_of_ble_eq_true rfl) (fun _ q => nomatch q) ?_
  intro v vm2 h2 hQ hsz2 hSf2 hFr
  obtain ⟨rfl, rfl⟩ := hQ
  simp only [Option.toList_none, List.nil_append]
  refine R_aload_n C uc_5 rfl rfl ?_
  refine R_iload_n C uc_6 rfl ?_
  refine R_static C [.ref b, .int iI] uc_7 (met_gu l Z a0 hw nw EL hEL SX h2 b n i g A iI hi hin hN hg) (by first | exact fun z => z | exact fun _ => trivial) (hw _ (List.mem_of_getElem? (i := 238) rfl)) (hw _ (List.mem_of_getElem? (i := 239) rfl)) (hw _ (List.mem_of_getElem? (i := 22) rfl)) (hw _ (List.mem_of_getElem? (i := 240) rfl)) (by decide) pd_8 rfl rfl rfl (Nat.le_of_ble_eq_true rfl) (Nat.le_of_ble_eq_true rfl) (Nat.le_of_ble_eq_true rfl) (Nat.le_of_ble_eq_true rfl) (fun _ q => nomatch q) ?_
  intro v vm3 h3 hQ hsz3 hSf3 hFr
  obtain ⟨rfl, rfl⟩ := hQ
  simp only [Option.toList_some, List.cons_append, List.nil_append]
  exact R_retN C uc_10 rfl (Or.inr (Or.inr (Or.inl rfl))) (Nat.le_refl _) (Nat.le_refl _) ⟨by rw [nar_char_id hg.1 hg.2], rfl⟩
theorem met_charAtU (l : Launch) (Z : State) (a0 : Array Value) (hw : ∀ d ∈ tables_1, d.before a0 Z = true) (nw : Prop) (EL : List (String × Nat)) (hEL : EW Z a0 EL) (cs : Int32) (fm : Value) (S : SS Z cs fm) (SX : SU Z) (h : Heap) (a b : Addr) (n : Nat) (g : Nat → Int32) (X : StrU Z h a b n g) (iI : Int32) (i : Nat) (hi : iI.toInt = i) (hin : i < n) (hN : n < 400000) :
    Met l Z nw EL ⟨STR, "charAt", "(I)C"⟩ jdk_42_method_56_code 2 (some .char) ⟨4, 0, 0, 53⟩ #[.ref a, .int iI] h [] (fun v h' => v = some (.int (g i)) ∧ h' = h) := by
  obtain ⟨E, V, F, A, hg⟩ := X
  refine Met.mk (a0 := a0) hEL pn_str ?_
  intro p e s m below meth c C hE hS
  rw [efRI2]
  refine R_aload_n C ca_0 rfl rfl ?_
  refine R_virtual C [] ca_1 (met_isLat l Z a0 hw nw EL hEL cs fm S h a 1 F) (by first | exact fun z => z | exact fun _ => trivial) (E) (hw _ (List.mem_of_getElem? (i := 57) rfl)) (hw _ (List.mem_of_getElem? (i := 58) rfl)) (hw _ (List.mem_of_getElem? (i := 60) rfl)) (hw _ (List.mem_of_getElem? (i := 59) rfl)) (hw _ (List.mem_of_getElem? (i := 8) rfl)) (hw _ (List.mem_of_getElem? (i := 61) rfl)) (by decide) pd_7 rfl rfl rfl (Nat.le_of_ble_eq_true rfl) (Nat.le_of_ble_eq_true rfl) (Nat.le_of_ble_eq_true rfl) (Nat.le_of_ble_eq_true rfl) (fun _ q => nomatch q) ?_
  intro v vm' h' hQ hsz hSf hFr
  obtain ⟨rfl, rfl⟩ := hQ
  rw [if_neg (by decide)]
  simp only [Option.toList_some, List.cons_append, List.nil_append]
  refine R_if C ca_4 (fun _ => ?_) (fun (hc : ¬ (0 : Int32) = 0) => absurd rfl hc)
  refine R_aload_n C ca_16 rfl rfl ?_
  refine R_getfield C ca_17 (hw _ (List.mem_of_getElem? (i := 33) rfl)) Via.refl (V) ?_
  refine R_iload_n C ca_20 rfl ?_
  refine R_static C [.ref b, .int iI] ca_21 (met_uc l Z a0 hw nw EL hEL cs fm S SX h' b n i g A iI hi hin hN (hg i hin)) (by first | exact fun z => z | exact fun _ => trivial) (hw _ (List.mem_of_getElem? (i := 241) rfl)) (hw _ (List.mem_of_getElem? (i := 242) rfl)) (hw _ (List.mem_of_getElem? (i := 22) rfl)) (hw _ (List.mem_of_getElem? (i := 243) rfl)) (by decide) pd_8 rfl rfl rfl (Nat.le_of_ble_eq_true rfl) (Nat.le_of_ble_eq_true rfl) (Nat.le_of_ble_eq_true rfl) (Nat.le_of_ble_eq_true rfl) (fun _ q => nomatch q) ?_
  intro v vm2 h2 hQ hsz2 hSf2 hFr
  obtain ⟨rfl, rfl⟩ := hQ
  simp only [Option.toList_some, List.cons_append, List.nil_append]
  exact R_retN C ca_24 rfl (Or.inr (Or.inr (Or.inl rfl))) (Nat.le_refl _) (Nat.le_refl _) ⟨by rw [nar_char_id (hg i hin).1 (hg i hin).2], rfl⟩
theorem met_lengthU (l : Launch) (Z : State) (a0 : Array Value) (hw : ∀ d ∈ tables_1, d.before a0 Z = true) (nw : Prop) (EL : List (String × Nat)) (hEL : EW Z a0 EL) (cs : Int32) (fm : Value) (S : SS Z cs fm) (h : Heap) (a b : Addr) (n : Nat) (g : Nat → Int32) (X : StrU Z h a b n g) :
    Met l Z nw EL ⟨STR, "length", "()I"⟩ jdk_42_method_54_code 1 (some .int) ⟨1, 0, 0, 13⟩ #[.ref a] h [] (fun v h' => v = some (.int n.toInt32) ∧ h' = h) := by
  have q := met_length l Z a0 hw nw EL hEL cs fm S h a b (2 * n) _ 1 rfl X.1 X.2.2.1 X.2.1 X.2.2.2.1
  rw [hlf X.2.2.2.1.small] at q
  exact q
/-- the String at a spells g 0 .. g (n - 1) -/
def Str (Z : State) (h : Heap) (a : Addr) (n : Nat) (g : Nat → Int32) : Prop := ∃ b, StrL Z h a b n g ∨ StrU Z h a b n g
theorem Str.exa {Z : State} {h : Heap} {a : Addr} {n : Nat} {g : Nat → Int32} (X : Str Z h a n g) : Exa Z h a STR := by
  obtain ⟨b, X | X⟩ := X
  · exact X.1
  · exact X.1
theorem met_lengthS (l : Launch) (Z : State) (a0 : Array Value) (hw : ∀ d ∈ tables_1, d.before a0 Z = true) (nw : Prop) (EL : List (String × Nat)) (hEL : EW Z a0 EL) (cs : Int32) (fm : Value) (S : SS Z cs fm) (h : Heap) (a : Addr) (n : Nat) (g : Nat → Int32) (X : Str Z h a n g) :
    Met l Z nw EL ⟨STR, "length", "()I"⟩ jdk_42_method_54_code 1 (some .int) ⟨1, 0, 0, 13⟩ #[.ref a] h [] (fun v h' => v = some (.int n.toInt32) ∧ h' = h) := by
  obtain ⟨b, X | X⟩ := X
  · exact met_lengthL l Z a0 hw nw EL hEL cs fm S h a b n g X
  · exact met_lengthU l Z a0 hw nw EL hEL cs fm S h a b n g X
abbrev LAW : String := "com/example/kazalo/kazalo/FailuresOneLinePinLaw"
abbrev FAI : String := "com/example/kazalo/kazalo/Failures"
abbrev ASB : String := "java/lang/AbstractStringBuilder"
abbrev SBB : String := "java/lang/StringBuilder"
abbrev ARS : String := "java/util/Arrays"
abbrev CHA : String := "java/lang/Character"
theorem pn_law : plainName LAW = true := by first | (simp [plainName, overriddenIn]; done) | decide +kernel
theorem pn_fai : plainName FAI = true := by first | (simp [plainName, overriddenIn]; done) | decide +kernel
theorem pn_asb : plainName ASB = true := by first | (simp [plainName, overriddenIn]; done) | decide +kernel
theorem pn_sbb : plainName SBB = true := by first | (simp [plainName, overriddenIn]; done) | decide +kernel
theorem pn_ars : plainName ARS = true := by first | (simp [plainName, overriddenIn]; done) | decide +kernel
theorem pn_cha : plainName CHA = true := by first | (simp [plainName, overriddenIn]; done) | decide +kernel
theorem pf_min : plainFor ⟨"java/lang/Math", "min", "(II)I"⟩ = true := by decide +kernel
theorem mk_0 : Dc method_3_code 0 (.iload_n 0) 1 1 := ⟨by decide +kernel, rfl⟩
theorem mk_1 : Jp method_3_code 1 (.ifCond .ne 7) (7) 4 8 := ⟨by decide +kernel, rfl, by decide, by decide⟩
theorem mk_4 : Dc method_3_code 4 (.iconst 0) 1 5 := ⟨by decide +kernel, rfl⟩
theorem mk_5 : Dc method_3_code 5 (.newarray .char) 2 7 := ⟨by decide +kernel, rfl⟩
theorem mk_7 : Dc method_3_code 7 (.areturn) 1 8 := ⟨by decide +kernel, rfl⟩
theorem mk_8 : Dc method_3_code 8 (.iload_n 0) 1 9 := ⟨by decide +kernel, rfl⟩
theorem mk_9 : Dc method_3_code 9 (.iconst 1) 1 10 := ⟨by decide +kernel, rfl⟩
theorem mk_10 : Jp method_3_code 10 (.if_icmp .ne 11) (11) 13 21 := ⟨by decide +kernel, rfl, by decide, by decide⟩
theorem mk_13 : Dc method_3_code 13 (.iconst 1) 1 14 := ⟨by decide +kernel, rfl⟩
theorem mk_14 : Dc method_3_code 14 (.newarray .char) 2 16 := ⟨by decide +kernel, rfl⟩
theorem mk_16 : Dc method_3_code 16 (.dup) 1 17 := ⟨by decide +kernel, rfl⟩
theorem mk_17 : Dc method_3_code 17 (.iconst 0) 1 18 := ⟨by decide +kernel, rfl⟩
theorem mk_18 : Dc method_3_code 18 (.iload_n 1) 1 19 := ⟨by decide +kernel, rfl⟩
theorem mk_19 : Dc method_3_code 19 (.castore) 1 20 := ⟨by decide +kernel, rfl⟩
theorem mk_20 : Dc method_3_code 20 (.areturn) 1 21 := ⟨by decide +kernel, rfl⟩
theorem mk_21 : Dc method_3_code 21 (.iload_n 0) 1 22 := ⟨by decide +kernel, rfl⟩
theorem mk_22 : Dc method_3_code 22 (.iconst 2) 1 23 := ⟨by decide +kernel, rfl⟩
theorem mk_23 : Jp method_3_code 23 (.if_icmp .ne 15) (15) 26 38 := ⟨by decide +kernel, rfl, by decide, by decide⟩
theorem mk_26 : Dc method_3_code 26 (.iconst 2) 1 27 := ⟨by decide +kernel, rfl⟩
theorem mk_27 : Dc method_3_code 27 (.newarray .char) 2 29 := ⟨by decide +kernel, rfl⟩
theorem mk_29 : Dc method_3_code 29 (.dup) 1 30 := ⟨by decide +kernel, rfl⟩
theorem mk_30 : Dc method_3_code 30 (.iconst 0) 1 31 := ⟨by decide +kernel, rfl⟩
theorem mk_31 : Dc method_3_code 31 (.iload_n 1) 1 32 := ⟨by decide +kernel, rfl⟩
theorem mk_32 : Dc method_3_code 32 (.castore) 1 33 := ⟨by decide +kernel, rfl⟩
theorem mk_33 : Dc method_3_code 33 (.dup) 1 34 := ⟨by decide +kernel, rfl⟩
theorem mk_34 : Dc method_3_code 34 (.iconst 1) 1 35 := ⟨by decide +kernel, rfl⟩
theorem mk_35 : Dc method_3_code 35 (.iload_n 2) 1 36 := ⟨by decide +kernel, rfl⟩
theorem mk_36 : Dc method_3_code 36 (.castore) 1 37 := ⟨by decide +kernel, rfl⟩
theorem mk_37 : Dc method_3_code 37 (.areturn) 1 38 := ⟨by decide +kernel, rfl⟩
theorem mk_38 : Dc method_3_code 38 (.iconst 3) 1 39 := ⟨by decide +kernel, rfl⟩
theorem mk_39 : Dc method_3_code 39 (.newarray .char) 2 41 := ⟨by decide +kernel, rfl⟩
theorem mk_41 : Dc method_3_code 41 (.dup) 1 42 := ⟨by decide +kernel, rfl⟩
theorem mk_42 : Dc method_3_code 42 (.iconst 0) 1 43 := ⟨by decide +kernel, rfl⟩
theorem mk_43 : Dc method_3_code 43 (.iload_n 1) 1 44 := ⟨by decide +kernel, rfl⟩
theorem mk_44 : Dc method_3_code 44 (.castore) 1 45 := ⟨by decide +kernel, rfl⟩
theorem mk_45 : Dc method_3_code 45 (.dup) 1 46 := ⟨by decide +kernel, rfl⟩
theorem mk_46 : Dc method_3_code 46 (.iconst 1) 1 47 := ⟨by decide +kernel, rfl⟩
theorem mk_47 : Dc method_3_code 47 (.iload_n 2) 1 48 := ⟨by decide +kernel, rfl⟩
theorem mk_48 : Dc method_3_code 48 (.castore) 1 49 := ⟨by decide +kernel, rfl⟩
theorem mk_49 : Dc method_3_code 49 (.dup) 1 50 := ⟨by decide +kernel, rfl⟩
theorem mk_50 : Dc method_3_code 50 (.iconst 2) 1 51 := ⟨by decide +kernel, rfl⟩
theorem mk_51 : Dc method_3_code 51 (.iload_n 3) 1 52 := ⟨by decide +kernel, rfl⟩
theorem mk_52 : Dc method_3_code 52 (.castore) 1 53 := ⟨by decide +kernel, rfl⟩
theorem mk_53 : Dc method_3_code 53 (.areturn) 1 54 := ⟨by decide +kernel, rfl⟩
theorem xp_0 : Dc method_4_code 0 (.iload_n 0) 1 1 := ⟨by decide +kernel, rfl⟩
theorem xp_1 : Dc method_4_code 1 (.bipush 31) 2 3 := ⟨by decide +kernel, rfl⟩
theorem xp_3 : Jp method_4_code 3 (.if_icmp .gt 6) (6) 6 9 := ⟨by decide +kernel, rfl, by decide, by decide⟩
theorem xp_6 : Dc method_4_code 6 (.bipush 32) 2 8 := ⟨by decide +kernel, rfl⟩
theorem xp_8 : Dc method_4_code 8 (.ireturn) 1 9 := ⟨by decide +kernel, rfl⟩
theorem xp_9 : Dc method_4_code 9 (.iload_n 0) 1 10 := ⟨by decide +kernel, rfl⟩
theorem xp_10 : Dc method_4_code 10 (.bipush 127) 2 12 := ⟨by decide +kernel, rfl⟩
theorem xp_12 : Jp method_4_code 12 (.if_icmp .lt 13) (13) 15 25 := ⟨by decide +kernel, rfl, by decide, by decide⟩
theorem xp_15 : Dc method_4_code 15 (.iload_n 0) 1 16 := ⟨by decide +kernel, rfl⟩
theorem xp_16 : Dc method_4_code 16 (.sipush 159) 3 19 := ⟨by decide +kernel, rfl⟩
theorem xp_19 : Jp method_4_code 19 (.if_icmp .gt 6) (6) 22 25 := ⟨by decide +kernel, rfl, by decide, by decide⟩
theorem xp_22 : Dc method_4_code 22 (.bipush 32) 2 24 := ⟨by decide +kernel, rfl⟩
theorem xp_24 : Dc method_4_code 24 (.ireturn) 1 25 := ⟨by decide +kernel, rfl⟩
theorem xp_25 : Dc method_4_code 25 (.iload_n 0) 1 26 := ⟨by decide +kernel, rfl⟩
theorem xp_26 : Dc method_4_code 26 (.ireturn) 1 27 := ⟨by decide +kernel, rfl⟩
theorem ol_0 : Dc prog_2_method_3_code 0 (.aload_n 0) 1 1 := ⟨by decide +kernel, rfl⟩
theorem ol_1 : Dc prog_2_method_3_code 1 (.astore_n 1) 1 2 := ⟨by decide +kernel, rfl⟩
theorem ol_2 : Dc prog_2_method_3_code 2 (.aload_n 0) 1 3 := ⟨by decide +kernel, rfl⟩
theorem ol_3 : Dc prog_2_method_3_code 3 (.invokestatic 46) 3 6 := ⟨by decide +kernel, rfl⟩
theorem ol_6 : Jp prog_2_method_3_code 6 (.ifCond .eq 51) (51) 9 57 := ⟨by decide +kernel, rfl, by decide, by decide⟩
theorem ol_9 : Dc prog_2_method_3_code 9 (.new 50) 3 12 := ⟨by decide +kernel, rfl⟩
theorem ol_12 : Dc prog_2_method_3_code 12 (.dup) 1 13 := ⟨by decide +kernel, rfl⟩
theorem ol_13 : Dc prog_2_method_3_code 13 (.aload_n 0) 1 14 := ⟨by decide +kernel, rfl⟩
theorem ol_14 : Dc prog_2_method_3_code 14 (.invokespecial 52) 3 17 := ⟨by decide +kernel, rfl⟩
theorem ol_17 : Dc prog_2_method_3_code 17 (.astore_n 2) 1 18 := ⟨by decide +kernel, rfl⟩
theorem ol_18 : Dc prog_2_method_3_code 18 (.iconst 0) 1 19 := ⟨by decide +kernel, rfl⟩
theorem ol_19 : Dc prog_2_method_3_code 19 (.istore_n 3) 1 20 := ⟨by decide +kernel, rfl⟩
theorem ol_20 : Dc prog_2_method_3_code 20 (.iload_n 3) 1 21 := ⟨by decide +kernel, rfl⟩
theorem ol_21 : Dc prog_2_method_3_code 21 (.aload_n 2) 1 22 := ⟨by decide +kernel, rfl⟩
theorem ol_22 : Dc prog_2_method_3_code 22 (.invokevirtual 56) 3 25 := ⟨by decide +kernel, rfl⟩
theorem ol_25 : Jp prog_2_method_3_code 25 (.if_icmp .ge 27) (27) 28 52 := ⟨by decide +kernel, rfl, by decide, by decide⟩
theorem ol_28 : Dc prog_2_method_3_code 28 (.aload_n 2) 1 29 := ⟨by decide +kernel, rfl⟩
theorem ol_29 : Dc prog_2_method_3_code 29 (.iload_n 3) 1 30 := ⟨by decide +kernel, rfl⟩
theorem ol_30 : Dc prog_2_method_3_code 30 (.invokevirtual 60) 3 33 := ⟨by decide +kernel, rfl⟩
theorem ol_33 : Dc prog_2_method_3_code 33 (.invokestatic 64) 3 36 := ⟨by decide +kernel, rfl⟩
theorem ol_36 : Jp prog_2_method_3_code 36 (.ifCond .eq 10) (10) 39 46 := ⟨by decide +kernel, rfl, by decide, by decide⟩
theorem ol_39 : Dc prog_2_method_3_code 39 (.aload_n 2) 1 40 := ⟨by decide +kernel, rfl⟩
theorem ol_40 : Dc prog_2_method_3_code 40 (.iload_n 3) 1 41 := ⟨by decide +kernel, rfl⟩
theorem ol_41 : Dc prog_2_method_3_code 41 (.bipush 32) 2 43 := ⟨by decide +kernel, rfl⟩
theorem ol_43 : Dc prog_2_method_3_code 43 (.invokevirtual 70) 3 46 := ⟨by decide +kernel, rfl⟩
theorem ol_46 : Dc prog_2_method_3_code 46 (.iinc 3 1) 3 49 := ⟨by decide +kernel, rfl⟩
theorem ol_49 : Jp prog_2_method_3_code 49 (.goto (-29)) (-29) 52 20 := ⟨by decide +kernel, rfl, by decide, by decide⟩
theorem ol_52 : Dc prog_2_method_3_code 52 (.aload_n 2) 1 53 := ⟨by decide +kernel, rfl⟩
theorem ol_53 : Dc prog_2_method_3_code 53 (.invokevirtual 74) 3 56 := ⟨by decide +kernel, rfl⟩
theorem ol_56 : Dc prog_2_method_3_code 56 (.astore_n 1) 1 57 := ⟨by decide +kernel, rfl⟩
theorem ol_57 : Dc prog_2_method_3_code 57 (.aload_n 1) 1 58 := ⟨by decide +kernel, rfl⟩
theorem ol_58 : Dc prog_2_method_3_code 58 (.areturn) 1 59 := ⟨by decide +kernel, rfl⟩
theorem hc_0 : Dc prog_2_method_4_code 0 (.iconst 0) 1 1 := ⟨by decide +kernel, rfl⟩
theorem hc_1 : Dc prog_2_method_4_code 1 (.istore_n 1) 1 2 := ⟨by decide +kernel, rfl⟩
theorem hc_2 : Dc prog_2_method_4_code 2 (.iconst 0) 1 3 := ⟨by decide +kernel, rfl⟩
theorem hc_3 : Dc prog_2_method_4_code 3 (.istore_n 2) 1 4 := ⟨by decide +kernel, rfl⟩
theorem hc_4 : Dc prog_2_method_4_code 4 (.iload_n 2) 1 5 := ⟨by decide +kernel, rfl⟩
theorem hc_5 : Dc prog_2_method_4_code 5 (.aload_n 0) 1 6 := ⟨by decide +kernel, rfl⟩
theorem hc_6 : Dc prog_2_method_4_code 6 (.invokevirtual 77) 3 9 := ⟨by decide +kernel, rfl⟩
theorem hc_9 : Jp prog_2_method_4_code 9 (.if_icmp .ge 22) (22) 12 31 := ⟨by decide +kernel, rfl, by decide, by decide⟩
theorem hc_12 : Dc prog_2_method_4_code 12 (.iload_n 1) 1 13 := ⟨by decide +kernel, rfl⟩
theorem hc_13 : Jp prog_2_method_4_code 13 (.ifCond .ne 18) (18) 16 31 := ⟨by decide +kernel, rfl, by decide, by decide⟩
theorem hc_16 : Dc prog_2_method_4_code 16 (.aload_n 0) 1 17 := ⟨by decide +kernel, rfl⟩
theorem hc_17 : Dc prog_2_method_4_code 17 (.iload_n 2) 1 18 := ⟨by decide +kernel, rfl⟩
theorem hc_18 : Dc prog_2_method_4_code 18 (.invokevirtual 78) 3 21 := ⟨by decide +kernel, rfl⟩
theorem hc_21 : Dc prog_2_method_4_code 21 (.invokestatic 64) 3 24 := ⟨by decide +kernel, rfl⟩
theorem hc_24 : Dc prog_2_method_4_code 24 (.istore_n 1) 1 25 := ⟨by decide +kernel, rfl⟩
theorem hc_25 : Dc prog_2_method_4_code 25 (.iinc 2 1) 3 28 := ⟨by decide +kernel, rfl⟩
theorem hc_28 : Jp prog_2_method_4_code 28 (.goto (-24)) (-24) 31 4 := ⟨by decide +kernel, rfl, by decide, by decide⟩
theorem hc_31 : Dc prog_2_method_4_code 31 (.iload_n 1) 1 32 := ⟨by decide +kernel, rfl⟩
theorem hc_32 : Dc prog_2_method_4_code 32 (.ireturn) 1 33 := ⟨by decide +kernel, rfl⟩
theorem cc_0 : Dc jdk_89_method_88_code 0 (.iload_n 0) 1 1 := ⟨by decide +kernel, rfl⟩
theorem cc_1 : Dc jdk_89_method_88_code 1 (.invokestatic 266) 3 4 := ⟨by decide +kernel, rfl⟩
theorem cc_4 : Dc jdk_89_method_88_code 4 (.ireturn) 1 5 := ⟨by decide +kernel, rfl⟩
theorem ci_0 : Dc jdk_89_method_89_code 0 (.iload_n 0) 1 1 := ⟨by decide +kernel, rfl⟩
theorem ci_1 : Dc jdk_89_method_89_code 1 (.sipush 159) 3 4 := ⟨by decide +kernel, rfl⟩
theorem ci_4 : Jp jdk_89_method_89_code 4 (.if_icmp .gt 19) (19) 7 23 := ⟨by decide +kernel, rfl, by decide, by decide⟩
theorem ci_7 : Dc jdk_89_method_89_code 7 (.iload_n 0) 1 8 := ⟨by decide +kernel, rfl⟩
theorem ci_8 : Dc jdk_89_method_89_code 8 (.bipush 127) 2 10 := ⟨by decide +kernel, rfl⟩
theorem ci_10 : Jp jdk_89_method_89_code 10 (.if_icmp .ge 9) (9) 13 19 := ⟨by decide +kernel, rfl, by decide, by decide⟩
theorem ci_13 : Dc jdk_89_method_89_code 13 (.iload_n 0) 1 14 := ⟨by decide +kernel, rfl⟩
theorem ci_14 : Dc jdk_89_method_89_code 14 (.iconst 5) 1 15 := ⟨by decide +kernel, rfl⟩
theorem ci_15 : Dc jdk_89_method_89_code 15 (.iushr) 1 16 := ⟨by decide +kernel, rfl⟩
theorem ci_16 : Jp jdk_89_method_89_code 16 (.ifCond .ne 7) (7) 19 23 := ⟨by decide +kernel, rfl, by decide, by decide⟩
theorem ci_19 : Dc jdk_89_method_89_code 19 (.iconst 1) 1 20 := ⟨by decide +kernel, rfl⟩
theorem ci_20 : Jp jdk_89_method_89_code 20 (.goto 4) (4) 23 24 := ⟨by decide +kernel, rfl, by decide, by decide⟩
theorem ci_23 : Dc jdk_89_method_89_code 23 (.iconst 0) 1 24 := ⟨by decide +kernel, rfl⟩
theorem ci_24 : Dc jdk_89_method_89_code 24 (.ireturn) 1 25 := ⟨by decide +kernel, rfl⟩
theorem mn_0 : Dc jdk_29_method_69_code 0 (.iload_n 0) 1 1 := ⟨by decide +kernel, rfl⟩
theorem mn_1 : Dc jdk_29_method_69_code 1 (.iload_n 1) 1 2 := ⟨by decide +kernel, rfl⟩
theorem mn_2 : Jp jdk_29_method_69_code 2 (.if_icmp .gt 7) (7) 5 9 := ⟨by decide +kernel, rfl, by decide, by decide⟩
theorem mn_5 : Dc jdk_29_method_69_code 5 (.iload_n 0) 1 6 := ⟨by decide +kernel, rfl⟩
theorem mn_6 : Jp jdk_29_method_69_code 6 (.goto 4) (4) 9 10 := ⟨by decide +kernel, rfl, by decide, by decide⟩
theorem mn_9 : Dc jdk_29_method_69_code 9 (.iload_n 1) 1 10 := ⟨by decide +kernel, rfl⟩
theorem mn_10 : Dc jdk_29_method_69_code 10 (.ireturn) 1 11 := ⟨by decide +kernel, rfl⟩
theorem bl_0 : Dc jdk_68_method_6_code 0 (.aload_n 0) 1 1 := ⟨by decide +kernel, rfl⟩
theorem bl_1 : Dc jdk_68_method_6_code 1 (.getfield 79) 3 4 := ⟨by decide +kernel, rfl⟩
theorem bl_4 : Dc jdk_68_method_6_code 4 (.ireturn) 1 5 := ⟨by decide +kernel, rfl⟩
theorem sl_0 : Dc jdk_67_method_93_code 0 (.aload_n 0) 1 1 := ⟨by decide +kernel, rfl⟩
theorem sl_1 : Dc jdk_67_method_93_code 1 (.invokespecial 343) 3 4 := ⟨by decide +kernel, rfl⟩
theorem sl_4 : Dc jdk_67_method_93_code 4 (.ireturn) 1 5 := ⟨by decide +kernel, rfl⟩
theorem bi_0 : Dc jdk_68_method_68_code 0 (.getstatic 18) 3 3 := ⟨by decide +kernel, rfl⟩
theorem bi_3 : Jp jdk_68_method_68_code 3 (.ifCond .eq 14) (14) 6 17 := ⟨by decide +kernel, rfl, by decide, by decide⟩
theorem bi_6 : Dc jdk_68_method_68_code 6 (.aload_n 0) 1 7 := ⟨by decide +kernel, rfl⟩
theorem bi_7 : Dc jdk_68_method_68_code 7 (.getfield 22) 3 10 := ⟨by decide +kernel, rfl⟩
theorem bi_10 : Jp jdk_68_method_68_code 10 (.ifCond .ne 7) (7) 13 17 := ⟨by decide +kernel, rfl, by decide, by decide⟩
theorem bi_13 : Dc jdk_68_method_68_code 13 (.iconst 1) 1 14 := ⟨by decide +kernel, rfl⟩
theorem bi_14 : Jp jdk_68_method_68_code 14 (.goto 4) (4) 17 18 := ⟨by decide +kernel, rfl, by decide, by decide⟩
theorem bi_17 : Dc jdk_68_method_68_code 17 (.iconst 0) 1 18 := ⟨by decide +kernel, rfl⟩
theorem bi_18 : Dc jdk_68_method_68_code 18 (.ireturn) 1 19 := ⟨by decide +kernel, rfl⟩
theorem ce_0 : Dc jdk_43_method_3_code 0 (.iload_n 0) 1 1 := ⟨by decide +kernel, rfl⟩
theorem ce_1 : Dc jdk_43_method_3_code 1 (.sipush 255) 3 4 := ⟨by decide +kernel, rfl⟩
theorem ce_4 : Jp jdk_43_method_3_code 4 (.if_icmp .gt 7) (7) 7 11 := ⟨by decide +kernel, rfl, by decide, by decide⟩
theorem ce_7 : Dc jdk_43_method_3_code 7 (.iconst 1) 1 8 := ⟨by decide +kernel, rfl⟩
theorem ce_8 : Jp jdk_43_method_3_code 8 (.goto 4) (4) 11 12 := ⟨by decide +kernel, rfl, by decide, by decide⟩
theorem ce_11 : Dc jdk_43_method_3_code 11 (.iconst 0) 1 12 := ⟨by decide +kernel, rfl⟩
theorem ce_12 : Dc jdk_43_method_3_code 12 (.ireturn) 1 13 := ⟨by decide +kernel, rfl⟩
theorem bc_0 : Dc jdk_68_method_14_code 0 (.aload_n 0) 1 1 := ⟨by decide +kernel, rfl⟩
theorem bc_1 : Dc jdk_68_method_14_code 1 (.getfield 22) 3 4 := ⟨by decide +kernel, rfl⟩
theorem bc_4 : Dc jdk_68_method_14_code 4 (.istore_n 2) 1 5 := ⟨by decide +kernel, rfl⟩
theorem bc_5 : Dc jdk_68_method_14_code 5 (.aload_n 0) 1 6 := ⟨by decide +kernel, rfl⟩
theorem bc_6 : Dc jdk_68_method_14_code 6 (.getfield 15) 3 9 := ⟨by decide +kernel, rfl⟩
theorem bc_9 : Dc jdk_68_method_14_code 9 (.astore_n 3) 1 10 := ⟨by decide +kernel, rfl⟩
theorem bc_10 : Dc jdk_68_method_14_code 10 (.aload_n 0) 1 11 := ⟨by decide +kernel, rfl⟩
theorem bc_11 : Dc jdk_68_method_14_code 11 (.getfield 79) 3 14 := ⟨by decide +kernel, rfl⟩
theorem bc_14 : Dc jdk_68_method_14_code 14 (.aload_n 3) 1 15 := ⟨by decide +kernel, rfl⟩
theorem bc_15 : Dc jdk_68_method_14_code 15 (.arraylength) 1 16 := ⟨by decide +kernel, rfl⟩
theorem bc_16 : Dc jdk_68_method_14_code 16 (.iload_n 2) 1 17 := ⟨by decide +kernel, rfl⟩
theorem bc_17 : Dc jdk_68_method_14_code 17 (.ishr) 1 18 := ⟨by decide +kernel, rfl⟩
theorem bc_18 : Dc jdk_68_method_14_code 18 (.invokestatic 138) 3 21 := ⟨by decide +kernel, rfl⟩
theorem bc_21 : Dc jdk_68_method_14_code 21 (.istore 4) 2 23 := ⟨by decide +kernel, rfl⟩
theorem bc_23 : Dc jdk_68_method_14_code 23 (.iload_n 1) 1 24 := ⟨by decide +kernel, rfl⟩
theorem bc_24 : Dc jdk_68_method_14_code 24 (.iload 4) 2 26 := ⟨by decide +kernel, rfl⟩
theorem bc_26 : Dc jdk_68_method_14_code 26 (.invokestatic 144) 3 29 := ⟨by decide +kernel, rfl⟩
theorem bc_29 : Dc jdk_68_method_14_code 29 (.iload_n 2) 1 30 := ⟨by decide +kernel, rfl⟩
theorem bc_30 : Jp jdk_68_method_14_code 30 (.ifCond .ne 12) (12) 33 42 := ⟨by decide +kernel, rfl, by decide, by decide⟩
theorem bc_33 : Dc jdk_68_method_14_code 33 (.aload_n 3) 1 34 := ⟨by decide +kernel, rfl⟩
theorem bc_34 : Dc jdk_68_method_14_code 34 (.iload_n 1) 1 35 := ⟨by decide +kernel, rfl⟩
theorem bc_35 : Dc jdk_68_method_14_code 35 (.baload) 1 36 := ⟨by decide +kernel, rfl⟩
theorem bc_36 : Dc jdk_68_method_14_code 36 (.sipush 255) 3 39 := ⟨by decide +kernel, rfl⟩
theorem bc_39 : Dc jdk_68_method_14_code 39 (.iand) 1 40 := ⟨by decide +kernel, rfl⟩
theorem bc_40 : Dc jdk_68_method_14_code 40 (.i2c) 1 41 := ⟨by decide +kernel, rfl⟩
theorem bc_41 : Dc jdk_68_method_14_code 41 (.ireturn) 1 42 := ⟨by decide +kernel, rfl⟩
theorem bc_42 : Dc jdk_68_method_14_code 42 (.aload_n 3) 1 43 := ⟨by decide +kernel, rfl⟩
theorem bc_43 : Dc jdk_68_method_14_code 43 (.iload_n 1) 1 44 := ⟨by decide +kernel, rfl⟩
theorem bc_44 : Dc jdk_68_method_14_code 44 (.invokestatic 148) 3 47 := ⟨by decide +kernel, rfl⟩
theorem bc_47 : Dc jdk_68_method_14_code 47 (.ireturn) 1 48 := ⟨by decide +kernel, rfl⟩
theorem sc_0 : Dc jdk_67_method_88_code 0 (.aload_n 0) 1 1 := ⟨by decide +kernel, rfl⟩
theorem sc_1 : Dc jdk_67_method_88_code 1 (.iload_n 1) 1 2 := ⟨by decide +kernel, rfl⟩
theorem sc_2 : Dc jdk_67_method_88_code 2 (.invokespecial 329) 3 5 := ⟨by decide +kernel, rfl⟩
theorem sc_5 : Dc jdk_67_method_88_code 5 (.ireturn) 1 6 := ⟨by decide +kernel, rfl⟩
theorem ps_0 : Dc jdk_52_method_71_code 0 (.iload_n 1) 1 1 := ⟨by decide +kernel, rfl⟩
theorem ps_1 : Dc jdk_52_method_71_code 1 (.aload_n 0) 1 2 := ⟨by decide +kernel, rfl⟩
theorem ps_2 : Dc jdk_52_method_71_code 2 (.invokestatic 67) 3 5 := ⟨by decide +kernel, rfl⟩
theorem ps_5 : Dc jdk_52_method_71_code 5 (.aload_n 0) 1 6 := ⟨by decide +kernel, rfl⟩
theorem ps_6 : Dc jdk_52_method_71_code 6 (.iload_n 1) 1 7 := ⟨by decide +kernel, rfl⟩
theorem ps_7 : Dc jdk_52_method_71_code 7 (.iload_n 2) 1 8 := ⟨by decide +kernel, rfl⟩
theorem ps_8 : Dc jdk_52_method_71_code 8 (.invokestatic 111) 3 11 := ⟨by decide +kernel, rfl⟩
theorem ps_11 : Dc jdk_52_method_71_code 11 (.return_) 1 12 := ⟨by decide +kernel, rfl⟩
theorem bs_0 : Dc jdk_68_method_20_code 0 (.iload_n 1) 1 1 := ⟨by decide +kernel, rfl⟩
theorem bs_1 : Dc jdk_68_method_20_code 1 (.aload_n 0) 1 2 := ⟨by decide +kernel, rfl⟩
theorem bs_2 : Dc jdk_68_method_20_code 2 (.getfield 79) 3 5 := ⟨by decide +kernel, rfl⟩
theorem bs_5 : Dc jdk_68_method_20_code 5 (.invokestatic 144) 3 8 := ⟨by decide +kernel, rfl⟩
theorem bs_8 : Dc jdk_68_method_20_code 8 (.aload_n 0) 1 9 := ⟨by decide +kernel, rfl⟩
theorem bs_9 : Dc jdk_68_method_20_code 9 (.invokevirtual 83) 3 12 := ⟨by decide +kernel, rfl⟩
theorem bs_12 : Jp jdk_68_method_20_code 12 (.ifCond .eq 21) (21) 15 33 := ⟨by decide +kernel, rfl, by decide, by decide⟩
theorem bs_15 : Dc jdk_68_method_20_code 15 (.iload_n 2) 1 16 := ⟨by decide +kernel, rfl⟩
theorem bs_16 : Dc jdk_68_method_20_code 16 (.invokestatic 191) 3 19 := ⟨by decide +kernel, rfl⟩
theorem bs_19 : Jp jdk_68_method_20_code 19 (.ifCond .eq 14) (14) 22 33 := ⟨by decide +kernel, rfl, by decide, by decide⟩
theorem bs_22 : Dc jdk_68_method_20_code 22 (.aload_n 0) 1 23 := ⟨by decide +kernel, rfl⟩
theorem bs_23 : Dc jdk_68_method_20_code 23 (.getfield 15) 3 26 := ⟨by decide +kernel, rfl⟩
theorem bs_26 : Dc jdk_68_method_20_code 26 (.iload_n 1) 1 27 := ⟨by decide +kernel, rfl⟩
theorem bs_27 : Dc jdk_68_method_20_code 27 (.iload_n 2) 1 28 := ⟨by decide +kernel, rfl⟩
theorem bs_28 : Dc jdk_68_method_20_code 28 (.i2b) 1 29 := ⟨by decide +kernel, rfl⟩
theorem bs_29 : Dc jdk_68_method_20_code 29 (.bastore) 1 30 := ⟨by decide +kernel, rfl⟩
theorem bs_30 : Jp jdk_68_method_20_code 30 (.goto 28) (28) 33 58 := ⟨by decide +kernel, rfl, by decide, by decide⟩
theorem bs_33 : Dc jdk_68_method_20_code 33 (.aload_n 0) 1 34 := ⟨by decide +kernel, rfl⟩
theorem bs_34 : Dc jdk_68_method_20_code 34 (.invokevirtual 83) 3 37 := ⟨by decide +kernel, rfl⟩
theorem bs_37 : Jp jdk_68_method_20_code 37 (.ifCond .eq 7) (7) 40 44 := ⟨by decide +kernel, rfl, by decide, by decide⟩
theorem bs_40 : Dc jdk_68_method_20_code 40 (.aload_n 0) 1 41 := ⟨by decide +kernel, rfl⟩
theorem bs_41 : Dc jdk_68_method_20_code 41 (.invokevirtual 195) 3 44 := ⟨by decide +kernel, rfl⟩
theorem bs_44 : Dc jdk_68_method_20_code 44 (.aload_n 0) 1 45 := ⟨by decide +kernel, rfl⟩
theorem bs_45 : Dc jdk_68_method_20_code 45 (.getfield 15) 3 48 := ⟨by decide +kernel, rfl⟩
theorem bs_48 : Dc jdk_68_method_20_code 48 (.iload_n 1) 1 49 := ⟨by decide +kernel, rfl⟩
theorem bs_49 : Dc jdk_68_method_20_code 49 (.iload_n 2) 1 50 := ⟨by decide +kernel, rfl⟩
theorem bs_50 : Dc jdk_68_method_20_code 50 (.invokestatic 197) 3 53 := ⟨by decide +kernel, rfl⟩
theorem bs_53 : Dc jdk_68_method_20_code 53 (.aload_n 0) 1 54 := ⟨by decide +kernel, rfl⟩
theorem bs_54 : Dc jdk_68_method_20_code 54 (.iconst 1) 1 55 := ⟨by decide +kernel, rfl⟩
theorem bs_55 : Dc jdk_68_method_20_code 55 (.putfield 73) 3 58 := ⟨by decide +kernel, rfl⟩
theorem bs_58 : Dc jdk_68_method_20_code 58 (.return_) 1 59 := ⟨by decide +kernel, rfl⟩
theorem ss_0 : Dc jdk_67_method_82_code 0 (.aload_n 0) 1 1 := ⟨by decide +kernel, rfl⟩
theorem ss_1 : Dc jdk_67_method_82_code 1 (.iload_n 1) 1 2 := ⟨by decide +kernel, rfl⟩
theorem ss_2 : Dc jdk_67_method_82_code 2 (.iload_n 2) 1 3 := ⟨by decide +kernel, rfl⟩
theorem ss_3 : Dc jdk_67_method_82_code 3 (.invokespecial 308) 3 6 := ⟨by decide +kernel, rfl⟩
theorem ss_6 : Dc jdk_67_method_82_code 6 (.return_) 1 7 := ⟨by decide +kernel, rfl⟩
theorem gb_0 : Dc jdk_42_method_147_code 0 (.aload_n 0) 1 1 := ⟨by decide +kernel, rfl⟩
theorem gb_1 : Dc jdk_42_method_147_code 1 (.invokevirtual 335) 3 4 := ⟨by decide +kernel, rfl⟩
theorem gb_4 : Dc jdk_42_method_147_code 4 (.iload_n 3) 1 5 := ⟨by decide +kernel, rfl⟩
theorem gb_5 : Jp jdk_42_method_147_code 5 (.if_icmp .ne 23) (23) 8 28 := ⟨by decide +kernel, rfl, by decide, by decide⟩
theorem gb_8 : Dc jdk_42_method_147_code 8 (.aload_n 0) 1 9 := ⟨by decide +kernel, rfl⟩
theorem gb_9 : Dc jdk_42_method_147_code 9 (.getfield 9) 3 12 := ⟨by decide +kernel, rfl⟩
theorem gb_12 : Dc jdk_42_method_147_code 12 (.iconst 0) 1 13 := ⟨by decide +kernel, rfl⟩
theorem gb_13 : Dc jdk_42_method_147_code 13 (.aload_n 1) 1 14 := ⟨by decide +kernel, rfl⟩
theorem gb_14 : Dc jdk_42_method_147_code 14 (.iload_n 2) 1 15 := ⟨by decide +kernel, rfl⟩
theorem gb_15 : Dc jdk_42_method_147_code 15 (.iload_n 3) 1 16 := ⟨by decide +kernel, rfl⟩
theorem gb_16 : Dc jdk_42_method_147_code 16 (.ishl) 1 17 := ⟨by decide +kernel, rfl⟩
theorem gb_17 : Dc jdk_42_method_147_code 17 (.aload_n 0) 1 18 := ⟨by decide +kernel, rfl⟩
theorem gb_18 : Dc jdk_42_method_147_code 18 (.getfield 9) 3 21 := ⟨by decide +kernel, rfl⟩
theorem gb_21 : Dc jdk_42_method_147_code 21 (.arraylength) 1 22 := ⟨by decide +kernel, rfl⟩
theorem gb_22 : Dc jdk_42_method_147_code 22 (.invokestatic 212) 3 25 := ⟨by decide +kernel, rfl⟩
theorem gb_25 : Jp jdk_42_method_147_code 25 (.goto 18) (18) 28 43 := ⟨by decide +kernel, rfl, by decide, by decide⟩
theorem gb_28 : Dc jdk_42_method_147_code 28 (.aload_n 0) 1 29 := ⟨by decide +kernel, rfl⟩
theorem gb_29 : Dc jdk_42_method_147_code 29 (.getfield 9) 3 32 := ⟨by decide +kernel, rfl⟩
theorem gb_32 : Dc jdk_42_method_147_code 32 (.iconst 0) 1 33 := ⟨by decide +kernel, rfl⟩
theorem gb_33 : Dc jdk_42_method_147_code 33 (.aload_n 1) 1 34 := ⟨by decide +kernel, rfl⟩
theorem gb_34 : Dc jdk_42_method_147_code 34 (.iload_n 2) 1 35 := ⟨by decide +kernel, rfl⟩
theorem gb_35 : Dc jdk_42_method_147_code 35 (.aload_n 0) 1 36 := ⟨by decide +kernel, rfl⟩
theorem gb_36 : Dc jdk_42_method_147_code 36 (.getfield 9) 3 39 := ⟨by decide +kernel, rfl⟩
theorem gb_39 : Dc jdk_42_method_147_code 39 (.arraylength) 1 40 := ⟨by decide +kernel, rfl⟩
theorem gb_40 : Dc jdk_42_method_147_code 40 (.invokestatic 106) 3 43 := ⟨by decide +kernel, rfl⟩
theorem gb_43 : Dc jdk_42_method_147_code 43 (.return_) 1 44 := ⟨by decide +kernel, rfl⟩
theorem in_0 : Dc jdk_68_method_71_code 0 (.getstatic 18) 3 3 := ⟨by decide +kernel, rfl⟩
theorem in_3 : Jp jdk_68_method_71_code 3 (.ifCond .eq 18) (18) 6 21 := ⟨by decide +kernel, rfl, by decide, by decide⟩
theorem in_6 : Dc jdk_68_method_71_code 6 (.aload_n 0) 1 7 := ⟨by decide +kernel, rfl⟩
theorem in_7 : Dc jdk_68_method_71_code 7 (.getfield 22) 3 10 := ⟨by decide +kernel, rfl⟩
theorem in_10 : Dc jdk_68_method_71_code 10 (.aload_n 1) 1 11 := ⟨by decide +kernel, rfl⟩
theorem in_11 : Dc jdk_68_method_71_code 11 (.invokevirtual 40) 3 14 := ⟨by decide +kernel, rfl⟩
theorem in_14 : Jp jdk_68_method_71_code 14 (.if_icmp .eq 7) (7) 17 21 := ⟨by decide +kernel, rfl, by decide, by decide⟩
theorem in_17 : Dc jdk_68_method_71_code 17 (.aload_n 0) 1 18 := ⟨by decide +kernel, rfl⟩
theorem in_18 : Dc jdk_68_method_71_code 18 (.invokevirtual 195) 3 21 := ⟨by decide +kernel, rfl⟩
theorem in_21 : Dc jdk_68_method_71_code 21 (.return_) 1 22 := ⟨by decide +kernel, rfl⟩
theorem pa_0 : Dc jdk_68_method_73_code 0 (.aload_n 0) 1 1 := ⟨by decide +kernel, rfl⟩
theorem pa_1 : Dc jdk_68_method_73_code 1 (.aload_n 2) 1 2 := ⟨by decide +kernel, rfl⟩
theorem pa_2 : Dc jdk_68_method_73_code 2 (.invokevirtual 397) 3 5 := ⟨by decide +kernel, rfl⟩
theorem pa_5 : Dc jdk_68_method_73_code 5 (.aload_n 2) 1 6 := ⟨by decide +kernel, rfl⟩
theorem pa_6 : Dc jdk_68_method_73_code 6 (.aload_n 0) 1 7 := ⟨by decide +kernel, rfl⟩
theorem pa_7 : Dc jdk_68_method_73_code 7 (.getfield 15) 3 10 := ⟨by decide +kernel, rfl⟩
theorem pa_10 : Dc jdk_68_method_73_code 10 (.iload_n 1) 1 11 := ⟨by decide +kernel, rfl⟩
theorem pa_11 : Dc jdk_68_method_73_code 11 (.aload_n 0) 1 12 := ⟨by decide +kernel, rfl⟩
theorem pa_12 : Dc jdk_68_method_73_code 12 (.getfield 22) 3 15 := ⟨by decide +kernel, rfl⟩
theorem pa_15 : Dc jdk_68_method_73_code 15 (.invokevirtual 399) 3 18 := ⟨by decide +kernel, rfl⟩
theorem pa_18 : Dc jdk_68_method_73_code 18 (.return_) 1 19 := ⟨by decide +kernel, rfl⟩
theorem ec_0 : Dc jdk_68_method_9_code 0 (.aload_n 0) 1 1 := ⟨by decide +kernel, rfl⟩
theorem ec_1 : Dc jdk_68_method_9_code 1 (.getfield 15) 3 4 := ⟨by decide +kernel, rfl⟩
theorem ec_4 : Dc jdk_68_method_9_code 4 (.arraylength) 1 5 := ⟨by decide +kernel, rfl⟩
theorem ec_5 : Dc jdk_68_method_9_code 5 (.aload_n 0) 1 6 := ⟨by decide +kernel, rfl⟩
theorem ec_6 : Dc jdk_68_method_9_code 6 (.getfield 22) 3 9 := ⟨by decide +kernel, rfl⟩
theorem ec_9 : Dc jdk_68_method_9_code 9 (.ishr) 1 10 := ⟨by decide +kernel, rfl⟩
theorem ec_10 : Dc jdk_68_method_9_code 10 (.istore_n 2) 1 11 := ⟨by decide +kernel, rfl⟩
theorem ec_11 : Dc jdk_68_method_9_code 11 (.iload_n 1) 1 12 := ⟨by decide +kernel, rfl⟩
theorem ec_12 : Dc jdk_68_method_9_code 12 (.iload_n 2) 1 13 := ⟨by decide +kernel, rfl⟩
theorem ec_13 : Dc jdk_68_method_9_code 13 (.isub) 1 14 := ⟨by decide +kernel, rfl⟩
theorem ec_14 : Jp jdk_68_method_9_code 14 (.ifCond .le 24) (24) 17 38 := ⟨by decide +kernel, rfl, by decide, by decide⟩
theorem ec_17 : Dc jdk_68_method_9_code 17 (.aload_n 0) 1 18 := ⟨by decide +kernel, rfl⟩
theorem ec_18 : Dc jdk_68_method_9_code 18 (.aload_n 0) 1 19 := ⟨by decide +kernel, rfl⟩
theorem ec_19 : Dc jdk_68_method_9_code 19 (.getfield 15) 3 22 := ⟨by decide +kernel, rfl⟩
theorem ec_22 : Dc jdk_68_method_9_code 22 (.aload_n 0) 1 23 := ⟨by decide +kernel, rfl⟩
theorem ec_23 : Dc jdk_68_method_9_code 23 (.iload_n 1) 1 24 := ⟨by decide +kernel, rfl⟩
theorem ec_24 : Dc jdk_68_method_9_code 24 (.invokevirtual 104) 3 27 := ⟨by decide +kernel, rfl⟩
theorem ec_27 : Dc jdk_68_method_9_code 27 (.aload_n 0) 1 28 := ⟨by decide +kernel, rfl⟩
theorem ec_28 : Dc jdk_68_method_9_code 28 (.getfield 22) 3 31 := ⟨by decide +kernel, rfl⟩
theorem ec_31 : Dc jdk_68_method_9_code 31 (.ishl) 1 32 := ⟨by decide +kernel, rfl⟩
theorem ec_32 : Dc jdk_68_method_9_code 32 (.invokestatic 108) 3 35 := ⟨by decide +kernel, rfl⟩
theorem ec_35 : Dc jdk_68_method_9_code 35 (.putfield 15) 3 38 := ⟨by decide +kernel, rfl⟩
theorem ec_38 : Dc jdk_68_method_9_code 38 (.return_) 1 39 := ⟨by decide +kernel, rfl⟩
theorem ba_0 : Dc jdk_68_method_22_code 0 (.aload_n 1) 1 1 := ⟨by decide +kernel, rfl⟩
theorem ba_1 : Jp jdk_68_method_22_code 1 (.ifnonnull 8) (8) 4 9 := ⟨by decide +kernel, rfl, by decide, by decide⟩
theorem ba_4 : Dc jdk_68_method_22_code 4 (.aload_n 0) 1 5 := ⟨by decide +kernel, rfl⟩
theorem ba_5 : Dc jdk_68_method_22_code 5 (.invokevirtual 204) 3 8 := ⟨by decide +kernel, rfl⟩
theorem ba_8 : Dc jdk_68_method_22_code 8 (.areturn) 1 9 := ⟨by decide +kernel, rfl⟩
theorem ba_9 : Dc jdk_68_method_22_code 9 (.aload_n 1) 1 10 := ⟨by decide +kernel, rfl⟩
theorem ba_10 : Dc jdk_68_method_22_code 10 (.invokevirtual 32) 3 13 := ⟨by decide +kernel, rfl⟩
theorem ba_13 : Dc jdk_68_method_22_code 13 (.istore_n 2) 1 14 := ⟨by decide +kernel, rfl⟩
theorem ba_14 : Dc jdk_68_method_22_code 14 (.aload_n 0) 1 15 := ⟨by decide +kernel, rfl⟩
theorem ba_15 : Dc jdk_68_method_22_code 15 (.aload_n 0) 1 16 := ⟨by decide +kernel, rfl⟩
theorem ba_16 : Dc jdk_68_method_22_code 16 (.getfield 79) 3 19 := ⟨by decide +kernel, rfl⟩
theorem ba_19 : Dc jdk_68_method_22_code 19 (.iload_n 2) 1 20 := ⟨by decide +kernel, rfl⟩
theorem ba_20 : Dc jdk_68_method_22_code 20 (.iadd) 1 21 := ⟨by decide +kernel, rfl⟩
theorem ba_21 : Dc jdk_68_method_22_code 21 (.invokevirtual 100) 3 24 := ⟨by decide +kernel, rfl⟩
theorem ba_24 : Dc jdk_68_method_22_code 24 (.aload_n 0) 1 25 := ⟨by decide +kernel, rfl⟩
theorem ba_25 : Dc jdk_68_method_22_code 25 (.aload_n 0) 1 26 := ⟨by decide +kernel, rfl⟩
theorem ba_26 : Dc jdk_68_method_22_code 26 (.getfield 79) 3 29 := ⟨by decide +kernel, rfl⟩
theorem ba_29 : Dc jdk_68_method_22_code 29 (.aload_n 1) 1 30 := ⟨by decide +kernel, rfl⟩
theorem ba_30 : Dc jdk_68_method_22_code 30 (.invokevirtual 208) 3 33 := ⟨by decide +kernel, rfl⟩
theorem ba_33 : Dc jdk_68_method_22_code 33 (.aload_n 0) 1 34 := ⟨by decide +kernel, rfl⟩
theorem ba_34 : Dc jdk_68_method_22_code 34 (.dup) 1 35 := ⟨by decide +kernel, rfl⟩
theorem ba_35 : Dc jdk_68_method_22_code 35 (.getfield 79) 3 38 := ⟨by decide +kernel, rfl⟩
theorem ba_38 : Dc jdk_68_method_22_code 38 (.iload_n 2) 1 39 := ⟨by decide +kernel, rfl⟩
theorem ba_39 : Dc jdk_68_method_22_code 39 (.iadd) 1 40 := ⟨by decide +kernel, rfl⟩
theorem ba_40 : Dc jdk_68_method_22_code 40 (.putfield 79) 3 43 := ⟨by decide +kernel, rfl⟩
theorem ba_43 : Dc jdk_68_method_22_code 43 (.aload_n 0) 1 44 := ⟨by decide +kernel, rfl⟩
theorem ba_44 : Dc jdk_68_method_22_code 44 (.areturn) 1 45 := ⟨by decide +kernel, rfl⟩
theorem sa_0 : Dc jdk_67_method_7_code 0 (.aload_n 0) 1 1 := ⟨by decide +kernel, rfl⟩
theorem sa_1 : Dc jdk_67_method_7_code 1 (.aload_n 1) 1 2 := ⟨by decide +kernel, rfl⟩
theorem sa_2 : Dc jdk_67_method_7_code 2 (.invokespecial 29) 3 5 := ⟨by decide +kernel, rfl⟩
theorem sa_5 : Dc jdk_67_method_7_code 5 (.pop) 1 6 := ⟨by decide +kernel, rfl⟩
theorem sa_6 : Dc jdk_67_method_7_code 6 (.aload_n 0) 1 7 := ⟨by decide +kernel, rfl⟩
theorem sa_7 : Dc jdk_67_method_7_code 7 (.areturn) 1 8 := ⟨by decide +kernel, rfl⟩
theorem sb_0 : Dc jdk_67_method_80_code 0 (.aload_n 0) 1 1 := ⟨by decide +kernel, rfl⟩
theorem sb_1 : Dc jdk_67_method_80_code 1 (.aload_n 1) 1 2 := ⟨by decide +kernel, rfl⟩
theorem sb_2 : Dc jdk_67_method_80_code 2 (.invokevirtual 23) 3 5 := ⟨by decide +kernel, rfl⟩
theorem sb_5 : Dc jdk_67_method_80_code 5 (.areturn) 1 6 := ⟨by decide +kernel, rfl⟩
theorem an_0 : Dc jdk_68_method_3_code 0 (.aload_n 0) 1 1 := ⟨by decide +kernel, rfl⟩
theorem an_1 : Dc jdk_68_method_3_code 1 (.invokespecial 3) 3 4 := ⟨by decide +kernel, rfl⟩
theorem an_4 : Dc jdk_68_method_3_code 4 (.aload_n 1) 1 5 := ⟨by decide +kernel, rfl⟩
theorem an_5 : Dc jdk_68_method_3_code 5 (.invokevirtual 32) 3 8 := ⟨by decide +kernel, rfl⟩
theorem an_8 : Dc jdk_68_method_3_code 8 (.istore_n 2) 1 9 := ⟨by decide +kernel, rfl⟩
theorem an_9 : Dc jdk_68_method_3_code 9 (.iload_n 2) 1 10 := ⟨by decide +kernel, rfl⟩
theorem an_10 : Dc jdk_68_method_3_code 10 (.ldc 38) 2 12 := ⟨by decide +kernel, rfl⟩
theorem an_12 : Jp jdk_68_method_3_code 12 (.if_icmp .ge 10) (10) 15 22 := ⟨by decide +kernel, rfl, by decide, by decide⟩
theorem an_15 : Dc jdk_68_method_3_code 15 (.iload_n 2) 1 16 := ⟨by decide +kernel, rfl⟩
theorem an_16 : Dc jdk_68_method_3_code 16 (.bipush 16) 2 18 := ⟨by decide +kernel, rfl⟩
theorem an_18 : Dc jdk_68_method_3_code 18 (.iadd) 1 19 := ⟨by decide +kernel, rfl⟩
theorem an_19 : Jp jdk_68_method_3_code 19 (.goto 5) (5) 22 24 := ⟨by decide +kernel, rfl, by decide, by decide⟩
theorem an_22 : Dc jdk_68_method_3_code 22 (.ldc 39) 2 24 := ⟨by decide +kernel, rfl⟩
theorem an_24 : Dc jdk_68_method_3_code 24 (.istore_n 3) 1 25 := ⟨by decide +kernel, rfl⟩
theorem an_25 : Dc jdk_68_method_3_code 25 (.aload_n 1) 1 26 := ⟨by decide +kernel, rfl⟩
theorem an_26 : Dc jdk_68_method_3_code 26 (.invokevirtual 40) 3 29 := ⟨by decide +kernel, rfl⟩
theorem an_29 : Dc jdk_68_method_3_code 29 (.istore 4) 2 31 := ⟨by decide +kernel, rfl⟩
theorem an_31 : Dc jdk_68_method_3_code 31 (.aload_n 0) 1 32 := ⟨by decide +kernel, rfl⟩
theorem an_32 : Dc jdk_68_method_3_code 32 (.iload 4) 2 34 := ⟨by decide +kernel, rfl⟩
theorem an_34 : Dc jdk_68_method_3_code 34 (.putfield 22) 3 37 := ⟨by decide +kernel, rfl⟩
theorem an_37 : Dc jdk_68_method_3_code 37 (.aload_n 0) 1 38 := ⟨by decide +kernel, rfl⟩
theorem an_38 : Dc jdk_68_method_3_code 38 (.iload 4) 2 40 := ⟨by decide +kernel, rfl⟩
theorem an_40 : Jp jdk_68_method_3_code 40 (.ifCond .ne 9) (9) 43 49 := ⟨by decide +kernel, rfl, by decide, by decide⟩
theorem an_43 : Dc jdk_68_method_3_code 43 (.iload_n 3) 1 44 := ⟨by decide +kernel, rfl⟩
theorem an_44 : Dc jdk_68_method_3_code 44 (.newarray .byte) 2 46 := ⟨by decide +kernel, rfl⟩
theorem an_46 : Jp jdk_68_method_3_code 46 (.goto 7) (7) 49 53 := ⟨by decide +kernel, rfl, by decide, by decide⟩
theorem an_49 : Dc jdk_68_method_3_code 49 (.iload_n 3) 1 50 := ⟨by decide +kernel, rfl⟩
theorem an_50 : Dc jdk_68_method_3_code 50 (.invokestatic 26) 3 53 := ⟨by decide +kernel, rfl⟩
theorem an_53 : Dc jdk_68_method_3_code 53 (.putfield 15) 3 56 := ⟨by decide +kernel, rfl⟩
theorem an_56 : Dc jdk_68_method_3_code 56 (.aload_n 0) 1 57 := ⟨by decide +kernel, rfl⟩
theorem an_57 : Dc jdk_68_method_3_code 57 (.aload_n 1) 1 58 := ⟨by decide +kernel, rfl⟩
theorem an_58 : Dc jdk_68_method_3_code 58 (.invokevirtual 43) 3 61 := ⟨by decide +kernel, rfl⟩
theorem an_61 : Dc jdk_68_method_3_code 61 (.pop) 1 62 := ⟨by decide +kernel, rfl⟩
theorem an_62 : Dc jdk_68_method_3_code 62 (.return_) 1 63 := ⟨by decide +kernel, rfl⟩
theorem sn_0 : Dc jdk_67_method_3_code 0 (.aload_n 0) 1 1 := ⟨by decide +kernel, rfl⟩
theorem sn_1 : Dc jdk_67_method_3_code 1 (.aload_n 1) 1 2 := ⟨by decide +kernel, rfl⟩
theorem sn_2 : Dc jdk_67_method_3_code 2 (.invokespecial 7) 3 5 := ⟨by decide +kernel, rfl⟩
theorem sn_5 : Dc jdk_67_method_3_code 5 (.return_) 1 6 := ⟨by decide +kernel, rfl⟩
theorem gv_0 : Dc jdk_68_method_64_code 0 (.aload_n 0) 1 1 := ⟨by decide +kernel, rfl⟩
theorem gv_1 : Dc jdk_68_method_64_code 1 (.getfield 15) 3 4 := ⟨by decide +kernel, rfl⟩
theorem gv_4 : Dc jdk_68_method_64_code 4 (.areturn) 1 5 := ⟨by decide +kernel, rfl⟩
theorem kl_0 : Dc jdk_65_method_131_code 0 (.iload_n 1) 1 1 := ⟨by decide +kernel, rfl⟩
theorem kl_1 : Dc jdk_65_method_131_code 1 (.iload_n 0) 1 2 := ⟨by decide +kernel, rfl⟩
theorem kl_2 : Jp jdk_65_method_131_code 2 (.if_icmp .ge 35) (35) 5 37 := ⟨by decide +kernel, rfl, by decide, by decide⟩
theorem kl_5 : Dc jdk_65_method_131_code 5 (.new 43) 3 8 := ⟨by decide +kernel, rfl⟩
theorem kl_8 : Dc jdk_65_method_131_code 8 (.dup) 1 9 := ⟨by decide +kernel, rfl⟩
theorem kl_9 : Dc jdk_65_method_131_code 9 (.new 45) 3 12 := ⟨by decide +kernel, rfl⟩
theorem kl_12 : Dc jdk_65_method_131_code 12 (.dup) 1 13 := ⟨by decide +kernel, rfl⟩
theorem kl_13 : Dc jdk_65_method_131_code 13 (.invokespecial 47) 3 16 := ⟨by decide +kernel, rfl⟩
theorem kl_16 : Dc jdk_65_method_131_code 16 (.iload_n 0) 1 17 := ⟨by decide +kernel, rfl⟩
theorem kl_17 : Dc jdk_65_method_131_code 17 (.invokevirtual 54) 3 20 := ⟨by decide +kernel, rfl⟩
theorem kl_20 : Dc jdk_65_method_131_code 20 (.ldc_w 337) 3 23 := ⟨by decide +kernel, rfl⟩
theorem kl_23 : Dc jdk_65_method_131_code 23 (.invokevirtual 50) 3 26 := ⟨by decide +kernel, rfl⟩
theorem kl_26 : Dc jdk_65_method_131_code 26 (.iload_n 1) 1 27 := ⟨by decide +kernel, rfl⟩
theorem kl_27 : Dc jdk_65_method_131_code 27 (.invokevirtual 54) 3 30 := ⟨by decide +kernel, rfl⟩
theorem kl_30 : Dc jdk_65_method_131_code 30 (.invokevirtual 61) 3 33 := ⟨by decide +kernel, rfl⟩
theorem kl_33 : Dc jdk_65_method_131_code 33 (.invokespecial 65) 3 36 := ⟨by decide +kernel, rfl⟩
theorem kl_36 : Dc jdk_65_method_131_code 36 (.athrow) 1 37 := ⟨by decide +kernel, rfl⟩
theorem kl_37 : Dc jdk_65_method_131_code 37 (.return_) 1 38 := ⟨by decide +kernel, rfl⟩
theorem cb_0 : Dc jdk_65_method_133_code 0 (.iload_n 1) 1 1 := ⟨by decide +kernel, rfl⟩
theorem cb_1 : Dc jdk_65_method_133_code 1 (.iload_n 2) 1 2 := ⟨by decide +kernel, rfl⟩
theorem cb_2 : Dc jdk_65_method_133_code 2 (.invokestatic 343) 3 5 := ⟨by decide +kernel, rfl⟩
theorem cb_5 : Dc jdk_65_method_133_code 5 (.iload_n 2) 1 6 := ⟨by decide +kernel, rfl⟩
theorem cb_6 : Dc jdk_65_method_133_code 6 (.iload_n 1) 1 7 := ⟨by decide +kernel, rfl⟩
theorem cb_7 : Dc jdk_65_method_133_code 7 (.isub) 1 8 := ⟨by decide +kernel, rfl⟩
theorem cb_8 : Dc jdk_65_method_133_code 8 (.istore_n 3) 1 9 := ⟨by decide +kernel, rfl⟩
theorem cb_9 : Dc jdk_65_method_133_code 9 (.iload_n 3) 1 10 := ⟨by decide +kernel, rfl⟩
theorem cb_10 : Dc jdk_65_method_133_code 10 (.newarray .byte) 2 12 := ⟨by decide +kernel, rfl⟩
theorem cb_12 : Dc jdk_65_method_133_code 12 (.astore 4) 2 14 := ⟨by decide +kernel, rfl⟩
theorem cb_14 : Dc jdk_65_method_133_code 14 (.aload_n 0) 1 15 := ⟨by decide +kernel, rfl⟩
theorem cb_15 : Dc jdk_65_method_133_code 15 (.iload_n 1) 1 16 := ⟨by decide +kernel, rfl⟩
theorem cb_16 : Dc jdk_65_method_133_code 16 (.aload 4) 2 18 := ⟨by decide +kernel, rfl⟩
theorem cb_18 : Dc jdk_65_method_133_code 18 (.iconst 0) 1 19 := ⟨by decide +kernel, rfl⟩
theorem cb_19 : Dc jdk_65_method_133_code 19 (.aload_n 0) 1 20 := ⟨by decide +kernel, rfl⟩
theorem cb_20 : Dc jdk_65_method_133_code 20 (.arraylength) 1 21 := ⟨by decide +kernel, rfl⟩
theorem cb_21 : Dc jdk_65_method_133_code 21 (.iload_n 1) 1 22 := ⟨by decide +kernel, rfl⟩
theorem cb_22 : Dc jdk_65_method_133_code 22 (.isub) 1 23 := ⟨by decide +kernel, rfl⟩
theorem cb_23 : Dc jdk_65_method_133_code 23 (.iload_n 3) 1 24 := ⟨by decide +kernel, rfl⟩
theorem cb_24 : Dc jdk_65_method_133_code 24 (.invokestatic 304) 3 27 := ⟨by decide +kernel, rfl⟩
theorem cb_27 : Dc jdk_65_method_133_code 27 (.invokestatic 150) 3 30 := ⟨by decide +kernel, rfl⟩
theorem cb_30 : Dc jdk_65_method_133_code 30 (.aload 4) 2 32 := ⟨by decide +kernel, rfl⟩
theorem cb_32 : Dc jdk_65_method_133_code 32 (.areturn) 1 33 := ⟨by decide +kernel, rfl⟩
theorem cr_0 : Dc jdk_65_method_132_code 0 (.iload_n 1) 1 1 := ⟨by decide +kernel, rfl⟩
theorem cr_1 : Jp jdk_65_method_132_code 1 (.ifCond .ne 9) (9) 4 10 := ⟨by decide +kernel, rfl, by decide, by decide⟩
theorem cr_4 : Dc jdk_65_method_132_code 4 (.iload_n 2) 1 5 := ⟨by decide +kernel, rfl⟩
theorem cr_5 : Dc jdk_65_method_132_code 5 (.aload_n 0) 1 6 := ⟨by decide +kernel, rfl⟩
theorem cr_6 : Dc jdk_65_method_132_code 6 (.arraylength) 1 7 := ⟨by decide +kernel, rfl⟩
theorem cr_7 : Jp jdk_65_method_132_code 7 (.if_icmp .eq 10) (10) 10 17 := ⟨by decide +kernel, rfl, by decide, by decide⟩
theorem cr_10 : Dc jdk_65_method_132_code 10 (.aload_n 0) 1 11 := ⟨by decide +kernel, rfl⟩
theorem cr_11 : Dc jdk_65_method_132_code 11 (.iload_n 1) 1 12 := ⟨by decide +kernel, rfl⟩
theorem cr_12 : Dc jdk_65_method_132_code 12 (.iload_n 2) 1 13 := ⟨by decide +kernel, rfl⟩
theorem cr_13 : Dc jdk_65_method_132_code 13 (.invokestatic 339) 3 16 := ⟨by decide +kernel, rfl⟩
theorem cr_16 : Dc jdk_65_method_132_code 16 (.areturn) 1 17 := ⟨by decide +kernel, rfl⟩
theorem cr_17 : Dc jdk_65_method_132_code 17 (.aload_n 0) 1 18 := ⟨by decide +kernel, rfl⟩
theorem cr_18 : Dc jdk_65_method_132_code 18 (.invokevirtual 310) 3 21 := ⟨by decide +kernel, rfl⟩
theorem cr_21 : Dc jdk_65_method_132_code 21 (.checkcast 311) 3 24 := ⟨by decide +kernel, rfl⟩
theorem cr_24 : Dc jdk_65_method_132_code 24 (.areturn) 1 25 := ⟨by decide +kernel, rfl⟩
theorem fx_0 : Dc jdk_41_method_13_code 0 (.iload_n 2) 1 1 := ⟨by decide +kernel, rfl⟩
theorem fx_1 : Dc jdk_41_method_13_code 1 (.iload_n 0) 1 2 := ⟨by decide +kernel, rfl⟩
theorem fx_2 : Dc jdk_41_method_13_code 2 (.ior) 1 3 := ⟨by decide +kernel, rfl⟩
theorem fx_3 : Dc jdk_41_method_13_code 3 (.iload_n 1) 1 4 := ⟨by decide +kernel, rfl⟩
theorem fx_4 : Dc jdk_41_method_13_code 4 (.ior) 1 5 := ⟨by decide +kernel, rfl⟩
theorem fx_5 : Jp jdk_41_method_13_code 5 (.ifCond .lt 10) (10) 8 15 := ⟨by decide +kernel, rfl, by decide, by decide⟩
theorem fx_8 : Dc jdk_41_method_13_code 8 (.iload_n 1) 1 9 := ⟨by decide +kernel, rfl⟩
theorem fx_9 : Dc jdk_41_method_13_code 9 (.iload_n 2) 1 10 := ⟨by decide +kernel, rfl⟩
theorem fx_10 : Dc jdk_41_method_13_code 10 (.iload_n 0) 1 11 := ⟨by decide +kernel, rfl⟩
theorem fx_11 : Dc jdk_41_method_13_code 11 (.isub) 1 12 := ⟨by decide +kernel, rfl⟩
theorem fx_12 : Jp jdk_41_method_13_code 12 (.if_icmp .le 11) (11) 15 23 := ⟨by decide +kernel, rfl, by decide, by decide⟩
theorem fx_15 : Dc jdk_41_method_13_code 15 (.aload_n 3) 1 16 := ⟨by decide +kernel, rfl⟩
theorem fx_16 : Dc jdk_41_method_13_code 16 (.iload_n 0) 1 17 := ⟨by decide +kernel, rfl⟩
theorem fx_17 : Dc jdk_41_method_13_code 17 (.iload_n 1) 1 18 := ⟨by decide +kernel, rfl⟩
theorem fx_18 : Dc jdk_41_method_13_code 18 (.iload_n 2) 1 19 := ⟨by decide +kernel, rfl⟩
theorem fx_19 : Dc jdk_41_method_13_code 19 (.invokestatic 103) 3 22 := ⟨by decide +kernel, rfl⟩
theorem fx_22 : Dc jdk_41_method_13_code 22 (.athrow) 1 23 := ⟨by decide +kernel, rfl⟩
theorem fx_23 : Dc jdk_41_method_13_code 23 (.iload_n 0) 1 24 := ⟨by decide +kernel, rfl⟩
theorem fx_24 : Dc jdk_41_method_13_code 24 (.ireturn) 1 25 := ⟨by decide +kernel, rfl⟩
theorem bo_0 : Dc jdk_42_method_157_code 0 (.iload_n 0) 1 1 := ⟨by decide +kernel, rfl⟩
theorem bo_1 : Dc jdk_42_method_157_code 1 (.iload_n 1) 1 2 := ⟨by decide +kernel, rfl⟩
theorem bo_2 : Dc jdk_42_method_157_code 2 (.iload_n 2) 1 3 := ⟨by decide +kernel, rfl⟩
theorem bo_3 : Dc jdk_42_method_157_code 3 (.getstatic 1053) 3 6 := ⟨by decide +kernel, rfl⟩
theorem bo_6 : Dc jdk_42_method_157_code 6 (.invokestatic 1065) 3 9 := ⟨by decide +kernel, rfl⟩
theorem bo_9 : Dc jdk_42_method_157_code 9 (.ireturn) 1 10 := ⟨by decide +kernel, rfl⟩
theorem uo_0 : Dc jdk_52_method_94_code 0 (.iload_n 0) 1 1 := ⟨by decide +kernel, rfl⟩
theorem uo_1 : Dc jdk_52_method_94_code 1 (.iload_n 1) 1 2 := ⟨by decide +kernel, rfl⟩
theorem uo_2 : Dc jdk_52_method_94_code 2 (.aload_n 2) 1 3 := ⟨by decide +kernel, rfl⟩
theorem uo_3 : Dc jdk_52_method_94_code 3 (.invokestatic 48) 3 6 := ⟨by decide +kernel, rfl⟩
theorem uo_6 : Dc jdk_52_method_94_code 6 (.invokestatic 419) 3 9 := ⟨by decide +kernel, rfl⟩
theorem uo_9 : Dc jdk_52_method_94_code 9 (.pop) 1 10 := ⟨by decide +kernel, rfl⟩
theorem uo_10 : Dc jdk_52_method_94_code 10 (.return_) 1 11 := ⟨by decide +kernel, rfl⟩
theorem ck2_0 : Dc jdk_52_method_22_code 0 (.iload_n 1) 1 1 := ⟨by decide +kernel, rfl⟩
theorem ck2_1 : Dc jdk_52_method_22_code 1 (.iload 4) 2 3 := ⟨by decide +kernel, rfl⟩
theorem ck2_3 : Dc jdk_52_method_22_code 3 (.aload_n 0) 1 4 := ⟨by decide +kernel, rfl⟩
theorem ck2_4 : Dc jdk_52_method_22_code 4 (.invokestatic 173) 3 7 := ⟨by decide +kernel, rfl⟩
theorem ck2_7 : Dc jdk_52_method_22_code 7 (.iconst 0) 1 8 := ⟨by decide +kernel, rfl⟩
theorem ck2_8 : Dc jdk_52_method_22_code 8 (.istore 5) 2 10 := ⟨by decide +kernel, rfl⟩
theorem ck2_10 : Dc jdk_52_method_22_code 10 (.iload 5) 2 12 := ⟨by decide +kernel, rfl⟩
theorem ck2_12 : Dc jdk_52_method_22_code 12 (.iload 4) 2 14 := ⟨by decide +kernel, rfl⟩
theorem ck2_14 : Jp jdk_52_method_22_code 14 (.if_icmp .ge 39) (39) 17 53 := ⟨by decide +kernel, rfl, by decide, by decide⟩
theorem ck2_17 : Dc jdk_52_method_22_code 17 (.aload_n 0) 1 18 := ⟨by decide +kernel, rfl⟩
theorem ck2_18 : Dc jdk_52_method_22_code 18 (.iload_n 1) 1 19 := ⟨by decide +kernel, rfl⟩
theorem ck2_19 : Dc jdk_52_method_22_code 19 (.invokestatic 71) 3 22 := ⟨by decide +kernel, rfl⟩
theorem ck2_22 : Dc jdk_52_method_22_code 22 (.istore 6) 2 24 := ⟨by decide +kernel, rfl⟩
theorem ck2_24 : Dc jdk_52_method_22_code 24 (.iload 6) 2 26 := ⟨by decide +kernel, rfl⟩
theorem ck2_26 : Dc jdk_52_method_22_code 26 (.sipush 255) 3 29 := ⟨by decide +kernel, rfl⟩
theorem ck2_29 : Jp jdk_52_method_22_code 29 (.if_icmp .le 6) (6) 32 35 := ⟨by decide +kernel, rfl, by decide, by decide⟩
theorem ck2_32 : Dc jdk_52_method_22_code 32 (.iload 5) 2 34 := ⟨by decide +kernel, rfl⟩
theorem ck2_34 : Dc jdk_52_method_22_code 34 (.ireturn) 1 35 := ⟨by decide +kernel, rfl⟩
theorem ck2_35 : Dc jdk_52_method_22_code 35 (.aload_n 2) 1 36 := ⟨by decide +kernel, rfl⟩
theorem ck2_36 : Dc jdk_52_method_22_code 36 (.iload_n 3) 1 37 := ⟨by decide +kernel, rfl⟩
theorem ck2_37 : Dc jdk_52_method_22_code 37 (.iload 6) 2 39 := ⟨by decide +kernel, rfl⟩
theorem ck2_39 : Dc jdk_52_method_22_code 39 (.i2b) 1 40 := ⟨by decide +kernel, rfl⟩
theorem ck2_40 : Dc jdk_52_method_22_code 40 (.bastore) 1 41 := ⟨by decide +kernel, rfl⟩
theorem ck2_41 : Dc jdk_52_method_22_code 41 (.iinc 1 1) 3 44 := ⟨by decide +kernel, rfl⟩
theorem ck2_44 : Dc jdk_52_method_22_code 44 (.iinc 3 1) 3 47 := ⟨by decide +kernel, rfl⟩
theorem ck2_47 : Dc jdk_52_method_22_code 47 (.iinc 5 1) 3 50 := ⟨by decide +kernel, rfl⟩
theorem ck2_50 : Jp jdk_52_method_22_code 50 (.goto (-40)) (-40) 53 10 := ⟨by decide +kernel, rfl, by decide, by decide⟩
theorem ck2_53 : Dc jdk_52_method_22_code 53 (.iload 4) 2 55 := ⟨by decide +kernel, rfl⟩
theorem ck2_55 : Dc jdk_52_method_22_code 55 (.ireturn) 1 56 := ⟨by decide +kernel, rfl⟩
theorem cq_0 : Dc jdk_52_method_17_code 0 (.iload_n 2) 1 1 := ⟨by decide +kernel, rfl⟩
theorem cq_1 : Dc jdk_52_method_17_code 1 (.newarray .byte) 2 3 := ⟨by decide +kernel, rfl⟩
theorem cq_3 : Dc jdk_52_method_17_code 3 (.astore_n 3) 1 4 := ⟨by decide +kernel, rfl⟩
theorem cq_4 : Dc jdk_52_method_17_code 4 (.aload_n 0) 1 5 := ⟨by decide +kernel, rfl⟩
theorem cq_5 : Dc jdk_52_method_17_code 5 (.iload_n 1) 1 6 := ⟨by decide +kernel, rfl⟩
theorem cq_6 : Dc jdk_52_method_17_code 6 (.aload_n 3) 1 7 := ⟨by decide +kernel, rfl⟩
theorem cq_7 : Dc jdk_52_method_17_code 7 (.iconst 0) 1 8 := ⟨by decide +kernel, rfl⟩
theorem cq_8 : Dc jdk_52_method_17_code 8 (.iload_n 2) 1 9 := ⟨by decide +kernel, rfl⟩
theorem cq_9 : Dc jdk_52_method_17_code 9 (.invokestatic 123) 3 12 := ⟨by decide +kernel, rfl⟩
theorem cq_12 : Dc jdk_52_method_17_code 12 (.istore 4) 2 14 := ⟨by decide +kernel, rfl⟩
theorem cq_14 : Dc jdk_52_method_17_code 14 (.iload 4) 2 16 := ⟨by decide +kernel, rfl⟩
theorem cq_16 : Dc jdk_52_method_17_code 16 (.iload_n 2) 1 17 := ⟨by decide +kernel, rfl⟩
theorem cq_17 : Jp jdk_52_method_17_code 17 (.if_icmp .eq 47) (47) 20 64 := ⟨by decide +kernel, rfl, by decide, by decide⟩
theorem cq_20 : Dc jdk_52_method_17_code 20 (.aload_n 0) 1 21 := ⟨by decide +kernel, rfl⟩
theorem cq_21 : Dc jdk_52_method_17_code 21 (.iload_n 1) 1 22 := ⟨by decide +kernel, rfl⟩
theorem cq_22 : Dc jdk_52_method_17_code 22 (.iconst 1) 1 23 := ⟨by decide +kernel, rfl⟩
theorem cq_23 : Dc jdk_52_method_17_code 23 (.ishl) 1 24 := ⟨by decide +kernel, rfl⟩
theorem cq_24 : Dc jdk_52_method_17_code 24 (.iload_n 1) 1 25 := ⟨by decide +kernel, rfl⟩
theorem cq_25 : Dc jdk_52_method_17_code 25 (.iload_n 2) 1 26 := ⟨by decide +kernel, rfl⟩
theorem cq_26 : Dc jdk_52_method_17_code 26 (.iadd) 1 27 := ⟨by decide +kernel, rfl⟩
theorem cq_27 : Dc jdk_52_method_17_code 27 (.invokestatic 11) 3 30 := ⟨by decide +kernel, rfl⟩
theorem cq_30 : Dc jdk_52_method_17_code 30 (.invokestatic 126) 3 33 := ⟨by decide +kernel, rfl⟩
theorem cq_33 : Dc jdk_52_method_17_code 33 (.astore 5) 2 35 := ⟨by decide +kernel, rfl⟩
theorem cq_35 : Dc jdk_52_method_17_code 35 (.aload 5) 2 37 := ⟨by decide +kernel, rfl⟩
theorem cq_37 : Dc jdk_52_method_17_code 37 (.iload 4) 2 39 := ⟨by decide +kernel, rfl⟩
theorem cq_39 : Dc jdk_52_method_17_code 39 (.invokestatic 71) 3 42 := ⟨by decide +kernel, rfl⟩
theorem cq_42 : Dc jdk_52_method_17_code 42 (.sipush 255) 3 45 := ⟨by decide +kernel, rfl⟩
theorem cq_45 : Jp jdk_52_method_17_code 45 (.if_icmp .gt 16) (16) 48 61 := ⟨by decide +kernel, rfl, by decide, by decide⟩
theorem cq_48 : Dc jdk_52_method_17_code 48 (.aload 5) 2 50 := ⟨by decide +kernel, rfl⟩
theorem cq_50 : Dc jdk_52_method_17_code 50 (.iconst 0) 1 51 := ⟨by decide +kernel, rfl⟩
theorem cq_51 : Dc jdk_52_method_17_code 51 (.aload_n 3) 1 52 := ⟨by decide +kernel, rfl⟩
theorem cq_52 : Dc jdk_52_method_17_code 52 (.iconst 0) 1 53 := ⟨by decide +kernel, rfl⟩
theorem cq_53 : Dc jdk_52_method_17_code 53 (.iload_n 2) 1 54 := ⟨by decide +kernel, rfl⟩
theorem cq_54 : Dc jdk_52_method_17_code 54 (.invokestatic 123) 3 57 := ⟨by decide +kernel, rfl⟩
theorem cq_57 : Dc jdk_52_method_17_code 57 (.iload_n 2) 1 58 := ⟨by decide +kernel, rfl⟩
theorem cq_58 : Jp jdk_52_method_17_code 58 (.if_icmp .eq 6) (6) 61 64 := ⟨by decide +kernel, rfl, by decide, by decide⟩
theorem cq_61 : Dc jdk_52_method_17_code 61 (.aload 5) 2 63 := ⟨by decide +kernel, rfl⟩
theorem cq_63 : Dc jdk_52_method_17_code 63 (.areturn) 1 64 := ⟨by decide +kernel, rfl⟩
theorem cq_64 : Dc jdk_52_method_17_code 64 (.aload_n 3) 1 65 := ⟨by decide +kernel, rfl⟩
theorem cq_65 : Dc jdk_52_method_17_code 65 (.areturn) 1 66 := ⟨by decide +kernel, rfl⟩
theorem ia_0 : Dc jdk_42_method_150_code 0 (.aload_n 0) 1 1 := ⟨by decide +kernel, rfl⟩
theorem ia_1 : Dc jdk_42_method_150_code 1 (.invokespecial 1) 3 4 := ⟨by decide +kernel, rfl⟩
theorem ia_4 : Dc jdk_42_method_150_code 4 (.aload_n 1) 1 5 := ⟨by decide +kernel, rfl⟩
theorem ia_5 : Dc jdk_42_method_150_code 5 (.invokevirtual 552) 3 8 := ⟨by decide +kernel, rfl⟩
theorem ia_8 : Dc jdk_42_method_150_code 8 (.astore_n 3) 1 9 := ⟨by decide +kernel, rfl⟩
theorem ia_9 : Dc jdk_42_method_150_code 9 (.aload_n 1) 1 10 := ⟨by decide +kernel, rfl⟩
theorem ia_10 : Dc jdk_42_method_150_code 10 (.invokevirtual 549) 3 13 := ⟨by decide +kernel, rfl⟩
theorem ia_13 : Dc jdk_42_method_150_code 13 (.istore 4) 2 15 := ⟨by decide +kernel, rfl⟩
theorem ia_15 : Dc jdk_42_method_150_code 15 (.aload_n 1) 1 16 := ⟨by decide +kernel, rfl⟩
theorem ia_16 : Dc jdk_42_method_150_code 16 (.invokevirtual 1047) 3 19 := ⟨by decide +kernel, rfl⟩
theorem ia_19 : Jp jdk_42_method_150_code 19 (.ifCond .eq 22) (22) 22 41 := ⟨by decide +kernel, rfl, by decide, by decide⟩
theorem ia_22 : Dc jdk_42_method_150_code 22 (.aload_n 0) 1 23 := ⟨by decide +kernel, rfl⟩
theorem ia_23 : Dc jdk_42_method_150_code 23 (.iconst 0) 1 24 := ⟨by decide +kernel, rfl⟩
theorem ia_24 : Dc jdk_42_method_150_code 24 (.putfield 15) 3 27 := ⟨by decide +kernel, rfl⟩
theorem ia_27 : Dc jdk_42_method_150_code 27 (.aload_n 0) 1 28 := ⟨by decide +kernel, rfl⟩
theorem ia_28 : Dc jdk_42_method_150_code 28 (.aload_n 3) 1 29 := ⟨by decide +kernel, rfl⟩
theorem ia_29 : Dc jdk_42_method_150_code 29 (.iconst 0) 1 30 := ⟨by decide +kernel, rfl⟩
theorem ia_30 : Dc jdk_42_method_150_code 30 (.iload 4) 2 32 := ⟨by decide +kernel, rfl⟩
theorem ia_32 : Dc jdk_42_method_150_code 32 (.invokestatic 54) 3 35 := ⟨by decide +kernel, rfl⟩
theorem ia_35 : Dc jdk_42_method_150_code 35 (.putfield 9) 3 38 := ⟨by decide +kernel, rfl⟩
theorem ia_38 : Jp jdk_42_method_150_code 38 (.goto 59) (59) 41 97 := ⟨by decide +kernel, rfl, by decide, by decide⟩
theorem ia_41 : Dc jdk_42_method_150_code 41 (.getstatic 38) 3 44 := ⟨by decide +kernel, rfl⟩
theorem ia_44 : Jp jdk_42_method_150_code 44 (.ifCond .eq 35) (35) 47 79 := ⟨by decide +kernel, rfl, by decide, by decide⟩
theorem ia_47 : Dc jdk_42_method_150_code 47 (.aload_n 1) 1 48 := ⟨by decide +kernel, rfl⟩
theorem ia_48 : Dc jdk_42_method_150_code 48 (.getfield 1048) 3 51 := ⟨by decide +kernel, rfl⟩
theorem ia_51 : Jp jdk_42_method_150_code 51 (.ifCond .eq 28) (28) 54 79 := ⟨by decide +kernel, rfl, by decide, by decide⟩
theorem ia_54 : Dc jdk_42_method_150_code 54 (.aload_n 0) 1 55 := ⟨by decide +kernel, rfl⟩
theorem ia_55 : Dc jdk_42_method_150_code 55 (.aload_n 3) 1 56 := ⟨by decide +kernel, rfl⟩
theorem ia_56 : Dc jdk_42_method_150_code 56 (.iconst 0) 1 57 := ⟨by decide +kernel, rfl⟩
theorem ia_57 : Dc jdk_42_method_150_code 57 (.iload 4) 2 59 := ⟨by decide +kernel, rfl⟩
theorem ia_59 : Dc jdk_42_method_150_code 59 (.invokestatic 1051) 3 62 := ⟨by decide +kernel, rfl⟩
theorem ia_62 : Dc jdk_42_method_150_code 62 (.putfield 9) 3 65 := ⟨by decide +kernel, rfl⟩
theorem ia_65 : Dc jdk_42_method_150_code 65 (.aload_n 0) 1 66 := ⟨by decide +kernel, rfl⟩
theorem ia_66 : Dc jdk_42_method_150_code 66 (.aload_n 0) 1 67 := ⟨by decide +kernel, rfl⟩
theorem ia_67 : Dc jdk_42_method_150_code 67 (.getfield 9) 3 70 := ⟨by decide +kernel, rfl⟩
theorem ia_70 : Dc jdk_42_method_150_code 70 (.iload 4) 2 72 := ⟨by decide +kernel, rfl⟩
theorem ia_72 : Dc jdk_42_method_150_code 72 (.invokestatic 47) 3 75 := ⟨by decide +kernel, rfl⟩
theorem ia_75 : Dc jdk_42_method_150_code 75 (.putfield 15) 3 78 := ⟨by decide +kernel, rfl⟩
theorem ia_78 : Dc jdk_42_method_150_code 78 (.return_) 1 79 := ⟨by decide +kernel, rfl⟩
theorem ia_79 : Dc jdk_42_method_150_code 79 (.aload_n 0) 1 80 := ⟨by decide +kernel, rfl⟩
theorem ia_80 : Dc jdk_42_method_150_code 80 (.iconst 1) 1 81 := ⟨by decide +kernel, rfl⟩
theorem ia_81 : Dc jdk_42_method_150_code 81 (.putfield 15) 3 84 := ⟨by decide +kernel, rfl⟩
theorem ia_84 : Dc jdk_42_method_150_code 84 (.aload_n 0) 1 85 := ⟨by decide +kernel, rfl⟩
theorem ia_85 : Dc jdk_42_method_150_code 85 (.aload_n 3) 1 86 := ⟨by decide +kernel, rfl⟩
theorem ia_86 : Dc jdk_42_method_150_code 86 (.iconst 0) 1 87 := ⟨by decide +kernel, rfl⟩
theorem ia_87 : Dc jdk_42_method_150_code 87 (.iload 4) 2 89 := ⟨by decide +kernel, rfl⟩
theorem ia_89 : Dc jdk_42_method_150_code 89 (.iconst 1) 1 90 := ⟨by decide +kernel, rfl⟩
theorem ia_90 : Dc jdk_42_method_150_code 90 (.ishl) 1 91 := ⟨by decide +kernel, rfl⟩
theorem ia_91 : Dc jdk_42_method_150_code 91 (.invokestatic 54) 3 94 := ⟨by decide +kernel, rfl⟩
theorem ia_94 : Dc jdk_42_method_150_code 94 (.putfield 9) 3 97 := ⟨by decide +kernel, rfl⟩
theorem ia_97 : Dc jdk_42_method_150_code 97 (.return_) 1 98 := ⟨by decide +kernel, rfl⟩
theorem ib_0 : Dc jdk_42_method_53_code 0 (.aload_n 0) 1 1 := ⟨by decide +kernel, rfl⟩
theorem ib_1 : Dc jdk_42_method_53_code 1 (.aload_n 1) 1 2 := ⟨by decide +kernel, rfl⟩
theorem ib_2 : Dc jdk_42_method_53_code 2 (.aconst_null) 1 3 := ⟨by decide +kernel, rfl⟩
theorem ib_3 : Dc jdk_42_method_53_code 3 (.invokespecial 489) 3 6 := ⟨by decide +kernel, rfl⟩
theorem ib_6 : Dc jdk_42_method_53_code 6 (.return_) 1 7 := ⟨by decide +kernel, rfl⟩
theorem ts_0 : Dc jdk_67_method_42_code 0 (.new 18) 3 3 := ⟨by decide +kernel, rfl⟩
theorem ts_3 : Dc jdk_67_method_42_code 3 (.dup) 1 4 := ⟨by decide +kernel, rfl⟩
theorem ts_4 : Dc jdk_67_method_42_code 4 (.aload_n 0) 1 5 := ⟨by decide +kernel, rfl⟩
theorem ts_5 : Dc jdk_67_method_42_code 5 (.invokespecial 137) 3 8 := ⟨by decide +kernel, rfl⟩
theorem ts_8 : Dc jdk_67_method_42_code 8 (.areturn) 1 9 := ⟨by decide +kernel, rfl⟩
theorem lw_0 : Dc code 0 (.iload_n 3) 1 1 := ⟨by decide +kernel, rfl⟩
theorem lw_1 : Dc code 1 (.iconst 3) 1 2 := ⟨by decide +kernel, rfl⟩
theorem lw_2 : Dc code 2 (.iand) 1 3 := ⟨by decide +kernel, rfl⟩
theorem lw_3 : Dc code 3 (.istore 4) 2 5 := ⟨by decide +kernel, rfl⟩
theorem lw_5 : Dc code 5 (.iload_n 0) 1 6 := ⟨by decide +kernel, rfl⟩
theorem lw_6 : Dc code 6 (.ldc 7) 2 8 := ⟨by decide +kernel, rfl⟩
theorem lw_8 : Dc code 8 (.iand) 1 9 := ⟨by decide +kernel, rfl⟩
theorem lw_9 : Dc code 9 (.i2c) 1 10 := ⟨by decide +kernel, rfl⟩
theorem lw_10 : Dc code 10 (.istore 5) 2 12 := ⟨by decide +kernel, rfl⟩
theorem lw_12 : Dc code 12 (.iload_n 1) 1 13 := ⟨by decide +kernel, rfl⟩
theorem lw_13 : Dc code 13 (.ldc 7) 2 15 := ⟨by decide +kernel, rfl⟩
theorem lw_15 : Dc code 15 (.iand) 1 16 := ⟨by decide +kernel, rfl⟩
theorem lw_16 : Dc code 16 (.i2c) 1 17 := ⟨by decide +kernel, rfl⟩
theorem lw_17 : Dc code 17 (.istore 6) 2 19 := ⟨by decide +kernel, rfl⟩
theorem lw_19 : Dc code 19 (.iload_n 2) 1 20 := ⟨by decide +kernel, rfl⟩
theorem lw_20 : Dc code 20 (.ldc 7) 2 22 := ⟨by decide +kernel, rfl⟩
theorem lw_22 : Dc code 22 (.iand) 1 23 := ⟨by decide +kernel, rfl⟩
theorem lw_23 : Dc code 23 (.i2c) 1 24 := ⟨by decide +kernel, rfl⟩
theorem lw_24 : Dc code 24 (.istore 7) 2 26 := ⟨by decide +kernel, rfl⟩
theorem lw_26 : Dc code 26 (.iload 4) 2 28 := ⟨by decide +kernel, rfl⟩
theorem lw_28 : Dc code 28 (.iload 5) 2 30 := ⟨by decide +kernel, rfl⟩
theorem lw_30 : Dc code 30 (.iload 6) 2 32 := ⟨by decide +kernel, rfl⟩
theorem lw_32 : Dc code 32 (.iload 7) 2 34 := ⟨by decide +kernel, rfl⟩
theorem lw_34 : Dc code 34 (.invokestatic 8) 3 37 := ⟨by decide +kernel, rfl⟩
theorem lw_37 : Dc code 37 (.astore 8) 2 39 := ⟨by decide +kernel, rfl⟩
theorem lw_39 : Dc code 39 (.new 14) 3 42 := ⟨by decide +kernel, rfl⟩
theorem lw_42 : Dc code 42 (.dup) 1 43 := ⟨by decide +kernel, rfl⟩
theorem lw_43 : Dc code 43 (.aload 8) 2 45 := ⟨by decide +kernel, rfl⟩
theorem lw_45 : Dc code 45 (.invokespecial 16) 3 48 := ⟨by decide +kernel, rfl⟩
theorem lw_48 : Dc code 48 (.astore 9) 2 50 := ⟨by decide +kernel, rfl⟩
theorem lw_50 : Dc code 50 (.aload 9) 2 52 := ⟨by decide +kernel, rfl⟩
theorem lw_52 : Dc code 52 (.invokestatic 19) 3 55 := ⟨by decide +kernel, rfl⟩
theorem lw_55 : Dc code 55 (.astore 10) 2 57 := ⟨by decide +kernel, rfl⟩
theorem lw_57 : Dc code 57 (.aload 10) 2 59 := ⟨by decide +kernel, rfl⟩
theorem lw_59 : Jp code 59 (.ifnonnull 5) (5) 62 64 := ⟨by decide +kernel, rfl, by decide, by decide⟩
theorem lw_62 : Dc code 62 (.iconst 0) 1 63 := ⟨by decide +kernel, rfl⟩
theorem lw_63 : Dc code 63 (.ireturn) 1 64 := ⟨by decide +kernel, rfl⟩
theorem lw_64 : Dc code 64 (.aload 10) 2 66 := ⟨by decide +kernel, rfl⟩
theorem lw_66 : Dc code 66 (.invokevirtual 25) 3 69 := ⟨by decide +kernel, rfl⟩
theorem lw_69 : Dc code 69 (.iload 4) 2 71 := ⟨by decide +kernel, rfl⟩
theorem lw_71 : Jp code 71 (.if_icmp .eq 5) (5) 74 76 := ⟨by decide +kernel, rfl, by decide, by decide⟩
theorem lw_74 : Dc code 74 (.iconst 0) 1 75 := ⟨by decide +kernel, rfl⟩
theorem lw_75 : Dc code 75 (.ireturn) 1 76 := ⟨by decide +kernel, rfl⟩
theorem lw_76 : Dc code 76 (.iload 4) 2 78 := ⟨by decide +kernel, rfl⟩
theorem lw_78 : Dc code 78 (.iconst 1) 1 79 := ⟨by decide +kernel, rfl⟩
theorem lw_79 : Jp code 79 (.if_icmp .lt 19) (19) 82 98 := ⟨by decide +kernel, rfl, by decide, by decide⟩
theorem lw_82 : Dc code 82 (.aload 10) 2 84 := ⟨by decide +kernel, rfl⟩
theorem lw_84 : Dc code 84 (.iconst 0) 1 85 := ⟨by decide +kernel, rfl⟩
theorem lw_85 : Dc code 85 (.invokevirtual 29) 3 88 := ⟨by decide +kernel, rfl⟩
theorem lw_88 : Dc code 88 (.iload 5) 2 90 := ⟨by decide +kernel, rfl⟩
theorem lw_90 : Dc code 90 (.invokestatic 33) 3 93 := ⟨by decide +kernel, rfl⟩
theorem lw_93 : Jp code 93 (.if_icmp .eq 5) (5) 96 98 := ⟨by decide +kernel, rfl, by decide, by decide⟩
theorem lw_96 : Dc code 96 (.iconst 0) 1 97 := ⟨by decide +kernel, rfl⟩
theorem lw_97 : Dc code 97 (.ireturn) 1 98 := ⟨by decide +kernel, rfl⟩
theorem lw_98 : Dc code 98 (.iload 4) 2 100 := ⟨by decide +kernel, rfl⟩
theorem lw_100 : Dc code 100 (.iconst 2) 1 101 := ⟨by decide +kernel, rfl⟩
theorem lw_101 : Jp code 101 (.if_icmp .lt 19) (19) 104 120 := ⟨by decide +kernel, rfl, by decide, by decide⟩
theorem lw_104 : Dc code 104 (.aload 10) 2 106 := ⟨by decide +kernel, rfl⟩
theorem lw_106 : Dc code 106 (.iconst 1) 1 107 := ⟨by decide +kernel, rfl⟩
theorem lw_107 : Dc code 107 (.invokevirtual 29) 3 110 := ⟨by decide +kernel, rfl⟩
theorem lw_110 : Dc code 110 (.iload 6) 2 112 := ⟨by decide +kernel, rfl⟩
theorem lw_112 : Dc code 112 (.invokestatic 33) 3 115 := ⟨by decide +kernel, rfl⟩
theorem lw_115 : Jp code 115 (.if_icmp .eq 5) (5) 118 120 := ⟨by decide +kernel, rfl, by decide, by decide⟩
theorem lw_118 : Dc code 118 (.iconst 0) 1 119 := ⟨by decide +kernel, rfl⟩
theorem lw_119 : Dc code 119 (.ireturn) 1 120 := ⟨by decide +kernel, rfl⟩
theorem lw_120 : Dc code 120 (.iload 4) 2 122 := ⟨by decide +kernel, rfl⟩
theorem lw_122 : Dc code 122 (.iconst 3) 1 123 := ⟨by decide +kernel, rfl⟩
theorem lw_123 : Jp code 123 (.if_icmp .lt 19) (19) 126 142 := ⟨by decide +kernel, rfl, by decide, by decide⟩
theorem lw_126 : Dc code 126 (.aload 10) 2 128 := ⟨by decide +kernel, rfl⟩
theorem lw_128 : Dc code 128 (.iconst 2) 1 129 := ⟨by decide +kernel, rfl⟩
theorem lw_129 : Dc code 129 (.invokevirtual 29) 3 132 := ⟨by decide +kernel, rfl⟩
theorem lw_132 : Dc code 132 (.iload 7) 2 134 := ⟨by decide +kernel, rfl⟩
theorem lw_134 : Dc code 134 (.invokestatic 33) 3 137 := ⟨by decide +kernel, rfl⟩
theorem lw_137 : Jp code 137 (.if_icmp .eq 5) (5) 140 142 := ⟨by decide +kernel, rfl, by decide, by decide⟩
theorem lw_140 : Dc code 140 (.iconst 0) 1 141 := ⟨by decide +kernel, rfl⟩
theorem lw_141 : Dc code 141 (.ireturn) 1 142 := ⟨by decide +kernel, rfl⟩
theorem lw_142 : Dc code 142 (.iconst 1) 1 143 := ⟨by decide +kernel, rfl⟩
theorem lw_143 : Dc code 143 (.ireturn) 1 144 := ⟨by decide +kernel, rfl⟩
theorem e_I1 (m : MethodId) (x0 : Int32) : entryFrame m #[(.int x0)] 1 = fr m 0 [.val (.int x0)] [] := by first | (simp [entryFrame, mkF, argsToLocals, Value.category]; done) | rfl
theorem e_II2 (m : MethodId) (x0 : Int32) (x1 : Int32) : entryFrame m #[(.int x0), (.int x1)] 2 = fr m 0 [.val (.int x0), .val (.int x1)] [] := by first | (simp [entryFrame, mkF, argsToLocals, Value.category]; done) | rfl
theorem e_IIII4 (m : MethodId) (x0 : Int32) (x1 : Int32) (x2 : Int32) (x3 : Int32) : entryFrame m #[(.int x0), (.int x1), (.int x2), (.int x3)] 4 = fr m 0 [.val (.int x0), .val (.int x1), .val (.int x2), .val (.int x3)] [] := by first | (simp [entryFrame, mkF, argsToLocals, Value.category]; done) | rfl
theorem e_R1 (m : MethodId) (x0 : Addr) : entryFrame m #[(.ref x0)] 1 = fr m 0 [.val (.ref x0)] [] := by first | (simp [entryFrame, mkF, argsToLocals, Value.category]; done) | rfl
theorem e_R3 (m : MethodId) (x0 : Addr) : entryFrame m #[(.ref x0)] 3 = fr m 0 [.val (.ref x0), .unset, .unset] [] := by first | (simp [entryFrame, mkF, argsToLocals, Value.category]; done) | rfl
theorem e_R4 (m : MethodId) (x0 : Addr) : entryFrame m #[(.ref x0)] 4 = fr m 0 [.val (.ref x0), .unset, .unset, .unset] [] := by first | (simp [entryFrame, mkF, argsToLocals, Value.category]; done) | rfl
theorem e_RI5 (m : MethodId) (x0 : Addr) (x1 : Int32) : entryFrame m #[(.ref x0), (.int x1)] 5 = fr m 0 [.val (.ref x0), .val (.int x1), .unset, .unset, .unset] [] := by first | (simp [entryFrame, mkF, argsToLocals, Value.category]; done) | rfl
theorem e_RI2 (m : MethodId) (x0 : Addr) (x1 : Int32) : entryFrame m #[(.ref x0), (.int x1)] 2 = fr m 0 [.val (.ref x0), .val (.int x1)] [] := by first | (simp [entryFrame, mkF, argsToLocals, Value.category]; done) | rfl
theorem e_RII3 (m : MethodId) (x0 : Addr) (x1 : Int32) (x2 : Int32) : entryFrame m #[(.ref x0), (.int x1), (.int x2)] 3 = fr m 0 [.val (.ref x0), .val (.int x1), .val (.int x2)] [] := by first | (simp [entryFrame, mkF, argsToLocals, Value.category]; done) | rfl
theorem e_RRII4 (m : MethodId) (x0 : Addr) (x1 : Addr) (x2 : Int32) (x3 : Int32) : entryFrame m #[(.ref x0), (.ref x1), (.int x2), (.int x3)] 4 = fr m 0 [.val (.ref x0), .val (.ref x1), .val (.int x2), .val (.int x3)] [] := by first | (simp [entryFrame, mkF, argsToLocals, Value.category]; done) | rfl
theorem e_RR2 (m : MethodId) (x0 : Addr) (x1 : Addr) : entryFrame m #[(.ref x0), (.ref x1)] 2 = fr m 0 [.val (.ref x0), .val (.ref x1)] [] := by first | (simp [entryFrame, mkF, argsToLocals, Value.category]; done) | rfl
theorem e_RR3 (m : MethodId) (x0 : Addr) (x1 : Addr) : entryFrame m #[(.ref x0), (.ref x1)] 3 = fr m 0 [.val (.ref x0), .val (.ref x1), .unset] [] := by first | (simp [entryFrame, mkF, argsToLocals, Value.category]; done) | rfl
theorem e_RIR3 (m : MethodId) (x0 : Addr) (x1 : Int32) (x2 : Addr) : entryFrame m #[(.ref x0), (.int x1), (.ref x2)] 3 = fr m 0 [.val (.ref x0), .val (.int x1), .val (.ref x2)] [] := by first | (simp [entryFrame, mkF, argsToLocals, Value.category]; done) | rfl
theorem e_RI3 (m : MethodId) (x0 : Addr) (x1 : Int32) : entryFrame m #[(.ref x0), (.int x1)] 3 = fr m 0 [.val (.ref x0), .val (.int x1), .unset] [] := by first | (simp [entryFrame, mkF, argsToLocals, Value.category]; done) | rfl
theorem e_RR5 (m : MethodId) (x0 : Addr) (x1 : Addr) : entryFrame m #[(.ref x0), (.ref x1)] 5 = fr m 0 [.val (.ref x0), .val (.ref x1), .unset, .unset, .unset] [] := by first | (simp [entryFrame, mkF, argsToLocals, Value.category]; done) | rfl
theorem e_RII5 (m : MethodId) (x0 : Addr) (x1 : Int32) (x2 : Int32) : entryFrame m #[(.ref x0), (.int x1), (.int x2)] 5 = fr m 0 [.val (.ref x0), .val (.int x1), .val (.int x2), .unset, .unset] [] := by first | (simp [entryFrame, mkF, argsToLocals, Value.category]; done) | rfl
theorem e_IIIV4 (m : MethodId) (x0 : Int32) (x1 : Int32) (x2 : Int32) (x3 : Value) (q3 : x3.category = 1) : entryFrame m #[(.int x0), (.int x1), (.int x2), (x3)] 4 = fr m 0 [.val (.int x0), .val (.int x1), .val (.int x2), .val (x3)] [] := by simp [entryFrame, mkF, argsToLocals, cat_int, cat_rf, cat_lng, q3]
theorem e_III3 (m : MethodId) (x0 : Int32) (x1 : Int32) (x2 : Int32) : entryFrame m #[(.int x0), (.int x1), (.int x2)] 3 = fr m 0 [.val (.int x0), .val (.int x1), .val (.int x2)] [] := by first | (simp [entryFrame, mkF, argsToLocals, Value.category]; done) | rfl
theorem e_IIR3 (m : MethodId) (x0 : Int32) (x1 : Int32) (x2 : Addr) : entryFrame m #[(.int x0), (.int x1), (.ref x2)] 3 = fr m 0 [.val (.int x0), .val (.int x1), .val (.ref x2)] [] := by first | (simp [entryFrame, mkF, argsToLocals, Value.category]; done) | rfl
theorem e_RIRII7 (m : MethodId) (x0 : Addr) (x1 : Int32) (x2 : Addr) (x3 : Int32) (x4 : Int32) : entryFrame m #[(.ref x0), (.int x1), (.ref x2), (.int x3), (.int x4)] 7 = fr m 0 [.val (.ref x0), .val (.int x1), .val (.ref x2), .val (.int x3), .val (.int x4), .unset, .unset] [] := by first | (simp [entryFrame, mkF, argsToLocals, Value.category]; done) | rfl
theorem e_RII6 (m : MethodId) (x0 : Addr) (x1 : Int32) (x2 : Int32) : entryFrame m #[(.ref x0), (.int x1), (.int x2)] 6 = fr m 0 [.val (.ref x0), .val (.int x1), .val (.int x2), .unset, .unset, .unset] [] := by first | (simp [entryFrame, mkF, argsToLocals, Value.category]; done) | rfl
theorem e_RRV5 (m : MethodId) (x0 : Addr) (x1 : Addr) (x2 : Value) (q2 : x2.category = 1) : entryFrame m #[(.ref x0), (.ref x1), (x2)] 5 = fr m 0 [.val (.ref x0), .val (.ref x1), .val (x2), .unset, .unset] [] := by simp [entryFrame, mkF, argsToLocals, cat_int, cat_rf, cat_lng, q2]
theorem e_RR2b (m : MethodId) (x0 : Addr) (x1 : Addr) : entryFrame m #[(.ref x0), (.ref x1)] 2 = fr m 0 [.val (.ref x0), .val (.ref x1)] [] := by first | (simp [entryFrame, mkF, argsToLocals, Value.category]; done) | rfl
theorem e_lw (m : MethodId) (x0 : Int32) (x1 : Int32) (x2 : Int32) (x3 : Int32) : entryFrame m #[(.int x0), (.int x1), (.int x2), (.int x3)] 11 = fr m 0 [.val (.int x0), .val (.int x1), .val (.int x2), .val (.int x3), .unset, .unset, .unset, .unset, .unset, .unset, .unset] [] := by first | (simp [entryFrame, mkF, argsToLocals, Value.category]; done) | rfl
abbrev EL1 : List (String × Nat) := [("java/lang/String", 7)]
/-- a control sign -/
def ctl (x : Int32) : Bool := decide (x.toInt ≤ 31) || (decide (127 ≤ x.toInt) && decide (x.toInt ≤ 159))
theorem ctl_t {x : Int32} (h : x.toInt ≤ 31 ∨ (127 ≤ x.toInt ∧ x.toInt ≤ 159)) : ctl x = true := by
  unfold ctl
  rcases h with h | ⟨h1, h2⟩
  · rw [decide_eq_true h, Bool.true_or]
  · rw [decide_eq_true h1, decide_eq_true h2, Bool.and_true, Bool.or_true]
theorem ctl_f {x : Int32} (h : ¬ (x.toInt ≤ 31 ∨ (127 ≤ x.toInt ∧ x.toInt ≤ 159))) : ctl x = false := by
  unfold ctl
  rw [decide_eq_false (fun z => h (Or.inl z)), Bool.false_or]
  by_cases z : 127 ≤ x.toInt
  · rw [decide_eq_false (fun z2 => h (Or.inr ⟨z, z2⟩)), Bool.and_false]
  · rw [decide_eq_false z, Bool.false_and]
theorem ctl_small {x : Int32} (h : ctl x = true) : x.toInt ≤ 159 := Decidable.byContradiction fun z => by
  rw [ctl_f (by omega)] at h
  cases h
def exc (x : Int32) : Int32 := if ctl x = true then 32 else x
theorem ush5 : ∀ k : Fin 127, (XT.ushr (Int32.ofNat k.val) 5 = 0 ↔ k.val ≤ 31) := by decide +kernel
theorem met_ci (l : Launch) (Z : State) (a0 : Array Value) (hw : ∀ d ∈ tables_1, d.before a0 Z = true) (nw : Prop) (EL : List (String × Nat)) (hEL : EW Z a0 EL) (h : Heap) (x : Int32) (h0 : 0 ≤ x.toInt) :
    Met l Z nw EL ⟨CHA, "isISOControl", "(I)Z"⟩ jdk_89_method_89_code 1 (some .boolean) ⟨0, 0, 0, 0⟩ #[.int x] h [] (fun v h' => v = some (.int (if ctl x = true then 1 else 0)) ∧ h' = h) := by
  refine Met.mk (a0 := a0) hEL pn_cha ?_
  intro p e s m below meth c C hE hS
  rw [e_I1]
  have c159 : (159 : Int32).toInt = 159 := rfl
  have c127 : (127 : Int32).toInt = 127 := rfl
  have yes : ctl x = true → Run p l e ⟨0, 0, 0, 0⟩ s m #[.int x] below meth c Z nw EL (Kf s Z nw EL ⟨0, 0, 0, 0⟩ (fun v h' => v = some (.int (if ctl x = true then 1 else 0)) ∧ h' = h)) s.vm h 0 0 (fr m 19 [.val (.int x)] []) := fun z => by
    refine R_iconst C ci_19 (v := 1) rfl ?_
    refine R_goto C ci_20 ?_
    exact R_retN C ci_24 rfl (Or.inl rfl) (Nat.le_refl _) (Nat.le_refl _) ⟨by rw [if_pos z]; rfl, rfl⟩
  have no : ctl x = false → Run p l e ⟨0, 0, 0, 0⟩ s m #[.int x] below meth c Z nw EL (Kf s Z nw EL ⟨0, 0, 0, 0⟩ (fun v h' => v = some (.int (if ctl x = true then 1 else 0)) ∧ h' = h)) s.vm h 0 0 (fr m 23 [.val (.int x)] []) := fun z => by
    refine R_iconst C ci_23 (v := 0) rfl ?_
    exact R_retN C ci_24 rfl (Or.inl rfl) (Nat.le_refl _) (Nat.le_refl _) ⟨by rw [if_neg (by rw [z]; decide)]; rfl, rfl⟩
  refine R_iload_n C ci_0 rfl ?_
  refine R_sipush C ci_1 (v := 159) rfl ?_
  refine R_icmp C ci_4 (fun (hc : (159 : Int32) < x) => no (ctl_f (by rw [Int32.lt_iff_toInt_lt, c159] at hc; omega))) (fun (hc : ¬ (159 : Int32) < x) => ?_)
  rw [Int32.lt_iff_toInt_lt, c159] at hc
  refine R_iload_n C ci_7 rfl ?_
  refine R_bipush C ci_8 (v := 127) rfl ?_
  refine R_icmp C ci_10 (fun (hd : ¬ x < 127) => yes (ctl_t (by rw [Int32.lt_iff_toInt_lt, c127] at hd; omega))) (fun (hd : ¬ ¬ x < 127) => ?_)
  rw [Int32.lt_iff_toInt_lt, c127] at hd
  have z := ush5 ⟨x.toInt.toNat, by omega⟩
  dsimp only at z
  rw [← ofNat_toInt h0] at z
  refine R_iload_n C ci_13 rfl ?_
  refine R_iconst C ci_14 (v := 5) rfl ?_
  refine R_iushr C ci_15 ?_
  refine R_if C ci_16 (fun (he : ¬ XT.ushr x 5 = 0) => no (ctl_f (by rw [z] at he; omega))) (fun (he : ¬ ¬ XT.ushr x 5 = 0) => yes (ctl_t (by rw [z] at he; omega)))
theorem met_cc (l : Launch) (Z : State) (a0 : Array Value) (hw : ∀ d ∈ tables_1, d.before a0 Z = true) (nw : Prop) (EL : List (String × Nat)) (hEL : EW Z a0 EL) (h : Heap) (x : Int32) (h0 : 0 ≤ x.toInt) :
    Met l Z nw EL ⟨CHA, "isISOControl", "(C)Z"⟩ jdk_89_method_88_code 1 (some .boolean) ⟨1, 0, 0, 12⟩ #[.int x] h [] (fun v h' => v = some (.int (if ctl x = true then 1 else 0)) ∧ h' = h) := by
  refine Met.mk (a0 := a0) hEL pn_cha ?_
  intro p e s m below meth c C hE hS
  rw [e_I1]
  refine R_iload_n C cc_0 rfl ?_
  refine R_static C [.int x] cc_1 (met_ci l Z a0 hw nw EL hEL h x h0) (by first | exact fun z => z | exact fun _ => trivial) (hw _ (List.mem_of_getElem? (i := 78) rfl)) (hw _ (List.mem_of_getElem? (i := 79) rfl)) (hw _ (List.mem_of_getElem? (i := 76) rfl)) (hw _ (List.mem_of_getElem? (i := 80) rfl)) (by decide) pd_14 rfl rfl rfl (Nat.le_of_ble_eq_true rfl) (Nat.le_of_ble_eq_true rfl) (Nat.le_of_ble_eq_true rfl) (Nat.le_of_ble_eq_true rfl) (fun _ q => nomatch q) ?_
  intro v vm2 h2 hQ hsz2 hSf2 hFr
  obtain ⟨rfl, rfl⟩ := hQ
  simp only [Option.toList_some, List.cons_append, List.nil_append]
  refine R_retN C cc_4 rfl (Or.inl rfl) (Nat.le_refl _) (Nat.le_refl _) ⟨?_, rfl⟩
  split <;> rfl
theorem met_xp (l : Launch) (Z : State) (a0 : Array Value) (hw : ∀ d ∈ tables_1, d.before a0 Z = true) (nw : Prop) (EL : List (String × Nat)) (hEL : EW Z a0 EL) (h : Heap) (x : Int32) (h0 : 0 ≤ x.toInt) (h1 : x.toInt ≤ 65535) :
    Met l Z nw EL ⟨LAW, "expected", "(C)C"⟩ method_4_code 1 (some .char) ⟨0, 0, 0, 0⟩ #[.int x] h [] (fun v h' => v = some (.int (exc x)) ∧ h' = h) := by
  refine Met.mk (a0 := a0) hEL pn_law ?_
  intro p e s m below meth c C hE hS
  rw [e_I1]
  have c31 : (31 : Int32).toInt = 31 := rfl
  have c159 : (159 : Int32).toInt = 159 := rfl
  have c127 : (127 : Int32).toInt = 127 := rfl
  have no : ctl x = false → Run p l e ⟨0, 0, 0, 0⟩ s m #[.int x] below meth c Z nw EL (Kf s Z nw EL ⟨0, 0, 0, 0⟩ (fun v h' => v = some (.int (exc x)) ∧ h' = h)) s.vm h 0 0 (fr m 25 [.val (.int x)] []) := fun z => by
    refine R_iload_n C xp_25 rfl ?_
    exact R_retN C xp_26 rfl (Or.inr (Or.inr (Or.inl rfl))) (Nat.le_refl _) (Nat.le_refl _) ⟨by unfold exc; rw [if_neg (by rw [z]; decide), nar_char_id h0 h1], rfl⟩
  refine R_iload_n C xp_0 rfl ?_
  refine R_bipush C xp_1 (v := 31) rfl ?_
  refine R_icmp C xp_3 (fun (hc : (31 : Int32) < x) => ?_) (fun (hc : ¬ (31 : Int32) < x) => ?_)
  · rw [Int32.lt_iff_toInt_lt, c31] at hc
    refine R_iload_n C xp_9 rfl ?_
    refine R_bipush C xp_10 (v := 127) rfl ?_
    refine R_icmp C xp_12 (fun (hd : x < 127) => no (ctl_f (by rw [Int32.lt_iff_toInt_lt, c127] at hd; omega))) (fun (hd : ¬ x < 127) => ?_)
    rw [Int32.lt_iff_toInt_lt, c127] at hd
    refine R_iload_n C xp_15 rfl ?_
    refine R_sipush C xp_16 (v := 159) rfl ?_
    refine R_icmp C xp_19 (fun (he : (159 : Int32) < x) => no (ctl_f (by rw [Int32.lt_iff_toInt_lt, c159] at he; omega))) (fun (he : ¬ (159 : Int32) < x) => ?_)
    rw [Int32.lt_iff_toInt_lt, c159] at he
    refine R_bipush C xp_22 (v := 32) rfl ?_
    exact R_retN C xp_24 rfl (Or.inr (Or.inr (Or.inl rfl))) (Nat.le_refl _) (Nat.le_refl _) ⟨by unfold exc; rw [if_pos (ctl_t (by omega))]; rfl, rfl⟩
  · rw [Int32.lt_iff_toInt_lt, c31] at hc
    refine R_bipush C xp_6 (v := 32) rfl ?_
    exact R_retN C xp_8 rfl (Or.inr (Or.inr (Or.inl rfl))) (Nat.le_refl _) (Nat.le_refl _) ⟨by unfold exc; rw [if_pos (ctl_t (by omega))]; rfl, rfl⟩
/-- a String and whether it is wide -/
def Str2 (Z : State) (h : Heap) (a : Addr) (n : Nat) (g : Nat → Int32) : Prop := ∃ b, StrL Z h a b n g ∨ (StrU Z h a b n g ∧ ¬ ∀ i, i < n → (g i).toInt ≤ 255)
theorem Str2.exa {Z : State} {h : Heap} {a : Addr} {n : Nat} {g : Nat → Int32} (X : Str2 Z h a n g) : Exa Z h a STR := by
  obtain ⟨b, X | X⟩ := X
  · exact X.1
  · exact X.1.1
theorem Str2.bd {Z : State} {h : Heap} {a : Addr} {n : Nat} {g : Nat → Int32} (X : Str2 Z h a n g) : ∀ i, i < n → 0 ≤ (g i).toInt ∧ (g i).toInt ≤ 65535 := by
  obtain ⟨b, X | X⟩ := X
  · intro i hi
    have z := X.2.2.2.2 i hi
    omega
  · exact X.1.2.2.2.2
theorem StrL.ext {Z : State} {h h' : Heap} {a b : Addr} {n : Nat} {g : Nat → Int32} (X : StrL Z h a b n g) (E : Ext h h') : StrL Z h' a b n g := ⟨X.1.ext E, X.2.1.ext E, X.2.2.1.ext E, X.2.2.2.1.ext E, X.2.2.2.2⟩
theorem StrU.ext {Z : State} {h h' : Heap} {a b : Addr} {n : Nat} {g : Nat → Int32} (X : StrU Z h a b n g) (E : Ext h h') : StrU Z h' a b n g := ⟨X.1.ext E, X.2.1.ext E, X.2.2.1.ext E, X.2.2.2.1.ext E, X.2.2.2.2⟩
theorem Str2.ext {Z : State} {h h' : Heap} {a : Addr} {n : Nat} {g : Nat → Int32} (X : Str2 Z h a n g) (E : Ext h h') : Str2 Z h' a n g := by
  obtain ⟨b, X | X⟩ := X
  · exact ⟨b, Or.inl (X.ext E)⟩
  · exact ⟨b, Or.inr ⟨X.1.ext E, X.2⟩⟩
theorem met_len2 (l : Launch) (Z : State) (a0 : Array Value) (hw : ∀ d ∈ tables_1, d.before a0 Z = true) (nw : Prop) (EL : List (String × Nat)) (hEL : EW Z a0 EL) (cs : Int32) (fm : Value) (S : SS Z cs fm) (h : Heap) (a : Addr) (n : Nat) (g : Nat → Int32) (X : Str2 Z h a n g) :
    Met l Z nw EL ⟨STR, "length", "()I"⟩ jdk_42_method_54_code 1 (some .int) ⟨1, 0, 0, 13⟩ #[.ref a] h [] (fun v h' => v = some (.int n.toInt32) ∧ h' = h) := by
  obtain ⟨b, X | X⟩ := X
  · exact met_lengthL l Z a0 hw nw EL hEL cs fm S h a b n g X
  · exact met_lengthU l Z a0 hw nw EL hEL cs fm S h a b n g X.1
theorem met_char2 (l : Launch) (Z : State) (a0 : Array Value) (hw : ∀ d ∈ tables_1, d.before a0 Z = true) (nw : Prop) (EL : List (String × Nat)) (hEL : EW Z a0 EL) (cs : Int32) (fm : Value) (S : SS Z cs fm) (SX : SU Z) (h : Heap) (a : Addr) (n : Nat) (g : Nat → Int32) (X : Str2 Z h a n g) (iI : Int32) (i : Nat) (hi : iI.toInt = i) (hin : i < n) (hN : n ≤ 3) :
    Met l Z nw EL ⟨STR, "charAt", "(I)C"⟩ jdk_42_method_56_code 2 (some .char) ⟨4, 0, 0, 53⟩ #[.ref a, .int iI] h [] (fun v h' => v = some (.int (g i)) ∧ h' = h) := by
  obtain ⟨b, X | X⟩ := X
  · exact (met_charAtL l Z a0 hw nw EL hEL cs fm S h a b n g X iI i hi hin).room (by decide) (by decide) (by decide) (by decide)
  · exact met_charAtU l Z a0 hw nw EL hEL cs fm S SX h a b n g X.1 iI i hi hin (by omega)
theorem met_hc (l : Launch) (Z : State) (a0 : Array Value) (hw : ∀ d ∈ tables_1, d.before a0 Z = true) (nw : Prop) (EL : List (String × Nat)) (hEL : EW Z a0 EL) (cs : Int32) (fm : Value) (S : SS Z cs fm) (SX : SU Z) (h : Heap) (a : Addr) (n : Nat) (g : Nat → Int32) (X : Str2 Z h a n g) (hN : n ≤ 3) :
    Met l Z nw EL ⟨FAI, "holdsControl", "(Ljava/lang/String;)Z"⟩ prog_2_method_4_code 3 (some .boolean) ⟨5, 0, 0, 66⟩ #[.ref a] h [] (fun v h' => (v = some (.int 1) ∨ (v = some (.int 0) ∧ ∀ i, i < n → ctl (g i) = false)) ∧ h' = h) := by
  refine Met.mk (a0 := a0) hEL pn_fai ?_
  intro p e s m below meth c C hE hS
  rw [e_R3]
  have hn : n.toInt32.toInt = n := len_toInt (by omega)
  have one : (1 : Int32).toInt = 1 := rfl
  have fin : ∀ (iI : Int32) (vm : Vm) (cells slots : Nat), cells = 0 → slots = 0 → Run p l e ⟨5, 0, 0, 66⟩ s m #[.ref a] below meth c Z nw EL (Kf s Z nw EL ⟨5, 0, 0, 66⟩ (fun v h' => (v = some (.int 1) ∨ (v = some (.int 0) ∧ ∀ i, i < n → ctl (g i) = false)) ∧ h' = h)) vm h cells slots (fr m 4 [.val (.ref a), .val (.int 1), .val (.int iI)] []) := by
    intro iI vm cells slots hc hs
    subst hc hs
    refine R_iload_n C hc_4 rfl ?_
    refine R_aload_n C hc_5 rfl rfl ?_
    refine R_virtual C [] hc_6 (met_len2 l Z a0 hw nw EL hEL cs fm S h a n g X) (by first | exact fun z => z | exact fun _ => trivial) (X.exa) (hw _ (List.mem_of_getElem? (i := 42) rfl)) (hw _ (List.mem_of_getElem? (i := 43) rfl)) (hw _ (List.mem_of_getElem? (i := 45) rfl)) (hw _ (List.mem_of_getElem? (i := 44) rfl)) (hw _ (List.mem_of_getElem? (i := 8) rfl)) (hw _ (List.mem_of_getElem? (i := 46) rfl)) (by decide) pd_15 rfl rfl rfl (Nat.le_of_ble_eq_true rfl) (Nat.le_of_ble_eq_true rfl) (Nat.le_of_ble_eq_true rfl) (Nat.le_of_ble_eq_true rfl) (fun _ q => nomatch q) ?_
    intro v vm2 h2 hQ hsz2 hSf2 hFr
    obtain ⟨rfl, rfl⟩ := hQ
    simp only [Option.toList_some, List.cons_append, List.nil_append]
    refine R_icmp C hc_9 (fun _ => ?_) (fun _ => ?_)
    · refine R_iload_n C hc_31 rfl ?_
      exact R_retN C hc_32 rfl (Or.inl rfl) (Nat.le_refl _) (Nat.le_refl _) ⟨Or.inl rfl, rfl⟩
    · refine R_iload_n C hc_12 rfl ?_
      refine R_if C hc_13 (fun _ => ?_) (fun (hc : ¬ ¬ (1 : Int32) = 0) => absurd (by decide) hc)
      refine R_iload_n C hc_31 rfl ?_
      exact R_retN C hc_32 rfl (Or.inl rfl) (Nat.le_refl _) (Nat.le_refl _) ⟨Or.inl rfl, rfl⟩
  have loop : ∀ (t i : Nat) (iI : Int32) (vm : Vm) (cells slots : Nat), cells = 0 → slots = 0 → i + t = n → iI.toInt = i → (∀ j, j < i → ctl (g j) = false) → Run p l e ⟨5, 0, 0, 66⟩ s m #[.ref a] below meth c Z nw EL (Kf s Z nw EL ⟨5, 0, 0, 66⟩ (fun v h' => (v = some (.int 1) ∨ (v = some (.int 0) ∧ ∀ i, i < n → ctl (g i) = false)) ∧ h' = h)) vm h cells slots (fr m 4 [.val (.ref a), .val (.int 0), .val (.int iI)] []) := by
    intro t
    induction t with
    | zero =>
      intro i iI vm cells slots hc hs ht hi hj
      subst hc hs
      refine R_iload_n C hc_4 rfl ?_
      refine R_aload_n C hc_5 rfl rfl ?_
      refine R_virtual C [] hc_6 (met_len2 l Z a0 hw nw EL hEL cs fm S h a n g X) (by first | exact fun z => z | exact fun _ => trivial) (X.exa) (hw _ (List.mem_of_getElem? (i := 42) rfl)) (hw _ (List.mem_of_getElem? (i := 43) rfl)) (hw _ (List.mem_of_getElem? (i := 45) rfl)) (hw _ (List.mem_of_getElem? (i := 44) rfl)) (hw _ (List.mem_of_getElem? (i := 8) rfl)) (hw _ (List.mem_of_getElem? (i := 46) rfl)) (by decide) pd_15 rfl rfl rfl (Nat.le_of_ble_eq_true rfl) (Nat.le_of_ble_eq_true rfl) (Nat.le_of_ble_eq_true rfl) (Nat.le_of_ble_eq_true rfl) (fun _ q => nomatch q) ?_
      intro v vm2 h2 hQ hsz2 hSf2 hFr
      obtain ⟨rfl, rfl⟩ := hQ
      simp only [Option.toList_some, List.cons_append, List.nil_append]
      refine R_icmp C hc_9 (fun _ => ?_) (fun (hc : ¬ ¬ iI < n.toInt32) => absurd (show ¬ iI < n.toInt32 by rw [Int32.lt_iff_toInt_lt, hn]; omega) hc)
      refine R_iload_n C hc_31 rfl ?_
      exact R_retN C hc_32 rfl (Or.inl rfl) (Nat.le_refl _) (Nat.le_refl _) ⟨Or.inr ⟨rfl, fun j hjn => hj j (by omega)⟩, rfl⟩
    | succ t ih =>
      intro i iI vm cells slots hc hs ht hi hj
      subst hc hs
      have q1 := Jvm.Kit.i32_add (p := iI) (q := 1) (by omega) (by omega)
      refine R_iload_n C hc_4 rfl ?_
      refine R_aload_n C hc_5 rfl rfl ?_
      refine R_virtual C [] hc_6 (met_len2 l Z a0 hw nw EL hEL cs fm S h a n g X) (by first | exact fun z => z | exact fun _ => trivial) (X.exa) (hw _ (List.mem_of_getElem? (i := 42) rfl)) (hw _ (List.mem_of_getElem? (i := 43) rfl)) (hw _ (List.mem_of_getElem? (i := 45) rfl)) (hw _ (List.mem_of_getElem? (i := 44) rfl)) (hw _ (List.mem_of_getElem? (i := 8) rfl)) (hw _ (List.mem_of_getElem? (i := 46) rfl)) (by decide) pd_15 rfl rfl rfl (Nat.le_of_ble_eq_true rfl) (Nat.le_of_ble_eq_true rfl) (Nat.le_of_ble_eq_true rfl) (Nat.le_of_ble_eq_true rfl) (fun _ q => nomatch q) ?_
      intro v vm2 h2 hQ hsz2 hSf2 hFr
      obtain ⟨rfl, rfl⟩ := hQ
      simp only [Option.toList_some, List.cons_append, List.nil_append]
      refine R_icmp C hc_9 (fun (hc : ¬ iI < n.toInt32) => absurd (show iI < n.toInt32 by rw [Int32.lt_iff_toInt_lt, hn]; omega) hc) (fun _ => ?_)
      refine R_iload_n C hc_12 rfl ?_
      refine R_if C hc_13 (fun (hc : ¬ (0 : Int32) = 0) => absurd rfl hc) (fun _ => ?_)
      refine R_aload_n C hc_16 rfl rfl ?_
      refine R_iload_n C hc_17 rfl ?_
      refine R_virtual C [.int iI] hc_18 (met_char2 l Z a0 hw nw EL hEL cs fm S SX h2 a n g X iI i hi (by omega) hN) (by first | exact fun z => z | exact fun _ => trivial) (X.exa) (hw _ (List.mem_of_getElem? (i := 52) rfl)) (hw _ (List.mem_of_getElem? (i := 53) rfl)) (hw _ (List.mem_of_getElem? (i := 55) rfl)) (hw _ (List.mem_of_getElem? (i := 54) rfl)) (hw _ (List.mem_of_getElem? (i := 8) rfl)) (hw _ (List.mem_of_getElem? (i := 56) rfl)) (by decide) pd_16 rfl rfl rfl (Nat.le_of_ble_eq_true rfl) (Nat.le_of_ble_eq_true rfl) (Nat.le_of_ble_eq_true rfl) (Nat.le_of_ble_eq_true rfl) (fun _ q => nomatch q) ?_
      intro v vm3 h3 hQ hsz3 hSf3 hFr
      obtain ⟨rfl, rfl⟩ := hQ
      simp only [Option.toList_some, List.cons_append, List.nil_append]
      refine R_static C [.int (g i)] hc_21 (met_cc l Z a0 hw nw EL hEL _ (g i) (X.bd i (by omega)).1) (by first | exact fun z => z | exact fun _ => trivial) (hw _ (List.mem_of_getElem? (i := 74) rfl)) (hw _ (List.mem_of_getElem? (i := 75) rfl)) (hw _ (List.mem_of_getElem? (i := 76) rfl)) (hw _ (List.mem_of_getElem? (i := 77) rfl)) (by decide) pd_17 rfl rfl rfl (Nat.le_of_ble_eq_true rfl) (Nat.le_of_ble_eq_true rfl) (Nat.le_of_ble_eq_true rfl) (Nat.le_of_ble_eq_true rfl) (fun _ q => nomatch q) ?_
      intro v vm4 h4 hQ hsz4 hSf4 hFr
      obtain ⟨rfl, rfl⟩ := hQ
      simp only [Option.toList_some, List.cons_append, List.nil_append]
      by_cases z : ctl (g i) = true
      · rw [if_pos z]
        refine R_istore_n C hc_24 rfl ?_
        simp only [fv0, fv1, fv2, fv3, List.set_cons_zero, List.set_cons_succ]
        refine R_iinc C hc_25 rfl rfl (dI := 1) rfl rfl ?_
        simp only [fv0, fv1, fv2, fv3, List.set_cons_zero, List.set_cons_succ]
        refine R_goto C hc_28 ?_
        exact fin _ _ _ _ rfl rfl
      · rw [if_neg z]
        refine R_istore_n C hc_24 rfl ?_
        simp only [fv0, fv1, fv2, fv3, List.set_cons_zero, List.set_cons_succ]
        refine R_iinc C hc_25 rfl rfl (dI := 1) rfl rfl ?_
        simp only [fv0, fv1, fv2, fv3, List.set_cons_zero, List.set_cons_succ]
        refine R_goto C hc_28 ?_
        refine ih (i + 1) _ _ _ _ rfl rfl (by omega) (by omega) (fun j hjn => ?_)
        by_cases z2 : j = i
        · subst z2; exact Bool.eq_false_iff.mpr z
        · exact hj j (by omega)
  refine R_iconst C hc_0 (v := 0) rfl ?_
  refine R_istore_n C hc_1 rfl ?_
  simp only [fv0, fv1, fv2, fv3, List.set_cons_zero, List.set_cons_succ]
  refine R_iconst C hc_2 (v := 0) rfl ?_
  refine R_istore_n C hc_3 rfl ?_
  simp only [fv0, fv1, fv2, fv3, List.set_cons_zero, List.set_cons_succ]
  exact loop n 0 _ _ _ _ rfl rfl (by omega) rfl (fun j hj => absurd hj (Nat.not_lt_zero _))
theorem met_min (l : Launch) (Z : State) (a0 : Array Value) (hw : ∀ d ∈ tables_1, d.before a0 Z = true) (nw : Prop) (EL : List (String × Nat)) (hEL : EW Z a0 EL) (h : Heap) (x y : Int32) (hxy : x.toInt ≤ y.toInt) :
    Met l Z nw EL ⟨"java/lang/Math", "min", "(II)I"⟩ jdk_29_method_69_code 2 (some .int) ⟨0, 0, 0, 0⟩ #[.int x, .int y] h [] (fun v h' => v = some (.int x) ∧ h' = h) := by
  refine Met.mkH (a0 := a0) hEL pf_min ?_
  intro p e s m below meth c C _ hE hS
  rw [e_II2]
  refine R_iload_n C mn_0 rfl ?_
  refine R_iload_n C mn_1 rfl ?_
  refine R_icmp C mn_2 (fun (hc : y < x) => absurd hc (by rw [Int32.lt_iff_toInt_lt]; omega)) (fun _ => ?_)
  refine R_iload_n C mn_5 rfl ?_
  refine R_goto C mn_6 ?_
  exact R_retI C mn_10 rfl (Nat.le_refl _) (Nat.le_refl _) ⟨rfl, rfl⟩
/-- the fields of the StringBuilder at ob -/
def SBo (Z : State) (h : Heap) (ob va : Addr) (k n ml : Int32) : Prop := Exa Z h ob SBB ∧ Fld Z h ob ASB "coder" "B" (.int k) ∧ Fld Z h ob ASB "value" "[B" (.ref va) ∧ Fld Z h ob ASB "count" "I" (.int n) ∧ Fld Z h ob ASB "maybeLatin1" "Z" (.int ml)
theorem SBo.ext {Z : State} {h h' : Heap} {ob va : Addr} {k n ml : Int32} (X : SBo Z h ob va k n ml) (E : Ext h h') : SBo Z h' ob va k n ml := ⟨X.1.ext E, X.2.1.ext E, X.2.2.1.ext E, X.2.2.2.1.ext E, X.2.2.2.2.ext E⟩
theorem SBo.keep {Z : State} {h h' : Heap} {ob va : Addr} {k n ml : Int32} {ws : List Addr} (X : SBo Z h ob va k n ml) (K : Keep h h' ws) (q : ob ∉ ws) : SBo Z h' ob va k n ml := ⟨X.1.keep K, X.2.1.keep K q, X.2.2.1.keep K q, X.2.2.2.1.keep K q, X.2.2.2.2.keep K q⟩
theorem met_bl (l : Launch) (Z : State) (a0 : Array Value) (hw : ∀ d ∈ tables_1, d.before a0 Z = true) (nw : Prop) (EL : List (String × Nat)) (hEL : EW Z a0 EL) (h : Heap) (ob va : Addr) (k n ml : Int32) (X : SBo Z h ob va k n ml) :
    Met l Z nw EL ⟨ASB, "length", "()I"⟩ jdk_68_method_6_code 1 (some .int) ⟨0, 0, 0, 0⟩ #[.ref ob] h [] (fun v h' => v = some (.int n) ∧ h' = h) := by
  refine Met.mk (a0 := a0) hEL pn_asb ?_
  intro p e s m below meth c C hE hS
  rw [e_R1]
  refine R_aload_n C bl_0 rfl rfl ?_
  refine R_getfield C bl_1 (hw _ (List.mem_of_getElem? (i := 115) rfl)) Via.refl (X.2.2.2.1) ?_
  exact R_retI C bl_4 rfl (Nat.le_refl _) (Nat.le_refl _) ⟨rfl, rfl⟩
theorem met_sl (l : Launch) (Z : State) (a0 : Array Value) (hw : ∀ d ∈ tables_1, d.before a0 Z = true) (nw : Prop) (EL : List (String × Nat)) (hEL : EW Z a0 EL) (h : Heap) (ob va : Addr) (k n ml : Int32) (X : SBo Z h ob va k n ml) :
    Met l Z nw EL ⟨SBB, "length", "()I"⟩ jdk_67_method_93_code 1 (some .int) ⟨1, 0, 0, 12⟩ #[.ref ob] h [] (fun v h' => v = some (.int n) ∧ h' = h) := by
  refine Met.mk (a0 := a0) hEL pn_sbb ?_
  intro p e s m below meth c C hE hS
  rw [e_R1]
  refine R_aload_n C sl_0 rfl rfl ?_
  refine R_super C [] sl_1 (met_bl l Z a0 hw nw EL hEL h ob va k n ml X) (by first | exact fun z => z | exact fun _ => trivial) (X.1) (hw _ (List.mem_of_getElem? (i := 147) rfl)) (hw _ (List.mem_of_getElem? (i := 120) rfl)) rfl (hw _ (List.mem_of_getElem? (i := 148) rfl)) (hw _ (List.mem_of_getElem? (i := 113) rfl)) (hw _ (List.mem_of_getElem? (i := 91) rfl)) (hw _ (List.mem_of_getElem? (i := 150) rfl)) (by decide) (by decide) pd_15 rfl rfl rfl (Nat.le_of_ble_eq_true rfl) (Nat.le_of_ble_eq_true rfl) (Nat.le_of_ble_eq_true rfl) (Nat.le_of_ble_eq_true rfl) (fun _ q => nomatch q) ?_
  intro v vm2 h2 hQ hsz2 hSf2 hFr
  obtain ⟨rfl, rfl⟩ := hQ
  simp only [Option.toList_some, List.cons_append, List.nil_append]
  exact R_retI C sl_4 rfl (Nat.le_refl _) (Nat.le_refl _) ⟨rfl, rfl⟩
theorem met_bi (l : Launch) (Z : State) (a0 : Array Value) (hw : ∀ d ∈ tables_1, d.before a0 Z = true) (nw : Prop) (EL : List (String × Nat)) (hEL : EW Z a0 EL) (cs : Int32) (fm : Value) (S : SS Z cs fm) (h : Heap) (ob va : Addr) (k n ml : Int32) (X : SBo Z h ob va k n ml) :
    Met l Z nw EL ⟨ASB, "isLatin1", "()Z"⟩ jdk_68_method_68_code 1 (some .boolean) ⟨0, 0, 0, 0⟩ #[.ref ob] h [] (fun v h' => v = some (.int (if k = 0 then 1 else 0)) ∧ h' = h) := by
  refine Met.mk (a0 := a0) hEL pn_asb ?_
  intro p e s m below meth c C hE hS
  rw [e_R1]
  refine R_getstatic C bi_0 (hw _ (List.mem_of_getElem? (i := 132) rfl)) Via.refl (S.2.1.ext hE) ?_
  refine R_if C bi_3 (fun hc => absurd hc S.1) (fun _ => ?_)
  refine R_aload_n C bi_6 rfl rfl ?_
  refine R_getfield C bi_7 (hw _ (List.mem_of_getElem? (i := 97) rfl)) Via.refl (X.2.1) ?_
  refine R_if C bi_10 (fun (hc : ¬ k = 0) => ?_) (fun (hc : ¬ ¬ k = 0) => ?_)
  · refine R_iconst C bi_17 (v := 0) rfl ?_
    exact R_retN C bi_18 rfl (Or.inl rfl) (Nat.le_refl _) (Nat.le_refl _) ⟨by rw [if_neg hc]; rfl, rfl⟩
  · refine R_iconst C bi_13 (v := 1) rfl ?_
    refine R_goto C bi_14 ?_
    exact R_retN C bi_18 rfl (Or.inl rfl) (Nat.le_refl _) (Nat.le_refl _) ⟨by rw [if_pos (Decidable.not_not.mp hc)]; rfl, rfl⟩
theorem met_ce (l : Launch) (Z : State) (a0 : Array Value) (hw : ∀ d ∈ tables_1, d.before a0 Z = true) (nw : Prop) (EL : List (String × Nat)) (hEL : EW Z a0 EL) (h : Heap) :
    Met l Z nw EL ⟨LAT, "canEncode", "(C)Z"⟩ jdk_43_method_3_code 1 (some .boolean) ⟨0, 0, 0, 0⟩ #[.int 32] h [] (fun v h' => v = some (.int 1) ∧ h' = h) := by
  refine Met.mk (a0 := a0) hEL pn_lat ?_
  intro p e s m below meth c C hE hS
  rw [e_I1]
  refine R_iload_n C ce_0 rfl ?_
  refine R_sipush C ce_1 (v := 255) rfl ?_
  refine R_icmp C ce_4 (fun (hc : (255 : Int32) < 32) => absurd hc (by decide)) (fun _ => ?_)
  refine R_iconst C ce_7 (v := 1) rfl ?_
  refine R_goto C ce_8 ?_
  exact R_retN C ce_12 rfl (Or.inl rfl) (Nat.le_refl _) (Nat.le_refl _) ⟨rfl, rfl⟩
theorem met_bcL (l : Launch) (Z : State) (a0 : Array Value) (hw : ∀ d ∈ tables_1, d.before a0 Z = true) (nw : Prop) (EL : List (String × Nat)) (hEL : EW Z a0 EL) (cs : Int32) (fm : Value) (S : SS Z cs fm) (SX : SU Z) (h : Heap) (ob va : Addr) (n : Nat) (ml : Int32) (g : Nat → Int32) (X : SBo Z h ob va 0 n.toInt32 ml) (A : AR Z h va .byte (n + 16) (fun i => by8 (g i))) (hg : ∀ i, i < n + 16 → 0 ≤ (g i).toInt ∧ (g i).toInt ≤ 255) (hN : n ≤ 3) (iI : Int32) (i : Nat) (hi : iI.toInt = i) (hin : i < n) :
    Met l Z nw EL ⟨ASB, "charAt", "(I)C"⟩ jdk_68_method_14_code 5 (some .char) ⟨2, 0, 0, 27⟩ #[.ref ob, .int iI] h [] (fun v h' => v = some (.int (g i)) ∧ h' = h) := by
  refine Met.mk (a0 := a0) hEL pn_asb ?_
  intro p e s m below meth c C hE hS
  rw [e_RI5]
  have hn : n.toInt32.toInt = n := len_toInt (by omega)
  have hM : (n + 16).toInt32.toInt = (n + 16 : Nat) := len_toInt (by omega)
  refine R_aload_n C bc_0 rfl rfl ?_
  refine R_getfield C bc_1 (hw _ (List.mem_of_getElem? (i := 97) rfl)) Via.refl (X.2.1) ?_
  refine R_istore_n C bc_4 rfl ?_
  simp only [fv0, fv1, fv2, fv3, List.set_cons_zero, List.set_cons_succ]
  refine R_aload_n C bc_5 rfl rfl ?_
  refine R_getfield C bc_6 (hw _ (List.mem_of_getElem? (i := 99) rfl)) Via.refl (X.2.2.1) ?_
  refine R_astore_n C bc_9 rfl rfl rfl ?_
  simp only [fv0, fv1, fv2, fv3, List.set_cons_zero, List.set_cons_succ]
  refine R_aload_n C bc_10 rfl rfl ?_
  refine R_getfield C bc_11 (hw _ (List.mem_of_getElem? (i := 115) rfl)) Via.refl (X.2.2.2.1) ?_
  refine R_aload_n C bc_14 rfl rfl ?_
  refine R_arraylength C bc_15 (A) rfl ?_
  refine R_iload_n C bc_16 rfl ?_
  refine R_ishr C bc_17 ?_
  rw [shr0]
  refine R_static C [.int n.toInt32, .int (n + 16).toInt32] bc_18 (met_min l Z a0 hw nw EL hEL h n.toInt32 (n + 16).toInt32 (by omega)) (by first | exact fun z => z | exact fun _ => trivial) (hw _ (List.mem_of_getElem? (i := 160) rfl)) (hw _ (List.mem_of_getElem? (i := 161) rfl)) (hw _ (List.mem_of_getElem? (i := 162) rfl)) (hw _ (List.mem_of_getElem? (i := 163) rfl)) (by decide) pd_18 rfl rfl rfl (Nat.le_of_ble_eq_true rfl) (Nat.le_of_ble_eq_true rfl) (Nat.le_of_ble_eq_true rfl) (Nat.le_of_ble_eq_true rfl) (fun _ q => nomatch q) ?_
  intro v vm2 h2 hQ hsz2 hSf2 hFr
  obtain ⟨rfl, rfl⟩ := hQ
  simp only [Option.toList_some, List.cons_append, List.nil_append]
  refine R_istore C bc_21 rfl ?_
  simp only [fv0, fv1, fv2, fv3, List.set_cons_zero, List.set_cons_succ]
  refine R_iload_n C bc_23 rfl ?_
  refine R_iload C bc_24 rfl ?_
  refine R_static C [.int iI, .int n.toInt32] bc_26 (met_ck l Z a0 hw nw EL hEL cs fm S _ iI n.toInt32 (nn_of hi) (by rw [Int32.lt_iff_toInt_lt, hn]; omega)) (by first | exact fun z => z | exact fun _ => trivial) (hw _ (List.mem_of_getElem? (i := 164) rfl)) (hw _ (List.mem_of_getElem? (i := 67) rfl)) (hw _ (List.mem_of_getElem? (i := 8) rfl)) (hw _ (List.mem_of_getElem? (i := 68) rfl)) (by decide) pd_6 rfl rfl rfl (Nat.le_of_ble_eq_true rfl) (Nat.le_of_ble_eq_true rfl) (Nat.le_of_ble_eq_true rfl) (Nat.le_of_ble_eq_true rfl) (fun _ q => nomatch q) ?_
  intro v vm3 h3 hQ hsz3 hSf3 hFr
  obtain ⟨rfl, rfl⟩ := hQ
  simp only [Option.toList_none, List.nil_append]
  refine R_iload_n C bc_29 rfl ?_
  refine R_if C bc_30 (fun (hc : ¬ (0 : Int32) = 0) => absurd rfl hc) (fun _ => ?_)
  refine R_aload_n C bc_33 rfl rfl ?_
  refine R_iload_n C bc_34 rfl ?_
  refine R_baload C (i) bc_35 (A) (hi) ((by omega)) (rfl) ?_
  refine R_sipush C bc_36 (v := 255) rfl ?_
  refine R_iand C bc_39 ?_
  refine R_i2c C bc_40 ?_
  refine R_retN C bc_41 rfl (Or.inr (Or.inr (Or.inl rfl))) (Nat.le_refl _) (Nat.le_refl _) ⟨?_, rfl⟩
  rw [nar_nar_char, byte_back (hg i (by omega)).1 (hg i (by omega)).2]
theorem met_bcU (l : Launch) (Z : State) (a0 : Array Value) (hw : ∀ d ∈ tables_1, d.before a0 Z = true) (nw : Prop) (EL : List (String × Nat)) (hEL : EW Z a0 EL) (cs : Int32) (fm : Value) (S : SS Z cs fm) (SX : SU Z) (h : Heap) (ob va : Addr) (n : Nat) (ml : Int32) (g : Nat → Int32) (X : SBo Z h ob va 1 n.toInt32 ml) (A : AR Z h va .byte (2 * (n + 16)) (ub g)) (hg : ∀ i, i < n + 16 → 0 ≤ (g i).toInt ∧ (g i).toInt ≤ 65535) (hN : n ≤ 3) (iI : Int32) (i : Nat) (hi : iI.toInt = i) (hin : i < n) :
    Met l Z nw EL ⟨ASB, "charAt", "(I)C"⟩ jdk_68_method_14_code 5 (some .char) ⟨2, 0, 0, 27⟩ #[.ref ob, .int iI] h [] (fun v h' => v = some (.int (g i)) ∧ h' = h) := by
  refine Met.mk (a0 := a0) hEL pn_asb ?_
  intro p e s m below meth c C hE hS
  rw [e_RI5]
  have hn : n.toInt32.toInt = n := len_toInt (by omega)
  have hM : (n + 16).toInt32.toInt = (n + 16 : Nat) := len_toInt (by omega)
  refine R_aload_n C bc_0 rfl rfl ?_
  refine R_getfield C bc_1 (hw _ (List.mem_of_getElem? (i := 97) rfl)) Via.refl (X.2.1) ?_
  refine R_istore_n C bc_4 rfl ?_
  simp only [fv0, fv1, fv2, fv3, List.set_cons_zero, List.set_cons_succ]
  refine R_aload_n C bc_5 rfl rfl ?_
  refine R_getfield C bc_6 (hw _ (List.mem_of_getElem? (i := 99) rfl)) Via.refl (X.2.2.1) ?_
  refine R_astore_n C bc_9 rfl rfl rfl ?_
  simp only [fv0, fv1, fv2, fv3, List.set_cons_zero, List.set_cons_succ]
  refine R_aload_n C bc_10 rfl rfl ?_
  refine R_getfield C bc_11 (hw _ (List.mem_of_getElem? (i := 115) rfl)) Via.refl (X.2.2.2.1) ?_
  refine R_aload_n C bc_14 rfl rfl ?_
  refine R_arraylength C bc_15 (A) rfl ?_
  refine R_iload_n C bc_16 rfl ?_
  refine R_ishr C bc_17 ?_
  rw [hlf A.small]
  refine R_static C [.int n.toInt32, .int (n + 16).toInt32] bc_18 (met_min l Z a0 hw nw EL hEL h n.toInt32 (n + 16).toInt32 (by omega)) (by first | exact fun z => z | exact fun _ => trivial) (hw _ (List.mem_of_getElem? (i := 160) rfl)) (hw _ (List.mem_of_getElem? (i := 161) rfl)) (hw _ (List.mem_of_getElem? (i := 162) rfl)) (hw _ (List.mem_of_getElem? (i := 163) rfl)) (by decide) pd_18 rfl rfl rfl (Nat.le_of_ble_eq_true rfl) (Nat.le_of_ble_eq_true rfl) (Nat.le_of_ble_eq_true rfl) (Nat.le_of_ble_eq_true rfl) (fun _ q => nomatch q) ?_
  intro v vm2 h2 hQ hsz2 hSf2 hFr
  obtain ⟨rfl, rfl⟩ := hQ
  simp only [Option.toList_some, List.cons_append, List.nil_append]
  refine R_istore C bc_21 rfl ?_
  simp only [fv0, fv1, fv2, fv3, List.set_cons_zero, List.set_cons_succ]
  refine R_iload_n C bc_23 rfl ?_
  refine R_iload C bc_24 rfl ?_
  refine R_static C [.int iI, .int n.toInt32] bc_26 (met_ck l Z a0 hw nw EL hEL cs fm S _ iI n.toInt32 (nn_of hi) (by rw [Int32.lt_iff_toInt_lt, hn]; omega)) (by first | exact fun z => z | exact fun _ => trivial) (hw _ (List.mem_of_getElem? (i := 164) rfl)) (hw _ (List.mem_of_getElem? (i := 67) rfl)) (hw _ (List.mem_of_getElem? (i := 8) rfl)) (hw _ (List.mem_of_getElem? (i := 68) rfl)) (by decide) pd_6 rfl rfl rfl (Nat.le_of_ble_eq_true rfl) (Nat.le_of_ble_eq_true rfl) (Nat.le_of_ble_eq_true rfl) (Nat.le_of_ble_eq_true rfl) (fun _ q => nomatch q) ?_
  intro v vm3 h3 hQ hsz3 hSf3 hFr
  obtain ⟨rfl, rfl⟩ := hQ
  simp only [Option.toList_none, List.nil_append]
  refine R_iload_n C bc_29 rfl ?_
  refine R_if C bc_30 (fun _ => ?_) (fun (hc : ¬ ¬ (1 : Int32) = 0) => absurd (by decide) hc)
  refine R_aload_n C bc_42 rfl rfl ?_
  refine R_iload_n C bc_43 rfl ?_
  refine R_static C [.ref va, .int iI] bc_44 (met_gu l Z a0 hw nw EL hEL SX _ va (n + 16) i g A iI hi (by omega) (by omega) (hg i (by omega))) (by first | exact fun z => z | exact fun _ => trivial) (hw _ (List.mem_of_getElem? (i := 252) rfl)) (hw _ (List.mem_of_getElem? (i := 239) rfl)) (hw _ (List.mem_of_getElem? (i := 22) rfl)) (hw _ (List.mem_of_getElem? (i := 240) rfl)) (by decide) pd_8 rfl rfl rfl (Nat.le_of_ble_eq_true rfl) (Nat.le_of_ble_eq_true rfl) (Nat.le_of_ble_eq_true rfl) (Nat.le_of_ble_eq_true rfl) (fun _ q => nomatch q) ?_
  intro v vm4 h4 hQ hsz4 hSf4 hFr
  obtain ⟨rfl, rfl⟩ := hQ
  simp only [Option.toList_some, List.cons_append, List.nil_append]
  exact R_retN C bc_47 rfl (Or.inr (Or.inr (Or.inl rfl))) (Nat.le_refl _) (Nat.le_refl _) ⟨by rw [nar_char_id (hg i (by omega)).1 (hg i (by omega)).2], rfl⟩
/-- the StringBuilder at ob holds g 0 .. g (n - 1), sixteen places more are free -/
def SBd (Z : State) (h : Heap) (ob va : Addr) (n : Nat) (ml : Int32) (g : Nat → Int32) : Prop := (SBo Z h ob va 0 n.toInt32 ml ∧ AR Z h va .byte (n + 16) (fun i => by8 (g i)) ∧ ∀ i, i < n + 16 → 0 ≤ (g i).toInt ∧ (g i).toInt ≤ 255) ∨ (SBo Z h ob va 1 n.toInt32 ml ∧ AR Z h va .byte (2 * (n + 16)) (ub g) ∧ (∀ i, i < n + 16 → 0 ≤ (g i).toInt ∧ (g i).toInt ≤ 65535) ∧ ¬ ∀ i, i < n → (g i).toInt ≤ 255)
theorem SBd.exa {Z : State} {h : Heap} {ob va : Addr} {n : Nat} {ml : Int32} {g : Nat → Int32} (X : SBd Z h ob va n ml g) : Exa Z h ob SBB := by
  rcases X with X | X
  · exact X.1.1
  · exact X.1.1
theorem SBd.bd {Z : State} {h : Heap} {ob va : Addr} {n : Nat} {ml : Int32} {g : Nat → Int32} (X : SBd Z h ob va n ml g) : ∀ i, i < n + 16 → 0 ≤ (g i).toInt ∧ (g i).toInt ≤ 65535 := by
  rcases X with X | X
  · intro i hi
    have z := X.2.2 i hi
    omega
  · exact X.2.2.1
theorem SBd.ext {Z : State} {h h' : Heap} {ob va : Addr} {n : Nat} {ml : Int32} {g : Nat → Int32} (X : SBd Z h ob va n ml g) (E : Ext h h') : SBd Z h' ob va n ml g := by
  rcases X with X | X
  · exact Or.inl ⟨X.1.ext E, X.2.1.ext E, X.2.2⟩
  · exact Or.inr ⟨X.1.ext E, X.2.1.ext E, X.2.2⟩
theorem met_bc (l : Launch) (Z : State) (a0 : Array Value) (hw : ∀ d ∈ tables_1, d.before a0 Z = true) (nw : Prop) (EL : List (String × Nat)) (hEL : EW Z a0 EL) (cs : Int32) (fm : Value) (S : SS Z cs fm) (SX : SU Z) (h : Heap) (ob va : Addr) (n : Nat) (ml : Int32) (g : Nat → Int32) (X : SBd Z h ob va n ml g) (hN : n ≤ 3) (iI : Int32) (i : Nat) (hi : iI.toInt = i) (hin : i < n) :
    Met l Z nw EL ⟨ASB, "charAt", "(I)C"⟩ jdk_68_method_14_code 5 (some .char) ⟨2, 0, 0, 27⟩ #[.ref ob, .int iI] h [] (fun v h' => v = some (.int (g i)) ∧ h' = h) := by
  rcases X with X | X
  · exact met_bcL l Z a0 hw nw EL hEL cs fm S SX h ob va n ml g X.1 X.2.1 X.2.2 hN iI i hi hin
  · exact met_bcU l Z a0 hw nw EL hEL cs fm S SX h ob va n ml g X.1 X.2.1 X.2.2.1 hN iI i hi hin
theorem met_sc (l : Launch) (Z : State) (a0 : Array Value) (hw : ∀ d ∈ tables_1, d.before a0 Z = true) (nw : Prop) (EL : List (String × Nat)) (hEL : EW Z a0 EL) (cs : Int32) (fm : Value) (S : SS Z cs fm) (SX : SU Z) (h : Heap) (ob va : Addr) (n : Nat) (ml : Int32) (g : Nat → Int32) (X : SBd Z h ob va n ml g) (hN : n ≤ 3) (iI : Int32) (i : Nat) (hi : iI.toInt = i) (hin : i < n) :
    Met l Z nw EL ⟨SBB, "charAt", "(I)C"⟩ jdk_67_method_88_code 2 (some .char) ⟨3, 0, 0, 43⟩ #[.ref ob, .int iI] h [] (fun v h' => v = some (.int (g i)) ∧ h' = h) := by
  refine Met.mk (a0 := a0) hEL pn_sbb ?_
  intro p e s m below meth c C hE hS
  rw [e_RI2]
  have hg := X.bd i (by omega)
  refine R_aload_n C sc_0 rfl rfl ?_
  refine R_iload_n C sc_1 rfl ?_
  refine R_super C [.int iI] sc_2 (met_bc l Z a0 hw nw EL hEL cs fm S SX h ob va n ml g X hN iI i hi hin) (by first | exact fun z => z | exact fun _ => trivial) (X.exa) (hw _ (List.mem_of_getElem? (i := 156) rfl)) (hw _ (List.mem_of_getElem? (i := 120) rfl)) rfl (hw _ (List.mem_of_getElem? (i := 157) rfl)) (hw _ (List.mem_of_getElem? (i := 113) rfl)) (hw _ (List.mem_of_getElem? (i := 91) rfl)) (hw _ (List.mem_of_getElem? (i := 159) rfl)) (by decide) (by decide) pd_16 rfl rfl rfl (Nat.le_of_ble_eq_true rfl) (Nat.le_of_ble_eq_true rfl) (Nat.le_of_ble_eq_true rfl) (Nat.le_of_ble_eq_true rfl) (fun _ q => nomatch q) ?_
  intro v vm2 h2 hQ hsz2 hSf2 hFr
  obtain ⟨rfl, rfl⟩ := hQ
  simp only [Option.toList_some, List.cons_append, List.nil_append]
  exact R_retN C sc_5 rfl (Or.inr (Or.inr (Or.inl rfl))) (Nat.le_refl _) (Nat.le_refl _) ⟨by rw [nar_char_id hg.1 hg.2], rfl⟩
def put (g : Nat → Int32) (i : Nat) (x : Int32) (j : Nat) : Int32 := if j = i then x else g j
theorem ub_put {g : Nat → Int32} {i : Nat} {x : Int32} (j : Nat) : upd (upd (ub g) (2 * i) (by8 x)) (2 * i + 1) (by8 (x >>> ((8 : Int32) &&& 31))) j = ub (put g i x) j := by
  unfold Own.upd ub put
  by_cases z1 : j = 2 * i + 1
  · subst z1
    rw [if_pos rfl, if_neg (by omega), if_pos (by omega)]
  · rw [if_neg z1]
    by_cases z2 : j = 2 * i
    · subst z2
      rw [if_pos rfl, if_pos (by omega), if_pos (by omega)]
    · rw [if_neg z2]
      by_cases z3 : j % 2 = 0
      · rw [if_pos z3, if_pos z3, if_neg (by omega)]
      · rw [if_neg z3, if_neg z3, if_neg (by omega)]
theorem met_ps (l : Launch) (Z : State) (a0 : Array Value) (hw : ∀ d ∈ tables_1, d.before a0 Z = true) (nw : Prop) (EL : List (String × Nat)) (hEL : EW Z a0 EL) (cs : Int32) (fm : Value) (S : SS Z cs fm) (SX : SU Z) (h : Heap) (va : Addr) (M i : Nat) (g : Nat → Int32) (A : AR Z h va .byte (2 * M) (ub g)) (hM : M < 1000) (hv : Z.heap.size ≤ va) (iI : Int32) (hi : iI.toInt = i) (hin : i < M) :
    Met l Z nw EL ⟨UTF, "putCharSB", "([BII)V"⟩ jdk_52_method_71_code 3 none ⟨3, 0, 0, 40⟩ #[.ref va, .int iI, .int 32] h [va] (fun v h' => v = none ∧ Keep h h' [va] ∧ AR Z h' va .byte (2 * M) (ub (put g i 32))) := by
  refine Met.mk (a0 := a0) hEL pn_utf ?_
  intro p e s m below meth c C hE hS
  rw [e_RII3]
  refine R_iload_n C ps_0 rfl ?_
  refine R_aload_n C ps_1 rfl rfl ?_
  refine R_static C [.int iI, .ref va] ps_2 (met_uk l Z a0 hw nw EL hEL cs fm S h va M i _ A iI hi hin) (by first | exact fun z => z | exact fun _ => trivial) (hw _ (List.mem_of_getElem? (i := 244) rfl)) (hw _ (List.mem_of_getElem? (i := 245) rfl)) (hw _ (List.mem_of_getElem? (i := 22) rfl)) (hw _ (List.mem_of_getElem? (i := 246) rfl)) (by decide) pd_13 rfl rfl rfl (Nat.le_of_ble_eq_true rfl) (Nat.le_of_ble_eq_true rfl) (Nat.le_of_ble_eq_true rfl) (Nat.le_of_ble_eq_true rfl) (fun _ q => nomatch q) ?_
  intro v vm2 h2 hQ hsz2 hSf2 hFr
  obtain ⟨rfl, rfl⟩ := hQ
  simp only [Option.toList_none, List.nil_append]
  refine R_aload_n C ps_5 rfl rfl ?_
  refine R_iload_n C ps_6 rfl ?_
  refine R_iload_n C ps_7 rfl ?_
  refine R_static C [.ref va, .int iI, .int 32] ps_8 (met_pu l Z a0 hw nw EL hEL SX _ va (2 * M) i _ A hv iI 32 hi (by omega) (by omega)) (by first | exact fun z => z | exact fun _ => trivial) (hw _ (List.mem_of_getElem? (i := 232) rfl)) (hw _ (List.mem_of_getElem? (i := 233) rfl)) (hw _ (List.mem_of_getElem? (i := 22) rfl)) (hw _ (List.mem_of_getElem? (i := 234) rfl)) (by decide) pd_10 rfl rfl rfl (Nat.le_of_ble_eq_true rfl) (Nat.le_of_ble_eq_true rfl) (Nat.le_of_ble_eq_true rfl) (Nat.le_of_ble_eq_true rfl) (fun z hz => by cases List.mem_singleton.mp hz; exact hSf2 _ A.lt (hS _ (List.mem_singleton.mpr rfl))) ?_
  intro v vm3 h3 hQ hsz3 hSf3 hFr
  obtain ⟨rfl, K3, D3⟩ := hQ
  exact R_return C ps_11 rfl (Nat.le_refl _) (Nat.le_refl _) ⟨rfl, K3, D3.cg fun j hj => ub_put j⟩
theorem met_bs (l : Launch) (Z : State) (a0 : Array Value) (hw : ∀ d ∈ tables_1, d.before a0 Z = true) (nw : Prop) (EL : List (String × Nat)) (hEL : EW Z a0 EL) (cs : Int32) (fm : Value) (S : SS Z cs fm) (SX : SU Z) (h : Heap) (ob va : Addr) (n : Nat) (ml : Int32) (g : Nat → Int32) (X : SBd Z h ob va n ml g) (hN : n ≤ 3) (ho : Z.heap.size ≤ ob) (hv : Z.heap.size ≤ va) (hov : ob ≠ va) (iI : Int32) (i : Nat) (hi : iI.toInt = i) (hin : i < n) (hc : ctl (g i) = true) :
    Met l Z nw EL ⟨ASB, "setCharAt", "(IC)V"⟩ jdk_68_method_20_code 3 none ⟨4, 0, 0, 54⟩ #[.ref ob, .int iI, .int 32] h [ob, va] (fun v h' => v = none ∧ Keep h h' [ob, va] ∧ ∃ ml', SBd Z h' ob va n ml' (put g i 32)) := by
  refine Met.mk (a0 := a0) hEL pn_asb ?_
  intro p e s m below meth c C hE hS
  rw [e_RII3]
  have hn : n.toInt32.toInt = n := len_toInt (by omega)
  have So := hS ob (List.mem_cons_self ..)
  have Sv := hS va (List.mem_cons_of_mem _ (List.mem_singleton.mpr rfl))
  have c32 : (32 : Int32).toInt = 32 := rfl
  rcases X with ⟨X, A, hg⟩ | ⟨X, A, hg, hwd⟩
  · refine R_iload_n C bs_0 rfl ?_
    refine R_aload_n C bs_1 rfl rfl ?_
    refine R_getfield C bs_2 (hw _ (List.mem_of_getElem? (i := 115) rfl)) Via.refl (X.2.2.2.1) ?_
    refine R_static C [.int iI, .int n.toInt32] bs_5 (met_ck l Z a0 hw nw EL hEL cs fm S h iI n.toInt32 (nn_of hi) (by rw [Int32.lt_iff_toInt_lt, hn]; omega)) (by first | exact fun z => z | exact fun _ => trivial) (hw _ (List.mem_of_getElem? (i := 164) rfl)) (hw _ (List.mem_of_getElem? (i := 67) rfl)) (hw _ (List.mem_of_getElem? (i := 8) rfl)) (hw _ (List.mem_of_getElem? (i := 68) rfl)) (by decide) pd_6 rfl rfl rfl (Nat.le_of_ble_eq_true rfl) (Nat.le_of_ble_eq_true rfl) (Nat.le_of_ble_eq_true rfl) (Nat.le_of_ble_eq_true rfl) (fun _ q => nomatch q) ?_
    intro v vm2 h2 hQ hsz2 hSf2 hFr
    obtain ⟨rfl, rfl⟩ := hQ
    simp only [Option.toList_none, List.nil_append]
    refine R_aload_n C bs_8 rfl rfl ?_
    refine R_virtual C [] bs_9 (met_bi l Z a0 hw nw EL hEL cs fm S _ ob va 0 n.toInt32 ml X) (by first | exact fun z => z | exact fun _ => trivial) (X.1) (hw _ (List.mem_of_getElem? (i := 174) rfl)) (hw _ (List.mem_of_getElem? (i := 175) rfl)) (hw _ (List.mem_of_getElem? (i := 177) rfl)) (hw _ (List.mem_of_getElem? (i := 176) rfl)) (hw _ (List.mem_of_getElem? (i := 91) rfl)) (hw _ (List.mem_of_getElem? (i := 178) rfl)) (by decide) pd_7 rfl rfl rfl (Nat.le_of_ble_eq_true rfl) (Nat.le_of_ble_eq_true rfl) (Nat.le_of_ble_eq_true rfl) (Nat.le_of_ble_eq_true rfl) (fun _ q => nomatch q) ?_
    intro v vm3 h3 hQ hsz3 hSf3 hFr
    obtain ⟨rfl, rfl⟩ := hQ
    rw [if_pos rfl]
    simp only [Option.toList_some, List.cons_append, List.nil_append]
    refine R_if C bs_12 (fun (hc : (1 : Int32) = 0) => absurd hc (by decide)) (fun _ => ?_)
    refine R_iload_n C bs_15 rfl ?_
    refine R_static C [.int 32] bs_16 (met_ce l Z a0 hw nw EL hEL _) (by first | exact fun z => z | exact fun _ => trivial) (hw _ (List.mem_of_getElem? (i := 179) rfl)) (hw _ (List.mem_of_getElem? (i := 180) rfl)) (hw _ (List.mem_of_getElem? (i := 64) rfl)) (hw _ (List.mem_of_getElem? (i := 181) rfl)) (by decide) pd_17 rfl rfl rfl (Nat.le_of_ble_eq_true rfl) (Nat.le_of_ble_eq_true rfl) (Nat.le_of_ble_eq_true rfl) (Nat.le_of_ble_eq_true rfl) (fun _ q => nomatch q) ?_
    intro v vm4 h4 hQ hsz4 hSf4 hFr
    obtain ⟨rfl, rfl⟩ := hQ
    simp only [Option.toList_some, List.cons_append, List.nil_append]
    refine R_if C bs_19 (fun (hc : (1 : Int32) = 0) => absurd hc (by decide)) (fun _ => ?_)
    refine R_aload_n C bs_22 rfl rfl ?_
    refine R_getfield C bs_23 (hw _ (List.mem_of_getElem? (i := 99) rfl)) Via.refl (X.2.2.1) ?_
    refine R_iload_n C bs_26 rfl ?_
    refine R_iload_n C bs_27 rfl ?_
    refine R_i2b C bs_28 ?_
    refine R_bastore C i bs_29 A hi (by omega) hv (hSf4 _ A.lt (hSf3 _ A.lt (hSf2 _ A.lt Sv))) ?_
    intro h5 W5 D5 _
    refine R_goto C bs_30 ?_
    have K5 : Keep h4 h5 [ob, va] := (Keep.refl _ _).wr W5 (Or.inl (List.mem_cons_of_mem _ (List.mem_singleton.mpr rfl)))
    have K6 : Keep h4 h5 [va] := (Keep.refl _ _).wr W5 (Or.inl (List.mem_singleton.mpr rfl))
    refine R_return C bs_58 rfl (Nat.le_refl _) (Nat.le_refl _) ⟨rfl, K5, ml, Or.inl ⟨X.keep K6 (fun z => hov (List.mem_singleton.mp z)), D5.cg fun j hj => ?_, fun j hj => ?_⟩⟩
    · unfold put
      by_cases z : j = i
      · subst z
        rw [upd_eq, if_pos rfl, nar_byte_byte]
      · rw [upd_ne z, if_neg z]
    · unfold put
      split
      · omega
      · exact hg j hj
  · refine R_iload_n C bs_0 rfl ?_
    refine R_aload_n C bs_1 rfl rfl ?_
    refine R_getfield C bs_2 (hw _ (List.mem_of_getElem? (i := 115) rfl)) Via.refl (X.2.2.2.1) ?_
    refine R_static C [.int iI, .int n.toInt32] bs_5 (met_ck l Z a0 hw nw EL hEL cs fm S h iI n.toInt32 (nn_of hi) (by rw [Int32.lt_iff_toInt_lt, hn]; omega)) (by first | exact fun z => z | exact fun _ => trivial) (hw _ (List.mem_of_getElem? (i := 164) rfl)) (hw _ (List.mem_of_getElem? (i := 67) rfl)) (hw _ (List.mem_of_getElem? (i := 8) rfl)) (hw _ (List.mem_of_getElem? (i := 68) rfl)) (by decide) pd_6 rfl rfl rfl (Nat.le_of_ble_eq_true rfl) (Nat.le_of_ble_eq_true rfl) (Nat.le_of_ble_eq_true rfl) (Nat.le_of_ble_eq_true rfl) (fun _ q => nomatch q) ?_
    intro v vm2 h2 hQ hsz2 hSf2 hFr
    obtain ⟨rfl, rfl⟩ := hQ
    simp only [Option.toList_none, List.nil_append]
    refine R_aload_n C bs_8 rfl rfl ?_
    refine R_virtual C [] bs_9 (met_bi l Z a0 hw nw EL hEL cs fm S _ ob va 1 n.toInt32 ml X) (by first | exact fun z => z | exact fun _ => trivial) (X.1) (hw _ (List.mem_of_getElem? (i := 174) rfl)) (hw _ (List.mem_of_getElem? (i := 175) rfl)) (hw _ (List.mem_of_getElem? (i := 177) rfl)) (hw _ (List.mem_of_getElem? (i := 176) rfl)) (hw _ (List.mem_of_getElem? (i := 91) rfl)) (hw _ (List.mem_of_getElem? (i := 178) rfl)) (by decide) pd_7 rfl rfl rfl (Nat.le_of_ble_eq_true rfl) (Nat.le_of_ble_eq_true rfl) (Nat.le_of_ble_eq_true rfl) (Nat.le_of_ble_eq_true rfl) (fun _ q => nomatch q) ?_
    intro v vm3 h3 hQ hsz3 hSf3 hFr
    obtain ⟨rfl, rfl⟩ := hQ
    rw [if_neg (by decide)]
    simp only [Option.toList_some, List.cons_append, List.nil_append]
    refine R_if C bs_12 (fun _ => ?_) (fun (hc : ¬ (0 : Int32) = 0) => absurd rfl hc)
    refine R_aload_n C bs_33 rfl rfl ?_
    refine R_virtual C [] bs_34 (met_bi l Z a0 hw nw EL hEL cs fm S _ ob va 1 n.toInt32 ml X) (by first | exact fun z => z | exact fun _ => trivial) (X.1) (hw _ (List.mem_of_getElem? (i := 174) rfl)) (hw _ (List.mem_of_getElem? (i := 175) rfl)) (hw _ (List.mem_of_getElem? (i := 177) rfl)) (hw _ (List.mem_of_getElem? (i := 176) rfl)) (hw _ (List.mem_of_getElem? (i := 91) rfl)) (hw _ (List.mem_of_getElem? (i := 178) rfl)) (by decide) pd_7 rfl rfl rfl (Nat.le_of_ble_eq_true rfl) (Nat.le_of_ble_eq_true rfl) (Nat.le_of_ble_eq_true rfl) (Nat.le_of_ble_eq_true rfl) (fun _ q => nomatch q) ?_
    intro v vm4 h4 hQ hsz4 hSf4 hFr
    obtain ⟨rfl, rfl⟩ := hQ
    rw [if_neg (by decide)]
    simp only [Option.toList_some, List.cons_append, List.nil_append]
    refine R_if C bs_37 (fun _ => ?_) (fun (hc : ¬ (0 : Int32) = 0) => absurd rfl hc)
    refine R_aload_n C bs_44 rfl rfl ?_
    refine R_getfield C bs_45 (hw _ (List.mem_of_getElem? (i := 99) rfl)) Via.refl (X.2.2.1) ?_
    refine R_iload_n C bs_48 rfl ?_
    refine R_iload_n C bs_49 rfl ?_
    refine R_static C [.ref va, .int iI, .int 32] bs_50 (met_ps l Z a0 hw nw EL hEL cs fm S SX _ va (n + 16) i g A (by omega) hv iI hi (by omega)) (by first | exact fun z => z | exact fun _ => trivial) (hw _ (List.mem_of_getElem? (i := 253) rfl)) (hw _ (List.mem_of_getElem? (i := 254) rfl)) (hw _ (List.mem_of_getElem? (i := 22) rfl)) (hw _ (List.mem_of_getElem? (i := 255) rfl)) (by decide) pd_10 rfl rfl rfl (Nat.le_of_ble_eq_true rfl) (Nat.le_of_ble_eq_true rfl) (Nat.le_of_ble_eq_true rfl) (Nat.le_of_ble_eq_true rfl) (fun z hz => by cases List.mem_singleton.mp hz; exact hSf4 _ A.lt (hSf3 _ A.lt (hSf2 _ A.lt Sv))) ?_
    intro v vm5 h5 hQ hsz5 hSf5 hFr
    obtain ⟨rfl, K5, D5⟩ := hQ
    simp only [Option.toList_none, List.nil_append]
    have X5 := X.keep K5 (fun z => hov (List.mem_singleton.mp z))
    have So5 := hSf5 _ X.1.lt (hSf4 _ X.1.lt (hSf3 _ X.1.lt (hSf2 _ X.1.lt So)))
    refine R_aload_n C bs_53 rfl rfl ?_
    refine R_iconst C bs_54 (v := 1) rfl ?_
    refine R_putfield C bs_55 (hw _ (List.mem_of_getElem? (i := 256) rfl)) Via.refl X5.2.2.2.2 X5.1 (Or.inl (hw _ (List.mem_of_getElem? (i := 257) rfl))) (hw _ (List.mem_of_getElem? (i := 82) rfl)) (ty := .boolean) (by decide) rfl rfl ho So5 ?_
    intro h6 W6 _
    have Lm : Laid Z a0 SBB ASB "maybeLatin1" "Z" := Or.inl (hw _ (List.mem_of_getElem? (i := 257) rfl))
    have n1 := slot_ne (Or.inl (hw _ (List.mem_of_getElem? (i := 98) rfl)) : Laid Z a0 SBB ASB "coder" "B") Lm (by decide) (t := .byte) (t' := .boolean) (by decide) (by decide)
    have n2 := slot_ne (Or.inl (hw _ (List.mem_of_getElem? (i := 100) rfl)) : Laid Z a0 SBB ASB "value" "[B") Lm (by decide) (t := .array .byte) (t' := .boolean) (by decide) (by decide)
    have n3 := slot_ne (Or.inl (hw _ (List.mem_of_getElem? (i := 116) rfl)) : Laid Z a0 SBB ASB "count" "I") Lm (by decide) (t := .int) (t' := .boolean) (by decide) (by decide)
    have K6 : Keep h4 h6 [ob, va] := ((Keep.refl _ _).trans K5 (fun z hz => Or.inl (List.mem_cons_of_mem _ hz))).wr W6 (Or.inl (List.mem_cons_self ..))
    refine R_return C bs_58 rfl (Nat.le_refl _) (Nat.le_refl _) ⟨rfl, K6, 1, Or.inr ⟨⟨X5.1.wr W6, X5.2.1.other W6 (Or.inr n1), X5.2.2.1.other W6 (Or.inr n2), X5.2.2.2.1.other W6 (Or.inr n3), X5.2.2.2.2.same W6⟩, D5.other W6 (Ne.symm hov), fun j hj => ?_, fun z => hwd fun j hj => ?_⟩⟩
    · unfold put
      split
      · omega
      · exact hg j hj
    · by_cases z2 : j = i
      · subst z2
        have := ctl_small hc
        omega
      · have z3 := z j hj
        unfold put at z3
        rw [if_neg z2] at z3
        exact z3
theorem met_ss (l : Launch) (Z : State) (a0 : Array Value) (hw : ∀ d ∈ tables_1, d.before a0 Z = true) (nw : Prop) (EL : List (String × Nat)) (hEL : EW Z a0 EL) (cs : Int32) (fm : Value) (S : SS Z cs fm) (SX : SU Z) (h : Heap) (ob va : Addr) (n : Nat) (ml : Int32) (g : Nat → Int32) (X : SBd Z h ob va n ml g) (hN : n ≤ 3) (ho : Z.heap.size ≤ ob) (hv : Z.heap.size ≤ va) (hov : ob ≠ va) (iI : Int32) (i : Nat) (hi : iI.toInt = i) (hin : i < n) (hc : ctl (g i) = true) :
    Met l Z nw EL ⟨SBB, "setCharAt", "(IC)V"⟩ jdk_67_method_82_code 3 none ⟨5, 0, 0, 68⟩ #[.ref ob, .int iI, .int 32] h [ob, va] (fun v h' => v = none ∧ Keep h h' [ob, va] ∧ ∃ ml', SBd Z h' ob va n ml' (put g i 32)) := by
  refine Met.mk (a0 := a0) hEL pn_sbb ?_
  intro p e s m below meth c C hE hS
  rw [e_RII3]
  refine R_aload_n C ss_0 rfl rfl ?_
  refine R_iload_n C ss_1 rfl ?_
  refine R_iload_n C ss_2 rfl ?_
  refine R_super C [.int iI, .int 32] ss_3 (met_bs l Z a0 hw nw EL hEL cs fm S SX h ob va n ml g X hN ho hv hov iI i hi hin hc) (by first | exact fun z => z | exact fun _ => trivial) (X.exa) (hw _ (List.mem_of_getElem? (i := 170) rfl)) (hw _ (List.mem_of_getElem? (i := 120) rfl)) rfl (hw _ (List.mem_of_getElem? (i := 171) rfl)) (hw _ (List.mem_of_getElem? (i := 113) rfl)) (hw _ (List.mem_of_getElem? (i := 91) rfl)) (hw _ (List.mem_of_getElem? (i := 173) rfl)) (by decide) (by decide) pd_19 rfl rfl rfl (Nat.le_of_ble_eq_true rfl) (Nat.le_of_ble_eq_true rfl) (Nat.le_of_ble_eq_true rfl) (Nat.le_of_ble_eq_true rfl) (hS) ?_
  intro v vm2 h2 hQ hsz2 hSf2 hFr
  obtain ⟨rfl, hQ⟩ := hQ
  simp only [Option.toList_none, List.nil_append]
  exact R_return C ss_6 rfl (Nat.le_refl _) (Nat.le_refl _) ⟨rfl, hQ⟩
theorem met_gb (l : Launch) (Z : State) (a0 : Array Value) (hw : ∀ d ∈ tables_1, d.before a0 Z = true) (nw : Prop) (EL : List (String × Nat)) (hEL : EW Z a0 EL) (cs : Int32) (fm : Value) (S : SS Z cs fm) (h : Heap) (a b : Addr) (k : Int32) (hk : nar .byte k = k) (E : Exa Z h a STR) (Fc : Fld Z h a STR "coder" "B" (.int k)) (V : Fld Z h a STR "value" "[B" (.ref b)) (Nb : Nat) (fb : Nat → Value) (A : AR Z h b .byte Nb fb) (va : Addr) (Nd : Nat) (fd : Nat → Value) (D : AR Z h va .byte Nd fd) (hle : Nb ≤ Nd) (hv : Z.heap.size ≤ va) (hk0 : (0 : Int32) <<< (k &&& 31) = 0) :
    Met l Z nw EL ⟨STR, "getBytes", "([BIB)V"⟩ jdk_42_method_147_code 4 none ⟨1, 0, 0, 18⟩ #[.ref a, .ref va, .int 0, .int k] h [va] (fun v h' => v = none ∧ Keep h h' [va] ∧ AR Z h' va .byte Nd (fun i => if i < Nb then fb i else fd i)) := by
  refine Met.mk (a0 := a0) hEL pn_str ?_
  intro p e s m below meth c C hE hS
  rw [e_RRII4]
  refine R_aload_n C gb_0 rfl rfl ?_
  refine R_virtual C [] gb_1 (met_coder l Z a0 hw nw EL hEL cs fm S h a k hk Fc) (by first | exact fun z => z | exact fun _ => trivial) (E) (hw _ (List.mem_of_getElem? (i := 47) rfl)) (hw _ (List.mem_of_getElem? (i := 48) rfl)) (hw _ (List.mem_of_getElem? (i := 50) rfl)) (hw _ (List.mem_of_getElem? (i := 49) rfl)) (hw _ (List.mem_of_getElem? (i := 8) rfl)) (hw _ (List.mem_of_getElem? (i := 51) rfl)) (by decide) pd_0 rfl rfl rfl (Nat.le_of_ble_eq_true rfl) (Nat.le_of_ble_eq_true rfl) (Nat.le_of_ble_eq_true rfl) (Nat.le_of_ble_eq_true rfl) (fun _ q => nomatch q) ?_
  intro v vm2 h2 hQ hsz2 hSf2 hFr
  obtain ⟨rfl, rfl⟩ := hQ
  simp only [Option.toList_some, List.cons_append, List.nil_append]
  refine R_iload_n C gb_4 rfl ?_
  refine R_icmp C gb_5 (fun (hc : ¬ k = k) => absurd rfl hc) (fun _ => ?_)
  refine R_aload_n C gb_8 rfl rfl ?_
  refine R_getfield C gb_9 (hw _ (List.mem_of_getElem? (i := 33) rfl)) Via.refl (V) ?_
  refine R_iconst C gb_12 (v := 0) rfl ?_
  refine R_aload_n C gb_13 rfl rfl ?_
  refine R_iload_n C gb_14 rfl ?_
  refine R_iload_n C gb_15 rfl ?_
  refine R_ishl C gb_16 ?_
  refine R_aload_n C gb_17 rfl rfl ?_
  refine R_getfield C gb_18 (hw _ (List.mem_of_getElem? (i := 33) rfl)) Via.refl (V) ?_
  refine R_arraylength C gb_21 (A) rfl ?_
  rw [hk0]
  refine R_arraycopy C 0 0 Nb gb_22 (hw _ (List.mem_of_getElem? (i := 138) rfl)) (hw _ (List.mem_of_getElem? (i := 141) rfl)) (hw _ (List.mem_of_getElem? (i := 139) rfl)) (hw _ (List.mem_of_getElem? (i := 140) rfl)) A D rfl rfl rfl (len_toInt A.small) (by omega) (by omega) rfl (Nat.le_of_ble_eq_true rfl) (Nat.le_of_ble_eq_true rfl) hv (hSf2 _ D.lt (hS _ (List.mem_singleton.mpr rfl))) ?_
  intro h3 K3 D3 _
  refine R_goto C gb_25 ?_
  refine R_return C gb_43 rfl (Nat.le_refl _) (Nat.le_refl _) ⟨rfl, K3, D3.cg fun i hi => ?_⟩
  show (if 0 ≤ i ∧ i < 0 + Nb then fb (0 + (i - 0)) else fd i) = (if i < Nb then fb i else fd i)
  by_cases z : i < Nb
  · rw [if_pos ⟨Nat.zero_le _, by omega⟩, if_pos z, Nat.zero_add, Nat.sub_zero]
  · rw [if_neg (by omega), if_neg z]
theorem met_in (l : Launch) (Z : State) (a0 : Array Value) (hw : ∀ d ∈ tables_1, d.before a0 Z = true) (nw : Prop) (EL : List (String × Nat)) (hEL : EW Z a0 EL) (cs : Int32) (fm : Value) (S : SS Z cs fm) (h : Heap) (a b : Addr) (k : Int32) (hk : nar .byte k = k) (E : Exa Z h a STR) (Fc : Fld Z h a STR "coder" "B" (.int k)) (V : Fld Z h a STR "value" "[B" (.ref b)) (Nb : Nat) (fb : Nat → Value) (A : AR Z h b .byte Nb fb) (ob va : Addr) (n ml : Int32) (X : SBo Z h ob va k n ml) :
    Met l Z nw EL ⟨ASB, "inflateIfNeededFor", "(Ljava/lang/String;)V"⟩ jdk_68_method_71_code 2 none ⟨1, 0, 0, 13⟩ #[.ref ob, .ref a] h [] (fun v h' => v = none ∧ h' = h) := by
  refine Met.mk (a0 := a0) hEL pn_asb ?_
  intro p e s m below meth c C hE hS
  rw [e_RR2]
  refine R_getstatic C in_0 (hw _ (List.mem_of_getElem? (i := 132) rfl)) Via.refl (S.2.1.ext hE) ?_
  refine R_if C in_3 (fun hc => absurd hc S.1) (fun _ => ?_)
  refine R_aload_n C in_6 rfl rfl ?_
  refine R_getfield C in_7 (hw _ (List.mem_of_getElem? (i := 97) rfl)) Via.refl (X.2.1) ?_
  refine R_aload_n C in_10 rfl rfl ?_
  refine R_virtual C [] in_11 (met_coder l Z a0 hw nw EL hEL cs fm S h a k hk Fc) (by first | exact fun z => z | exact fun _ => trivial) (E) (hw _ (List.mem_of_getElem? (i := 96) rfl)) (hw _ (List.mem_of_getElem? (i := 48) rfl)) (hw _ (List.mem_of_getElem? (i := 50) rfl)) (hw _ (List.mem_of_getElem? (i := 49) rfl)) (hw _ (List.mem_of_getElem? (i := 8) rfl)) (hw _ (List.mem_of_getElem? (i := 51) rfl)) (by decide) pd_0 rfl rfl rfl (Nat.le_of_ble_eq_true rfl) (Nat.le_of_ble_eq_true rfl) (Nat.le_of_ble_eq_true rfl) (Nat.le_of_ble_eq_true rfl) (fun _ q => nomatch q) ?_
  intro v vm2 h2 hQ hsz2 hSf2 hFr
  obtain ⟨rfl, rfl⟩ := hQ
  simp only [Option.toList_some, List.cons_append, List.nil_append]
  refine R_icmp C in_14 (fun _ => ?_) (fun (hc : ¬ k = k) => absurd rfl hc)
  exact R_return C in_21 rfl (Nat.le_refl _) (Nat.le_refl _) ⟨rfl, rfl⟩
theorem met_pa (l : Launch) (Z : State) (a0 : Array Value) (hw : ∀ d ∈ tables_1, d.before a0 Z = true) (nw : Prop) (EL : List (String × Nat)) (hEL : EW Z a0 EL) (cs : Int32) (fm : Value) (S : SS Z cs fm) (h : Heap) (a b : Addr) (k : Int32) (hk : nar .byte k = k) (E : Exa Z h a STR) (Fc : Fld Z h a STR "coder" "B" (.int k)) (V : Fld Z h a STR "value" "[B" (.ref b)) (Nb : Nat) (fb : Nat → Value) (A : AR Z h b .byte Nb fb) (ob va : Addr) (n ml : Int32) (X : SBo Z h ob va k n ml) (Nd : Nat) (fd : Nat → Value) (D : AR Z h va .byte Nd fd) (hle : Nb ≤ Nd) (hv : Z.heap.size ≤ va) (hk0 : (0 : Int32) <<< (k &&& 31) = 0) :
    Met l Z nw EL ⟨ASB, "putStringAt", "(ILjava/lang/String;)V"⟩ jdk_68_method_73_code 3 none ⟨2, 0, 0, 33⟩ #[.ref ob, .int 0, .ref a] h [va] (fun v h' => v = none ∧ Keep h h' [va] ∧ AR Z h' va .byte Nd (fun i => if i < Nb then fb i else fd i)) := by
  refine Met.mk (a0 := a0) hEL pn_asb ?_
  intro p e s m below meth c C hE hS
  rw [e_RIR3]
  refine R_aload_n C pa_0 rfl rfl ?_
  refine R_aload_n C pa_1 rfl rfl ?_
  refine R_privateS C [.ref a] pa_2 (met_in l Z a0 hw nw EL hEL cs fm S h a b k hk E Fc V Nb fb A ob va n ml X) (by first | exact fun z => z | exact fun _ => trivial) (X.1) (hw _ (List.mem_of_getElem? (i := 127) rfl)) (hw _ (List.mem_of_getElem? (i := 129) rfl)) (hw _ (List.mem_of_getElem? (i := 130) rfl)) (hw _ (List.mem_of_getElem? (i := 128) rfl)) (hw _ (List.mem_of_getElem? (i := 91) rfl)) (hw _ (List.mem_of_getElem? (i := 131) rfl)) (by decide) pd_20 rfl rfl rfl (Nat.le_of_ble_eq_true rfl) (Nat.le_of_ble_eq_true rfl) (Nat.le_of_ble_eq_true rfl) (Nat.le_of_ble_eq_true rfl) (fun _ q => nomatch q) ?_
  intro v vm2 h2 hQ hsz2 hSf2 hFr
  obtain ⟨rfl, rfl⟩ := hQ
  simp only [Option.toList_none, List.nil_append]
  refine R_aload_n C pa_5 rfl rfl ?_
  refine R_aload_n C pa_6 rfl rfl ?_
  refine R_getfield C pa_7 (hw _ (List.mem_of_getElem? (i := 99) rfl)) Via.refl (X.2.2.1) ?_
  refine R_iload_n C pa_10 rfl ?_
  refine R_aload_n C pa_11 rfl rfl ?_
  refine R_getfield C pa_12 (hw _ (List.mem_of_getElem? (i := 97) rfl)) Via.refl (X.2.1) ?_
  refine R_virtual C [.ref va, .int 0, .int k] pa_15 (met_gb l Z a0 hw nw EL hEL cs fm S _ a b k hk E Fc V Nb fb A va Nd fd D hle hv hk0) (by first | exact fun z => z | exact fun _ => trivial) (E) (hw _ (List.mem_of_getElem? (i := 133) rfl)) (hw _ (List.mem_of_getElem? (i := 134) rfl)) (hw _ (List.mem_of_getElem? (i := 136) rfl)) (hw _ (List.mem_of_getElem? (i := 135) rfl)) (hw _ (List.mem_of_getElem? (i := 8) rfl)) (hw _ (List.mem_of_getElem? (i := 137) rfl)) (by decide) pd_21 rfl rfl rfl (Nat.le_of_ble_eq_true rfl) (Nat.le_of_ble_eq_true rfl) (Nat.le_of_ble_eq_true rfl) (Nat.le_of_ble_eq_true rfl) (fun z hz => by cases List.mem_singleton.mp hz; exact hSf2 _ D.lt (hS _ (List.mem_singleton.mpr rfl))) ?_
  intro v vm3 h3 hQ hsz3 hSf3 hFr
  obtain ⟨rfl, hQ⟩ := hQ
  exact R_return C pa_18 rfl (Nat.le_refl _) (Nat.le_refl _) ⟨rfl, hQ⟩
theorem met_ec (l : Launch) (Z : State) (a0 : Array Value) (hw : ∀ d ∈ tables_1, d.before a0 Z = true) (nw : Prop) (EL : List (String × Nat)) (hEL : EW Z a0 EL) (h : Heap) (k : Int32) (ob va : Addr) (n ml : Int32) (X : SBo Z h ob va k n ml) (N : Nat) (f : Nat → Value) (A : AR Z h va .byte N f) (x : Int32) (hle : ¬ 0 < x - (N.toInt32 >>> (k &&& 31))) :
    Met l Z nw EL ⟨ASB, "ensureCapacityInternal", "(I)V"⟩ jdk_68_method_9_code 3 none ⟨0, 0, 0, 0⟩ #[.ref ob, .int x] h [] (fun v h' => v = none ∧ h' = h) := by
  refine Met.mk (a0 := a0) hEL pn_asb ?_
  intro p e s m below meth c C hE hS
  rw [e_RI3]
  refine R_aload_n C ec_0 rfl rfl ?_
  refine R_getfield C ec_1 (hw _ (List.mem_of_getElem? (i := 99) rfl)) Via.refl (X.2.2.1) ?_
  refine R_arraylength C ec_4 (A) rfl ?_
  refine R_aload_n C ec_5 rfl rfl ?_
  refine R_getfield C ec_6 (hw _ (List.mem_of_getElem? (i := 97) rfl)) Via.refl (X.2.1) ?_
  refine R_ishr C ec_9 ?_
  refine R_istore_n C ec_10 rfl ?_
  simp only [fv0, fv1, fv2, fv3, List.set_cons_zero, List.set_cons_succ]
  refine R_iload_n C ec_11 rfl ?_
  refine R_iload_n C ec_12 rfl ?_
  refine R_isub C ec_13 ?_
  refine R_if C ec_14 (fun _ => ?_) (fun hc => absurd hle hc)
  exact R_return C ec_38 rfl (Nat.le_refl _) (Nat.le_refl _) ⟨rfl, rfl⟩
theorem met_ba (l : Launch) (Z : State) (a0 : Array Value) (hw : ∀ d ∈ tables_1, d.before a0 Z = true) (nw : Prop) (EL : List (String × Nat)) (hEL : EW Z a0 EL) (cs : Int32) (fm : Value) (S : SS Z cs fm) (h : Heap) (a b : Addr) (k : Int32) (hk : nar .byte k = k) (E : Exa Z h a STR) (Fc : Fld Z h a STR "coder" "B" (.int k)) (V : Fld Z h a STR "value" "[B" (.ref b)) (Nb : Nat) (fb : Nat → Value) (A : AR Z h b .byte Nb fb) (ob va : Addr) (ml : Int32) (X : SBo Z h ob va k 0 ml) (Nd : Nat) (fd : Nat → Value) (D : AR Z h va .byte Nd fd) (hle : Nb ≤ Nd) (hv : Z.heap.size ≤ va) (hk0 : (0 : Int32) <<< (k &&& 31) = 0) (len : Nat) (hlen : Nb.toInt32 >>> (k &&& 31) = len.toInt32) (hcap : ¬ 0 < len.toInt32 - (Nd.toInt32 >>> (k &&& 31))) (ho : Z.heap.size ≤ ob) (hov : ob ≠ va) :
    Met l Z nw EL ⟨ASB, "append", "(Ljava/lang/String;)Ljava/lang/AbstractStringBuilder;"⟩ jdk_68_method_22_code 3 (some (.object ASB)) ⟨3, 0, 0, 47⟩ #[.ref ob, .ref a] h [ob, va] (fun v h' => v = some (.ref ob) ∧ Keep h h' [ob, va] ∧ SBo Z h' ob va k len.toInt32 ml ∧ AR Z h' va .byte Nd (fun i => if i < Nb then fb i else fd i)) := by
  refine Met.mk (a0 := a0) hEL pn_asb ?_
  intro p e s m below meth c C hE hS
  rw [e_RR3]
  have So := hS ob (List.mem_cons_self ..)
  have Sv := hS va (List.mem_cons_of_mem _ (List.mem_singleton.mpr rfl))
  refine R_aload_n C ba_0 rfl rfl ?_
  refine R_ifnonnull_y C ba_1 ?_
  refine R_aload_n C ba_9 rfl rfl ?_
  refine R_virtual C [] ba_10 (met_length l Z a0 hw nw EL hEL cs fm S h a b Nb fb k hk E Fc V A) (by first | exact fun z => z | exact fun _ => trivial) (E) (hw _ (List.mem_of_getElem? (i := 94) rfl)) (hw _ (List.mem_of_getElem? (i := 43) rfl)) (hw _ (List.mem_of_getElem? (i := 45) rfl)) (hw _ (List.mem_of_getElem? (i := 44) rfl)) (hw _ (List.mem_of_getElem? (i := 8) rfl)) (hw _ (List.mem_of_getElem? (i := 46) rfl)) (by decide) pd_15 rfl rfl rfl (Nat.le_of_ble_eq_true rfl) (Nat.le_of_ble_eq_true rfl) (Nat.le_of_ble_eq_true rfl) (Nat.le_of_ble_eq_true rfl) (fun _ q => nomatch q) ?_
  intro v vm2 h2 hQ hsz2 hSf2 hFr
  obtain ⟨rfl, rfl⟩ := hQ
  simp only [Option.toList_some, List.cons_append, List.nil_append]
  rw [hlen]
  have z0 : (0 : Int32) + len.toInt32 = len.toInt32 := Int32.zero_add _
  refine R_istore_n C ba_13 rfl ?_
  simp only [fv0, fv1, fv2, fv3, List.set_cons_zero, List.set_cons_succ]
  refine R_aload_n C ba_14 rfl rfl ?_
  refine R_aload_n C ba_15 rfl rfl ?_
  refine R_getfield C ba_16 (hw _ (List.mem_of_getElem? (i := 115) rfl)) Via.refl (X.2.2.2.1) ?_
  refine R_iload_n C ba_19 rfl ?_
  refine R_iadd C ba_20 ?_
  rw [z0]
  refine R_privateS C [.int len.toInt32] ba_21 (met_ec l Z a0 hw nw EL hEL _ k ob va 0 ml X Nd fd D len.toInt32 hcap) (by first | exact fun z => z | exact fun _ => trivial) (X.1) (hw _ (List.mem_of_getElem? (i := 117) rfl)) (hw _ (List.mem_of_getElem? (i := 119) rfl)) (hw _ (List.mem_of_getElem? (i := 120) rfl)) (hw _ (List.mem_of_getElem? (i := 118) rfl)) (hw _ (List.mem_of_getElem? (i := 91) rfl)) (hw _ (List.mem_of_getElem? (i := 121) rfl)) (by decide) pd_22 rfl rfl rfl (Nat.le_of_ble_eq_true rfl) (Nat.le_of_ble_eq_true rfl) (Nat.le_of_ble_eq_true rfl) (Nat.le_of_ble_eq_true rfl) (fun _ q => nomatch q) ?_
  intro v vm3 h3 hQ hsz3 hSf3 hFr
  obtain ⟨rfl, rfl⟩ := hQ
  simp only [Option.toList_none, List.nil_append]
  refine R_aload_n C ba_24 rfl rfl ?_
  refine R_aload_n C ba_25 rfl rfl ?_
  refine R_getfield C ba_26 (hw _ (List.mem_of_getElem? (i := 115) rfl)) Via.refl (X.2.2.2.1) ?_
  refine R_aload_n C ba_29 rfl rfl ?_
  refine R_privateS C [.int 0, .ref a] ba_30 (met_pa l Z a0 hw nw EL hEL cs fm S _ a b k hk E Fc V Nb fb A ob va 0 ml X Nd fd D hle hv hk0) (by first | exact fun z => z | exact fun _ => trivial) (X.1) (hw _ (List.mem_of_getElem? (i := 122) rfl)) (hw _ (List.mem_of_getElem? (i := 124) rfl)) (hw _ (List.mem_of_getElem? (i := 125) rfl)) (hw _ (List.mem_of_getElem? (i := 123) rfl)) (hw _ (List.mem_of_getElem? (i := 91) rfl)) (hw _ (List.mem_of_getElem? (i := 126) rfl)) (by decide) pd_23 rfl rfl rfl (Nat.le_of_ble_eq_true rfl) (Nat.le_of_ble_eq_true rfl) (Nat.le_of_ble_eq_true rfl) (Nat.le_of_ble_eq_true rfl) (fun z hz => by cases List.mem_singleton.mp hz; exact hSf3 _ D.lt (hSf2 _ D.lt Sv)) ?_
  intro v vm4 h4 hQ hsz4 hSf4 hFr
  obtain ⟨rfl, K4, D4⟩ := hQ
  simp only [Option.toList_none, List.nil_append]
  have X4 := X.keep K4 (fun z => hov (List.mem_singleton.mp z))
  have So4 := hSf4 _ X.1.lt (hSf3 _ X.1.lt (hSf2 _ X.1.lt So))
  refine R_aload_n C ba_33 rfl rfl ?_
  refine R_dup C ba_34 rfl ?_
  refine R_getfield C ba_35 (hw _ (List.mem_of_getElem? (i := 115) rfl)) Via.refl (X4.2.2.2.1) ?_
  refine R_iload_n C ba_38 rfl ?_
  refine R_iadd C ba_39 ?_
  rw [z0]
  refine R_putfield C ba_40 (hw _ (List.mem_of_getElem? (i := 115) rfl)) Via.refl X4.2.2.2.1 X4.1 (Or.inl (hw _ (List.mem_of_getElem? (i := 116) rfl))) (hw _ (List.mem_of_getElem? (i := 82) rfl)) (ty := .int) (by decide) rfl rfl ho So4 ?_
  intro h5 W5 _
  refine R_aload_n C ba_43 rfl rfl ?_
  have K5 : Keep h3 h5 [ob, va] := ((Keep.refl _ _).trans K4 (fun z hz => Or.inl (List.mem_cons_of_mem _ hz))).wr W5 (Or.inl (List.mem_cons_self ..))
  exact R_areturn C ba_44 rfl rfl rfl (Nat.le_refl _) (Nat.le_refl _) ⟨rfl, K5, ⟨X4.1.wr W5, X4.2.1.other W5 (Or.inr (slot_ne (Or.inl (hw _ (List.mem_of_getElem? (i := 98) rfl)) : Laid Z a0 SBB ASB "coder" "B") (Or.inl (hw _ (List.mem_of_getElem? (i := 116) rfl)) : Laid Z a0 SBB ASB "count" "I") (by decide) (t := .byte) (t' := .int) (by decide) (by decide))), X4.2.2.1.other W5 (Or.inr (slot_ne (Or.inl (hw _ (List.mem_of_getElem? (i := 100) rfl)) : Laid Z a0 SBB ASB "value" "[B") (Or.inl (hw _ (List.mem_of_getElem? (i := 116) rfl)) : Laid Z a0 SBB ASB "count" "I") (by decide) (t := .array .byte) (t' := .int) (by decide) (by decide))), X4.2.2.2.1.same W5, X4.2.2.2.2.other W5 (Or.inr (slot_ne (Or.inl (hw _ (List.mem_of_getElem? (i := 257) rfl)) : Laid Z a0 SBB ASB "maybeLatin1" "Z") (Or.inl (hw _ (List.mem_of_getElem? (i := 116) rfl)) : Laid Z a0 SBB ASB "count" "I") (by decide) (t := .boolean) (t' := .int) (by decide) (by decide)))⟩, D4.other W5 (Ne.symm hov)⟩
theorem met_sa (l : Launch) (Z : State) (a0 : Array Value) (hw : ∀ d ∈ tables_1, d.before a0 Z = true) (nw : Prop) (EL : List (String × Nat)) (hEL : EW Z a0 EL) (cs : Int32) (fm : Value) (S : SS Z cs fm) (h : Heap) (a b : Addr) (k : Int32) (hk : nar .byte k = k) (E : Exa Z h a STR) (Fc : Fld Z h a STR "coder" "B" (.int k)) (V : Fld Z h a STR "value" "[B" (.ref b)) (Nb : Nat) (fb : Nat → Value) (A : AR Z h b .byte Nb fb) (ob va : Addr) (ml : Int32) (X : SBo Z h ob va k 0 ml) (Nd : Nat) (fd : Nat → Value) (D : AR Z h va .byte Nd fd) (hle : Nb ≤ Nd) (hv : Z.heap.size ≤ va) (hk0 : (0 : Int32) <<< (k &&& 31) = 0) (len : Nat) (hlen : Nb.toInt32 >>> (k &&& 31) = len.toInt32) (hcap : ¬ 0 < len.toInt32 - (Nd.toInt32 >>> (k &&& 31))) (ho : Z.heap.size ≤ ob) (hov : ob ≠ va) :
    Met l Z nw EL ⟨SBB, "append", "(Ljava/lang/String;)Ljava/lang/StringBuilder;"⟩ jdk_67_method_7_code 2 (some (.object SBB)) ⟨4, 0, 0, 61⟩ #[.ref ob, .ref a] h [ob, va] (fun v h' => v = some (.ref ob) ∧ Keep h h' [ob, va] ∧ SBo Z h' ob va k len.toInt32 ml ∧ AR Z h' va .byte Nd (fun i => if i < Nb then fb i else fd i)) := by
  refine Met.mk (a0 := a0) hEL pn_sbb ?_
  intro p e s m below meth c C hE hS
  rw [e_RR2]
  refine R_aload_n C sa_0 rfl rfl ?_
  refine R_aload_n C sa_1 rfl rfl ?_
  refine R_super C [.ref a] sa_2 (met_ba l Z a0 hw nw EL hEL cs fm S h a b k hk E Fc V Nb fb A ob va ml X Nd fd D hle hv hk0 len hlen hcap ho hov) (by first | exact fun z => z | exact fun _ => trivial) (X.1) (hw _ (List.mem_of_getElem? (i := 112) rfl)) (hw _ (List.mem_of_getElem? (i := 120) rfl)) rfl (hw _ (List.mem_of_getElem? (i := 103) rfl)) (hw _ (List.mem_of_getElem? (i := 113) rfl)) (hw _ (List.mem_of_getElem? (i := 91) rfl)) (hw _ (List.mem_of_getElem? (i := 114) rfl)) (by decide) (by decide) pd_24 rfl rfl rfl (Nat.le_of_ble_eq_true rfl) (Nat.le_of_ble_eq_true rfl) (Nat.le_of_ble_eq_true rfl) (Nat.le_of_ble_eq_true rfl) (hS) ?_
  intro v vm2 h2 hQ hsz2 hSf2 hFr
  obtain ⟨rfl, hQ⟩ := hQ
  simp only [Option.toList_some, List.cons_append, List.nil_append]
  refine R_pop C sa_5 rfl ?_
  refine R_aload_n C sa_6 rfl rfl ?_
  exact R_areturn C sa_7 rfl rfl rfl (Nat.le_refl _) (Nat.le_refl _) ⟨rfl, hQ⟩
theorem met_sb (l : Launch) (Z : State) (a0 : Array Value) (hw : ∀ d ∈ tables_1, d.before a0 Z = true) (nw : Prop) (EL : List (String × Nat)) (hEL : EW Z a0 EL) (cs : Int32) (fm : Value) (S : SS Z cs fm) (h : Heap) (a b : Addr) (k : Int32) (hk : nar .byte k = k) (E : Exa Z h a STR) (Fc : Fld Z h a STR "coder" "B" (.int k)) (V : Fld Z h a STR "value" "[B" (.ref b)) (Nb : Nat) (fb : Nat → Value) (A : AR Z h b .byte Nb fb) (ob va : Addr) (ml : Int32) (X : SBo Z h ob va k 0 ml) (Nd : Nat) (fd : Nat → Value) (D : AR Z h va .byte Nd fd) (hle : Nb ≤ Nd) (hv : Z.heap.size ≤ va) (hk0 : (0 : Int32) <<< (k &&& 31) = 0) (len : Nat) (hlen : Nb.toInt32 >>> (k &&& 31) = len.toInt32) (hcap : ¬ 0 < len.toInt32 - (Nd.toInt32 >>> (k &&& 31))) (ho : Z.heap.size ≤ ob) (hov : ob ≠ va) :
    Met l Z nw EL ⟨SBB, "append", "(Ljava/lang/String;)Ljava/lang/AbstractStringBuilder;"⟩ jdk_67_method_80_code 2 (some (.object ASB)) ⟨5, 0, 0, 74⟩ #[.ref ob, .ref a] h [ob, va] (fun v h' => v = some (.ref ob) ∧ Keep h h' [ob, va] ∧ SBo Z h' ob va k len.toInt32 ml ∧ AR Z h' va .byte Nd (fun i => if i < Nb then fb i else fd i)) := by
  refine Met.mk (a0 := a0) hEL pn_sbb ?_
  intro p e s m below meth c C hE hS
  rw [e_RR2]
  refine R_aload_n C sb_0 rfl rfl ?_
  refine R_aload_n C sb_1 rfl rfl ?_
  refine R_virtual C [.ref a] sb_2 (met_sa l Z a0 hw nw EL hEL cs fm S h a b k hk E Fc V Nb fb A ob va ml X Nd fd D hle hv hk0 len hlen hcap ho hov) (by first | exact fun z => z | exact fun _ => trivial) (X.1) (hw _ (List.mem_of_getElem? (i := 107) rfl)) (hw _ (List.mem_of_getElem? (i := 108) rfl)) (hw _ (List.mem_of_getElem? (i := 110) rfl)) (hw _ (List.mem_of_getElem? (i := 109) rfl)) (hw _ (List.mem_of_getElem? (i := 83) rfl)) (hw _ (List.mem_of_getElem? (i := 111) rfl)) (by decide) pd_25 rfl rfl rfl (Nat.le_of_ble_eq_true rfl) (Nat.le_of_ble_eq_true rfl) (Nat.le_of_ble_eq_true rfl) (Nat.le_of_ble_eq_true rfl) (hS) ?_
  intro v vm2 h2 hQ hsz2 hSf2 hFr
  obtain ⟨rfl, hQ⟩ := hQ
  simp only [Option.toList_some, List.cons_append, List.nil_append]
  exact R_areturn C sb_5 rfl rfl rfl (Nat.le_refl _) (Nat.le_refl _) ⟨rfl, hQ⟩
def ext0 (n : Nat) (g : Nat → Int32) (i : Nat) : Int32 := if i < n then g i else 0
theorem m16 : ∀ n : Fin 4, ¬ 0 < n.val.toInt32 - ((n.val + 16).toInt32 >>> ((0 : Int32) &&& 31)) ∧ ¬ 0 < n.val.toInt32 - ((2 * (n.val + 16)).toInt32 >>> ((1 : Int32) &&& 31)) ∧ (n.val.toInt32 + 16) = (n.val + 16).toInt32 ∧ n.val.toInt32 < 2147483631 := by decide +kernel
theorem met_an (l : Launch) (Z : State) (a0 : Array Value) (hw : ∀ d ∈ tables_1, d.before a0 Z = true) (nw : Prop) (EL : List (String × Nat)) (hEL : EW Z a0 EL) (cs : Int32) (fm : Value) (S : SS Z cs fm) (SX : SU Z) (h : Heap) (ob a : Addr) (n : Nat) (g : Nat → Int32) (Y : Str2 Z h a n g) (hN : n ≤ 3) (X0 : Exa Z h ob SBB) (G1 : Fld Z h ob ASB "coder" "B" (.int 0)) (G2 : Fld Z h ob ASB "value" "[B" .null) (G3 : Fld Z h ob ASB "count" "I" (.int 0)) (G4 : Fld Z h ob ASB "maybeLatin1" "Z" (.int 0)) (ho : Z.heap.size ≤ ob) :
    Met l Z nw EL ⟨ASB, "<init>", "(Ljava/lang/String;)V"⟩ jdk_68_method_3_code 5 none ⟨6, 1, 40, 87⟩ #[.ref ob, .ref a] h [ob] (fun v h' => v = none ∧ Keep h h' [ob] ∧ ∃ va, h.size ≤ va ∧ SBd Z h' ob va n 0 (ext0 n g)) := by
  refine Met.mk (a0 := a0) hEL pn_asb ?_
  intro p e s m below meth c C hE hS
  rw [e_RR5]
  have So := hS ob (List.mem_singleton.mpr rfl)
  have mm := m16 ⟨n, by omega⟩
  obtain ⟨c1, c2, c3, c4⟩ := mm
  dsimp only at c1 c2 c3 c4
  have hM : (n + 16).toInt32.toInt = (n + 16 : Nat) := len_toInt (by omega)
  obtain ⟨b, Y | ⟨Y, hwd⟩⟩ := Y
  · obtain ⟨E, V, Fc, A, hg⟩ := Y
    have hlen : n.toInt32 >>> ((0 : Int32) &&& 31) = n.toInt32 := shr0 _
    refine R_aload_n C an_0 rfl rfl ?_
    refine R_initO C an_1 (hw _ (List.mem_of_getElem? (i := 93) rfl)) (hw _ (List.mem_of_getElem? (i := 17) rfl)) (hw _ (List.mem_of_getElem? (i := 18) rfl)) rfl (Nat.le_of_ble_eq_true rfl) (Nat.le_of_ble_eq_true rfl) ?_
    refine R_aload_n C an_4 rfl rfl ?_
    refine R_virtual C [] an_5 (met_length l Z a0 hw nw EL hEL cs fm S h a b n _ 0 rfl E Fc V A) (by first | exact fun z => z | exact fun _ => trivial) (E) (hw _ (List.mem_of_getElem? (i := 94) rfl)) (hw _ (List.mem_of_getElem? (i := 43) rfl)) (hw _ (List.mem_of_getElem? (i := 45) rfl)) (hw _ (List.mem_of_getElem? (i := 44) rfl)) (hw _ (List.mem_of_getElem? (i := 8) rfl)) (hw _ (List.mem_of_getElem? (i := 46) rfl)) (by decide) pd_15 rfl rfl rfl (Nat.le_of_ble_eq_true rfl) (Nat.le_of_ble_eq_true rfl) (Nat.le_of_ble_eq_true rfl) (Nat.le_of_ble_eq_true rfl) (fun _ q => nomatch q) ?_
    intro v vm1 h1 hQ hsz1 hSf1 hFr
    obtain ⟨rfl, rfl⟩ := hQ
    simp only [Option.toList_some, List.cons_append, List.nil_append]
    rw [hlen]
    refine R_istore_n C an_8 rfl ?_
    simp only [fv0, fv1, fv2, fv3, List.set_cons_zero, List.set_cons_succ]
    refine R_iload_n C an_9 rfl ?_
    refine R_ldcInt C an_10 (hw _ (List.mem_of_getElem? (i := 95) rfl)) ?_
    refine R_icmp C an_12 (fun (hc : ¬ n.toInt32 < 2147483631) => absurd c4 hc) (fun _ => ?_)
    refine R_iload_n C an_15 rfl ?_
    refine R_bipush C an_16 (v := 16) rfl ?_
    refine R_iadd C an_18 ?_
    refine R_goto C an_19 ?_
    refine R_istore_n C an_24 rfl ?_
    simp only [fv0, fv1, fv2, fv3, List.set_cons_zero, List.set_cons_succ]
    refine R_aload_n C an_25 rfl rfl ?_
    rw [c3]
    refine R_virtual C [] an_26 (met_coder l Z a0 hw nw EL hEL cs fm S _ a 0 rfl Fc) (by first | exact fun z => z | exact fun _ => trivial) (E) (hw _ (List.mem_of_getElem? (i := 96) rfl)) (hw _ (List.mem_of_getElem? (i := 48) rfl)) (hw _ (List.mem_of_getElem? (i := 50) rfl)) (hw _ (List.mem_of_getElem? (i := 49) rfl)) (hw _ (List.mem_of_getElem? (i := 8) rfl)) (hw _ (List.mem_of_getElem? (i := 51) rfl)) (by decide) pd_0 rfl rfl rfl (Nat.le_of_ble_eq_true rfl) (Nat.le_of_ble_eq_true rfl) (Nat.le_of_ble_eq_true rfl) (Nat.le_of_ble_eq_true rfl) (fun _ q => nomatch q) ?_
    intro v vm2 h2 hQ hsz2 hSf2 hFr
    obtain ⟨rfl, rfl⟩ := hQ
    simp only [Option.toList_some, List.cons_append, List.nil_append]
    refine R_istore C an_29 rfl ?_
    simp only [fv0, fv1, fv2, fv3, List.set_cons_zero, List.set_cons_succ]
    refine R_aload_n C an_31 rfl rfl ?_
    refine R_iload C an_32 rfl ?_
    have So2 := hSf2 _ X0.lt (hSf1 _ X0.lt So)
    refine R_putfield C an_34 (hw _ (List.mem_of_getElem? (i := 97) rfl)) Via.refl G1 X0 (Or.inl (hw _ (List.mem_of_getElem? (i := 98) rfl))) (hw _ (List.mem_of_getElem? (i := 82) rfl)) (ty := .byte) (by decide) rfl rfl ho So2 ?_
    intro h3 W3 Sf3
    have nea : a ≠ ob := E.ne X0 (by decide)
    have neb : b ≠ ob := A.neExa X0 (hw _ (List.mem_of_getElem? (i := 82) rfl))
    have E3 := E.wr W3
    have Fc3 := Fc.other W3 (Or.inl nea)
    have V3 := V.other W3 (Or.inl nea)
    have A3 := A.other W3 neb
    have X3 := X0.wr W3
    have P1 := G1.same W3
    have P2 := G2.other W3 (Or.inr (slot_ne (Or.inl (hw _ (List.mem_of_getElem? (i := 100) rfl)) : Laid Z a0 SBB ASB "value" "[B") (Or.inl (hw _ (List.mem_of_getElem? (i := 98) rfl)) : Laid Z a0 SBB ASB "coder" "B") (by decide) (t := .array .byte) (t' := .byte) (by decide) (by decide)))
    have P3 := G3.other W3 (Or.inr (slot_ne (Or.inl (hw _ (List.mem_of_getElem? (i := 116) rfl)) : Laid Z a0 SBB ASB "count" "I") (Or.inl (hw _ (List.mem_of_getElem? (i := 98) rfl)) : Laid Z a0 SBB ASB "coder" "B") (by decide) (t := .int) (t' := .byte) (by decide) (by decide)))
    have P4 := G4.other W3 (Or.inr (slot_ne (Or.inl (hw _ (List.mem_of_getElem? (i := 257) rfl)) : Laid Z a0 SBB ASB "maybeLatin1" "Z") (Or.inl (hw _ (List.mem_of_getElem? (i := 98) rfl)) : Laid Z a0 SBB ASB "coder" "B") (by decide) (t := .boolean) (t' := .byte) (by decide) (by decide)))
    refine R_aload_n C an_37 rfl rfl ?_
    refine R_iload C an_38 rfl ?_
    refine R_if C an_40 (fun (hc : ¬ (0 : Int32) = 0) => absurd rfl hc) (fun _ => ?_)
    refine R_iload_n C an_43 rfl ?_
    refine R_newarray C 40 an_44 (hw _ (List.mem_of_getElem? (i := 24) rfl)) (N := n + 16) hM (by omega) (by decide) (Nat.le_of_ble_eq_true rfl) (Nat.le_of_ble_eq_true rfl) rfl ?_
    intro h4 E4 D4 Sv4 Sf4
    refine R_goto C an_46 ?_
    have nv : ob ≠ h3.size := Nat.ne_of_lt X3.lt
    have X4 := X3.ext E4
    have So4 : Safe Z EL vm2 h4 ob := Sf4 _ (Sf3 _ So2)
    refine R_putfield C an_53 (hw _ (List.mem_of_getElem? (i := 99) rfl)) Via.refl (P2.ext E4) X4 (Or.inl (hw _ (List.mem_of_getElem? (i := 100) rfl))) (hw _ (List.mem_of_getElem? (i := 82) rfl)) (ty := .array .byte) (by decide) rfl rfl ho So4 ?_
    intro h5 W5 Sf5
    have X5 : SBo Z h5 ob h3.size 0 0 0 := ⟨X4.wr W5, (P1.ext E4).other W5 (Or.inr (slot_ne (Or.inl (hw _ (List.mem_of_getElem? (i := 98) rfl)) : Laid Z a0 SBB ASB "coder" "B") (Or.inl (hw _ (List.mem_of_getElem? (i := 100) rfl)) : Laid Z a0 SBB ASB "value" "[B") (by decide) (t := .byte) (t' := .array .byte) (by decide) (by decide))), (P2.ext E4).same W5, (P3.ext E4).other W5 (Or.inr (slot_ne (Or.inl (hw _ (List.mem_of_getElem? (i := 116) rfl)) : Laid Z a0 SBB ASB "count" "I") (Or.inl (hw _ (List.mem_of_getElem? (i := 100) rfl)) : Laid Z a0 SBB ASB "value" "[B") (by decide) (t := .int) (t' := .array .byte) (by decide) (by decide))), (P4.ext E4).other W5 (Or.inr (slot_ne (Or.inl (hw _ (List.mem_of_getElem? (i := 257) rfl)) : Laid Z a0 SBB ASB "maybeLatin1" "Z") (Or.inl (hw _ (List.mem_of_getElem? (i := 100) rfl)) : Laid Z a0 SBB ASB "value" "[B") (by decide) (t := .boolean) (t' := .array .byte) (by decide) (by decide)))⟩
    have D5 := D4.other W5 (Ne.symm nv)
    have neb4 : b ≠ ob := neb
    refine R_aload_n C an_56 rfl rfl ?_
    refine R_aload_n C an_57 rfl rfl ?_
    refine R_virtual2 C [.ref a] an_58 (met_sb l Z a0 hw nw EL hEL cs fm S h5 a b 0 rfl ((E3.ext E4).wr W5) ((Fc3.ext E4).other W5 (Or.inl nea)) ((V3.ext E4).other W5 (Or.inl nea)) n _ ((A3.ext E4).other W5 neb) ob h3.size 0 X5 (n + 16) _ D5 (by omega) (Nat.le_trans ho (Nat.le_of_lt X3.lt)) (by decide) n hlen c1 ho nv) (by first | exact fun z => z | exact fun _ => trivial) (X5.1) (hw _ (List.mem_of_getElem? (i := 101) rfl)) (hw _ (List.mem_of_getElem? (i := 102) rfl)) (hw _ (List.mem_of_getElem? (i := 104) rfl)) (hw _ (List.mem_of_getElem? (i := 120) rfl)) rfl (hw _ (List.mem_of_getElem? (i := 105) rfl)) (hw _ (List.mem_of_getElem? (i := 83) rfl)) (hw _ (List.mem_of_getElem? (i := 106) rfl)) (by decide) pd_24 rfl rfl rfl (Nat.le_of_ble_eq_true rfl) (Nat.le_of_ble_eq_true rfl) (Nat.le_of_ble_eq_true rfl) (Nat.le_of_ble_eq_true rfl) (fun z hz => by rcases List.mem_cons.mp hz with rfl | hz; exact Sf5 _ So4; cases List.mem_singleton.mp hz; exact Sf5 _ Sv4) ?_
    intro v vm6 h6 hQ hsz6 hSf6 hFr
    obtain ⟨rfl, K6, X6, D6⟩ := hQ
    simp only [Option.toList_some, List.cons_append, List.nil_append]
    refine R_pop C an_61 rfl ?_
    have Kx : Keep h2 h6 [ob] := ((((Keep.refl h2 [ob]).wr W3 (Or.inl (List.mem_singleton.mpr rfl))).ext E4).wr W5 (Or.inl (List.mem_singleton.mpr rfl))).trans K6 (fun z hz => by
      rcases List.mem_cons.mp hz with rfl | hz
      · exact Or.inl (List.mem_singleton.mpr rfl)
      · cases List.mem_singleton.mp hz
        exact Or.inr (Nat.le_of_eq W3.size.symm))
    refine R_return C an_62 rfl (Nat.le_of_ble_eq_true rfl) (Nat.le_of_ble_eq_true rfl) ⟨rfl, Kx, h3.size, Nat.le_of_eq W3.size.symm, ?_⟩
    refine Or.inl ⟨X6, D6.cg fun i hi => ?_, fun i hi => ?_⟩
    · show (if i < n then by8 (g i) else .int 0) = by8 (ext0 n g i)
      unfold ext0
      by_cases z : i < n
      · rw [if_pos z, if_pos z]
      · rw [if_neg z, if_neg z]
        rfl
    · unfold ext0
      split
      · exact hg i ‹_›
      · exact ⟨by decide, by decide⟩
  · obtain ⟨E, V, Fc, A, hg⟩ := Y
    have hlen : (2 * n).toInt32 >>> ((1 : Int32) &&& 31) = n.toInt32 := hlf A.small
    refine R_aload_n C an_0 rfl rfl ?_
    refine R_initO C an_1 (hw _ (List.mem_of_getElem? (i := 93) rfl)) (hw _ (List.mem_of_getElem? (i := 17) rfl)) (hw _ (List.mem_of_getElem? (i := 18) rfl)) rfl (Nat.le_of_ble_eq_true rfl) (Nat.le_of_ble_eq_true rfl) ?_
    refine R_aload_n C an_4 rfl rfl ?_
    refine R_virtual C [] an_5 (met_length l Z a0 hw nw EL hEL cs fm S h a b (2 * n) _ 1 rfl E Fc V A) (by first | exact fun z => z | exact fun _ => trivial) (E) (hw _ (List.mem_of_getElem? (i := 94) rfl)) (hw _ (List.mem_of_getElem? (i := 43) rfl)) (hw _ (List.mem_of_getElem? (i := 45) rfl)) (hw _ (List.mem_of_getElem? (i := 44) rfl)) (hw _ (List.mem_of_getElem? (i := 8) rfl)) (hw _ (List.mem_of_getElem? (i := 46) rfl)) (by decide) pd_15 rfl rfl rfl (Nat.le_of_ble_eq_true rfl) (Nat.le_of_ble_eq_true rfl) (Nat.le_of_ble_eq_true rfl) (Nat.le_of_ble_eq_true rfl) (fun _ q => nomatch q) ?_
    intro v vm1 h1 hQ hsz1 hSf1 hFr
    obtain ⟨rfl, rfl⟩ := hQ
    simp only [Option.toList_some, List.cons_append, List.nil_append]
    rw [hlen]
    refine R_istore_n C an_8 rfl ?_
    simp only [fv0, fv1, fv2, fv3, List.set_cons_zero, List.set_cons_succ]
    refine R_iload_n C an_9 rfl ?_
    refine R_ldcInt C an_10 (hw _ (List.mem_of_getElem? (i := 95) rfl)) ?_
    refine R_icmp C an_12 (fun (hc : ¬ n.toInt32 < 2147483631) => absurd c4 hc) (fun _ => ?_)
    refine R_iload_n C an_15 rfl ?_
    refine R_bipush C an_16 (v := 16) rfl ?_
    refine R_iadd C an_18 ?_
    refine R_goto C an_19 ?_
    refine R_istore_n C an_24 rfl ?_
    simp only [fv0, fv1, fv2, fv3, List.set_cons_zero, List.set_cons_succ]
    refine R_aload_n C an_25 rfl rfl ?_
    rw [c3]
    refine R_virtual C [] an_26 (met_coder l Z a0 hw nw EL hEL cs fm S _ a 1 rfl Fc) (by first | exact fun z => z | exact fun _ => trivial) (E) (hw _ (List.mem_of_getElem? (i := 96) rfl)) (hw _ (List.mem_of_getElem? (i := 48) rfl)) (hw _ (List.mem_of_getElem? (i := 50) rfl)) (hw _ (List.mem_of_getElem? (i := 49) rfl)) (hw _ (List.mem_of_getElem? (i := 8) rfl)) (hw _ (List.mem_of_getElem? (i := 51) rfl)) (by decide) pd_0 rfl rfl rfl (Nat.le_of_ble_eq_true rfl) (Nat.le_of_ble_eq_true rfl) (Nat.le_of_ble_eq_true rfl) (Nat.le_of_ble_eq_true rfl) (fun _ q => nomatch q) ?_
    intro v vm2 h2 hQ hsz2 hSf2 hFr
    obtain ⟨rfl, rfl⟩ := hQ
    simp only [Option.toList_some, List.cons_append, List.nil_append]
    refine R_istore C an_29 rfl ?_
    simp only [fv0, fv1, fv2, fv3, List.set_cons_zero, List.set_cons_succ]
    refine R_aload_n C an_31 rfl rfl ?_
    refine R_iload C an_32 rfl ?_
    have So2 := hSf2 _ X0.lt (hSf1 _ X0.lt So)
    refine R_putfield C an_34 (hw _ (List.mem_of_getElem? (i := 97) rfl)) Via.refl G1 X0 (Or.inl (hw _ (List.mem_of_getElem? (i := 98) rfl))) (hw _ (List.mem_of_getElem? (i := 82) rfl)) (ty := .byte) (by decide) rfl rfl ho So2 ?_
    intro h3 W3 Sf3
    have nea : a ≠ ob := E.ne X0 (by decide)
    have neb : b ≠ ob := A.neExa X0 (hw _ (List.mem_of_getElem? (i := 82) rfl))
    have E3 := E.wr W3
    have Fc3 := Fc.other W3 (Or.inl nea)
    have V3 := V.other W3 (Or.inl nea)
    have A3 := A.other W3 neb
    have X3 := X0.wr W3
    have P1 := G1.same W3
    have P2 := G2.other W3 (Or.inr (slot_ne (Or.inl (hw _ (List.mem_of_getElem? (i := 100) rfl)) : Laid Z a0 SBB ASB "value" "[B") (Or.inl (hw _ (List.mem_of_getElem? (i := 98) rfl)) : Laid Z a0 SBB ASB "coder" "B") (by decide) (t := .array .byte) (t' := .byte) (by decide) (by decide)))
    have P3 := G3.other W3 (Or.inr (slot_ne (Or.inl (hw _ (List.mem_of_getElem? (i := 116) rfl)) : Laid Z a0 SBB ASB "count" "I") (Or.inl (hw _ (List.mem_of_getElem? (i := 98) rfl)) : Laid Z a0 SBB ASB "coder" "B") (by decide) (t := .int) (t' := .byte) (by decide) (by decide)))
    have P4 := G4.other W3 (Or.inr (slot_ne (Or.inl (hw _ (List.mem_of_getElem? (i := 257) rfl)) : Laid Z a0 SBB ASB "maybeLatin1" "Z") (Or.inl (hw _ (List.mem_of_getElem? (i := 98) rfl)) : Laid Z a0 SBB ASB "coder" "B") (by decide) (t := .boolean) (t' := .byte) (by decide) (by decide)))
    refine R_aload_n C an_37 rfl rfl ?_
    refine R_iload C an_38 rfl ?_
    refine R_if C an_40 (fun _ => ?_) (fun (hc : ¬ ¬ (1 : Int32) = 0) => absurd (by decide) hc)
    refine R_iload_n C an_49 rfl ?_
    refine R_static C [.int (n + 16).toInt32] an_50 (met_nf l Z a0 hw True EL hEL h3 (n + 16).toInt32 (n + 16) 40 hM (by omega) (by omega) (by decide)) (by first | exact fun z => z | exact fun _ => trivial) (hw _ (List.mem_of_getElem? (i := 251) rfl)) (hw _ (List.mem_of_getElem? (i := 226) rfl)) (hw _ (List.mem_of_getElem? (i := 22) rfl)) (hw _ (List.mem_of_getElem? (i := 227) rfl)) (by decide) pd_11 rfl rfl rfl (Nat.le_of_ble_eq_true rfl) (Nat.le_of_ble_eq_true rfl) (Nat.le_of_ble_eq_true rfl) (Nat.le_of_ble_eq_true rfl) (fun _ q => nomatch q) ?_
    intro v vm4 h4 hQ hsz4 hSf4 hFr4
    obtain ⟨rfl, E4, D4⟩ := hQ
    simp only [Option.toList_some, List.cons_append, List.nil_append]
    have Sv4 : Safe Z EL vm4 h4 h3.size := hFr4 trivial _ (Nat.le_refl _)
    have nv : ob ≠ h3.size := Nat.ne_of_lt X3.lt
    have X4 := X3.ext E4
    have So4 : Safe Z EL vm4 h4 ob := hSf4 _ X3.lt (Sf3 _ So2)
    refine R_putfield C an_53 (hw _ (List.mem_of_getElem? (i := 99) rfl)) Via.refl (P2.ext E4) X4 (Or.inl (hw _ (List.mem_of_getElem? (i := 100) rfl))) (hw _ (List.mem_of_getElem? (i := 82) rfl)) (ty := .array .byte) (by decide) rfl rfl ho So4 ?_
    intro h5 W5 Sf5
    have X5 : SBo Z h5 ob h3.size 1 0 0 := ⟨X4.wr W5, (P1.ext E4).other W5 (Or.inr (slot_ne (Or.inl (hw _ (List.mem_of_getElem? (i := 98) rfl)) : Laid Z a0 SBB ASB "coder" "B") (Or.inl (hw _ (List.mem_of_getElem? (i := 100) rfl)) : Laid Z a0 SBB ASB "value" "[B") (by decide) (t := .byte) (t' := .array .byte) (by decide) (by decide))), (P2.ext E4).same W5, (P3.ext E4).other W5 (Or.inr (slot_ne (Or.inl (hw _ (List.mem_of_getElem? (i := 116) rfl)) : Laid Z a0 SBB ASB "count" "I") (Or.inl (hw _ (List.mem_of_getElem? (i := 100) rfl)) : Laid Z a0 SBB ASB "value" "[B") (by decide) (t := .int) (t' := .array .byte) (by decide) (by decide))), (P4.ext E4).other W5 (Or.inr (slot_ne (Or.inl (hw _ (List.mem_of_getElem? (i := 257) rfl)) : Laid Z a0 SBB ASB "maybeLatin1" "Z") (Or.inl (hw _ (List.mem_of_getElem? (i := 100) rfl)) : Laid Z a0 SBB ASB "value" "[B") (by decide) (t := .boolean) (t' := .array .byte) (by decide) (by decide)))⟩
    have D5 := D4.other W5 (Ne.symm nv)
    have neb4 : b ≠ ob := neb
    refine R_aload_n C an_56 rfl rfl ?_
    refine R_aload_n C an_57 rfl rfl ?_
    refine R_virtual2 C [.ref a] an_58 (met_sb l Z a0 hw nw EL hEL cs fm S h5 a b 1 rfl ((E3.ext E4).wr W5) ((Fc3.ext E4).other W5 (Or.inl nea)) ((V3.ext E4).other W5 (Or.inl nea)) (2 * n) _ ((A3.ext E4).other W5 neb) ob h3.size 0 X5 (2 * (n + 16)) _ D5 (by omega) (Nat.le_trans ho (Nat.le_of_lt X3.lt)) (by decide) n hlen c2 ho nv) (by first | exact fun z => z | exact fun _ => trivial) (X5.1) (hw _ (List.mem_of_getElem? (i := 101) rfl)) (hw _ (List.mem_of_getElem? (i := 102) rfl)) (hw _ (List.mem_of_getElem? (i := 104) rfl)) (hw _ (List.mem_of_getElem? (i := 120) rfl)) rfl (hw _ (List.mem_of_getElem? (i := 105) rfl)) (hw _ (List.mem_of_getElem? (i := 83) rfl)) (hw _ (List.mem_of_getElem? (i := 106) rfl)) (by decide) pd_24 rfl rfl rfl (Nat.le_of_ble_eq_true rfl) (Nat.le_of_ble_eq_true rfl) (Nat.le_of_ble_eq_true rfl) (Nat.le_of_ble_eq_true rfl) (fun z hz => by rcases List.mem_cons.mp hz with rfl | hz; exact Sf5 _ So4; cases List.mem_singleton.mp hz; exact Sf5 _ Sv4) ?_
    intro v vm6 h6 hQ hsz6 hSf6 hFr
    obtain ⟨rfl, K6, X6, D6⟩ := hQ
    simp only [Option.toList_some, List.cons_append, List.nil_append]
    refine R_pop C an_61 rfl ?_
    have Kx : Keep h2 h6 [ob] := ((((Keep.refl h2 [ob]).wr W3 (Or.inl (List.mem_singleton.mpr rfl))).ext E4).wr W5 (Or.inl (List.mem_singleton.mpr rfl))).trans K6 (fun z hz => by
      rcases List.mem_cons.mp hz with rfl | hz
      · exact Or.inl (List.mem_singleton.mpr rfl)
      · cases List.mem_singleton.mp hz
        exact Or.inr (Nat.le_of_eq W3.size.symm))
    refine R_return C an_62 rfl (Nat.le_of_ble_eq_true rfl) (Nat.le_of_ble_eq_true rfl) ⟨rfl, Kx, h3.size, Nat.le_of_eq W3.size.symm, ?_⟩
    refine Or.inr ⟨X6, D6.cg fun i hi => ?_, fun i hi => ?_, fun z => hwd fun i hi => ?_⟩
    · show (if i < 2 * n then ub g i else .int 0) = ub (ext0 n g) i
      by_cases z : i < 2 * n
      · have e : ext0 n g (i / 2) = g (i / 2) := by
          unfold ext0
          rw [if_pos (by omega)]
        unfold ub
        rw [if_pos z, e]
      · have e : ext0 n g (i / 2) = 0 := by
          unfold ext0
          rw [if_neg (by omega)]
        unfold ub
        rw [if_neg z, e]
        split <;> rfl
    · unfold ext0
      split
      · exact hg i ‹_›
      · exact ⟨by decide, by decide⟩
    · have q := z i hi
      unfold ext0 at q
      rw [if_pos hi] at q
      exact q
theorem met_sn (l : Launch) (Z : State) (a0 : Array Value) (hw : ∀ d ∈ tables_1, d.before a0 Z = true) (nw : Prop) (EL : List (String × Nat)) (hEL : EW Z a0 EL) (cs : Int32) (fm : Value) (S : SS Z cs fm) (SX : SU Z) (h : Heap) (ob a : Addr) (n : Nat) (g : Nat → Int32) (Y : Str2 Z h a n g) (hN : n ≤ 3) (X0 : Exa Z h ob SBB) (G1 : Fld Z h ob ASB "coder" "B" (.int 0)) (G2 : Fld Z h ob ASB "value" "[B" .null) (G3 : Fld Z h ob ASB "count" "I" (.int 0)) (G4 : Fld Z h ob ASB "maybeLatin1" "Z" (.int 0)) (ho : Z.heap.size ≤ ob) :
    Met l Z nw EL ⟨SBB, "<init>", "(Ljava/lang/String;)V"⟩ jdk_67_method_3_code 2 none ⟨7, 1, 40, 103⟩ #[.ref ob, .ref a] h [ob] (fun v h' => v = none ∧ Keep h h' [ob] ∧ ∃ va, h.size ≤ va ∧ SBd Z h' ob va n 0 (ext0 n g)) := by
  refine Met.mk (a0 := a0) hEL pn_sbb ?_
  intro p e s m below meth c C hE hS
  rw [e_RR2]
  refine R_aload_n C sn_0 rfl rfl ?_
  refine R_aload_n C sn_1 rfl rfl ?_
  refine R_special C [.ref a] sn_2 (met_an l Z a0 hw nw EL hEL cs fm S SX h ob a n g Y hN X0 G1 G2 G3 G4 ho) (by first | exact fun z => z | exact fun _ => trivial) rfl (hw _ (List.mem_of_getElem? (i := 87) rfl)) (hw _ (List.mem_of_getElem? (i := 88) rfl)) (hw _ (List.mem_of_getElem? (i := 91) rfl)) (hw _ (List.mem_of_getElem? (i := 92) rfl)) (by decide) pd_20 rfl rfl rfl (Nat.le_of_ble_eq_true rfl) (Nat.le_of_ble_eq_true rfl) (Nat.le_of_ble_eq_true rfl) (Nat.le_of_ble_eq_true rfl) (hS) ?_
  intro v vm2 h2 hQ hsz2 hSf2 hFr
  obtain ⟨rfl, hQ⟩ := hQ
  simp only [Option.toList_none, List.nil_append]
  exact R_return C sn_5 rfl (Nat.le_of_ble_eq_true rfl) (Nat.le_of_ble_eq_true rfl) ⟨rfl, hQ⟩
theorem met_gv (l : Launch) (Z : State) (a0 : Array Value) (hw : ∀ d ∈ tables_1, d.before a0 Z = true) (nw : Prop) (EL : List (String × Nat)) (hEL : EW Z a0 EL) (h : Heap) (ob va : Addr) (k n ml : Int32) (X : SBo Z h ob va k n ml) :
    Met l Z nw EL ⟨ASB, "getValue", "()[B"⟩ jdk_68_method_64_code 1 (some (.array .byte)) ⟨0, 0, 0, 0⟩ #[.ref ob] h [] (fun v h' => v = some (.ref va) ∧ h' = h) := by
  refine Met.mk (a0 := a0) hEL pn_asb ?_
  intro p e s m below meth c C hE hS
  rw [e_R1]
  refine R_aload_n C gv_0 rfl rfl ?_
  refine R_getfield C gv_1 (hw _ (List.mem_of_getElem? (i := 99) rfl)) Via.refl (X.2.2.1) ?_
  exact R_areturn C gv_4 rfl rfl rfl (Nat.le_refl _) (Nat.le_refl _) ⟨rfl, rfl⟩
theorem met_min2 (l : Launch) (Z : State) (a0 : Array Value) (hw : ∀ d ∈ tables_1, d.before a0 Z = true) (nw : Prop) (EL : List (String × Nat)) (hEL : EW Z a0 EL) (h : Heap) (x y : Int32) (hxy : y.toInt ≤ x.toInt) :
    Met l Z nw EL ⟨"java/lang/Math", "min", "(II)I"⟩ jdk_29_method_69_code 2 (some .int) ⟨0, 0, 0, 0⟩ #[.int x, .int y] h [] (fun v h' => v = some (.int y) ∧ h' = h) := by
  refine Met.mkH (a0 := a0) hEL pf_min ?_
  intro p e s m below meth c C _ hE hS
  rw [e_II2]
  refine R_iload_n C mn_0 rfl ?_
  refine R_iload_n C mn_1 rfl ?_
  refine R_icmp C mn_2 (fun _ => ?_) (fun (hc : ¬ y < x) => ?_)
  · refine R_iload_n C mn_9 rfl ?_
    exact R_retI C mn_10 rfl (Nat.le_refl _) (Nat.le_refl _) ⟨rfl, rfl⟩
  · have z : x = y := Int32.toInt_inj.mp (by rw [Int32.lt_iff_toInt_lt] at hc; omega)
    subst z
    refine R_iload_n C mn_5 rfl ?_
    refine R_goto C mn_6 ?_
    exact R_retI C mn_10 rfl (Nat.le_refl _) (Nat.le_refl _) ⟨rfl, rfl⟩
theorem met_kl (l : Launch) (Z : State) (a0 : Array Value) (hw : ∀ d ∈ tables_1, d.before a0 Z = true) (nw : Prop) (EL : List (String × Nat)) (hEL : EW Z a0 EL) (h : Heap) (x : Int32) (h0 : 0 ≤ x.toInt) :
    Met l Z nw EL ⟨ARS, "checkLength", "(II)V"⟩ jdk_65_method_131_code 2 none ⟨0, 0, 0, 0⟩ #[.int 0, .int x] h [] (fun v h' => v = none ∧ h' = h) := by
  refine Met.mk (a0 := a0) hEL pn_ars ?_
  intro p e s m below meth c C hE hS
  rw [e_II2]
  refine R_iload_n C kl_0 rfl ?_
  refine R_iload_n C kl_1 rfl ?_
  refine R_icmp C kl_2 (fun _ => ?_) (fun (hc : ¬ ¬ x < 0) => absurd (show ¬ x < 0 by rw [Int32.lt_iff_toInt_lt, Int32.toInt_zero]; omega) hc)
  exact R_return C kl_37 rfl (Nat.le_refl _) (Nat.le_refl _) ⟨rfl, rfl⟩
theorem met_cb (l : Launch) (Z : State) (a0 : Array Value) (hw : ∀ d ∈ tables_1, d.before a0 Z = true) (nw : Prop) (EL : List (String × Nat)) (hEL : EW Z a0 EL) (h : Heap) (b : Addr) (N len : Nat) (f : Nat → Value) (A : AR Z h b .byte N f) (x : Int32) (hx : x.toInt = len) (hle : len ≤ N) (h8 : len ≤ 8) :
    Met l Z nw EL ⟨ARS, "copyOfRangeByte", "([BII)[B"⟩ jdk_65_method_133_code 5 (some (.array .byte)) ⟨1, 1, 8, 18⟩ #[.ref b, .int 0, .int x] h [] (fun v h' => v = some (.ref h.size) ∧ Ext h h' ∧ AR Z h' h.size .byte len f) := by
  refine Met.mk (a0 := a0) hEL pn_ars ?_
  intro p e s m below meth c C hE hS
  rw [e_RII5]
  have zx : x - 0 = x := Int32.sub_zero x
  have zN : N.toInt32 - 0 = N.toInt32 := Int32.sub_zero _
  have hNI := len_toInt A.small
  refine R_iload_n C cb_0 rfl ?_
  refine R_iload_n C cb_1 rfl ?_
  refine R_static C [.int 0, .int x] cb_2 (met_kl l Z a0 hw nw EL hEL h x (by omega)) (by first | exact fun z => z | exact fun _ => trivial) (hw _ (List.mem_of_getElem? (i := 209) rfl)) (hw _ (List.mem_of_getElem? (i := 210) rfl)) (hw _ (List.mem_of_getElem? (i := 204) rfl)) (hw _ (List.mem_of_getElem? (i := 211) rfl)) (by decide) pd_6 rfl rfl rfl (Nat.le_of_ble_eq_true rfl) (Nat.le_of_ble_eq_true rfl) (Nat.le_of_ble_eq_true rfl) (Nat.le_of_ble_eq_true rfl) (fun _ q => nomatch q) ?_
  intro v vm2 h2 hQ hsz2 hSf2 hFr
  obtain ⟨rfl, rfl⟩ := hQ
  simp only [Option.toList_none, List.nil_append]
  refine R_iload_n C cb_5 rfl ?_
  refine R_iload_n C cb_6 rfl ?_
  refine R_isub C cb_7 ?_
  rw [zx]
  refine R_istore_n C cb_8 rfl ?_
  simp only [fv0, fv1, fv2, fv3, List.set_cons_zero, List.set_cons_succ]
  refine R_iload_n C cb_9 rfl ?_
  refine R_newarray C 8 cb_10 (hw _ (List.mem_of_getElem? (i := 24) rfl)) (N := len) hx h8 (by decide) (Nat.le_of_ble_eq_true rfl) (Nat.le_of_ble_eq_true rfl) rfl ?_
  intro h3 E3 D3 S3 Sf3
  refine R_astore C cb_12 rfl rfl rfl ?_
  simp only [fv0, fv1, fv2, fv3, List.set_cons_zero, List.set_cons_succ]
  refine R_aload_n C cb_14 rfl rfl ?_
  refine R_iload_n C cb_15 rfl ?_
  refine R_aload C cb_16 rfl rfl ?_
  refine R_iconst C cb_18 (v := 0) rfl ?_
  refine R_aload_n C cb_19 rfl rfl ?_
  refine R_arraylength C cb_20 (A.ext E3) rfl ?_
  refine R_iload_n C cb_21 rfl ?_
  refine R_isub C cb_22 ?_
  rw [zN]
  refine R_iload_n C cb_23 rfl ?_
  refine R_static C [.int N.toInt32, .int x] cb_24 (met_min2 l Z a0 hw nw EL hEL h3 N.toInt32 x (by omega)) (by first | exact fun z => z | exact fun _ => trivial) (hw _ (List.mem_of_getElem? (i := 212) rfl)) (hw _ (List.mem_of_getElem? (i := 161) rfl)) (hw _ (List.mem_of_getElem? (i := 162) rfl)) (hw _ (List.mem_of_getElem? (i := 163) rfl)) (by decide) pd_18 rfl rfl rfl (Nat.le_of_ble_eq_true rfl) (Nat.le_of_ble_eq_true rfl) (Nat.le_of_ble_eq_true rfl) (Nat.le_of_ble_eq_true rfl) (fun _ q => nomatch q) ?_
  intro v vm4 h4 hQ hsz4 hSf4 hFr
  obtain ⟨rfl, rfl⟩ := hQ
  simp only [Option.toList_some, List.cons_append, List.nil_append]
  refine R_arraycopy C 0 0 len cb_27 (hw _ (List.mem_of_getElem? (i := 213) rfl)) (hw _ (List.mem_of_getElem? (i := 141) rfl)) (hw _ (List.mem_of_getElem? (i := 139) rfl)) (hw _ (List.mem_of_getElem? (i := 140) rfl)) (A.ext E3) D3 rfl rfl rfl hx (by omega) (by omega) rfl (Nat.le_of_ble_eq_true rfl) (Nat.le_of_ble_eq_true rfl) hE.1 (hSf4 _ D3.lt S3) ?_
  intro h5 K5 D5 _
  refine R_aload C cb_30 rfl rfl ?_
  refine R_areturn C cb_32 rfl rfl rfl (Nat.le_refl _) (Nat.le_refl _) ⟨rfl, E3.keep' K5 (fun q hq => by cases List.mem_singleton.mp hq; exact Nat.le_refl _), D5.cg fun i hi => ?_⟩
  show (if 0 ≤ i ∧ i < 0 + len then f (0 + (i - 0)) else _) = f i
  rw [if_pos ⟨Nat.zero_le _, by omega⟩, Nat.zero_add, Nat.sub_zero]
theorem met_cr (l : Launch) (Z : State) (a0 : Array Value) (hw : ∀ d ∈ tables_1, d.before a0 Z = true) (nw : Prop) (EL : List (String × Nat)) (hEL : EW Z a0 EL) (h : Heap) (b : Addr) (N len : Nat) (f : Nat → Value) (A : AR Z h b .byte N f) (x : Int32) (hx : x.toInt = len) (hle : len ≤ N) (h8 : len ≤ 8) (hne : len ≠ N) :
    Met l Z nw EL ⟨ARS, "copyOfRange", "([BII)[B"⟩ jdk_65_method_132_code 3 (some (.array .byte)) ⟨2, 1, 8, 34⟩ #[.ref b, .int 0, .int x] h [] (fun v h' => v = some (.ref h.size) ∧ Ext h h' ∧ AR Z h' h.size .byte len f) := by
  refine Met.mk (a0 := a0) hEL pn_ars ?_
  intro p e s m below meth c C hE hS
  rw [e_RII3]
  have hNI := len_toInt A.small
  refine R_iload_n C cr_0 rfl ?_
  refine R_if C cr_1 (fun (hc : ¬ (0 : Int32) = 0) => absurd rfl hc) (fun _ => ?_)
  refine R_iload_n C cr_4 rfl ?_
  refine R_aload_n C cr_5 rfl rfl ?_
  refine R_arraylength C cr_6 (A) rfl ?_
  refine R_icmp C cr_7 (fun (hc : x = N.toInt32) => absurd (congrArg Int32.toInt hc) (by omega)) (fun _ => ?_)
  refine R_aload_n C cr_10 rfl rfl ?_
  refine R_iload_n C cr_11 rfl ?_
  refine R_iload_n C cr_12 rfl ?_
  refine R_static C [.ref b, .int 0, .int x] cr_13 (met_cb l Z a0 hw nw EL hEL h b N len f A x hx hle h8) (by first | exact fun z => z | exact fun _ => trivial) (hw _ (List.mem_of_getElem? (i := 206) rfl)) (hw _ (List.mem_of_getElem? (i := 207) rfl)) (hw _ (List.mem_of_getElem? (i := 204) rfl)) (hw _ (List.mem_of_getElem? (i := 208) rfl)) (by decide) pd_26 rfl rfl rfl (Nat.le_of_ble_eq_true rfl) (Nat.le_of_ble_eq_true rfl) (Nat.le_of_ble_eq_true rfl) (Nat.le_of_ble_eq_true rfl) (fun _ q => nomatch q) ?_
  intro v vm2 h2 hQ hsz2 hSf2 hFr
  obtain ⟨rfl, hQ⟩ := hQ
  simp only [Option.toList_some, List.cons_append, List.nil_append]
  exact R_areturn C cr_16 rfl rfl rfl (Nat.le_refl _) (Nat.le_refl _) ⟨rfl, hQ⟩
theorem or16 : ∀ n : Fin 4, ¬ (((n.val + 16).toInt32 ||| 0) ||| n.val.toInt32) < 0 ∧ ¬ ((n.val + 16).toInt32 - 0) < n.val.toInt32 := by decide +kernel
theorem met_fx (l : Launch) (Z : State) (a0 : Array Value) (hw : ∀ d ∈ tables_1, d.before a0 Z = true) (nw : Prop) (EL : List (String × Nat)) (hEL : EW Z a0 EL) (h : Heap) (n : Nat) (hN : n ≤ 3) (fm : Value) (hfm : fm.isRef = true) :
    Met l Z nw EL ⟨PRE, "checkFromIndexSize", "(IIILjava/util/function/BiFunction;)I"⟩ jdk_41_method_13_code 4 (some .int) ⟨0, 0, 0, 0⟩ #[.int 0, .int n.toInt32, .int (n + 16).toInt32, fm] h [] (fun v h' => v = some (.int 0) ∧ h' = h) := by
  refine Met.mk (a0 := a0) hEL pn_pre ?_
  intro p e s m below meth c C hE hS
  rw [e_IIIV4 m _ _ _ _ (cat_ref hfm)]
  have z := or16 ⟨n, by omega⟩
  refine R_iload_n C fx_0 rfl ?_
  refine R_iload_n C fx_1 rfl ?_
  refine R_ior C fx_2 ?_
  refine R_iload_n C fx_3 rfl ?_
  refine R_ior C fx_4 ?_
  refine R_if C fx_5 (fun hc => absurd hc z.1) (fun _ => ?_)
  refine R_iload_n C fx_8 rfl ?_
  refine R_iload_n C fx_9 rfl ?_
  refine R_iload_n C fx_10 rfl ?_
  refine R_isub C fx_11 ?_
  refine R_icmp C fx_12 (fun _ => ?_) (fun hc => absurd z.2 hc)
  refine R_iload_n C fx_23 rfl ?_
  exact R_retI C fx_24 rfl (Nat.le_refl _) (Nat.le_refl _) ⟨rfl, rfl⟩
theorem met_bo (l : Launch) (Z : State) (a0 : Array Value) (hw : ∀ d ∈ tables_1, d.before a0 Z = true) (nw : Prop) (EL : List (String × Nat)) (hEL : EW Z a0 EL) (cs : Int32) (fm : Value) (S : SS Z cs fm) (h : Heap) (n : Nat) (hN : n ≤ 3) :
    Met l Z nw EL ⟨STR, "checkBoundsOffCount", "(III)I"⟩ jdk_42_method_157_code 3 (some .int) ⟨1, 0, 0, 15⟩ #[.int 0, .int n.toInt32, .int (n + 16).toInt32] h [] (fun v h' => v = some (.int 0) ∧ h' = h) := by
  refine Met.mk (a0 := a0) hEL pn_str ?_
  intro p e s m below meth c C hE hS
  rw [e_III3]
  refine R_iload_n C bo_0 rfl ?_
  refine R_iload_n C bo_1 rfl ?_
  refine R_iload_n C bo_2 rfl ?_
  refine R_getstatic C bo_3 (hw _ (List.mem_of_getElem? (i := 69) rfl)) Via.refl (S.2.2.2.ext hE) ?_
  refine R_static C [.int 0, .int n.toInt32, .int (n + 16).toInt32, fm] bo_6 (met_fx l Z a0 hw nw EL hEL h n hN fm S.2.2.1) (by first | exact fun z => z | exact fun _ => trivial) (hw _ (List.mem_of_getElem? (i := 271) rfl)) (hw _ (List.mem_of_getElem? (i := 272) rfl)) (hw _ (List.mem_of_getElem? (i := 70) rfl)) (hw _ (List.mem_of_getElem? (i := 273) rfl)) (by decide) pd_27 rfl rfl rfl (Nat.le_of_ble_eq_true rfl) (Nat.le_of_ble_eq_true rfl) (Nat.le_of_ble_eq_true rfl) (Nat.le_of_ble_eq_true rfl) (fun _ q => nomatch q) ?_
  intro v vm' h' hQ hsz hSf hFr
  obtain ⟨rfl, rfl⟩ := hQ
  exact R_retI C bo_9 rfl (Nat.le_refl _) (Nat.le_refl _) ⟨rfl, rfl⟩
theorem met_uo (l : Launch) (Z : State) (a0 : Array Value) (hw : ∀ d ∈ tables_1, d.before a0 Z = true) (nw : Prop) (EL : List (String × Nat)) (hEL : EW Z a0 EL) (cs : Int32) (fm : Value) (S : SS Z cs fm) (h : Heap) (va : Addr) (n : Nat) (hN : n ≤ 3) (f : Nat → Value) (A : AR Z h va .byte (2 * (n + 16)) f) :
    Met l Z nw EL ⟨UTF, "checkBoundsOffCount", "(II[B)V"⟩ jdk_52_method_94_code 3 none ⟨2, 0, 0, 29⟩ #[.int 0, .int n.toInt32, .ref va] h [] (fun v h' => v = none ∧ h' = h) := by
  refine Met.mk (a0 := a0) hEL pn_utf ?_
  intro p e s m below meth c C hE hS
  rw [e_IIR3]
  refine R_iload_n C uo_0 rfl ?_
  refine R_iload_n C uo_1 rfl ?_
  refine R_aload_n C uo_2 rfl rfl ?_
  refine R_static C [.ref va] uo_3 (met_ul l Z a0 hw nw EL hEL h va (n + 16) f A) (by first | exact fun z => z | exact fun _ => trivial) (hw _ (List.mem_of_getElem? (i := 247) rfl)) (hw _ (List.mem_of_getElem? (i := 248) rfl)) (hw _ (List.mem_of_getElem? (i := 22) rfl)) (hw _ (List.mem_of_getElem? (i := 249) rfl)) (by decide) pd_12 rfl rfl rfl (Nat.le_of_ble_eq_true rfl) (Nat.le_of_ble_eq_true rfl) (Nat.le_of_ble_eq_true rfl) (Nat.le_of_ble_eq_true rfl) (fun _ q => nomatch q) ?_
  intro v vm2 h2 hQ hsz2 hSf2 hFr
  obtain ⟨rfl, rfl⟩ := hQ
  simp only [Option.toList_some, List.cons_append, List.nil_append]
  refine R_static C [.int 0, .int n.toInt32, .int (n + 16).toInt32] uo_6 (met_bo l Z a0 hw nw EL hEL cs fm S _ n hN) (by first | exact fun z => z | exact fun _ => trivial) (hw _ (List.mem_of_getElem? (i := 268) rfl)) (hw _ (List.mem_of_getElem? (i := 269) rfl)) (hw _ (List.mem_of_getElem? (i := 8) rfl)) (hw _ (List.mem_of_getElem? (i := 270) rfl)) (by decide) pd_28 rfl rfl rfl (Nat.le_of_ble_eq_true rfl) (Nat.le_of_ble_eq_true rfl) (Nat.le_of_ble_eq_true rfl) (Nat.le_of_ble_eq_true rfl) (fun _ q => nomatch q) ?_
  intro v vm3 h3 hQ hsz3 hSf3 hFr
  obtain ⟨rfl, rfl⟩ := hQ
  simp only [Option.toList_some, List.cons_append, List.nil_append]
  refine R_pop C uo_9 rfl ?_
  exact R_return C uo_10 rfl (Nat.le_refl _) (Nat.le_refl _) ⟨rfl, rfl⟩
theorem met_kb (l : Launch) (Z : State) (a0 : Array Value) (hw : ∀ d ∈ tables_1, d.before a0 Z = true) (nw : Prop) (EL : List (String × Nat)) (hEL : EW Z a0 EL) (cs : Int32) (fm : Value) (S : SS Z cs fm) (SX : SU Z) (h : Heap) (va : Addr) (n : Nat) (hN : n ≤ 3) (g : Nat → Int32) (A : AR Z h va .byte (2 * (n + 16)) (ub g)) (hg : ∀ i, i < n + 16 → 0 ≤ (g i).toInt ∧ (g i).toInt ≤ 65535) (dst : Addr) (fd : Nat → Value) (D : AR Z h dst .byte n fd) (hdst : Z.heap.size ≤ dst) (hne : va ≠ dst) :
    Met l Z nw EL ⟨UTF, "compress", "([BI[BII)I"⟩ jdk_52_method_22_code 7 (some .int) ⟨3, 0, 0, 43⟩ #[.ref va, .int 0, .ref dst, .int 0, .int n.toInt32] h [dst] (fun v h' => ∃ (r : Nat) (rI : Int32), v = some (.int rI) ∧ rI.toInt = r ∧ r ≤ n ∧ (∀ i, i < r → (g i).toInt ≤ 255) ∧ (r < n → 255 < (g r).toInt) ∧ Keep h h' [dst]) := by
  refine Met.mk (a0 := a0) hEL pn_utf ?_
  intro p e s m below meth c C hE hS
  rw [e_RIRII7]
  have hn : n.toInt32.toInt = n := len_toInt (by omega)
  have one : (1 : Int32).toInt = 1 := rfl
  have c255 : (255 : Int32).toInt = 255 := rfl
  have Sd := hS dst (List.mem_singleton.mpr rfl)
  have hvd : va ∉ [dst] := fun z => hne (List.mem_singleton.mp z)
  refine R_iload_n C ck2_0 rfl ?_
  refine R_iload C ck2_1 rfl ?_
  refine R_aload_n C ck2_3 rfl rfl ?_
  refine R_static C [.int 0, .int n.toInt32, .ref va] ck2_4 (met_uo l Z a0 hw nw EL hEL cs fm S h va n hN _ A) (by first | exact fun z => z | exact fun _ => trivial) (hw _ (List.mem_of_getElem? (i := 265) rfl)) (hw _ (List.mem_of_getElem? (i := 266) rfl)) (hw _ (List.mem_of_getElem? (i := 22) rfl)) (hw _ (List.mem_of_getElem? (i := 267) rfl)) (by decide) pd_29 rfl rfl rfl (Nat.le_of_ble_eq_true rfl) (Nat.le_of_ble_eq_true rfl) (Nat.le_of_ble_eq_true rfl) (Nat.le_of_ble_eq_true rfl) (fun _ q => nomatch q) ?_
  intro v vm2 h2 hQ hsz2 hSf2 hFr
  obtain ⟨rfl, rfl⟩ := hQ
  simp only [Option.toList_none, List.nil_append]
  have loop : ∀ (t i : Nat) (h1 : Heap) (fd : Nat → Value) (oI dI iI : Int32) (s6 : Slot) (vm : Vm) (cells slots : Nat), cells = 0 → slots = 0 → i + t = n → okSlot s6 = true → oI.toInt = i → dI.toInt = i → iI.toInt = i → (∀ j, j < i → (g j).toInt ≤ 255) → Keep h2 h1 [dst] → AR Z h1 dst .byte n fd → Safe Z EL vm h1 dst →
      Run p l e ⟨3, 0, 0, 43⟩ s m #[.ref va, .int 0, .ref dst, .int 0, .int n.toInt32] below meth c Z nw EL (Kf s Z nw EL ⟨3, 0, 0, 43⟩ (fun v h' => ∃ (r : Nat) (rI : Int32), v = some (.int rI) ∧ rI.toInt = r ∧ r ≤ n ∧ (∀ i, i < r → (g i).toInt ≤ 255) ∧ (r < n → 255 < (g r).toInt) ∧ Keep h2 h' [dst])) vm h1 cells slots (fr m 10 [.val (.ref va), .val (.int oI), .val (.ref dst), .val (.int dI), .val (.int n.toInt32), .val (.int iI), s6] []) := by
    intro t
    induction t with
    | zero =>
      intro i h1 fd oI dI iI s6 vm cells slots hcl hsl ht o6 q1 q2 q3 q4 K1 D1 S1
      subst hcl hsl
      refine R_iload C ck2_10 rfl ?_
      refine R_iload C ck2_12 rfl ?_
      refine R_icmp C ck2_14 (fun _ => ?_) (fun (hc : ¬ ¬ iI < n.toInt32) => absurd (show ¬ iI < n.toInt32 by rw [Int32.lt_iff_toInt_lt, hn]; omega) hc)
      refine R_iload C ck2_53 rfl ?_
      exact R_retI C ck2_55 rfl (Nat.le_refl _) (Nat.le_refl _) ⟨n, _, rfl, hn, Nat.le_refl _, fun j hj => q4 j (by omega), fun z => absurd z (Nat.lt_irrefl _), K1⟩
    | succ t ih =>
      intro i h1 fd oI dI iI s6 vm cells slots hcl hsl ht o6 q1 q2 q3 q4 K1 D1 S1
      subst hcl hsl
      have r1 := Jvm.Kit.i32_add (p := oI) (q := 1) (by omega) (by omega)
      have r2 := Jvm.Kit.i32_add (p := dI) (q := 1) (by omega) (by omega)
      have r3 := Jvm.Kit.i32_add (p := iI) (q := 1) (by omega) (by omega)
      have A1 := A.keep K1 hvd
      refine R_iload C ck2_10 rfl ?_
      refine R_iload C ck2_12 rfl ?_
      refine R_icmp C ck2_14 (fun (hc : ¬ iI < n.toInt32) => absurd (show iI < n.toInt32 by rw [Int32.lt_iff_toInt_lt, hn]; omega) hc) (fun _ => ?_)
      refine R_aload_n C ck2_17 rfl rfl ?_
      refine R_iload_n C ck2_18 rfl ?_
      refine R_static C [.ref va, .int oI] ck2_19 (met_gu l Z a0 hw nw EL hEL SX h1 va (n + 16) i g A1 oI q1 (by omega) (by omega) (hg i (by omega))) (by first | exact fun z => z | exact fun _ => trivial) (hw _ (List.mem_of_getElem? (i := 238) rfl)) (hw _ (List.mem_of_getElem? (i := 239) rfl)) (hw _ (List.mem_of_getElem? (i := 22) rfl)) (hw _ (List.mem_of_getElem? (i := 240) rfl)) (by decide) pd_8 rfl rfl rfl (Nat.le_of_ble_eq_true rfl) (Nat.le_of_ble_eq_true rfl) (Nat.le_of_ble_eq_true rfl) (Nat.le_of_ble_eq_true rfl) (fun _ q => nomatch q) ?_
      intro v vm3 h3 hQ hsz3 hSf3 hFr
      obtain ⟨rfl, rfl⟩ := hQ
      simp only [Option.toList_some, List.cons_append, List.nil_append]
      refine R_istore C ck2_22 o6 ?_
      simp only [fv0, fv1, fv2, fv3, List.set_cons_zero, List.set_cons_succ]
      refine R_iload C ck2_24 rfl ?_
      refine R_sipush C ck2_26 (v := 255) rfl ?_
      refine R_icmp C ck2_29 (fun (hc : ¬ (255 : Int32) < g i) => ?_) (fun (hc : ¬ ¬ (255 : Int32) < g i) => ?_)
      · rw [Int32.lt_iff_toInt_lt, c255] at hc
        refine R_aload_n C ck2_35 rfl rfl ?_
        refine R_iload_n C ck2_36 rfl ?_
        refine R_iload C ck2_37 rfl ?_
        refine R_i2b C ck2_39 ?_
        refine R_bastore C i ck2_40 D1 q2 (by omega) hdst (hSf3 _ D1.lt S1) ?_
        intro h4 W4 D4 Sf4
        refine R_iinc C ck2_41 rfl rfl (dI := 1) rfl rfl ?_
        simp only [fv0, fv1, fv2, fv3, List.set_cons_zero, List.set_cons_succ]
        refine R_iinc C ck2_44 rfl rfl (dI := 1) rfl rfl ?_
        simp only [fv0, fv1, fv2, fv3, List.set_cons_zero, List.set_cons_succ]
        refine R_iinc C ck2_47 rfl rfl (dI := 1) rfl rfl ?_
        simp only [fv0, fv1, fv2, fv3, List.set_cons_zero, List.set_cons_succ]
        refine R_goto C ck2_50 ?_
        refine ih (i + 1) h4 _ _ _ _ _ _ _ _ rfl rfl (by omega) rfl (by omega) (by omega) (by omega) (fun j hj => ?_) (K1.wr W4 (Or.inl (List.mem_singleton.mpr rfl))) D4 (Sf4 _ (hSf3 _ D1.lt S1))
        by_cases z : j = i
        · subst z; omega
        · exact q4 j (by omega)
      · rw [Int32.lt_iff_toInt_lt, c255, Decidable.not_not] at hc
        refine R_iload C ck2_32 rfl ?_
        exact R_retI C ck2_34 rfl (Nat.le_refl _) (Nat.le_refl _) ⟨i, iI, rfl, q3, by omega, q4, fun _ => hc, K1⟩
  refine R_iconst C ck2_7 (v := 0) rfl ?_
  refine R_istore C ck2_8 rfl ?_
  simp only [fv0, fv1, fv2, fv3, List.set_cons_zero, List.set_cons_succ]
  exact loop n 0 h2 fd _ _ _ _ _ _ _ rfl rfl (by omega) rfl rfl rfl rfl (fun j hj => absurd hj (Nat.not_lt_zero _)) (Keep.refl _ _) D (hSf2 _ D.lt Sd)
theorem met_cq (l : Launch) (Z : State) (a0 : Array Value) (hw : ∀ d ∈ tables_1, d.before a0 Z = true) (nw : Prop) (EL : List (String × Nat)) (hEL : EW Z a0 EL) (cs : Int32) (fm : Value) (S : SS Z cs fm) (SX : SU Z) (h : Heap) (va : Addr) (n : Nat) (hN : n ≤ 3) (g : Nat → Int32) (A : AR Z h va .byte (2 * (n + 16)) (ub g)) (hg : ∀ i, i < n + 16 → 0 ≤ (g i).toInt ∧ (g i).toInt ≤ 65535) (hwd : ¬ ∀ i, i < n → (g i).toInt ≤ 255) :
    Met l Z nw EL ⟨UTF, "compress", "([BII)[B"⟩ jdk_52_method_17_code 6 (some (.array .byte)) ⟨4, 2, 16, 61⟩ #[.ref va, .int 0, .int n.toInt32] h [] (fun v h' => ∃ b, v = some (.ref b) ∧ h.size ≤ b ∧ Ext h h' ∧ AR Z h' b .byte (2 * n) (ub g)) := by
  refine Met.mk (a0 := a0) hEL pn_utf ?_
  intro p e s m below meth c C hE hS
  rw [e_RII6]
  have hn : n.toInt32.toInt = n := len_toInt (by omega)
  have c255 : (255 : Int32).toInt = 255 := rfl
  have z1 : (0 : Int32) <<< ((1 : Int32) &&& 31) = 0 := rfl
  have z2 : (0 : Int32) + n.toInt32 = n.toInt32 := Int32.zero_add _
  have hd2 := dbl (x := n.toInt32) (by omega) (by omega)
  refine R_iload_n C cq_0 rfl ?_
  refine R_newarray C 8 cq_1 (hw _ (List.mem_of_getElem? (i := 24) rfl)) (N := n) hn (by omega) (by decide) (Nat.le_of_ble_eq_true rfl) (Nat.le_of_ble_eq_true rfl) rfl ?_
  intro h1 E1 D1 S1 Sf1
  refine R_astore_n C cq_3 rfl rfl rfl ?_
  simp only [fv0, fv1, fv2, fv3, List.set_cons_zero, List.set_cons_succ]
  refine R_aload_n C cq_4 rfl rfl ?_
  refine R_iload_n C cq_5 rfl ?_
  refine R_aload_n C cq_6 rfl rfl ?_
  refine R_iconst C cq_7 (v := 0) rfl ?_
  refine R_iload_n C cq_8 rfl ?_
  refine R_static C [.ref va, .int 0, .ref h.size, .int 0, .int n.toInt32] cq_9 (met_kb l Z a0 hw nw EL hEL cs fm S SX h1 va n hN g (A.ext E1) hg h.size _ D1 hE.1 (Nat.ne_of_lt A.lt)) (by first | exact fun z => z | exact fun _ => trivial) (hw _ (List.mem_of_getElem? (i := 262) rfl)) (hw _ (List.mem_of_getElem? (i := 263) rfl)) (hw _ (List.mem_of_getElem? (i := 22) rfl)) (hw _ (List.mem_of_getElem? (i := 264) rfl)) (by decide) pd_30 rfl rfl rfl (Nat.le_of_ble_eq_true rfl) (Nat.le_of_ble_eq_true rfl) (Nat.le_of_ble_eq_true rfl) (Nat.le_of_ble_eq_true rfl) (fun z hz => by cases List.mem_singleton.mp hz; exact S1) ?_
  intro v vm2 h2 hQ hsz2 hSf2 hFr
  obtain ⟨r, rI, rfl, hr1, hr2, hr3, hr4, K2⟩ := hQ
  have hrl : r < n := Nat.lt_of_le_of_ne hr2 fun z => hwd fun i hi => hr3 i (by omega)
  simp only [Option.toList_some, List.cons_append, List.nil_append]
  have E2 : Ext h h2 := E1.keep' K2 (fun q hq => by cases List.mem_singleton.mp hq; exact Nat.le_refl _)
  refine R_istore C cq_12 rfl ?_
  simp only [fv0, fv1, fv2, fv3, List.set_cons_zero, List.set_cons_succ]
  refine R_iload C cq_14 rfl ?_
  refine R_iload_n C cq_16 rfl ?_
  refine R_icmp C cq_17 (fun (hc : rI = n.toInt32) => absurd (congrArg Int32.toInt hc) (by omega)) (fun _ => ?_)
  refine R_aload_n C cq_20 rfl rfl ?_
  refine R_iload_n C cq_21 rfl ?_
  refine R_iconst C cq_22 (v := 1) rfl ?_
  refine R_ishl C cq_23 ?_
  refine R_iload_n C cq_24 rfl ?_
  refine R_iload_n C cq_25 rfl ?_
  refine R_iadd C cq_26 ?_
  rw [z1, z2]
  refine R_static C [.int n.toInt32] cq_27 (met_nl l Z a0 hw nw EL hEL h2 n.toInt32 (by omega) (by omega)) (by first | exact fun z => z | exact fun _ => trivial) (hw _ (List.mem_of_getElem? (i := 228) rfl)) (hw _ (List.mem_of_getElem? (i := 229) rfl)) (hw _ (List.mem_of_getElem? (i := 22) rfl)) (hw _ (List.mem_of_getElem? (i := 230) rfl)) (by decide) pd_9 rfl rfl rfl (Nat.le_of_ble_eq_true rfl) (Nat.le_of_ble_eq_true rfl) (Nat.le_of_ble_eq_true rfl) (Nat.le_of_ble_eq_true rfl) (fun _ q => nomatch q) ?_
  intro v vm3 h3 hQ hsz3 hSf3 hFr
  obtain ⟨rfl, rfl⟩ := hQ
  simp only [Option.toList_some, List.cons_append, List.nil_append]
  refine R_static C [.ref va, .int 0, .int (n.toInt32 <<< ((1 : Int32) &&& 31))] cq_30 (met_cr l Z a0 hw nw EL hEL _ va (2 * (n + 16)) (2 * n) (ub g) (A.ext E2) (n.toInt32 <<< ((1 : Int32) &&& 31)) (by omega) (by omega) (by omega) (by omega)) (by first | exact fun z => z | exact fun _ => trivial) (hw _ (List.mem_of_getElem? (i := 274) rfl)) (hw _ (List.mem_of_getElem? (i := 203) rfl)) (hw _ (List.mem_of_getElem? (i := 204) rfl)) (hw _ (List.mem_of_getElem? (i := 205) rfl)) (by decide) pd_26 rfl rfl rfl (Nat.le_of_ble_eq_true rfl) (Nat.le_of_ble_eq_true rfl) (Nat.le_of_ble_eq_true rfl) (Nat.le_of_ble_eq_true rfl) (fun _ q => nomatch q) ?_
  intro v vm4 h4 hQ hsz4 hSf4 hFr
  obtain ⟨rfl, E4, D4⟩ := hQ
  simp only [Option.toList_some, List.cons_append, List.nil_append]
  refine R_astore C cq_33 rfl rfl rfl ?_
  simp only [fv0, fv1, fv2, fv3, List.set_cons_zero, List.set_cons_succ]
  refine R_aload C cq_35 rfl rfl ?_
  refine R_iload C cq_37 rfl ?_
  refine R_static C [.ref h3.size, .int rI] cq_39 (met_gu l Z a0 hw nw EL hEL SX h4 h3.size n r g D4 rI hr1 hrl (by omega) (hg r (by omega))) (by first | exact fun z => z | exact fun _ => trivial) (hw _ (List.mem_of_getElem? (i := 238) rfl)) (hw _ (List.mem_of_getElem? (i := 239) rfl)) (hw _ (List.mem_of_getElem? (i := 22) rfl)) (hw _ (List.mem_of_getElem? (i := 240) rfl)) (by decide) pd_8 rfl rfl rfl (Nat.le_of_ble_eq_true rfl) (Nat.le_of_ble_eq_true rfl) (Nat.le_of_ble_eq_true rfl) (Nat.le_of_ble_eq_true rfl) (fun _ q => nomatch q) ?_
  intro v vm5 h5 hQ hsz5 hSf5 hFr
  obtain ⟨rfl, rfl⟩ := hQ
  simp only [Option.toList_some, List.cons_append, List.nil_append]
  refine R_sipush C cq_42 (v := 255) rfl ?_
  refine R_icmp C cq_45 (fun _ => ?_) (fun (hc : ¬ (255 : Int32) < g r) => absurd (show (255 : Int32) < g r by rw [Int32.lt_iff_toInt_lt, c255]; exact hr4 hrl) hc)
  refine R_aload C cq_61 rfl rfl ?_
  exact R_areturn C cq_63 rfl rfl rfl (Nat.le_of_ble_eq_true rfl) (Nat.le_of_ble_eq_true rfl) ⟨_, rfl, E2.1, E2.tr E4, D4⟩
theorem met_ia (l : Launch) (Z : State) (a0 : Array Value) (hw : ∀ d ∈ tables_1, d.before a0 Z = true) (nw : Prop) (EL : List (String × Nat)) (hEL : EW Z a0 EL) (cs : Int32) (fm : Value) (S : SS Z cs fm) (SX : SU Z) (h : Heap) (a ob va : Addr) (n : Nat) (ml : Int32) (g : Nat → Int32) (X : SBd Z h ob va n ml g) (hN : n ≤ 3) (E : Exa Z h a STR) (F1 : Fld Z h a STR "value" "[B" .null) (F2 : Fld Z h a STR "coder" "B" (.int 0)) (ha : Z.heap.size ≤ a) :
    Met l Z nw EL ⟨STR, "<init>", "(Ljava/lang/AbstractStringBuilder;Ljava/lang/Void;)V"⟩ jdk_42_method_150_code 5 none ⟨5, 2, 16, 79⟩ #[.ref a, .ref ob, .null] h [a] (fun v h' => v = none ∧ Keep h h' [a] ∧ Str2 Z h' a n g) := by
  refine Met.mk (a0 := a0) hEL pn_str ?_
  intro p e s m below meth c C hE hS
  rw [e_RRV5 m _ _ .null rfl]
  have Sa := hS a (List.mem_singleton.mpr rfl)
  have hn : n.toInt32.toInt = n := len_toInt (by omega)
  have hd2 := dbl (x := n.toInt32) (by omega) (by omega)
  have Lv : Laid Z a0 STR STR "value" "[B" := Or.inr (hw _ (List.mem_of_getElem? (i := 34) rfl))
  have Lc : Laid Z a0 STR STR "coder" "B" := Or.inr (hw _ (List.mem_of_getElem? (i := 32) rfl))
  have nvc := slot_ne Lv Lc (by decide) (t := .array .byte) (t' := .byte) (by decide) (by decide)
  have ncv := slot_ne Lc Lv (by decide) (t := .byte) (t' := .array .byte) (by decide) (by decide)
  rcases X with ⟨X, A, hg⟩ | ⟨X, A, hg, hwd⟩
  · have neV : va ≠ a := A.neExa E (hw _ (List.mem_of_getElem? (i := 7) rfl))
    refine R_aload_n C ia_0 rfl rfl ?_
    refine R_initO C ia_1 (hw _ (List.mem_of_getElem? (i := 16) rfl)) (hw _ (List.mem_of_getElem? (i := 17) rfl)) (hw _ (List.mem_of_getElem? (i := 18) rfl)) rfl (Nat.le_of_ble_eq_true rfl) (Nat.le_of_ble_eq_true rfl) ?_
    refine R_aload_n C ia_4 rfl rfl ?_
    refine R_virtual C [] ia_5 (met_gv l Z a0 hw nw EL hEL h ob va 0 n.toInt32 ml X) (by first | exact fun z => z | exact fun _ => trivial) (X.1) (hw _ (List.mem_of_getElem? (i := 194) rfl)) (hw _ (List.mem_of_getElem? (i := 195) rfl)) (hw _ (List.mem_of_getElem? (i := 197) rfl)) (hw _ (List.mem_of_getElem? (i := 196) rfl)) (hw _ (List.mem_of_getElem? (i := 91) rfl)) (hw _ (List.mem_of_getElem? (i := 198) rfl)) (by decide) pd_31 rfl rfl rfl (Nat.le_of_ble_eq_true rfl) (Nat.le_of_ble_eq_true rfl) (Nat.le_of_ble_eq_true rfl) (Nat.le_of_ble_eq_true rfl) (fun _ q => nomatch q) ?_
    intro v vm1 h1 hQ hsz1 hSf1 hFr
    obtain ⟨rfl, rfl⟩ := hQ
    simp only [Option.toList_some, List.cons_append, List.nil_append]
    refine R_astore_n C ia_8 rfl rfl rfl ?_
    simp only [fv0, fv1, fv2, fv3, List.set_cons_zero, List.set_cons_succ]
    refine R_aload_n C ia_9 rfl rfl ?_
    refine R_virtual2 C [] ia_10 (met_sl l Z a0 hw nw EL hEL _ ob va 0 n.toInt32 ml X) (by first | exact fun z => z | exact fun _ => trivial) (X.1) (hw _ (List.mem_of_getElem? (i := 199) rfl)) (hw _ (List.mem_of_getElem? (i := 149) rfl)) (hw _ (List.mem_of_getElem? (i := 200) rfl)) (hw _ (List.mem_of_getElem? (i := 120) rfl)) rfl (hw _ (List.mem_of_getElem? (i := 144) rfl)) (hw _ (List.mem_of_getElem? (i := 83) rfl)) (hw _ (List.mem_of_getElem? (i := 146) rfl)) (by decide) pd_15 rfl rfl rfl (Nat.le_of_ble_eq_true rfl) (Nat.le_of_ble_eq_true rfl) (Nat.le_of_ble_eq_true rfl) (Nat.le_of_ble_eq_true rfl) (fun _ q => nomatch q) ?_
    intro v vm2 h2 hQ hsz2 hSf2 hFr
    obtain ⟨rfl, rfl⟩ := hQ
    simp only [Option.toList_some, List.cons_append, List.nil_append]
    refine R_istore C ia_13 rfl ?_
    simp only [fv0, fv1, fv2, fv3, List.set_cons_zero, List.set_cons_succ]
    refine R_aload_n C ia_15 rfl rfl ?_
    refine R_virtual C [] ia_16 (met_bi l Z a0 hw nw EL hEL cs fm S _ ob va 0 n.toInt32 ml X) (by first | exact fun z => z | exact fun _ => trivial) (X.1) (hw _ (List.mem_of_getElem? (i := 201) rfl)) (hw _ (List.mem_of_getElem? (i := 175) rfl)) (hw _ (List.mem_of_getElem? (i := 177) rfl)) (hw _ (List.mem_of_getElem? (i := 176) rfl)) (hw _ (List.mem_of_getElem? (i := 91) rfl)) (hw _ (List.mem_of_getElem? (i := 178) rfl)) (by decide) pd_7 rfl rfl rfl (Nat.le_of_ble_eq_true rfl) (Nat.le_of_ble_eq_true rfl) (Nat.le_of_ble_eq_true rfl) (Nat.le_of_ble_eq_true rfl) (fun _ q => nomatch q) ?_
    intro v vm3 h3 hQ hsz3 hSf3 hFr
    obtain ⟨rfl, rfl⟩ := hQ
    rw [if_pos rfl]
    simp only [Option.toList_some, List.cons_append, List.nil_append]
    have Sa3 := hSf3 _ E.lt (hSf2 _ E.lt (hSf1 _ E.lt Sa))
    refine R_if C ia_19 (fun (hc : (1 : Int32) = 0) => absurd hc (by decide)) (fun _ => ?_)
    refine R_aload_n C ia_22 rfl rfl ?_
    refine R_iconst C ia_23 (v := 0) rfl ?_
    refine R_putfield C ia_24 (hw _ (List.mem_of_getElem? (i := 31) rfl)) Via.refl (F2) (E) (Or.inr ⟨(hw _ (List.mem_of_getElem? (i := 32) rfl)), rfl, rfl⟩) (hw _ (List.mem_of_getElem? (i := 7) rfl)) (ty := .byte) (by decide) rfl rfl ha (Sa3) ?_
    intro h4 W4 Sf4
    refine R_aload_n C ia_27 rfl rfl ?_
    refine R_aload_n C ia_28 rfl rfl ?_
    refine R_iconst C ia_29 (v := 0) rfl ?_
    refine R_iload C ia_30 rfl ?_
    refine R_static C [.ref va, .int 0, .int n.toInt32] ia_32 (met_cr l Z a0 hw nw EL hEL h4 va (n + 16) n (fun i => by8 (g i)) (A.other W4 neV) n.toInt32 hn (by omega) (by omega) (by omega)) (by first | exact fun z => z | exact fun _ => trivial) (hw _ (List.mem_of_getElem? (i := 202) rfl)) (hw _ (List.mem_of_getElem? (i := 203) rfl)) (hw _ (List.mem_of_getElem? (i := 204) rfl)) (hw _ (List.mem_of_getElem? (i := 205) rfl)) (by decide) pd_26 rfl rfl rfl (Nat.le_of_ble_eq_true rfl) (Nat.le_of_ble_eq_true rfl) (Nat.le_of_ble_eq_true rfl) (Nat.le_of_ble_eq_true rfl) (fun _ q => nomatch q) ?_
    intro v vm5 h5 hQ hsz5 hSf5 hFr
    obtain ⟨rfl, E5, D5⟩ := hQ
    simp only [Option.toList_some, List.cons_append, List.nil_append]
    have X4 := E.wr W4
    refine R_putfield C ia_35 (hw _ (List.mem_of_getElem? (i := 33) rfl)) Via.refl ((F1.other W4 (Or.inr nvc)).ext E5) (X4.ext E5) (Or.inr ⟨(hw _ (List.mem_of_getElem? (i := 34) rfl)), rfl, rfl⟩) (hw _ (List.mem_of_getElem? (i := 7) rfl)) (ty := .array .byte) (by decide) rfl rfl ha (hSf5 _ X4.lt (Sf4 _ Sa3)) ?_
    intro h6 W6 _
    refine R_goto C ia_38 ?_
    have neD : h4.size ≠ a := Nat.ne_of_gt X4.lt
    refine R_return C ia_97 rfl (Nat.le_of_ble_eq_true rfl) (Nat.le_of_ble_eq_true rfl) ⟨rfl, ((((Keep.refl _ _).wr W4 (Or.inl (List.mem_singleton.mpr rfl))).ext E5).wr W6 (Or.inl (List.mem_singleton.mpr rfl))), h4.size, Or.inl ⟨(X4.ext E5).wr W6, ((F1.other W4 (Or.inr nvc)).ext E5).same W6, ((F2.same W4).ext E5).other W6 (Or.inr ncv), D5.other W6 neD, fun i hi => hg i (by omega)⟩⟩
  · have neV : va ≠ a := A.neExa E (hw _ (List.mem_of_getElem? (i := 7) rfl))
    have n0 : 0 < n := Nat.pos_of_ne_zero fun z => hwd fun i hi => by omega
    refine R_aload_n C ia_0 rfl rfl ?_
    refine R_initO C ia_1 (hw _ (List.mem_of_getElem? (i := 16) rfl)) (hw _ (List.mem_of_getElem? (i := 17) rfl)) (hw _ (List.mem_of_getElem? (i := 18) rfl)) rfl (Nat.le_of_ble_eq_true rfl) (Nat.le_of_ble_eq_true rfl) ?_
    refine R_aload_n C ia_4 rfl rfl ?_
    refine R_virtual C [] ia_5 (met_gv l Z a0 hw nw EL hEL h ob va 1 n.toInt32 ml X) (by first | exact fun z => z | exact fun _ => trivial) (X.1) (hw _ (List.mem_of_getElem? (i := 194) rfl)) (hw _ (List.mem_of_getElem? (i := 195) rfl)) (hw _ (List.mem_of_getElem? (i := 197) rfl)) (hw _ (List.mem_of_getElem? (i := 196) rfl)) (hw _ (List.mem_of_getElem? (i := 91) rfl)) (hw _ (List.mem_of_getElem? (i := 198) rfl)) (by decide) pd_31 rfl rfl rfl (Nat.le_of_ble_eq_true rfl) (Nat.le_of_ble_eq_true rfl) (Nat.le_of_ble_eq_true rfl) (Nat.le_of_ble_eq_true rfl) (fun _ q => nomatch q) ?_
    intro v vm1 h1 hQ hsz1 hSf1 hFr
    obtain ⟨rfl, rfl⟩ := hQ
    simp only [Option.toList_some, List.cons_append, List.nil_append]
    refine R_astore_n C ia_8 rfl rfl rfl ?_
    simp only [fv0, fv1, fv2, fv3, List.set_cons_zero, List.set_cons_succ]
    refine R_aload_n C ia_9 rfl rfl ?_
    refine R_virtual2 C [] ia_10 (met_sl l Z a0 hw nw EL hEL _ ob va 1 n.toInt32 ml X) (by first | exact fun z => z | exact fun _ => trivial) (X.1) (hw _ (List.mem_of_getElem? (i := 199) rfl)) (hw _ (List.mem_of_getElem? (i := 149) rfl)) (hw _ (List.mem_of_getElem? (i := 200) rfl)) (hw _ (List.mem_of_getElem? (i := 120) rfl)) rfl (hw _ (List.mem_of_getElem? (i := 144) rfl)) (hw _ (List.mem_of_getElem? (i := 83) rfl)) (hw _ (List.mem_of_getElem? (i := 146) rfl)) (by decide) pd_15 rfl rfl rfl (Nat.le_of_ble_eq_true rfl) (Nat.le_of_ble_eq_true rfl) (Nat.le_of_ble_eq_true rfl) (Nat.le_of_ble_eq_true rfl) (fun _ q => nomatch q) ?_
    intro v vm2 h2 hQ hsz2 hSf2 hFr
    obtain ⟨rfl, rfl⟩ := hQ
    simp only [Option.toList_some, List.cons_append, List.nil_append]
    refine R_istore C ia_13 rfl ?_
    simp only [fv0, fv1, fv2, fv3, List.set_cons_zero, List.set_cons_succ]
    refine R_aload_n C ia_15 rfl rfl ?_
    refine R_virtual C [] ia_16 (met_bi l Z a0 hw nw EL hEL cs fm S _ ob va 1 n.toInt32 ml X) (by first | exact fun z => z | exact fun _ => trivial) (X.1) (hw _ (List.mem_of_getElem? (i := 201) rfl)) (hw _ (List.mem_of_getElem? (i := 175) rfl)) (hw _ (List.mem_of_getElem? (i := 177) rfl)) (hw _ (List.mem_of_getElem? (i := 176) rfl)) (hw _ (List.mem_of_getElem? (i := 91) rfl)) (hw _ (List.mem_of_getElem? (i := 178) rfl)) (by decide) pd_7 rfl rfl rfl (Nat.le_of_ble_eq_true rfl) (Nat.le_of_ble_eq_true rfl) (Nat.le_of_ble_eq_true rfl) (Nat.le_of_ble_eq_true rfl) (fun _ q => nomatch q) ?_
    intro v vm3 h3 hQ hsz3 hSf3 hFr
    obtain ⟨rfl, rfl⟩ := hQ
    rw [if_neg (by decide)]
    simp only [Option.toList_some, List.cons_append, List.nil_append]
    have Sa3 := hSf3 _ E.lt (hSf2 _ E.lt (hSf1 _ E.lt Sa))
    refine R_if C ia_19 (fun _ => ?_) (fun (hc : ¬ (0 : Int32) = 0) => absurd rfl hc)
    refine R_getstatic C ia_41 (hw _ (List.mem_of_getElem? (i := 19) rfl)) Via.refl (S.2.1.ext hE) ?_
    refine R_if C ia_44 (fun hc => absurd hc S.1) (fun _ => ?_)
    refine R_aload_n C ia_47 rfl rfl ?_
    refine R_getfield C ia_48 (hw _ (List.mem_of_getElem? (i := 258) rfl)) Via.refl (X.2.2.2.2) ?_
    refine R_if C ia_51 (fun _ => ?_) (fun _ => ?_)
    · refine R_aload_n C ia_79 rfl rfl ?_
      refine R_iconst C ia_80 (v := 1) rfl ?_
      refine R_putfield C ia_81 (hw _ (List.mem_of_getElem? (i := 31) rfl)) Via.refl (F2) (E) (Or.inr ⟨(hw _ (List.mem_of_getElem? (i := 32) rfl)), rfl, rfl⟩) (hw _ (List.mem_of_getElem? (i := 7) rfl)) (ty := .byte) (by decide) rfl rfl ha (Sa3) ?_
      intro h4 W4 Sf4
      refine R_aload_n C ia_84 rfl rfl ?_
      refine R_aload_n C ia_85 rfl rfl ?_
      refine R_iconst C ia_86 (v := 0) rfl ?_
      refine R_iload C ia_87 rfl ?_
      refine R_iconst C ia_89 (v := 1) rfl ?_
      refine R_ishl C ia_90 ?_
      refine R_static C [.ref va, .int 0, .int (n.toInt32 <<< ((1 : Int32) &&& 31))] ia_91 (met_cr l Z a0 hw nw EL hEL h4 va (2 * (n + 16)) (2 * n) (ub g) (A.other W4 neV) (n.toInt32 <<< ((1 : Int32) &&& 31)) (by omega) (by omega) (by omega) (by omega)) (by first | exact fun z => z | exact fun _ => trivial) (hw _ (List.mem_of_getElem? (i := 202) rfl)) (hw _ (List.mem_of_getElem? (i := 203) rfl)) (hw _ (List.mem_of_getElem? (i := 204) rfl)) (hw _ (List.mem_of_getElem? (i := 205) rfl)) (by decide) pd_26 rfl rfl rfl (Nat.le_of_ble_eq_true rfl) (Nat.le_of_ble_eq_true rfl) (Nat.le_of_ble_eq_true rfl) (Nat.le_of_ble_eq_true rfl) (fun _ q => nomatch q) ?_
      intro v vm5 h5 hQ hsz5 hSf5 hFr
      obtain ⟨rfl, E5, D5⟩ := hQ
      simp only [Option.toList_some, List.cons_append, List.nil_append]
      have X4 := E.wr W4
      refine R_putfield C ia_94 (hw _ (List.mem_of_getElem? (i := 33) rfl)) Via.refl ((F1.other W4 (Or.inr nvc)).ext E5) (X4.ext E5) (Or.inr ⟨(hw _ (List.mem_of_getElem? (i := 34) rfl)), rfl, rfl⟩) (hw _ (List.mem_of_getElem? (i := 7) rfl)) (ty := .array .byte) (by decide) rfl rfl ha (hSf5 _ X4.lt (Sf4 _ Sa3)) ?_
      intro h6 W6 _
      have neD : h4.size ≠ a := Nat.ne_of_gt X4.lt
      refine R_return C ia_97 rfl (Nat.le_of_ble_eq_true rfl) (Nat.le_of_ble_eq_true rfl) ⟨rfl, ((((Keep.refl _ _).wr W4 (Or.inl (List.mem_singleton.mpr rfl))).ext E5).wr W6 (Or.inl (List.mem_singleton.mpr rfl))), h4.size, Or.inr ⟨⟨(X4.ext E5).wr W6, ((F1.other W4 (Or.inr nvc)).ext E5).same W6, ((F2.same W4).ext E5).other W6 (Or.inr ncv), D5.other W6 neD, fun i hi => hg i (by omega)⟩, hwd⟩⟩
    · refine R_aload_n C ia_54 rfl rfl ?_
      refine R_aload_n C ia_55 rfl rfl ?_
      refine R_iconst C ia_56 (v := 0) rfl ?_
      refine R_iload C ia_57 rfl ?_
      refine R_static C [.ref va, .int 0, .int n.toInt32] ia_59 (met_cq l Z a0 hw nw EL hEL cs fm S SX _ va n hN g A hg hwd) (by first | exact fun z => z | exact fun _ => trivial) (hw _ (List.mem_of_getElem? (i := 259) rfl)) (hw _ (List.mem_of_getElem? (i := 260) rfl)) (hw _ (List.mem_of_getElem? (i := 22) rfl)) (hw _ (List.mem_of_getElem? (i := 261) rfl)) (by decide) pd_26 rfl rfl rfl (Nat.le_of_ble_eq_true rfl) (Nat.le_of_ble_eq_true rfl) (Nat.le_of_ble_eq_true rfl) (Nat.le_of_ble_eq_true rfl) (fun _ q => nomatch q) ?_
      intro v vm4 h4 hQ hsz4 hSf4 hFr
      obtain ⟨b, rfl, hb, E4, D4⟩ := hQ
      simp only [Option.toList_some, List.cons_append, List.nil_append]
      have X4 := E.ext E4
      have neD : b ≠ a := fun z => Nat.not_lt.mpr hb (z ▸ E.lt)
      refine R_putfield C ia_62 (hw _ (List.mem_of_getElem? (i := 33) rfl)) Via.refl (F1.ext E4) (X4) (Or.inr ⟨(hw _ (List.mem_of_getElem? (i := 34) rfl)), rfl, rfl⟩) (hw _ (List.mem_of_getElem? (i := 7) rfl)) (ty := .array .byte) (by decide) rfl rfl ha (hSf4 _ E.lt Sa3) ?_
      intro h5 W5 Sf5
      have V5 := (F1.ext E4).same W5
      have D5 := D4.other W5 neD
      refine R_aload_n C ia_65 rfl rfl ?_
      refine R_aload_n C ia_66 rfl rfl ?_
      refine R_getfield C ia_67 (hw _ (List.mem_of_getElem? (i := 33) rfl)) Via.refl (V5) ?_
      refine R_iload C ia_70 rfl ?_
      refine R_static C [.ref b, .int n.toInt32] ia_72 (met_cfU l Z a0 hw nw EL hEL h5 b n _ D5 n.toInt32 hn n0 (by omega)) (by first | exact fun z => z | exact fun _ => trivial) (hw _ (List.mem_of_getElem? (i := 28) rfl)) (hw _ (List.mem_of_getElem? (i := 29) rfl)) (hw _ (List.mem_of_getElem? (i := 22) rfl)) (hw _ (List.mem_of_getElem? (i := 30) rfl)) (by decide) pd_3 rfl rfl rfl (Nat.le_of_ble_eq_true rfl) (Nat.le_of_ble_eq_true rfl) (Nat.le_of_ble_eq_true rfl) (Nat.le_of_ble_eq_true rfl) (fun _ q => nomatch q) ?_
      intro v vm6 h6 hQ hsz6 hSf6 hFr
      obtain ⟨rfl, rfl⟩ := hQ
      simp only [Option.toList_some, List.cons_append, List.nil_append]
      have X5 := X4.wr W5
      refine R_putfield C ia_75 (hw _ (List.mem_of_getElem? (i := 31) rfl)) Via.refl ((F2.ext E4).other W5 (Or.inr ncv)) (X5) (Or.inr ⟨(hw _ (List.mem_of_getElem? (i := 32) rfl)), rfl, rfl⟩) (hw _ (List.mem_of_getElem? (i := 7) rfl)) (ty := .byte) (by decide) rfl rfl ha (hSf6 _ X5.lt (Sf5 _ (hSf4 _ E.lt Sa3))) ?_
      intro h7 W7 _
      refine R_return C ia_78 rfl (Nat.le_of_ble_eq_true rfl) (Nat.le_of_ble_eq_true rfl) ⟨rfl, ((Keep.ofExt E4).wr W5 (Or.inl (List.mem_singleton.mpr rfl))).wr W7 (Or.inl (List.mem_singleton.mpr rfl)), b, Or.inr ⟨⟨X5.wr W7, V5.other W7 (Or.inr nvc), ((F2.ext E4).other W5 (Or.inr ncv)).same W7, D5.other W7 neD, fun i hi => hg i (by omega)⟩, hwd⟩⟩
theorem met_ib (l : Launch) (Z : State) (a0 : Array Value) (hw : ∀ d ∈ tables_1, d.before a0 Z = true) (nw : Prop) (EL : List (String × Nat)) (hEL : EW Z a0 EL) (cs : Int32) (fm : Value) (S : SS Z cs fm) (SX : SU Z) (h : Heap) (a ob va : Addr) (n : Nat) (ml : Int32) (g : Nat → Int32) (X : SBd Z h ob va n ml g) (hN : n ≤ 3) (E : Exa Z h a STR) (F1 : Fld Z h a STR "value" "[B" .null) (F2 : Fld Z h a STR "coder" "B" (.int 0)) (ha : Z.heap.size ≤ a) :
    Met l Z nw EL ⟨STR, "<init>", "(Ljava/lang/StringBuilder;)V"⟩ jdk_42_method_53_code 2 none ⟨6, 2, 16, 95⟩ #[.ref a, .ref ob] h [a] (fun v h' => v = none ∧ Keep h h' [a] ∧ Str2 Z h' a n g) := by
  refine Met.mk (a0 := a0) hEL pn_str ?_
  intro p e s m below meth c C hE hS
  rw [e_RR2]
  refine R_aload_n C ib_0 rfl rfl ?_
  refine R_aload_n C ib_1 rfl rfl ?_
  refine R_aconst_null C ib_2 ?_
  refine R_special C [.ref ob, .null] ib_3 (met_ia l Z a0 hw nw EL hEL cs fm S SX h a ob va n ml g X hN E F1 F2 ha) (by first | exact fun z => z | exact fun _ => trivial) rfl (hw _ (List.mem_of_getElem? (i := 191) rfl)) (hw _ (List.mem_of_getElem? (i := 192) rfl)) (hw _ (List.mem_of_getElem? (i := 8) rfl)) (hw _ (List.mem_of_getElem? (i := 193) rfl)) (by decide) pd_32 rfl rfl rfl (Nat.le_of_ble_eq_true rfl) (Nat.le_of_ble_eq_true rfl) (Nat.le_of_ble_eq_true rfl) (Nat.le_of_ble_eq_true rfl) (hS) ?_
  intro v vm2 h2 hQ hsz2 hSf2 hFr
  obtain ⟨rfl, hQ⟩ := hQ
  simp only [Option.toList_none, List.nil_append]
  exact R_return C ib_6 rfl (Nat.le_of_ble_eq_true rfl) (Nat.le_of_ble_eq_true rfl) ⟨rfl, hQ⟩
theorem met_ts (l : Launch) (Z : State) (a0 : Array Value) (hw : ∀ d ∈ tables_1, d.before a0 Z = true) (nw : Prop) (EL : List (String × Nat)) (hEL : EW Z a0 EL) (cs : Int32) (fm : Value) (S : SS Z cs fm) (SX : SU Z) (h : Heap) (ob va : Addr) (n : Nat) (ml : Int32) (g : Nat → Int32) (X : SBd Z h ob va n ml g) (hN : n ≤ 3) :
    Met l Z nw EL ⟨SBB, "toString", "()Ljava/lang/String;"⟩ jdk_67_method_42_code 1 (some (.object "java/lang/String")) ⟨7, 3, 20, 109⟩ #[.ref ob] h [] (fun v h' => ∃ a, v = some (.ref a) ∧ Str2 Z h' a n g) := by
  refine Met.mk (a0 := a0) hEL pn_sbb ?_
  intro p e s m below meth c C hE hS
  rw [e_R1]
  refine R_new C ts_0 (hw _ (List.mem_of_getElem? (i := 187) rfl)) (hw _ (List.mem_of_getElem? (i := 7) rfl)) (hw _ (List.mem_of_getElem? (i := 8) rfl)) (Nat.le_of_ble_eq_true rfl) (Nat.le_of_ble_eq_true rfl) ?_
  intro h1 E1 X1 S1 _
  obtain ⟨X1, F1⟩ := X1
  refine R_dup C ts_3 rfl ?_
  refine R_aload_n C ts_4 rfl rfl ?_
  refine R_special C [.ref ob] ts_5 (met_ib l Z a0 hw nw EL hEL cs fm S SX h1 h.size ob va n ml g (X.ext E1) hN X1 (F1 (Or.inr (hw _ (List.mem_of_getElem? (i := 34) rfl))) (ty := .array .byte) (by decide)) (F1 (Or.inr (hw _ (List.mem_of_getElem? (i := 32) rfl))) (ty := .byte) (by decide)) hE.1) (by first | exact fun z => z | exact fun _ => trivial) rfl (hw _ (List.mem_of_getElem? (i := 188) rfl)) (hw _ (List.mem_of_getElem? (i := 189) rfl)) (hw _ (List.mem_of_getElem? (i := 8) rfl)) (hw _ (List.mem_of_getElem? (i := 190) rfl)) (by decide) pd_33 rfl rfl rfl (Nat.le_of_ble_eq_true rfl) (Nat.le_of_ble_eq_true rfl) (Nat.le_of_ble_eq_true rfl) (Nat.le_of_ble_eq_true rfl) (fun z hz => by cases List.mem_singleton.mp hz; exact S1) ?_
  intro v vm2 h2 hQ hsz2 hSf2 hFr
  obtain ⟨rfl, K2, X2⟩ := hQ
  simp only [Option.toList_none, List.nil_append]
  exact R_areturn C ts_8 rfl rfl rfl (Nat.le_of_ble_eq_true rfl) (Nat.le_of_ble_eq_true rfl) ⟨_, rfl, X2⟩
theorem met_sd (l : Launch) (Z : State) (a0 : Array Value) (hw : ∀ d ∈ tables_1, d.before a0 Z = true) (nw : Prop) (EL : List (String × Nat)) (hEL : EW Z a0 EL) (h : Heap) (ob va : Addr) (n : Nat) (ml : Int32) (g : Nat → Int32) (X : SBd Z h ob va n ml g) :
    Met l Z nw EL ⟨SBB, "length", "()I"⟩ jdk_67_method_93_code 1 (some .int) ⟨1, 0, 0, 12⟩ #[.ref ob] h [] (fun v h' => v = some (.int n.toInt32) ∧ h' = h) := by
  rcases X with X | X
  · exact met_sl l Z a0 hw nw EL hEL h ob va 0 n.toInt32 ml X.1
  · exact met_sl l Z a0 hw nw EL hEL h ob va 1 n.toInt32 ml X.1
theorem SBd.vlt {Z : State} {h : Heap} {ob va : Addr} {n : Nat} {ml : Int32} {g : Nat → Int32} (X : SBd Z h ob va n ml g) : va < h.size := by
  rcases X with X | X
  · exact X.2.1.lt
  · exact X.2.1.lt
theorem met_ol (l : Launch) (Z : State) (a0 : Array Value) (hw : ∀ d ∈ tables_1, d.before a0 Z = true) (nw : Prop) (EL : List (String × Nat)) (hEL : EW Z a0 EL) (cs : Int32) (fm : Value) (S : SS Z cs fm) (SX : SU Z) (h : Heap) (a : Addr) (n : Nat) (g : Nat → Int32) (Y : Str2 Z h a n g) (hN : n ≤ 3) :
    Met l Z nw EL ⟨FAI, "oneLine", "(Ljava/lang/String;)Ljava/lang/String;"⟩ prog_2_method_3_code 4 (some (.object "java/lang/String")) ⟨8, 5, 64, 121⟩ #[.ref a] h [] (fun v h' => ∃ a' g', v = some (.ref a') ∧ Str2 Z h' a' n g' ∧ ∀ i, i < n → g' i = exc (g i)) := by
  refine Met.mk (a0 := a0) hEL pn_fai ?_
  intro p e s m below meth c C hE hS
  rw [e_R4]
  have hn : n.toInt32.toInt = n := len_toInt (by omega)
  have one : (1 : Int32).toInt = 1 := rfl
  refine R_aload_n C ol_0 rfl rfl ?_
  refine R_astore_n C ol_1 rfl rfl rfl ?_
  simp only [fv0, fv1, fv2, fv3, List.set_cons_zero, List.set_cons_succ]
  refine R_aload_n C ol_2 rfl rfl ?_
  refine R_static C [.ref a] ol_3 (met_hc l Z a0 hw nw EL hEL cs fm S SX h a n g Y hN) (by first | exact fun z => z | exact fun _ => trivial) (hw _ (List.mem_of_getElem? (i := 39) rfl)) (hw _ (List.mem_of_getElem? (i := 40) rfl)) (hw _ (List.mem_of_getElem? (i := 37) rfl)) (hw _ (List.mem_of_getElem? (i := 41) rfl)) (by decide) pd_34 rfl rfl rfl (Nat.le_of_ble_eq_true rfl) (Nat.le_of_ble_eq_true rfl) (Nat.le_of_ble_eq_true rfl) (Nat.le_of_ble_eq_true rfl) (fun _ q => nomatch q) ?_
  intro v vm1 h1 hQ hsz1 hSf1 hFr
  obtain ⟨hv, rfl⟩ := hQ
  rcases hv with rfl | ⟨rfl, hno⟩
  · simp only [Option.toList_some, List.cons_append, List.nil_append]
    refine R_if C ol_6 (fun (hc : (1 : Int32) = 0) => absurd hc (by decide)) (fun _ => ?_)
    refine R_new C ol_9 (hw _ (List.mem_of_getElem? (i := 81) rfl)) (hw _ (List.mem_of_getElem? (i := 82) rfl)) (hw _ (List.mem_of_getElem? (i := 83) rfl)) (Nat.le_of_ble_eq_true rfl) (Nat.le_of_ble_eq_true rfl) ?_
    intro h2 E2 X2 S2 Sf2
    obtain ⟨X2, F2⟩ := X2
    refine R_dup C ol_12 rfl ?_
    refine R_aload_n C ol_13 rfl rfl ?_
    refine R_special C [.ref a] ol_14 (met_sn l Z a0 hw True EL hEL cs fm S SX h2 h1.size a n g (Y.ext E2) hN X2 (F2 (Or.inl (hw _ (List.mem_of_getElem? (i := 98) rfl))) (ty := .byte) (by decide)) (F2 (Or.inl (hw _ (List.mem_of_getElem? (i := 100) rfl))) (ty := .array .byte) (by decide)) (F2 (Or.inl (hw _ (List.mem_of_getElem? (i := 116) rfl))) (ty := .int) (by decide)) (F2 (Or.inl (hw _ (List.mem_of_getElem? (i := 257) rfl))) (ty := .boolean) (by decide)) hE.1) (by first | exact fun z => z | exact fun _ => trivial) rfl (hw _ (List.mem_of_getElem? (i := 84) rfl)) (hw _ (List.mem_of_getElem? (i := 85) rfl)) (hw _ (List.mem_of_getElem? (i := 83) rfl)) (hw _ (List.mem_of_getElem? (i := 86) rfl)) (by decide) pd_20 rfl rfl rfl (Nat.le_of_ble_eq_true rfl) (Nat.le_of_ble_eq_true rfl) (Nat.le_of_ble_eq_true rfl) (Nat.le_of_ble_eq_true rfl) (fun z hz => by cases List.mem_singleton.mp hz; exact S2) ?_
    intro v vm3 h3 hQ hsz3 hSf3 hFr3
    obtain ⟨rfl, K3, va, hva, X3⟩ := hQ
    simp only [Option.toList_none, List.nil_append]
    have Sv3 : Safe Z EL vm3 h3 va := hFr3 trivial _ hva
    have So3 : Safe Z EL vm3 h3 h1.size := hSf3 _ X2.lt S2
    have hov : h1.size ≠ va := Nat.ne_of_lt (Nat.lt_of_lt_of_le X2.lt hva)
    have hvz : Z.heap.size ≤ va := Nat.le_trans (Nat.le_trans hE.1 E2.1) hva
    have hoz : Z.heap.size ≤ h1.size := hE.1
    refine R_astore_n C ol_17 rfl rfl rfl ?_
    simp only [fv0, fv1, fv2, fv3, List.set_cons_zero, List.set_cons_succ]
    refine R_iconst C ol_18 (v := 0) rfl ?_
    refine R_istore_n C ol_19 rfl ?_
    simp only [fv0, fv1, fv2, fv3, List.set_cons_zero, List.set_cons_succ]
    clear hSf3 hFr3 K3 hva S2 X2 F2 Sf2 E2
    generalize h1.size = ob at *
    have loop : ∀ (t i : Nat) (h4 : Heap) (ml : Int32) (gg : Nat → Int32) (iI : Int32) (vm : Vm) (cells slots : Nat), cells = 2 → slots = 44 → i + t = n → iI.toInt = i → SBd Z h4 ob va n ml gg → (∀ j, j < i → gg j = exc (g j)) → (∀ j, i ≤ j → j < n → gg j = g j) → Safe Z EL vm h4 ob → Safe Z EL vm h4 va →
        Run p l e ⟨8, 5, 64, 121⟩ s m #[.ref a] below meth c Z nw EL (Kf s Z nw EL ⟨8, 5, 64, 121⟩ (fun v h' => ∃ a' g', v = some (.ref a') ∧ Str2 Z h' a' n g' ∧ ∀ i, i < n → g' i = exc (g i))) vm h4 cells slots (fr m 20 [.val (.ref a), .val (.ref a), .val (.ref ob), .val (.int iI)] []) := by
      intro t
      induction t with
      | zero =>
        intro i h4 ml gg iI vm cells slots hcl hsl ht hi X4 g1 g2 So Sv
        subst hcl hsl
        refine R_iload_n C ol_20 rfl ?_
        refine R_aload_n C ol_21 rfl rfl ?_
        refine R_virtual C [] ol_22 (met_sd l Z a0 hw nw EL hEL h4 ob va n ml gg X4) (by first | exact fun z => z | exact fun _ => trivial) (X4.exa) (hw _ (List.mem_of_getElem? (i := 142) rfl)) (hw _ (List.mem_of_getElem? (i := 143) rfl)) (hw _ (List.mem_of_getElem? (i := 145) rfl)) (hw _ (List.mem_of_getElem? (i := 144) rfl)) (hw _ (List.mem_of_getElem? (i := 83) rfl)) (hw _ (List.mem_of_getElem? (i := 146) rfl)) (by decide) pd_15 rfl rfl rfl (Nat.le_of_ble_eq_true rfl) (Nat.le_of_ble_eq_true rfl) (Nat.le_of_ble_eq_true rfl) (Nat.le_of_ble_eq_true rfl) (fun _ q => nomatch q) ?_
        intro v vm5 h5 hQ hsz5 hSf5 hFr
        obtain ⟨rfl, rfl⟩ := hQ
        simp only [Option.toList_some, List.cons_append, List.nil_append]
        refine R_icmp C ol_25 (fun _ => ?_) (fun (hc : ¬ ¬ iI < n.toInt32) => absurd (show ¬ iI < n.toInt32 by rw [Int32.lt_iff_toInt_lt, hn]; omega) hc)
        refine R_aload_n C ol_52 rfl rfl ?_
        refine R_virtual C [] ol_53 (met_ts l Z a0 hw nw EL hEL cs fm S SX _ ob va n ml gg X4 hN) (by first | exact fun z => z | exact fun _ => trivial) (X4.exa) (hw _ (List.mem_of_getElem? (i := 182) rfl)) (hw _ (List.mem_of_getElem? (i := 183) rfl)) (hw _ (List.mem_of_getElem? (i := 185) rfl)) (hw _ (List.mem_of_getElem? (i := 184) rfl)) (hw _ (List.mem_of_getElem? (i := 83) rfl)) (hw _ (List.mem_of_getElem? (i := 186) rfl)) (by decide) pd_35 rfl rfl rfl (Nat.le_of_ble_eq_true rfl) (Nat.le_of_ble_eq_true rfl) (Nat.le_of_ble_eq_true rfl) (Nat.le_of_ble_eq_true rfl) (fun _ q => nomatch q) ?_
        intro v vm6 h6 hQ hsz6 hSf6 hFr
        obtain ⟨a', rfl, Y6⟩ := hQ
        simp only [Option.toList_some, List.cons_append, List.nil_append]
        refine R_astore_n C ol_56 rfl rfl rfl ?_
        simp only [fv0, fv1, fv2, fv3, List.set_cons_zero, List.set_cons_succ]
        refine R_aload_n C ol_57 rfl rfl ?_
        exact R_areturn C ol_58 rfl rfl rfl (Nat.le_of_ble_eq_true rfl) (Nat.le_of_ble_eq_true rfl) ⟨a', gg, rfl, Y6, fun j hj => g1 j (by omega)⟩
      | succ t ih =>
        intro i h4 ml gg iI vm cells slots hcl hsl ht hi X4 g1 g2 So Sv
        subst hcl hsl
        have q1 := Jvm.Kit.i32_add (p := iI) (q := 1) (by omega) (by omega)
        have egi : gg i = g i := g2 i (Nat.le_refl _) (by omega)
        refine R_iload_n C ol_20 rfl ?_
        refine R_aload_n C ol_21 rfl rfl ?_
        refine R_virtual C [] ol_22 (met_sd l Z a0 hw nw EL hEL h4 ob va n ml gg X4) (by first | exact fun z => z | exact fun _ => trivial) (X4.exa) (hw _ (List.mem_of_getElem? (i := 142) rfl)) (hw _ (List.mem_of_getElem? (i := 143) rfl)) (hw _ (List.mem_of_getElem? (i := 145) rfl)) (hw _ (List.mem_of_getElem? (i := 144) rfl)) (hw _ (List.mem_of_getElem? (i := 83) rfl)) (hw _ (List.mem_of_getElem? (i := 146) rfl)) (by decide) pd_15 rfl rfl rfl (Nat.le_of_ble_eq_true rfl) (Nat.le_of_ble_eq_true rfl) (Nat.le_of_ble_eq_true rfl) (Nat.le_of_ble_eq_true rfl) (fun _ q => nomatch q) ?_
        intro v vm5 h5 hQ hsz5 hSf5 hFr
        obtain ⟨rfl, rfl⟩ := hQ
        simp only [Option.toList_some, List.cons_append, List.nil_append]
        refine R_icmp C ol_25 (fun (hc : ¬ iI < n.toInt32) => absurd (show iI < n.toInt32 by rw [Int32.lt_iff_toInt_lt, hn]; omega) hc) (fun _ => ?_)
        refine R_aload_n C ol_28 rfl rfl ?_
        refine R_iload_n C ol_29 rfl ?_
        refine R_virtual C [.int iI] ol_30 (met_sc l Z a0 hw nw EL hEL cs fm S SX _ ob va n ml gg X4 hN iI i hi (by omega)) (by first | exact fun z => z | exact fun _ => trivial) (X4.exa) (hw _ (List.mem_of_getElem? (i := 151) rfl)) (hw _ (List.mem_of_getElem? (i := 152) rfl)) (hw _ (List.mem_of_getElem? (i := 154) rfl)) (hw _ (List.mem_of_getElem? (i := 153) rfl)) (hw _ (List.mem_of_getElem? (i := 83) rfl)) (hw _ (List.mem_of_getElem? (i := 155) rfl)) (by decide) pd_16 rfl rfl rfl (Nat.le_of_ble_eq_true rfl) (Nat.le_of_ble_eq_true rfl) (Nat.le_of_ble_eq_true rfl) (Nat.le_of_ble_eq_true rfl) (fun _ q => nomatch q) ?_
        intro v vm6 h6 hQ hsz6 hSf6 hFr
        obtain ⟨rfl, rfl⟩ := hQ
        simp only [Option.toList_some, List.cons_append, List.nil_append]
        refine R_static C [.int (gg i)] ol_33 (met_cc l Z a0 hw nw EL hEL _ (gg i) (X4.bd i (by omega)).1) (by first | exact fun z => z | exact fun _ => trivial) (hw _ (List.mem_of_getElem? (i := 74) rfl)) (hw _ (List.mem_of_getElem? (i := 75) rfl)) (hw _ (List.mem_of_getElem? (i := 76) rfl)) (hw _ (List.mem_of_getElem? (i := 77) rfl)) (by decide) pd_17 rfl rfl rfl (Nat.le_of_ble_eq_true rfl) (Nat.le_of_ble_eq_true rfl) (Nat.le_of_ble_eq_true rfl) (Nat.le_of_ble_eq_true rfl) (fun _ q => nomatch q) ?_
        intro v vm7 h7 hQ hsz7 hSf7 hFr
        obtain ⟨rfl, rfl⟩ := hQ
        simp only [Option.toList_some, List.cons_append, List.nil_append]
        have lo : ob < h7.size := X4.exa.lt
        have lv : va < h7.size := X4.vlt
        have So7 := hSf7 _ lo (hSf6 _ lo (hSf5 _ lo So))
        have Sv7 := hSf7 _ lv (hSf6 _ lv (hSf5 _ lv Sv))
        by_cases z : ctl (gg i) = true
        · rw [if_pos z]
          refine R_if C ol_36 (fun (hc : (1 : Int32) = 0) => absurd hc (by decide)) (fun _ => ?_)
          refine R_aload_n C ol_39 rfl rfl ?_
          refine R_iload_n C ol_40 rfl ?_
          refine R_bipush C ol_41 (v := 32) rfl ?_
          refine R_virtual C [.int iI, .int 32] ol_43 (met_ss l Z a0 hw nw EL hEL cs fm S SX _ ob va n ml gg X4 hN hoz hvz hov iI i hi (by omega) z) (by first | exact fun z => z | exact fun _ => trivial) (X4.exa) (hw _ (List.mem_of_getElem? (i := 165) rfl)) (hw _ (List.mem_of_getElem? (i := 166) rfl)) (hw _ (List.mem_of_getElem? (i := 168) rfl)) (hw _ (List.mem_of_getElem? (i := 167) rfl)) (hw _ (List.mem_of_getElem? (i := 83) rfl)) (hw _ (List.mem_of_getElem? (i := 169) rfl)) (by decide) pd_19 rfl rfl rfl (Nat.le_of_ble_eq_true rfl) (Nat.le_of_ble_eq_true rfl) (Nat.le_of_ble_eq_true rfl) (Nat.le_of_ble_eq_true rfl) (fun y hy => by rcases List.mem_cons.mp hy with rfl | hy; exact So7; cases List.mem_singleton.mp hy; exact Sv7) ?_
          intro v vm8 h8 hQ hsz8 hSf8 hFr
          obtain ⟨rfl, K8, ml', X8⟩ := hQ
          simp only [Option.toList_none, List.nil_append]
          refine R_iinc C ol_46 rfl rfl (dI := 1) rfl rfl ?_
          simp only [fv0, fv1, fv2, fv3, List.set_cons_zero, List.set_cons_succ]
          refine R_goto C ol_49 ?_
          refine ih (i + 1) h8 ml' (put gg i 32) _ _ _ _ rfl rfl (by omega) (by omega) X8 (fun j hj => ?_) (fun j hj hjn => ?_) (hSf8 _ lo So7) (hSf8 _ lv Sv7)
          · unfold put
            by_cases z2 : j = i
            · subst z2
              rw [if_pos rfl]
              unfold exc
              rw [← egi, if_pos z]
            · rw [if_neg z2]
              exact g1 j (by omega)
          · unfold put
            rw [if_neg (by omega)]
            exact g2 j (by omega) hjn
        · rw [if_neg z]
          refine R_if C ol_36 (fun _ => ?_) (fun (hc : ¬ (0 : Int32) = 0) => absurd rfl hc)
          refine R_iinc C ol_46 rfl rfl (dI := 1) rfl rfl ?_
          simp only [fv0, fv1, fv2, fv3, List.set_cons_zero, List.set_cons_succ]
          refine R_goto C ol_49 ?_
          refine ih (i + 1) _ ml gg _ _ _ _ rfl rfl (by omega) (by omega) X4 (fun j hj => ?_) (fun j hj hjn => g2 j (by omega) hjn) So7 Sv7
          by_cases z2 : j = i
          · subst z2
            unfold exc
            rw [← egi, if_neg z]
          · exact g1 j (by omega)
    refine loop n 0 h3 0 (ext0 n g) _ _ _ _ rfl rfl (by omega) rfl X3 (fun j hj => absurd hj (Nat.not_lt_zero _)) (fun j _ hj => ?_) So3 Sv3
    unfold ext0
    rw [if_pos hj]
  · simp only [Option.toList_some, List.cons_append, List.nil_append]
    refine R_if C ol_6 (fun _ => ?_) (fun (hc : ¬ (0 : Int32) = 0) => absurd rfl hc)
    refine R_aload_n C ol_57 rfl rfl ?_
    refine R_areturn C ol_58 rfl rfl rfl (Nat.le_of_ble_eq_true rfl) (Nat.le_of_ble_eq_true rfl) ⟨a, g, rfl, Y, fun i hi => ?_⟩
    unfold exc
    rw [if_neg (by rw [hno i hi]; decide)]
def g3 (a b c : Int32) (i : Nat) : Int32 := if i = 0 then a else if i = 1 then b else c
def Ch (c : Int32) : Prop := 0 ≤ c.toInt ∧ c.toInt ≤ 65535
theorem g3_ok {a b c : Int32} (ha : Ch a) (hb : Ch b) (hc : Ch c) (i : Nat) : Ch (g3 a b c i) := by
  unfold g3
  split
  · exact ha
  · split
    · exact hb
    · exact hc
theorem Fi.put {Z : State} {h' : Heap} {a : Addr} {N k : Nat} {bf : Nat → Int32} {F : Nat → Value} (hF : ∀ i, i < k → F i = .int (bf i)) (hv : Ch (bf k)) (A : AR Z h' a .char N (upd F k (.int (nar .char (bf k))))) : ∃ G, AR Z h' a .char N G ∧ ∀ i, i < k + 1 → G i = .int (bf i) := by
  rw [nar_char_id hv.1 hv.2] at A
  refine ⟨_, A, fun i hi => ?_⟩
  by_cases z : i = k
  · subst z; rw [upd_eq]
  · rw [upd_ne z]; exact hF i (by omega)
theorem met_mk (l : Launch) (Z : State) (a0 : Array Value) (hw : ∀ d ∈ tables_1, d.before a0 Z = true) (nw : Prop) (EL : List (String × Nat)) (hEL : EW Z a0 EL) (h : Heap) (nI : Int32) (n : Nat) (x y z : Int32) (hn : nI.toInt = n) (h3 : n ≤ 3) (hx : Ch x) (hy : Ch y) (hz : Ch z) :
    Met l Z nw EL ⟨LAW, "make", "(ICCC)[C"⟩ method_3_code 4 (some (.array .char)) ⟨0, 1, 4, 0⟩ #[.int nI, .int x, .int y, .int z] h [] (fun v h' => v = some (.ref h.size) ∧ Ext h h' ∧ AR Z h' h.size .char n (fun i => .int (g3 x y z i))) := by
  refine Met.mk (a0 := a0) hEL pn_law ?_
  intro p e s m below meth c C hE hS
  rw [e_IIII4]
  have hg : ∀ i, Ch (g3 x y z i) := g3_ok hx hy hz
  have c1 : (1 : Int32).toInt = 1 := rfl
  have c2 : (2 : Int32).toInt = 2 := rfl
  refine R_iload_n C mk_0 rfl ?_
  refine R_if C mk_1 (fun (h0 : ¬ nI = 0) => ?_) (fun (h0 : ¬ ¬ nI = 0) => ?_)
  · rw [← Int32.toInt_inj, Int32.toInt_zero] at h0
    refine R_iload_n C mk_8 rfl ?_
    refine R_iconst C mk_9 (v := 1) rfl ?_
    refine R_icmp C mk_10 (fun (ha : ¬ nI = 1) => ?_) (fun (ha : ¬ ¬ nI = 1) => ?_)
    · rw [← Int32.toInt_inj, c1] at ha
      refine R_iload_n C mk_21 rfl ?_
      refine R_iconst C mk_22 (v := 2) rfl ?_
      refine R_icmp C mk_23 (fun (hb : ¬ nI = 2) => ?_) (fun (hb : ¬ ¬ nI = 2) => ?_)
      · rw [← Int32.toInt_inj, c2] at hb
        have hn3 : n = 3 := by omega
        subst hn3
        refine R_iconst C mk_38 (v := 3) rfl ?_
        refine R_newarray C 4 mk_39 (hw _ (List.mem_of_getElem? (i := 5) rfl)) (N := 3) rfl (by decide) (by decide) (Nat.le_of_ble_eq_true rfl) (Nat.le_of_ble_eq_true rfl) rfl ?_
        intro h2 E2 D2 S2 Sf2
        refine Run.know fun hE2 hW2 _ => ?_
        obtain ⟨f2, D2, G2⟩ : ∃ f, AR Z h2 h.size .char 3 f ∧ ∀ i, i < 0 → f i = .int (g3 x y z i) := ⟨_, D2, fun i hi => absurd hi (Nat.not_lt_zero _)⟩
        have K2 : Keep h2 h2 [h.size] := Keep.refl _ _
        refine R_dup C mk_41 rfl ?_
        refine R_iconst C mk_42 (v := 0) rfl ?_
        refine R_iload_n C mk_43 rfl ?_
        refine R_castore C 0 mk_44 D2 rfl (by decide) hE.1 (D2.safe hW2 (by decide)) ?_
        intro h3 W3 D3 Sf3
        have K3 := K2.wr W3 (Or.inl (List.mem_singleton.mpr rfl))
        obtain ⟨f3, D3, G3⟩ := Fi.put (bf := g3 x y z) G2 (hg 0) D3
        refine R_dup C mk_45 rfl ?_
        refine R_iconst C mk_46 (v := 1) rfl ?_
        refine R_iload_n C mk_47 rfl ?_
        refine R_castore C 1 mk_48 D3 rfl (by decide) hE.1 (D3.safe hW2 (by decide)) ?_
        intro h4 W4 D4 Sf4
        have K4 := K3.wr W4 (Or.inl (List.mem_singleton.mpr rfl))
        obtain ⟨f4, D4, G4⟩ := Fi.put (bf := g3 x y z) G3 (hg 1) D4
        refine R_dup C mk_49 rfl ?_
        refine R_iconst C mk_50 (v := 2) rfl ?_
        refine R_iload_n C mk_51 rfl ?_
        refine R_castore C 2 mk_52 D4 rfl (by decide) hE.1 (D4.safe hW2 (by decide)) ?_
        intro h5 W5 D5 Sf5
        have K5 := K4.wr W5 (Or.inl (List.mem_singleton.mpr rfl))
        obtain ⟨f5, D5, G5⟩ := Fi.put (bf := g3 x y z) G4 (hg 2) D5
        exact R_areturn C mk_53 rfl rfl rfl (Nat.le_of_ble_eq_true rfl) (Nat.le_of_ble_eq_true rfl) ⟨rfl, E2.keep' K5 (fun q hq => by cases List.mem_singleton.mp hq; exact Nat.le_refl _), D5.cg (fun i hi => G5 i hi)⟩
      · rw [← Int32.toInt_inj, c2] at hb
        have hn3 : n = 2 := by omega
        subst hn3
        refine R_iconst C mk_26 (v := 2) rfl ?_
        refine R_newarray C 4 mk_27 (hw _ (List.mem_of_getElem? (i := 5) rfl)) (N := 2) rfl (by decide) (by decide) (Nat.le_of_ble_eq_true rfl) (Nat.le_of_ble_eq_true rfl) rfl ?_
        intro h2 E2 D2 S2 Sf2
        refine Run.know fun hE2 hW2 _ => ?_
        obtain ⟨f2, D2, G2⟩ : ∃ f, AR Z h2 h.size .char 2 f ∧ ∀ i, i < 0 → f i = .int (g3 x y z i) := ⟨_, D2, fun i hi => absurd hi (Nat.not_lt_zero _)⟩
        have K2 : Keep h2 h2 [h.size] := Keep.refl _ _
        refine R_dup C mk_29 rfl ?_
        refine R_iconst C mk_30 (v := 0) rfl ?_
        refine R_iload_n C mk_31 rfl ?_
        refine R_castore C 0 mk_32 D2 rfl (by decide) hE.1 (D2.safe hW2 (by decide)) ?_
        intro h3 W3 D3 Sf3
        have K3 := K2.wr W3 (Or.inl (List.mem_singleton.mpr rfl))
        obtain ⟨f3, D3, G3⟩ := Fi.put (bf := g3 x y z) G2 (hg 0) D3
        refine R_dup C mk_33 rfl ?_
        refine R_iconst C mk_34 (v := 1) rfl ?_
        refine R_iload_n C mk_35 rfl ?_
        refine R_castore C 1 mk_36 D3 rfl (by decide) hE.1 (D3.safe hW2 (by decide)) ?_
        intro h4 W4 D4 Sf4
        have K4 := K3.wr W4 (Or.inl (List.mem_singleton.mpr rfl))
        obtain ⟨f4, D4, G4⟩ := Fi.put (bf := g3 x y z) G3 (hg 1) D4
        exact R_areturn C mk_37 rfl rfl rfl (Nat.le_of_ble_eq_true rfl) (Nat.le_of_ble_eq_true rfl) ⟨rfl, E2.keep' K4 (fun q hq => by cases List.mem_singleton.mp hq; exact Nat.le_refl _), D4.cg (fun i hi => G4 i hi)⟩
    · rw [← Int32.toInt_inj, c1] at ha
      have hn3 : n = 1 := by omega
      subst hn3
      refine R_iconst C mk_13 (v := 1) rfl ?_
      refine R_newarray C 4 mk_14 (hw _ (List.mem_of_getElem? (i := 5) rfl)) (N := 1) rfl (by decide) (by decide) (Nat.le_of_ble_eq_true rfl) (Nat.le_of_ble_eq_true rfl) rfl ?_
      intro h2 E2 D2 S2 Sf2
      refine Run.know fun hE2 hW2 _ => ?_
      obtain ⟨f2, D2, G2⟩ : ∃ f, AR Z h2 h.size .char 1 f ∧ ∀ i, i < 0 → f i = .int (g3 x y z i) := ⟨_, D2, fun i hi => absurd hi (Nat.not_lt_zero _)⟩
      have K2 : Keep h2 h2 [h.size] := Keep.refl _ _
      refine R_dup C mk_16 rfl ?_
      refine R_iconst C mk_17 (v := 0) rfl ?_
      refine R_iload_n C mk_18 rfl ?_
      refine R_castore C 0 mk_19 D2 rfl (by decide) hE.1 (D2.safe hW2 (by decide)) ?_
      intro h3 W3 D3 Sf3
      have K3 := K2.wr W3 (Or.inl (List.mem_singleton.mpr rfl))
      obtain ⟨f3, D3, G3⟩ := Fi.put (bf := g3 x y z) G2 (hg 0) D3
      exact R_areturn C mk_20 rfl rfl rfl (Nat.le_of_ble_eq_true rfl) (Nat.le_of_ble_eq_true rfl) ⟨rfl, E2.keep' K3 (fun q hq => by cases List.mem_singleton.mp hq; exact Nat.le_refl _), D3.cg (fun i hi => G3 i hi)⟩
  · rw [← Int32.toInt_inj, Int32.toInt_zero] at h0
    have hn3 : n = 0 := by omega
    subst hn3
    refine R_iconst C mk_4 (v := 0) rfl ?_
    refine R_newarray C 4 mk_5 (hw _ (List.mem_of_getElem? (i := 5) rfl)) (N := 0) rfl (by decide) (by decide) (Nat.le_of_ble_eq_true rfl) (Nat.le_of_ble_eq_true rfl) rfl ?_
    intro h2 E2 D2 S2 Sf2
    refine Run.know fun hE2 hW2 _ => ?_
    obtain ⟨f2, D2, G2⟩ : ∃ f, AR Z h2 h.size .char 0 f ∧ ∀ i, i < 0 → f i = .int (g3 x y z i) := ⟨_, D2, fun i hi => absurd hi (Nat.not_lt_zero _)⟩
    have K2 : Keep h2 h2 [h.size] := Keep.refl _ _
    exact R_areturn C mk_7 rfl rfl rfl (Nat.le_of_ble_eq_true rfl) (Nat.le_of_ble_eq_true rfl) ⟨rfl, E2.keep' K2 (fun q hq => by cases List.mem_singleton.mp hq; exact Nat.le_refl _), D2.cg (fun i hi => G2 i hi)⟩
theorem met_i2E (l : Launch) (Z : State) (a0 : Array Value) (hw : ∀ d ∈ tables_1, d.before a0 Z = true) (EL : List (String × Nat)) (hEL : EW Z a0 EL) (hmem : ("java/lang/String", 7) ∈ EL) (h : Heap) (a val : Addr) (f : Nat → Value) (g : Nat → Int32) (A : AR Z h val .char 0 f)
    (E : Exa Z h a STR) (F1 : Fld Z h a STR "value" "[B" .null) (F2 : Fld Z h a STR "coder" "B" (.int 0)) (ha : Z.heap.size ≤ a) :
    Met l Z False EL ⟨STR, "<init>", "([C)V"⟩ jdk_42_method_3_code 2 none ⟨3, 4, 8, 52⟩ #[.ref a, .ref val] h [a] (InQ Z h a 0 g) := by
  refine Met.mk (a0 := a0) hEL pn_str ?_
  intro p e s m below meth c C hE hS
  rw [efi2]
  refine R_aload_n C i2_0 rfl rfl ?_
  refine R_aload_n C i2_1 rfl rfl ?_
  refine R_iconst C i2_2 (v := 0) rfl ?_
  refine R_aload_n C i2_3 rfl rfl ?_
  refine R_arraylength C i2_4 (A) (w := 0) rfl ?_
  refine R_aconst_null C i2_5 ?_
  refine R_special C [.ref val, .int 0, .int 0, .null] i2_6 (met_i6E l Z a0 hw EL hEL hmem h a val g 0 .null rfl E F1 F2 ha) (by first | exact fun z => z | exact fun _ => trivial) rfl (hw _ (List.mem_of_getElem? (i := 12) rfl)) (hw _ (List.mem_of_getElem? (i := 13) rfl)) (hw _ (List.mem_of_getElem? (i := 8) rfl)) (hw _ (List.mem_of_getElem? (i := 15) rfl)) (by decide) pd_4 rfl rfl rfl (Nat.le_of_ble_eq_true rfl) (Nat.le_of_ble_eq_true rfl) (Nat.le_of_ble_eq_true rfl) (Nat.le_of_ble_eq_true rfl) hS ?_
  intro v vm2 h2 hQ hsz2 hSf2 hFr
  obtain ⟨rfl, hQ⟩ := hQ
  exact R_return C i2_9 rfl (Nat.le_of_ble_eq_true rfl) (Nat.le_of_ble_eq_true rfl) ⟨rfl, hQ⟩
theorem met_i2U (l : Launch) (Z : State) (a0 : Array Value) (hw : ∀ d ∈ tables_1, d.before a0 Z = true) (nw : Prop) (EL : List (String × Nat)) (hEL : EW Z a0 EL) (cs : Int32) (fm : Value) (S : SS Z cs fm) (SX : SU Z) (h : Heap) (a val : Addr) (n : Nat) (g : Nat → Int32) (A : AR Z h val .char n (fun i => .int (g i))) (hN : n ≤ 3) (hg : ∀ i, Ch (g i)) (E : Exa Z h a STR) (F1 : Fld Z h a STR "value" "[B" .null) (F2 : Fld Z h a STR "coder" "B" (.int 0)) (ha : Z.heap.size ≤ a) (hwd : ¬ ∀ i, i < n → (g i).toInt ≤ 255) :
    Met l Z nw EL ⟨STR, "<init>", "([C)V"⟩ jdk_42_method_3_code 2 none ⟨5, 2, 16, 74⟩ #[.ref a, .ref val] h [a] (InU Z h a n g) := by
  refine Met.mk (a0 := a0) hEL pn_str ?_
  intro p e s m below meth c C hE hS
  rw [e_RR2]
  have z0 : (fun i => g (0 + i)) = g := funext fun i => by rw [Nat.zero_add]
  have M := met_i6U l Z a0 hw nw EL hEL cs fm S SX h a val n 0 n 8 g A (by omega) (by omega) (by omega) (by decide) 0 n.toInt32 rfl (len_toInt A.small) (fun i hi => by rw [Nat.zero_add]; exact hg i) (fun z => hwd fun i hi => by have q := z i hi; rw [Nat.zero_add] at q; exact q) .null rfl E F1 F2 ha
  rw [z0] at M
  refine R_aload_n C i2_0 rfl rfl ?_
  refine R_aload_n C i2_1 rfl rfl ?_
  refine R_iconst C i2_2 (v := 0) rfl ?_
  refine R_aload_n C i2_3 rfl rfl ?_
  refine R_arraylength C i2_4 (A) rfl ?_
  refine R_aconst_null C i2_5 ?_
  refine R_special C [.ref val, .int 0, .int n.toInt32, .null] i2_6 (M) (by first | exact fun z => z | exact fun _ => trivial) rfl (hw _ (List.mem_of_getElem? (i := 12) rfl)) (hw _ (List.mem_of_getElem? (i := 13) rfl)) (hw _ (List.mem_of_getElem? (i := 8) rfl)) (hw _ (List.mem_of_getElem? (i := 15) rfl)) (by decide) pd_4 rfl rfl rfl (Nat.le_of_ble_eq_true rfl) (Nat.le_of_ble_eq_true rfl) (Nat.le_of_ble_eq_true rfl) (Nat.le_of_ble_eq_true rfl) (hS) ?_
  intro v vm2 h2 hQ hsz2 hSf2 hFr
  obtain ⟨rfl, hQ⟩ := hQ
  exact R_return C i2_9 rfl (Nat.le_of_ble_eq_true rfl) (Nat.le_of_ble_eq_true rfl) ⟨rfl, hQ⟩
theorem met_i2S (l : Launch) (Z : State) (a0 : Array Value) (hw : ∀ d ∈ tables_1, d.before a0 Z = true) (hEL : EW Z a0 EL1) (cs : Int32) (fm : Value) (S : SS Z cs fm) (SX : SU Z) (h : Heap) (a val : Addr) (n : Nat) (g : Nat → Int32) (A : AR Z h val .char n (fun i => .int (g i))) (hN : n ≤ 3) (hg : ∀ i, Ch (g i)) (E : Exa Z h a STR) (F1 : Fld Z h a STR "value" "[B" .null) (F2 : Fld Z h a STR "coder" "B" (.int 0)) (ha : Z.heap.size ≤ a) :
    Met l Z False EL1 ⟨STR, "<init>", "([C)V"⟩ jdk_42_method_3_code 2 none ⟨5, 4, 16, 74⟩ #[.ref a, .ref val] h [a] (fun v h' => v = none ∧ Keep h h' [a] ∧ Str2 Z h' a n g) := by
  rcases Nat.eq_zero_or_pos n with z | z
  · subst z
    refine ((met_i2E l Z a0 hw EL1 hEL (List.mem_singleton.mpr rfl) h a val _ g A E F1 F2 ha).room (by decide) (by decide) (by decide) (by decide)).imp ?_
    intro v h' hq
    obtain ⟨q1, q2, b, q3⟩ := hq
    exact ⟨q1, q2, b, Or.inl q3⟩
  · by_cases hl : ∀ i, i < n → (g i).toInt ≤ 255
    · refine ((met_i2L l Z a0 hw False EL1 hEL cs fm S h a val n 8 g A (by omega) (by decide) z (fun i hi => ⟨(hg i).1, hl i hi⟩) E F1 F2 ha).room (by decide) (by decide) (by decide) (by decide)).imp ?_
      intro v h' hq
      obtain ⟨q1, q2, b, q3⟩ := hq
      exact ⟨q1, q2, b, Or.inl q3⟩
    · refine ((met_i2U l Z a0 hw False EL1 hEL cs fm S SX h a val n g A hN hg E F1 F2 ha hl).room (by decide) (by decide) (by decide) (by decide)).imp ?_
      intro v h' hq
      obtain ⟨q1, q2, b, q3⟩ := hq
      exact ⟨q1, q2, b, Or.inr ⟨q3, hl⟩⟩
set_option maxRecDepth 65536 in
theorem law_end (l : Launch) (Z : State) (a0 : Array Value) (hw : ∀ d ∈ tables_1, d.before a0 Z = true) (hEL : EW Z a0 EL1) (cs : Int32) (fm : Value) (SC : SS Z cs fm) (SX : SU Z) (p : Program) (e : Env) (s : State) (m : MethodId) (below : List Frame) (meth : Method) (c : Code) (C : Cx p s m meth c Z a0 EL1 x.cls code 11 x.name (some .boolean)) (i0 i1 i2 i3 nI ca cb cc : Int32) (n : Nat) (hnI : nI.toInt = n) (hN : n ≤ 3) (hca : Ch ca) (hcb : Ch cb) (hcc : Ch cc) (ch tx a' : Addr) (g' : Nat → Int32) (hg' : ∀ i, i < n → g' i = exc (g3 ca cb cc i)) :
    ∀ (vm : Vm) (hh : Heap) (cells slots : Nat), cells ≤ 20 → slots ≤ 400 → Str2 Z hh a' n g' → Run p l e room_1 s m #[.int i0, .int i1, .int i2, .int i3] below meth c Z False EL1 (Kf s Z False EL1 room_1 (fun v h' => v = some (.int 1))) vm hh cells slots (fr m 76 [.val (.int i0), .val (.int i1), .val (.int i2), .val (.int i3), .val (.int nI), .val (.int ca), .val (.int cb), .val (.int cc), .val (.ref ch), .val (.ref tx), .val (.ref a')] []) := by
  have c142 : ∀ (vm : Vm) (hh : Heap) (cells slots : Nat), cells ≤ 20 → slots ≤ 400 → Run p l e room_1 s m #[.int i0, .int i1, .int i2, .int i3] below meth c Z False EL1 (Kf s Z False EL1 room_1 (fun v h' => v = some (.int 1))) vm hh cells slots (fr m 142 [.val (.int i0), .val (.int i1), .val (.int i2), .val (.int i3), .val (.int nI), .val (.int ca), .val (.int cb), .val (.int cc), .val (.ref ch), .val (.ref tx), .val (.ref a')] []) := by
    intro vm hh cells slots hc hs
    refine R_iconst C lw_142 (v := 1) rfl ?_
    exact R_retN C lw_143 rfl (Or.inl rfl) (Nat.le_trans hc (Nat.le_of_ble_eq_true rfl)) (Nat.le_trans hs (Nat.le_of_ble_eq_true rfl)) rfl
  have c120 : ∀ (vm : Vm) (hh : Heap) (cells slots : Nat), cells ≤ 20 → slots ≤ 400 → Str2 Z hh a' n g' → Run p l e room_1 s m #[.int i0, .int i1, .int i2, .int i3] below meth c Z False EL1 (Kf s Z False EL1 room_1 (fun v h' => v = some (.int 1))) vm hh cells slots (fr m 120 [.val (.int i0), .val (.int i1), .val (.int i2), .val (.int i3), .val (.int nI), .val (.int ca), .val (.int cb), .val (.int cc), .val (.ref ch), .val (.ref tx), .val (.ref a')] []) := by
    intro vm hh cells slots hc hs Y
    refine Run.more hc hs ?_
    refine R_iload C lw_120 rfl ?_
    refine R_iconst C lw_122 (v := 3) rfl ?_
    refine R_icmp C lw_123 (fun _ => c142 _ _ _ _ (Nat.le_refl _) (Nat.le_refl _) ) (fun (hd : ¬ nI < 3) => ?_)
    rw [Int32.lt_iff_toInt_lt, hnI, show (3 : Int32).toInt = 3 from rfl] at hd
    refine R_aload C lw_126 rfl rfl ?_
    refine R_iconst C lw_128 (v := 2) rfl ?_
    refine R_virtual C [.int 2] lw_129 (met_char2 l Z a0 hw True EL1 hEL cs fm SC SX hh a' n g' Y 2 2 rfl (by omega) hN) (by first | exact fun z => z | exact fun _ => trivial) (Y.exa) (hw _ (List.mem_of_getElem? (i := 215) rfl)) (hw _ (List.mem_of_getElem? (i := 53) rfl)) (hw _ (List.mem_of_getElem? (i := 55) rfl)) (hw _ (List.mem_of_getElem? (i := 54) rfl)) (hw _ (List.mem_of_getElem? (i := 8) rfl)) (hw _ (List.mem_of_getElem? (i := 56) rfl)) (by decide) pd_16 rfl rfl rfl (Nat.le_of_ble_eq_true rfl) (Nat.le_of_ble_eq_true rfl) (Nat.le_of_ble_eq_true rfl) (Nat.le_of_ble_eq_true rfl) (fun _ q => nomatch q) ?_
    intro v vm2 h2 hQ hsz2 hSf2 hFr
    obtain ⟨rfl, rfl⟩ := hQ
    simp only [Option.toList_some, List.cons_append, List.nil_append]
    refine R_iload C lw_132 rfl ?_
    refine R_static C [.int cc] lw_134 (met_xp l Z a0 hw True EL1 hEL _ cc hcc.1 hcc.2) (by first | exact fun z => z | exact fun _ => trivial) (hw _ (List.mem_of_getElem? (i := 216) rfl)) (hw _ (List.mem_of_getElem? (i := 217) rfl)) (hw _ (List.mem_of_getElem? (i := 3) rfl)) (hw _ (List.mem_of_getElem? (i := 218) rfl)) (by decide) pd_36 rfl rfl rfl (Nat.le_of_ble_eq_true rfl) (Nat.le_of_ble_eq_true rfl) (Nat.le_of_ble_eq_true rfl) (Nat.le_of_ble_eq_true rfl) (fun _ q => nomatch q) ?_
    intro v vm3 h3 hQ hsz3 hSf3 hFr
    obtain ⟨rfl, rfl⟩ := hQ
    simp only [Option.toList_some, List.cons_append, List.nil_append]
    refine R_icmp C lw_137 (fun _ => c142 _ _ _ _ (Nat.le_of_ble_eq_true rfl) (Nat.le_of_ble_eq_true rfl) ) (fun (hc : ¬ g' 2 = exc cc) => absurd (hg' 2 (by omega)) hc)
  have c98 : ∀ (vm : Vm) (hh : Heap) (cells slots : Nat), cells ≤ 20 → slots ≤ 400 → Str2 Z hh a' n g' → Run p l e room_1 s m #[.int i0, .int i1, .int i2, .int i3] below meth c Z False EL1 (Kf s Z False EL1 room_1 (fun v h' => v = some (.int 1))) vm hh cells slots (fr m 98 [.val (.int i0), .val (.int i1), .val (.int i2), .val (.int i3), .val (.int nI), .val (.int ca), .val (.int cb), .val (.int cc), .val (.ref ch), .val (.ref tx), .val (.ref a')] []) := by
    intro vm hh cells slots hc hs Y
    refine Run.more hc hs ?_
    refine R_iload C lw_98 rfl ?_
    refine R_iconst C lw_100 (v := 2) rfl ?_
    refine R_icmp C lw_101 (fun _ => c120 _ _ _ _ (Nat.le_refl _) (Nat.le_refl _) Y) (fun (hd : ¬ nI < 2) => ?_)
    rw [Int32.lt_iff_toInt_lt, hnI, show (2 : Int32).toInt = 2 from rfl] at hd
    refine R_aload C lw_104 rfl rfl ?_
    refine R_iconst C lw_106 (v := 1) rfl ?_
    refine R_virtual C [.int 1] lw_107 (met_char2 l Z a0 hw True EL1 hEL cs fm SC SX hh a' n g' Y 1 1 rfl (by omega) hN) (by first | exact fun z => z | exact fun _ => trivial) (Y.exa) (hw _ (List.mem_of_getElem? (i := 215) rfl)) (hw _ (List.mem_of_getElem? (i := 53) rfl)) (hw _ (List.mem_of_getElem? (i := 55) rfl)) (hw _ (List.mem_of_getElem? (i := 54) rfl)) (hw _ (List.mem_of_getElem? (i := 8) rfl)) (hw _ (List.mem_of_getElem? (i := 56) rfl)) (by decide) pd_16 rfl rfl rfl (Nat.le_of_ble_eq_true rfl) (Nat.le_of_ble_eq_true rfl) (Nat.le_of_ble_eq_true rfl) (Nat.le_of_ble_eq_true rfl) (fun _ q => nomatch q) ?_
    intro v vm2 h2 hQ hsz2 hSf2 hFr
    obtain ⟨rfl, rfl⟩ := hQ
    simp only [Option.toList_some, List.cons_append, List.nil_append]
    refine R_iload C lw_110 rfl ?_
    refine R_static C [.int cb] lw_112 (met_xp l Z a0 hw True EL1 hEL _ cb hcb.1 hcb.2) (by first | exact fun z => z | exact fun _ => trivial) (hw _ (List.mem_of_getElem? (i := 216) rfl)) (hw _ (List.mem_of_getElem? (i := 217) rfl)) (hw _ (List.mem_of_getElem? (i := 3) rfl)) (hw _ (List.mem_of_getElem? (i := 218) rfl)) (by decide) pd_36 rfl rfl rfl (Nat.le_of_ble_eq_true rfl) (Nat.le_of_ble_eq_true rfl) (Nat.le_of_ble_eq_true rfl) (Nat.le_of_ble_eq_true rfl) (fun _ q => nomatch q) ?_
    intro v vm3 h3 hQ hsz3 hSf3 hFr
    obtain ⟨rfl, rfl⟩ := hQ
    simp only [Option.toList_some, List.cons_append, List.nil_append]
    refine R_icmp C lw_115 (fun _ => c120 _ _ _ _ (Nat.le_of_ble_eq_true rfl) (Nat.le_of_ble_eq_true rfl) Y) (fun (hc : ¬ g' 1 = exc cb) => absurd (hg' 1 (by omega)) hc)
  have c76 : ∀ (vm : Vm) (hh : Heap) (cells slots : Nat), cells ≤ 20 → slots ≤ 400 → Str2 Z hh a' n g' → Run p l e room_1 s m #[.int i0, .int i1, .int i2, .int i3] below meth c Z False EL1 (Kf s Z False EL1 room_1 (fun v h' => v = some (.int 1))) vm hh cells slots (fr m 76 [.val (.int i0), .val (.int i1), .val (.int i2), .val (.int i3), .val (.int nI), .val (.int ca), .val (.int cb), .val (.int cc), .val (.ref ch), .val (.ref tx), .val (.ref a')] []) := by
    intro vm hh cells slots hc hs Y
    refine Run.more hc hs ?_
    refine R_iload C lw_76 rfl ?_
    refine R_iconst C lw_78 (v := 1) rfl ?_
    refine R_icmp C lw_79 (fun _ => c98 _ _ _ _ (Nat.le_refl _) (Nat.le_refl _) Y) (fun (hd : ¬ nI < 1) => ?_)
    rw [Int32.lt_iff_toInt_lt, hnI, show (1 : Int32).toInt = 1 from rfl] at hd
    refine R_aload C lw_82 rfl rfl ?_
    refine R_iconst C lw_84 (v := 0) rfl ?_
    refine R_virtual C [.int 0] lw_85 (met_char2 l Z a0 hw True EL1 hEL cs fm SC SX hh a' n g' Y 0 0 rfl (by omega) hN) (by first | exact fun z => z | exact fun _ => trivial) (Y.exa) (hw _ (List.mem_of_getElem? (i := 215) rfl)) (hw _ (List.mem_of_getElem? (i := 53) rfl)) (hw _ (List.mem_of_getElem? (i := 55) rfl)) (hw _ (List.mem_of_getElem? (i := 54) rfl)) (hw _ (List.mem_of_getElem? (i := 8) rfl)) (hw _ (List.mem_of_getElem? (i := 56) rfl)) (by decide) pd_16 rfl rfl rfl (Nat.le_of_ble_eq_true rfl) (Nat.le_of_ble_eq_true rfl) (Nat.le_of_ble_eq_true rfl) (Nat.le_of_ble_eq_true rfl) (fun _ q => nomatch q) ?_
    intro v vm2 h2 hQ hsz2 hSf2 hFr
    obtain ⟨rfl, rfl⟩ := hQ
    simp only [Option.toList_some, List.cons_append, List.nil_append]
    refine R_iload C lw_88 rfl ?_
    refine R_static C [.int ca] lw_90 (met_xp l Z a0 hw True EL1 hEL _ ca hca.1 hca.2) (by first | exact fun z => z | exact fun _ => trivial) (hw _ (List.mem_of_getElem? (i := 216) rfl)) (hw _ (List.mem_of_getElem? (i := 217) rfl)) (hw _ (List.mem_of_getElem? (i := 3) rfl)) (hw _ (List.mem_of_getElem? (i := 218) rfl)) (by decide) pd_36 rfl rfl rfl (Nat.le_of_ble_eq_true rfl) (Nat.le_of_ble_eq_true rfl) (Nat.le_of_ble_eq_true rfl) (Nat.le_of_ble_eq_true rfl) (fun _ q => nomatch q) ?_
    intro v vm3 h3 hQ hsz3 hSf3 hFr
    obtain ⟨rfl, rfl⟩ := hQ
    simp only [Option.toList_some, List.cons_append, List.nil_append]
    refine R_icmp C lw_93 (fun _ => c98 _ _ _ _ (Nat.le_of_ble_eq_true rfl) (Nat.le_of_ble_eq_true rfl) Y) (fun (hc : ¬ g' 0 = exc ca) => absurd (hg' 0 (by omega)) hc)
  exact c76
set_option maxRecDepth 65536 in
theorem met_law (l : Launch) (Z : State) (a0 : Array Value) (hw : ∀ d ∈ tables_1, d.before a0 Z = true) (hEL : EW Z a0 EL1) (cs : Int32) (fm : Value) (SC : SS Z cs fm) (SX : SU Z) (i0 i1 i2 i3 : Int32) :
    Met l Z False EL1 x code 11 (some .boolean) room_1 #[.int i0, .int i1, .int i2, .int i3] Z.heap [] (fun v h' => v = some (.int 1)) := by
  refine Met.mk (a0 := a0) hEL pn_law ?_
  intro p e s m below meth c C hE hS
  rw [e_lw m i0 i1 i2 i3]
  have q1 : (i3 &&& 3).toInt = _ := i32_mask i3 3 (k := 2) (by decide) (by decide)
  obtain ⟨n, hnI⟩ : ∃ n : Nat, (i3 &&& 3).toInt = n := ⟨(i3 &&& 3).toInt.toNat, by omega⟩
  have hN : n ≤ 3 := by omega
  have hn : n.toInt32.toInt = n := len_toInt (by omega)
  have hca : Ch (nar .char (i0 &&& 65535)) := char_bound _
  have hcb : Ch (nar .char (i1 &&& 65535)) := char_bound _
  have hcc : Ch (nar .char (i2 &&& 65535)) := char_bound _
  refine R_iload_n C lw_0 rfl ?_
  refine R_iconst C lw_1 (v := 3) rfl ?_
  refine R_iand C lw_2 ?_
  refine R_istore C lw_3 rfl ?_
  simp only [fv0, fv1, fv2, fv3, List.set_cons_zero, List.set_cons_succ]
  refine R_iload_n C lw_5 rfl ?_
  refine R_ldcInt C lw_6 (hw _ (List.mem_of_getElem? (i := 0) rfl)) ?_
  refine R_iand C lw_8 ?_
  refine R_i2c C lw_9 ?_
  refine R_istore C lw_10 rfl ?_
  simp only [fv0, fv1, fv2, fv3, List.set_cons_zero, List.set_cons_succ]
  refine R_iload_n C lw_12 rfl ?_
  refine R_ldcInt C lw_13 (hw _ (List.mem_of_getElem? (i := 0) rfl)) ?_
  refine R_iand C lw_15 ?_
  refine R_i2c C lw_16 ?_
  refine R_istore C lw_17 rfl ?_
  simp only [fv0, fv1, fv2, fv3, List.set_cons_zero, List.set_cons_succ]
  refine R_iload_n C lw_19 rfl ?_
  refine R_ldcInt C lw_20 (hw _ (List.mem_of_getElem? (i := 0) rfl)) ?_
  refine R_iand C lw_22 ?_
  refine R_i2c C lw_23 ?_
  refine R_istore C lw_24 rfl ?_
  simp only [fv0, fv1, fv2, fv3, List.set_cons_zero, List.set_cons_succ]
  refine R_iload C lw_26 rfl ?_
  refine R_iload C lw_28 rfl ?_
  refine R_iload C lw_30 rfl ?_
  refine R_iload C lw_32 rfl ?_
  generalize i3 &&& 3 = nI at *
  generalize nar .char (i0 &&& 65535) = ca at *
  generalize nar .char (i1 &&& 65535) = cb at *
  generalize nar .char (i2 &&& 65535) = cc at *
  refine R_static C [.int nI, .int ca, .int cb, .int cc] lw_34 (met_mk l Z a0 hw True EL1 hEL Z.heap nI n ca cb cc hnI hN hca hcb hcc) (by first | exact fun z => z | exact fun _ => trivial) (hw _ (List.mem_of_getElem? (i := 1) rfl)) (hw _ (List.mem_of_getElem? (i := 2) rfl)) (hw _ (List.mem_of_getElem? (i := 3) rfl)) (hw _ (List.mem_of_getElem? (i := 4) rfl)) (by decide) pd_37 rfl rfl rfl (Nat.le_of_ble_eq_true rfl) (Nat.le_of_ble_eq_true rfl) (Nat.le_of_ble_eq_true rfl) (Nat.le_of_ble_eq_true rfl) (fun _ q => nomatch q) ?_
  intro v vm1 h1 hQ hsz1 hSf1 hFr
  obtain ⟨rfl, E1, A1⟩ := hQ
  simp only [Option.toList_some, List.cons_append, List.nil_append]
  refine R_astore C lw_37 rfl rfl rfl ?_
  simp only [fv0, fv1, fv2, fv3, List.set_cons_zero, List.set_cons_succ]
  refine R_new C lw_39 (hw _ (List.mem_of_getElem? (i := 6) rfl)) (hw _ (List.mem_of_getElem? (i := 7) rfl)) (hw _ (List.mem_of_getElem? (i := 8) rfl)) (Nat.le_of_ble_eq_true rfl) (Nat.le_of_ble_eq_true rfl) ?_
  intro h2 E2 X2 S2 _
  obtain ⟨X2, F2⟩ := X2
  refine R_dup C lw_42 rfl ?_
  refine R_aload C lw_43 rfl rfl ?_
  refine R_special C [.ref Z.heap.size] lw_45 (met_i2S l Z a0 hw hEL cs fm SC SX h2 h1.size Z.heap.size n (g3 ca cb cc) (A1.ext E2) hN (g3_ok hca hcb hcc) X2 (F2 (Or.inr (hw _ (List.mem_of_getElem? (i := 34) rfl))) (ty := .array .byte) (by decide)) (F2 (Or.inr (hw _ (List.mem_of_getElem? (i := 32) rfl))) (ty := .byte) (by decide)) E1.1) (by first | exact fun z => z | exact fun _ => trivial) rfl (hw _ (List.mem_of_getElem? (i := 9) rfl)) (hw _ (List.mem_of_getElem? (i := 10) rfl)) (hw _ (List.mem_of_getElem? (i := 8) rfl)) (hw _ (List.mem_of_getElem? (i := 11) rfl)) (by decide) pd_38 rfl rfl rfl (Nat.le_of_ble_eq_true rfl) (Nat.le_of_ble_eq_true rfl) (Nat.le_of_ble_eq_true rfl) (Nat.le_of_ble_eq_true rfl) (fun z hz => by cases List.mem_singleton.mp hz; exact S2) ?_
  intro v vm3 h3 hQ hsz3 hSf3 hFr
  obtain ⟨rfl, K3, Y3⟩ := hQ
  simp only [Option.toList_none, List.nil_append]
  refine R_astore C lw_48 rfl rfl rfl ?_
  simp only [fv0, fv1, fv2, fv3, List.set_cons_zero, List.set_cons_succ]
  refine R_aload C lw_50 rfl rfl ?_
  refine R_static C [.ref h1.size] lw_52 (met_ol l Z a0 hw True EL1 hEL cs fm SC SX h3 h1.size n _ Y3 hN) (by first | exact fun z => z | exact fun _ => trivial) (hw _ (List.mem_of_getElem? (i := 35) rfl)) (hw _ (List.mem_of_getElem? (i := 36) rfl)) (hw _ (List.mem_of_getElem? (i := 37) rfl)) (hw _ (List.mem_of_getElem? (i := 38) rfl)) (by decide) pd_39 rfl rfl rfl (Nat.le_of_ble_eq_true rfl) (Nat.le_of_ble_eq_true rfl) (Nat.le_of_ble_eq_true rfl) (Nat.le_of_ble_eq_true rfl) (fun _ q => nomatch q) ?_
  intro v vm4 h4 hQ hsz4 hSf4 hFr
  obtain ⟨a', g', rfl, Y4, hg'⟩ := hQ
  simp only [Option.toList_some, List.cons_append, List.nil_append]
  refine R_astore C lw_55 rfl rfl rfl ?_
  simp only [fv0, fv1, fv2, fv3, List.set_cons_zero, List.set_cons_succ]
  refine R_aload C lw_57 rfl rfl ?_
  refine R_ifnonnull_y C lw_59 ?_
  refine R_aload C lw_64 rfl rfl ?_
  refine R_virtual C [] lw_66 (met_len2 l Z a0 hw True EL1 hEL cs fm SC h4 a' n g' Y4) (by first | exact fun z => z | exact fun _ => trivial) (Y4.exa) (hw _ (List.mem_of_getElem? (i := 214) rfl)) (hw _ (List.mem_of_getElem? (i := 43) rfl)) (hw _ (List.mem_of_getElem? (i := 45) rfl)) (hw _ (List.mem_of_getElem? (i := 44) rfl)) (hw _ (List.mem_of_getElem? (i := 8) rfl)) (hw _ (List.mem_of_getElem? (i := 46) rfl)) (by decide) pd_15 rfl rfl rfl (Nat.le_of_ble_eq_true rfl) (Nat.le_of_ble_eq_true rfl) (Nat.le_of_ble_eq_true rfl) (Nat.le_of_ble_eq_true rfl) (fun _ q => nomatch q) ?_
  intro v vm5 h5 hQ hsz5 hSf5 hFr
  obtain ⟨rfl, rfl⟩ := hQ
  simp only [Option.toList_some, List.cons_append, List.nil_append]
  refine R_iload C lw_69 rfl ?_
  refine R_icmp C lw_71 (fun _ => ?_) (fun (hc : ¬ n.toInt32 = nI) => absurd (Int32.toInt_inj.mp (by omega)) hc)
  exact law_end l Z a0 hw hEL cs fm SC SX p e s m below meth c C i0 i1 i2 i3 nI ca cb cc n hnI hN hca hcb hcc _ _ a' g' hg' _ _ _ _ (Nat.le_of_ble_eq_true rfl) (Nat.le_of_ble_eq_true rfl) Y4
set_option maxRecDepth 65536 in
theorem comes_1 {Post : Tables → Env → Array Value → State → Outcome → State → Prop} (hpost : ∀ tb e args s v u, (limb_1_1.after args s (.returned v) u = true ∧ limb_1_2.after args s (.returned v) u = true ∧ True) → ReturnedEndW s (.returned v) u (Jvm.fieldLocs frame_1_writes args s ++ Jvm.arrayLocs frame_1_arrays args s ++ Jvm.staticLocs frame_1_statics s) 32 1280 → Post tb e args s (.returned v) u) :
    ArmFor flags0 classFile x code maxLocals ret World_1 tables_1 room_1 Calls_1 rest_1 Pre_1 Post := by
  intro l hfl _ _ p e ha hc hk s m args below hf hA hF happ hP
  obtain ⟨hcalls, hrest, hpre⟩ := hP
  obtain ⟨-, -, -, hnamed, -, -, -, hat⟩ := (Spec.applies_iff hf).mp happ
  obtain ⟨hg, hn⟩ := and_e (Cond.before_iff.mp (show (Jvm.Cond.and given_1 narrow_1).before args s = true from hpre))
  obtain ⟨h1, h2⟩ := and_e hg
  obtain ⟨g0, h2⟩ := and_e h2
  obtain ⟨g1, h2⟩ := and_e h2
  obtain ⟨g2, g3⟩ := and_e h2
  obtain ⟨w0, w1, w2, w3, rfl⟩ : ∃ w0 w1 w2 w3 : Value, args = #[w0, w1, w2, w3] := by
    have hs : args.size = 4 := by simpa [Cond.value, given_1] using h1
    obtain ⟨L⟩ := args
    match L, hs with
    | [w0, w1, w2, w3], _ => exact ⟨w0, w1, w2, w3, rfl⟩
  have hw := fun d (hd : d ∈ tables_1) => atoms_spec (ws := Jvm.Cond.code x code maxLocals ret :: tables_1) hat d (List.mem_cons_of_mem _ hd)
  have hfit : Fit s := fun {y c} hc i hi => by
    obtain ⟨ha, rfl⟩ := Array.getElem?_eq_some_iff.mp hc
    have q := List.all_eq_true.mp ((Array.all_eq_true_iff_forall_mem.mp hF) _ (Array.getElem_mem ha)) i (List.mem_range.mpr hi)
    simpa [Array.getElem?_eq_getElem hi] using q
  obtain ⟨i0, e0⟩ := is_v g0
  obtain rfl : w0 = (.int i0) := Option.some.inj e0
  obtain ⟨i1, e1⟩ := is_v g1
  obtain rfl : w1 = (.int i1) := Option.some.inj e1
  obtain ⟨i2, e2⟩ := is_v g2
  obtain rfl : w2 = (.int i2) := Option.some.inj e2
  obtain ⟨i3, e3⟩ := is_v g3
  obtain rfl : w3 = (.int i3) := Option.some.inj e3
  obtain ⟨hsets, hown0⟩ := atoms_of _ (rest_1_c_eq ▸ (show rest_1_c.before _ s = true from hrest))
  have m3 := not_v (Cond.before_iff.mp (hsets _ (List.mem_of_getElem? (i := 2) rfl)))
  obtain ⟨cs, c1⟩ := is_v (Cond.before_iff.mp (hsets _ (List.mem_of_getElem? (i := 1) rfl)))
  have S8 : Sta s s.heap STR "COMPACT_STRINGS" "Z" (.int cs) := Sta.start c1 (Or.inl (hsets _ (List.mem_of_getElem? (i := 0) rfl)))
  obtain ⟨fm, c2, c3⟩ := isR_v (Cond.before_iff.mp (hsets _ (List.mem_of_getElem? (i := 8) rfl)))
  have S12 : Sta s s.heap PRE "SIOOBE_FORMATTER" BIF fm := Sta.start c2 (Or.inl (hsets _ (List.mem_of_getElem? (i := 7) rfl)))
  have SC : SS s cs fm := ⟨gotF (Cond.eq_ints c1 (Term.int_eval (0))) m3, S8, c3, S12⟩
  have hEL : EW s _ EL1 := EW.cons (hw _ (List.mem_of_getElem? (i := 219) rfl)) (by intro c hc; simp at hc) EW.nil
  have hCH : CHv s EL1 s.vm s.heap := CHv.start hEL (fun p hp => hcalls.1 p hp) (hsets _ (List.mem_of_getElem? (i := 2) rfl)) (hw _ (List.mem_of_getElem? (i := 24) rfl)) (hw _ (List.mem_of_getElem? (i := 7) rfl))
  have SX : SU s := by
    refine ⟨?_, ?_, ?_⟩
    · exact Sta.start (int_lit (Cond.before_iff.mp (hsets _ (List.mem_of_getElem? (i := 12) rfl)))) (Or.inl (hsets _ (List.mem_of_getElem? (i := 11) rfl)))
    · exact Sta.start (int_lit (Cond.before_iff.mp (hsets _ (List.mem_of_getElem? (i := 15) rfl)))) (Or.inl (hsets _ (List.mem_of_getElem? (i := 14) rfl)))
    · exact Sta.start (int_lit (Cond.before_iff.mp (hsets _ (List.mem_of_getElem? (i := 18) rfl)))) (Or.inl (hsets _ (List.mem_of_getElem? (i := 17) rfl)))
  obtain ⟨n, o, h1, h2, h3, v, L, rfl, hv, N, -, -, hR, hWm⟩ := met_law l s _ hw hEL cs fm SC SX i0 i1 i2 i3 tables_1 p e ha hc hk s m _ below hf ((Spec.applies_iff_loose hf).mp happ).1 ⟨rfl, State.Warmed39.refl s, rfl, hCH, Ext.rfl', fun _ q => nomatch q⟩ trivial
  subst hv
  refine ⟨n, _, h1, h2, h3, hpost _ _ _ _ _ _ ⟨Cond.after_iff.mpr rfl, Cond.after_iff.mpr (eq_i res_at (Term.int_eval (1)) rfl), trivial⟩ ⟨hR.1, hR.2.1, hR.2.2.1, (hR.2.2.2.sift fun y hy => Or.inr (N y hy)).mono (by decide) (by decide)⟩⟩
theorem main_1_1 : Claimed_1_1 := comes_1 fun _ _ _ _ _ _ h hF => ⟨h.1, hF⟩
theorem main_1_2 : Claimed_1_2 := comes_1 fun _ _ _ _ _ _ h hF => ⟨h.2.1, hF⟩
end Jvm.Pilot.@@N@@
namespace Jvm.Pilot.@@N@@
open Jvm Jvm.ClassFile Sem Op Lib Jvm.Free Jvm.Stand Jvm.Pilot.@@N@@.Jvm.D
/-! MADE BY PROGRAM (witnessworld.py) out of the Statement's table words and the real class files: 27 classes; the members and pool entries that the words name. The judged class is class 1, her method 1. -/
namespace start1
open Jvm.ClassFile
def u (s : String) : CpInfo := .utf8 (stringToUtf16 s)
/-- a pool by its gaps: so many unusable entries, then the entry; so many at the end -/
def gap : Nat → List CpInfo → List CpInfo
  | 0, r => r
  | n + 1, r => .unusable :: gap n r
def poolList (es : List (Nat × CpInfo)) (last : Nat) : List CpInfo := es.foldr (fun e r => gap e.1 (e.2 :: r)) (gap last [])
def pool (es : List (Nat × CpInfo)) (last : Nat) : Array CpInfo := ⟨poolList es last⟩
def fileOf (pool : Array CpInfo) (this : Nat) (attrs : Array Attribute := #[]) (ms : Array MethodInfo := #[]) (fl : Nat := 33) (sup : Nat := 0) (ifs : Array Nat := #[]) (fds : Array FieldInfo := #[]) : ClassFile where
  minorVersion := 0
  majorVersion := 65
  constantPool := pool
  accessFlags := fl
  thisClass := this
  superClass := sup
  interfaces := ifs
  fields := fds
  methods := ms
  attributes := attrs
def plain (name : String) (sup : Option ClassId) : Class where
  name := name
  kind := .ordinary
  loader := none
  accessFlags := 33
  super := sup
  interfaces := #[]
  cf := none
  fields := #[]
  methods := #[]
  instanceTypes := #[]
  staticTypes := #[]
  resolved := #[]
  callSites := []
  init := .initialized
  statics := none
  mirror := none

def pool0 : Array CpInfo := pool [(5, u "<init>"), (0, u "()V"), (1, .class_ 10), (1, u "java/lang/Object")] 113

def k0c0 : Code := { maxStack := 0, maxLocals := 1, code := object_method_1_code, exceptionTable := #[], attributes := #[] }
def k0m0 : Method := { name := "<init>", desc := "()V", sig := { parameters := [], returnType := none }, accessFlags := 1, code := some k0c0 }
/-- java/lang/Object -/
def k0 : Class := { plain "java/lang/Object" none with
  accessFlags := 33
  interfaces := #[]
  cf := some (fileOf pool0 8 #[] #[{ accessFlags := 1, nameIndex := 5, descriptorIndex := 6, attributes := #[] }] 33 0 #[] #[])
  fields := #[]
  methods := #[k0m0]
  instanceTypes := #[]
  staticTypes := #[]
  resolved := Array.replicate 124 none
  statics := none }

def pool1 : Array CpInfo := pool [(2, .class_ 4), (1, u "java/lang/Object"), (0, u "<init>"), (0, u "()V"), (0, .integer 65535), (0, .methodref 9 10), (0, .class_ 11), (0, .nameAndType 12 13), (0, u "com/example/kazalo/kazalo/FailuresOneLinePinLaw"), (0, u "make"), (0, u "(ICCC)[C"), (0, .class_ 15), (0, u "java/lang/String"), (0, .methodref 14 17), (0, .nameAndType 5 18), (0, u "([C)V"), (0, .methodref 20 21), (0, .class_ 22), (0, .nameAndType 23 24), (0, u "com/example/kazalo/kazalo/Failures"), (0, u "oneLine"), (0, u "(Ljava/lang/String;)Ljava/lang/String;"), (0, .methodref 14 26), (0, .nameAndType 27 28), (0, u "length"), (0, u "()I"), (0, .methodref 14 30), (0, .nameAndType 31 32), (0, u "charAt"), (0, u "(I)C"), (0, .methodref 9 34), (0, .nameAndType 35 36), (0, u "expected"), (0, u "(C)C"), (2, u "law"), (0, u "(IIII)Z")] 5

def k1m0 : Method := { name := "<init>", desc := "()V", sig := { parameters := [], returnType := none }, accessFlags := 1, code := none }
def k1c1 : Code := { maxStack := 4, maxLocals := 11, code := code, exceptionTable := #[], attributes := #[] }
def k1m1 : Method := { name := "law", desc := "(IIII)Z", sig := { parameters := [.int, .int, .int, .int], returnType := some .boolean }, accessFlags := 9, code := some k1c1 }
def k1c2 : Code := { maxStack := 4, maxLocals := 4, code := method_3_code, exceptionTable := #[], attributes := #[] }
def k1m2 : Method := { name := "make", desc := "(ICCC)[C", sig := { parameters := [.int, .char, .char, .char], returnType := some (.array .char) }, accessFlags := 10, code := some k1c2 }
def k1c3 : Code := { maxStack := 2, maxLocals := 1, code := method_4_code, exceptionTable := #[], attributes := #[] }
def k1m3 : Method := { name := "expected", desc := "(C)C", sig := { parameters := [.char], returnType := some .char }, accessFlags := 10, code := some k1c3 }
/-- com/example/kazalo/kazalo/FailuresOneLinePinLaw -/
def k1 : Class := { plain "com/example/kazalo/kazalo/FailuresOneLinePinLaw" (some 0) with
  accessFlags := 49
  interfaces := #[]
  cf := some (fileOf pool1 9 #[] #[{ accessFlags := 1, nameIndex := 5, descriptorIndex := 6, attributes := #[] }, { accessFlags := 9, nameIndex := 39, descriptorIndex := 40, attributes := #[] }, { accessFlags := 10, nameIndex := 12, descriptorIndex := 13, attributes := #[] }, { accessFlags := 10, nameIndex := 35, descriptorIndex := 36, attributes := #[] }] 49 2 #[] #[])
  fields := #[]
  methods := #[k1m0, k1m1, k1m2, k1m3]
  instanceTypes := #[]
  staticTypes := #[]
  resolved := Array.replicate 46 none
  statics := none }

def pool2 : Array CpInfo := pool [(1, .class_ 2), (0, u "java/io/Serializable"), (0, .class_ 4), (0, u "java/lang/Object")] 2

/-- java/io/Serializable -/
def k2 : Class := { plain "java/io/Serializable" (some 0) with
  accessFlags := 1537
  interfaces := #[]
  cf := some (fileOf pool2 1 #[] #[] 1537 3 #[] #[])
  fields := #[]
  methods := #[]
  instanceTypes := #[]
  staticTypes := #[]
  resolved := Array.replicate 7 none
  statics := none }

def pool3 : Array CpInfo := pool [(1, .class_ 2), (0, u "java/lang/Comparable"), (0, .class_ 4), (0, u "java/lang/Object")] 7

/-- java/lang/Comparable -/
def k3 : Class := { plain "java/lang/Comparable" (some 0) with
  accessFlags := 1537
  interfaces := #[]
  cf := some (fileOf pool3 1 #[] #[] 1537 3 #[] #[])
  fields := #[]
  methods := #[]
  instanceTypes := #[]
  staticTypes := #[]
  resolved := Array.replicate 12 none
  statics := none }

def pool4 : Array CpInfo := pool [(2, .class_ 4), (1, u "java/lang/CharSequence"), (42, .class_ 48), (0, u "java/lang/CharSequence$1CodePointIterator"), (10, .class_ 60), (0, u "java/lang/CharSequence$1CharIterator"), (5, .class_ 67), (0, u "java/lang/Object")] 63

/-- java/lang/CharSequence -/
def k4 : Class := { plain "java/lang/CharSequence" (some 0) with
  accessFlags := 1537
  interfaces := #[]
  cf := some (fileOf pool4 2 #[.nestMembers #[47, 59]] #[] 1537 66 #[] #[])
  fields := #[]
  methods := #[]
  instanceTypes := #[]
  staticTypes := #[]
  resolved := Array.replicate 131 none
  statics := none }

def pool5 : Array CpInfo := pool [(1, .class_ 2), (0, u "java/lang/constant/Constable"), (0, .class_ 4), (0, u "java/lang/Object")] 6

/-- java/lang/constant/Constable -/
def k5 : Class := { plain "java/lang/constant/Constable" (some 0) with
  accessFlags := 1537
  interfaces := #[]
  cf := some (fileOf pool5 1 #[] #[] 1537 3 #[] #[])
  fields := #[]
  methods := #[]
  instanceTypes := #[]
  staticTypes := #[]
  resolved := Array.replicate 11 none
  statics := none }

def pool6 : Array CpInfo := pool [(1, .class_ 2), (0, u "java/lang/constant/ConstantDesc"), (0, .class_ 4), (0, u "java/lang/Object")] 32

/-- java/lang/constant/ConstantDesc -/
def k6 : Class := { plain "java/lang/constant/ConstantDesc" (some 0) with
  accessFlags := 1537
  interfaces := #[]
  cf := some (fileOf pool6 1 #[] #[] 1537 3 #[] #[])
  fields := #[]
  methods := #[]
  instanceTypes := #[]
  staticTypes := #[]
  resolved := Array.replicate 37 none
  statics := none }

def pool7 : Array CpInfo := pool [(1, .methodref 2 3), (0, .class_ 4), (0, .nameAndType 5 6), (0, u "java/lang/Object"), (0, u "<init>"), (0, u "()V"), (0, .string 8), (0, u ""), (0, .fieldref 10 11), (0, .class_ 12), (0, .nameAndType 13 14), (0, u "java/lang/String"), (0, u "value"), (0, u "[B"), (0, .fieldref 10 16), (0, .nameAndType 17 18), (0, u "coder"), (0, u "B"), (2, u "hash"), (0, u "I"), (2, u "hashIsZero"), (0, u "Z"), (0, .methodref 10 28), (0, .nameAndType 5 29), (0, u "([CIILjava/lang/Void;)V"), (6, u "checkBoundsOffCount"), (0, u "(III)I"), (0, .fieldref 10 39), (0, .nameAndType 40 26), (0, u "COMPACT_STRINGS"), (1, .class_ 44), (1, u "java/lang/StringUTF16"), (0, u "compress"), (1, .methodref 42 48), (0, .nameAndType 49 50), (0, u "coderFromArrayLen"), (0, u "([BI)B"), (3, .methodref 55 56), (0, .class_ 57), (0, .nameAndType 58 59), (0, u "java/util/Arrays"), (0, u "copyOfRange"), (0, u "([BII)[B"), (47, .class_ 109), (1, u "java/lang/StringLatin1"), (32, u "()Z"), (34, .methodref 42 178), (0, .nameAndType 45 179), (0, u "([CII)[B"), (13, .class_ 195), (1, u "java/lang/System"), (16, .methodref 193 213), (0, .nameAndType 214 215), (0, u "arraycopy"), (0, u "(Ljava/lang/Object;ILjava/lang/Object;II)V"), (118, u "()I"), (0, .methodref 10 336), (0, .nameAndType 17 337), (0, u "()B"), (2, u "()[B"), (22, u "([BI)C"), (27, u "(II)V"), (35, u "(I)C"), (61, .methodref 10 490), (0, .nameAndType 5 491), (0, u "(Ljava/lang/AbstractStringBuilder;Ljava/lang/Void;)V"), (0, .methodref 10 493), (0, .nameAndType 494 142), (0, u "isLatin1"), (0, .methodref 107 496), (0, .nameAndType 497 363), (0, u "charAt"), (0, .methodref 42 496), (2, u "checkIndex"), (4, .nameAndType 507 334), (0, u "length"), (24, u "getBytes"), (16, .methodref 550 506), (0, .class_ 551), (0, u "java/lang/AbstractStringBuilder"), (0, .methodref 550 553), (0, .nameAndType 554 340), (0, u "getValue"), (20, .class_ 576), (0, u "java/lang/CharSequence"), (22, u "CASE_INSENSITIVE_ORDER"), (0, u "Ljava/util/Comparator;"), (220, u "([BIB)V"), (188, u "([C)V"), (36, .methodref 550 493), (0, .fieldref 550 1049), (0, .nameAndType 1050 26), (0, u "maybeLatin1"), (0, .methodref 42 1052), (0, .nameAndType 45 59), (0, .fieldref 1054 1055), (0, .class_ 1056), (0, .nameAndType 1057 1058), (0, u "jdk/internal/util/Preconditions"), (0, u "SIOOBE_FORMATTER"), (0, u "Ljava/util/function/BiFunction;"), (0, .methodref 1054 1060), (0, .nameAndType 501 1061), (0, u "(IILjava/util/function/BiFunction;)I"), (2, u "(IIILjava/util/function/BiFunction;)I"), (0, .methodref 1054 1066), (0, .nameAndType 1067 1064), (0, u "checkFromIndexSize"), (33, u "serialPersistentFields"), (0, u "[Ljava/io/ObjectStreamField;"), (0, .class_ 1104), (0, u "java/lang/String$CaseInsensitiveComparator"), (1, .class_ 1107), (0, u "java/io/Serializable"), (0, .class_ 1109), (0, u "java/lang/Comparable"), (0, .class_ 1111), (0, u "java/lang/constant/Constable"), (0, .class_ 1113), (0, u "java/lang/constant/ConstantDesc"), (2, u "serialVersionUID"), (0, u "J"), (3, u "REPL"), (0, u "C"), (2, u "LATIN1"), (1, u "UTF16"), (105, u "(Ljava/lang/StringBuilder;)V")] 217

def k7m0 : Method := { name := "<init>", desc := "()V", sig := { parameters := [], returnType := none }, accessFlags := 1, code := none }
def k7c1 : Code := { maxStack := 5, maxLocals := 2, code := jdk_42_method_3_code, exceptionTable := #[], attributes := #[] }
def k7m1 : Method := { name := "<init>", desc := "([C)V", sig := { parameters := [(.array .char)], returnType := none }, accessFlags := 1, code := some k7c1 }
def k7c2 : Code := { maxStack := 3, maxLocals := 2, code := jdk_42_method_53_code, exceptionTable := #[], attributes := #[] }
def k7m2 : Method := { name := "<init>", desc := "(Ljava/lang/StringBuilder;)V", sig := { parameters := [(.object "java/lang/StringBuilder")], returnType := none }, accessFlags := 1, code := some k7c2 }
def k7c3 : Code := { maxStack := 2, maxLocals := 1, code := jdk_42_method_54_code, exceptionTable := #[], attributes := #[] }
def k7m3 : Method := { name := "length", desc := "()I", sig := { parameters := [], returnType := some .int }, accessFlags := 1, code := some k7c3 }
def k7c4 : Code := { maxStack := 2, maxLocals := 2, code := jdk_42_method_56_code, exceptionTable := #[], attributes := #[] }
def k7m4 : Method := { name := "charAt", desc := "(I)C", sig := { parameters := [.int], returnType := some .char }, accessFlags := 1, code := some k7c4 }
def k7c5 : Code := { maxStack := 5, maxLocals := 4, code := jdk_42_method_147_code, exceptionTable := #[], attributes := #[] }
def k7m5 : Method := { name := "getBytes", desc := "([BIB)V", sig := { parameters := [(.array .byte), .int, .byte], returnType := none }, accessFlags := 0, code := some k7c5 }
def k7c6 : Code := { maxStack := 4, maxLocals := 6, code := jdk_42_method_149_code, exceptionTable := #[], attributes := #[] }
def k7m6 : Method := { name := "<init>", desc := "([CIILjava/lang/Void;)V", sig := { parameters := [(.array .char), .int, .int, (.object "java/lang/Void")], returnType := none }, accessFlags := 2, code := some k7c6 }
def k7c7 : Code := { maxStack := 5, maxLocals := 5, code := jdk_42_method_150_code, exceptionTable := #[], attributes := #[] }
def k7m7 : Method := { name := "<init>", desc := "(Ljava/lang/AbstractStringBuilder;Ljava/lang/Void;)V", sig := { parameters := [(.object "java/lang/AbstractStringBuilder"), (.object "java/lang/Void")], returnType := none }, accessFlags := 0, code := some k7c7 }
def k7c8 : Code := { maxStack := 1, maxLocals := 1, code := jdk_42_method_152_code, exceptionTable := #[], attributes := #[] }
def k7m8 : Method := { name := "coder", desc := "()B", sig := { parameters := [], returnType := some .byte }, accessFlags := 0, code := some k7c8 }
def k7c9 : Code := { maxStack := 1, maxLocals := 1, code := jdk_42_method_154_code, exceptionTable := #[], attributes := #[] }
def k7m9 : Method := { name := "isLatin1", desc := "()Z", sig := { parameters := [], returnType := some .boolean }, accessFlags := 0, code := some k7c9 }
def k7c10 : Code := { maxStack := 3, maxLocals := 2, code := jdk_42_method_155_code, exceptionTable := #[], attributes := #[] }
def k7m10 : Method := { name := "checkIndex", desc := "(II)V", sig := { parameters := [.int, .int], returnType := none }, accessFlags := 8, code := some k7c10 }
def k7c11 : Code := { maxStack := 4, maxLocals := 3, code := jdk_42_method_157_code, exceptionTable := #[], attributes := #[] }
def k7m11 : Method := { name := "checkBoundsOffCount", desc := "(III)I", sig := { parameters := [.int, .int, .int], returnType := some .int }, accessFlags := 8, code := some k7c11 }
/-- java/lang/String -/
def k7 : Class := { plain "java/lang/String" (some 0) with
  accessFlags := 49
  interfaces := #[2, 3, 4, 5, 6]
  cf := some (fileOf pool7 10 #[.nestMembers #[1103]] #[{ accessFlags := 1, nameIndex := 5, descriptorIndex := 6, attributes := #[] }, { accessFlags := 1, nameIndex := 5, descriptorIndex := 1010, attributes := #[] }, { accessFlags := 1, nameIndex := 5, descriptorIndex := 1233, attributes := #[] }, { accessFlags := 1, nameIndex := 507, descriptorIndex := 334, attributes := #[] }, { accessFlags := 1, nameIndex := 497, descriptorIndex := 427, attributes := #[] }, { accessFlags := 0, nameIndex := 532, descriptorIndex := 821, attributes := #[] }, { accessFlags := 2, nameIndex := 5, descriptorIndex := 29, attributes := #[] }, { accessFlags := 0, nameIndex := 5, descriptorIndex := 491, attributes := #[] }, { accessFlags := 0, nameIndex := 17, descriptorIndex := 337, attributes := #[] }, { accessFlags := 0, nameIndex := 494, descriptorIndex := 142, attributes := #[] }, { accessFlags := 8, nameIndex := 501, descriptorIndex := 391, attributes := #[] }, { accessFlags := 8, nameIndex := 36, descriptorIndex := 37, attributes := #[] }] 49 2 #[1106, 1108, 575, 1110, 1112] #[{ accessFlags := 18, nameIndex := 13, descriptorIndex := 14, attributes := #[] }, { accessFlags := 18, nameIndex := 17, descriptorIndex := 18, attributes := #[] }, { accessFlags := 2, nameIndex := 21, descriptorIndex := 22, attributes := #[] }, { accessFlags := 2, nameIndex := 25, descriptorIndex := 26, attributes := #[] }, { accessFlags := 26, nameIndex := 1116, descriptorIndex := 1117, attributes := #[] }, { accessFlags := 24, nameIndex := 40, descriptorIndex := 26, attributes := #[] }, { accessFlags := 26, nameIndex := 1101, descriptorIndex := 1102, attributes := #[] }, { accessFlags := 26, nameIndex := 1121, descriptorIndex := 1122, attributes := #[] }, { accessFlags := 25, nameIndex := 599, descriptorIndex := 600, attributes := #[] }, { accessFlags := 24, nameIndex := 1125, descriptorIndex := 18, attributes := #[] }, { accessFlags := 24, nameIndex := 1127, descriptorIndex := 18, attributes := #[] }])
  fields := #[{ name := "value", type := (.array .byte), accessFlags := 18, slot := 0, constantValue := 0 }, { name := "coder", type := .byte, accessFlags := 18, slot := 1, constantValue := 0 }, { name := "hash", type := .int, accessFlags := 2, slot := 2, constantValue := 0 }, { name := "hashIsZero", type := .boolean, accessFlags := 2, slot := 3, constantValue := 0 }, { name := "serialVersionUID", type := .long, accessFlags := 26, slot := 0, constantValue := 0 }, { name := "COMPACT_STRINGS", type := .boolean, accessFlags := 24, slot := 1, constantValue := 0 }, { name := "serialPersistentFields", type := (.array (.object "java/io/ObjectStreamField")), accessFlags := 26, slot := 2, constantValue := 0 }, { name := "REPL", type := .char, accessFlags := 26, slot := 3, constantValue := 0 }, { name := "CASE_INSENSITIVE_ORDER", type := (.object "java/util/Comparator"), accessFlags := 25, slot := 4, constantValue := 0 }, { name := "LATIN1", type := .byte, accessFlags := 24, slot := 5, constantValue := 0 }, { name := "UTF16", type := .byte, accessFlags := 24, slot := 6, constantValue := 0 }]
  methods := #[k7m0, k7m1, k7m2, k7m3, k7m4, k7m5, k7m6, k7m7, k7m8, k7m9, k7m10, k7m11]
  instanceTypes := #[(.array .byte), .byte, .int, .boolean]
  staticTypes := #[.long, .boolean, (.array (.object "java/io/ObjectStreamField")), .char, (.object "java/util/Comparator"), .byte, .byte]
  resolved := Array.replicate 1451 none
  statics := some 0 }

def pool8 : Array CpInfo := pool [(3, .class_ 4), (0, u "java/lang/String"), (1, .class_ 8), (1, u "java/lang/Object"), (0, u "<init>"), (0, u "()V"), (0, .methodref 12 13), (0, .class_ 14), (0, .nameAndType 15 16), (0, u "java/lang/StringUTF16"), (0, u "newBytesLength"), (0, u "(I)I"), (3, .integer 1073741823), (23, .fieldref 12 45), (0, .nameAndType 46 47), (0, u "$assertionsDisabled"), (0, u "Z"), (0, .methodref 12 49), (0, .nameAndType 50 51), (0, u "length"), (0, u "([B)I"), (7, .fieldref 12 60), (0, .nameAndType 61 62), (0, u "HI_BYTE_SHIFT"), (0, u "I"), (0, .fieldref 12 64), (0, .nameAndType 65 62), (0, u "LO_BYTE_SHIFT"), (1, .methodref 12 68), (0, .nameAndType 69 70), (0, u "checkIndex"), (0, u "(I[B)V"), (0, .methodref 12 72), (0, .nameAndType 73 74), (0, u "getChar"), (0, u "([BI)C"), (24, u "(II[B)V"), (7, .methodref 12 108), (0, .nameAndType 109 110), (0, u "newBytesFor"), (0, u "(I)[B"), (0, .methodref 12 112), (0, .nameAndType 113 114), (0, u "putChar"), (0, u "([BII)V"), (0, .methodref 12 116), (0, .nameAndType 117 118), (0, u "compress"), (0, u "([CI[BII)I"), (0, .methodref 12 120), (0, .nameAndType 121 122), (0, u "toBytes"), (0, u "([CII)[B"), (0, .methodref 12 124), (0, .nameAndType 117 125), (0, u "([BI[BII)I"), (0, .methodref 127 128), (0, .class_ 129), (0, .nameAndType 130 131), (0, u "java/util/Arrays"), (0, u "copyOfRange"), (0, u "([BII)[B"), (41, .methodref 12 174), (0, .nameAndType 175 99), (0, u "checkBoundsOffCount"), (85, u "coderFromArrayLen"), (0, u "([BI)B"), (18, u "(III)I"), (87, .class_ 371), (1, u "java/lang/StringUTF16$LinesSpliterator"), (20, u "charAt"), (21, .methodref 3 415), (0, .nameAndType 69 416), (0, u "(II)V"), (2, .methodref 3 420), (0, .nameAndType 175 281), (9, u "MAX_LENGTH"), (155, u "putCharSB"), (40, .class_ 628), (0, u "java/lang/StringUTF16$CodePointsSpliterator"), (0, .class_ 630), (0, u "java/lang/StringUTF16$CharsSpliterator")] 4

def k8m0 : Method := { name := "<init>", desc := "()V", sig := { parameters := [], returnType := none }, accessFlags := 0, code := none }
def k8c1 : Code := { maxStack := 1, maxLocals := 1, code := jdk_52_method_2_code, exceptionTable := #[], attributes := #[] }
def k8m1 : Method := { name := "newBytesFor", desc := "(I)[B", sig := { parameters := [.int], returnType := some (.array .byte) }, accessFlags := 9, code := some k8c1 }
def k8c2 : Code := { maxStack := 4, maxLocals := 1, code := jdk_52_method_3_code, exceptionTable := #[], attributes := #[] }
def k8m2 : Method := { name := "newBytesLength", desc := "(I)I", sig := { parameters := [.int], returnType := some .int }, accessFlags := 9, code := some k8c2 }
def k8c3 : Code := { maxStack := 4, maxLocals := 3, code := jdk_52_method_4_code, exceptionTable := #[], attributes := #[] }
def k8m3 : Method := { name := "putChar", desc := "([BII)V", sig := { parameters := [(.array .byte), .int, .int], returnType := none }, accessFlags := 8, code := some k8c3 }
def k8c4 : Code := { maxStack := 3, maxLocals := 2, code := jdk_52_method_5_code, exceptionTable := #[], attributes := #[] }
def k8m4 : Method := { name := "getChar", desc := "([BI)C", sig := { parameters := [(.array .byte), .int], returnType := some .char }, accessFlags := 8, code := some k8c4 }
def k8c5 : Code := { maxStack := 2, maxLocals := 1, code := jdk_52_method_6_code, exceptionTable := #[], attributes := #[] }
def k8m5 : Method := { name := "length", desc := "([B)I", sig := { parameters := [(.array .byte)], returnType := some .int }, accessFlags := 9, code := some k8c5 }
def k8c6 : Code := { maxStack := 4, maxLocals := 5, code := jdk_52_method_14_code, exceptionTable := #[], attributes := #[] }
def k8m6 : Method := { name := "toBytes", desc := "([CII)[B", sig := { parameters := [(.array .char), .int, .int], returnType := some (.array .byte) }, accessFlags := 9, code := some k8c6 }
def k8c7 : Code := { maxStack := 2, maxLocals := 2, code := jdk_52_method_15_code, exceptionTable := #[], attributes := #[] }
def k8m7 : Method := { name := "coderFromArrayLen", desc := "([BI)B", sig := { parameters := [(.array .byte), .int], returnType := some .byte }, accessFlags := 8, code := some k8c7 }
def k8c8 : Code := { maxStack := 5, maxLocals := 6, code := jdk_52_method_16_code, exceptionTable := #[], attributes := #[] }
def k8m8 : Method := { name := "compress", desc := "([CII)[B", sig := { parameters := [(.array .char), .int, .int], returnType := some (.array .byte) }, accessFlags := 9, code := some k8c8 }
def k8c9 : Code := { maxStack := 5, maxLocals := 6, code := jdk_52_method_17_code, exceptionTable := #[], attributes := #[] }
def k8m9 : Method := { name := "compress", desc := "([BII)[B", sig := { parameters := [(.array .byte), .int, .int], returnType := some (.array .byte) }, accessFlags := 9, code := some k8c9 }
def k8c10 : Code := { maxStack := 3, maxLocals := 7, code := jdk_52_method_21_code, exceptionTable := #[], attributes := #[] }
def k8m10 : Method := { name := "compress", desc := "([CI[BII)I", sig := { parameters := [(.array .char), .int, (.array .byte), .int, .int], returnType := some .int }, accessFlags := 9, code := some k8c10 }
def k8c11 : Code := { maxStack := 3, maxLocals := 7, code := jdk_52_method_22_code, exceptionTable := #[], attributes := #[] }
def k8m11 : Method := { name := "compress", desc := "([BI[BII)I", sig := { parameters := [(.array .byte), .int, (.array .byte), .int, .int], returnType := some .int }, accessFlags := 9, code := some k8c11 }
def k8c12 : Code := { maxStack := 3, maxLocals := 3, code := jdk_52_method_71_code, exceptionTable := #[], attributes := #[] }
def k8m12 : Method := { name := "putCharSB", desc := "([BII)V", sig := { parameters := [(.array .byte), .int, .int], returnType := none }, accessFlags := 9, code := some k8c12 }
def k8c13 : Code := { maxStack := 2, maxLocals := 2, code := jdk_52_method_83_code, exceptionTable := #[], attributes := #[] }
def k8m13 : Method := { name := "charAt", desc := "([BI)C", sig := { parameters := [(.array .byte), .int], returnType := some .char }, accessFlags := 9, code := some k8c13 }
def k8c14 : Code := { maxStack := 2, maxLocals := 2, code := jdk_52_method_91_code, exceptionTable := #[], attributes := #[] }
def k8m14 : Method := { name := "checkIndex", desc := "(I[B)V", sig := { parameters := [.int, (.array .byte)], returnType := none }, accessFlags := 9, code := some k8c14 }
def k8c15 : Code := { maxStack := 3, maxLocals := 3, code := jdk_52_method_94_code, exceptionTable := #[], attributes := #[] }
def k8m15 : Method := { name := "checkBoundsOffCount", desc := "(II[B)V", sig := { parameters := [.int, .int, (.array .byte)], returnType := none }, accessFlags := 9, code := some k8c15 }
/-- java/lang/StringUTF16 -/
def k8 : Class := { plain "java/lang/StringUTF16" (some 0) with
  accessFlags := 48
  interfaces := #[]
  cf := some (fileOf pool8 12 #[.nestMembers #[627, 629, 369]] #[{ accessFlags := 0, nameIndex := 9, descriptorIndex := 10, attributes := #[] }, { accessFlags := 9, nameIndex := 109, descriptorIndex := 110, attributes := #[] }, { accessFlags := 9, nameIndex := 15, descriptorIndex := 16, attributes := #[] }, { accessFlags := 8, nameIndex := 113, descriptorIndex := 114, attributes := #[] }, { accessFlags := 8, nameIndex := 73, descriptorIndex := 74, attributes := #[] }, { accessFlags := 9, nameIndex := 50, descriptorIndex := 51, attributes := #[] }, { accessFlags := 9, nameIndex := 121, descriptorIndex := 122, attributes := #[] }, { accessFlags := 8, nameIndex := 261, descriptorIndex := 262, attributes := #[] }, { accessFlags := 9, nameIndex := 117, descriptorIndex := 122, attributes := #[] }, { accessFlags := 9, nameIndex := 117, descriptorIndex := 131, attributes := #[] }, { accessFlags := 9, nameIndex := 117, descriptorIndex := 118, attributes := #[] }, { accessFlags := 9, nameIndex := 117, descriptorIndex := 125, attributes := #[] }, { accessFlags := 9, nameIndex := 586, descriptorIndex := 114, attributes := #[] }, { accessFlags := 9, nameIndex := 392, descriptorIndex := 74, attributes := #[] }, { accessFlags := 9, nameIndex := 69, descriptorIndex := 70, attributes := #[] }, { accessFlags := 9, nameIndex := 175, descriptorIndex := 99, attributes := #[] }] 48 6 #[] #[{ accessFlags := 26, nameIndex := 61, descriptorIndex := 62, attributes := #[] }, { accessFlags := 26, nameIndex := 65, descriptorIndex := 62, attributes := #[] }, { accessFlags := 24, nameIndex := 430, descriptorIndex := 62, attributes := #[] }, { accessFlags := 4120, nameIndex := 46, descriptorIndex := 47, attributes := #[] }])
  fields := #[{ name := "HI_BYTE_SHIFT", type := .int, accessFlags := 26, slot := 0, constantValue := 0 }, { name := "LO_BYTE_SHIFT", type := .int, accessFlags := 26, slot := 1, constantValue := 0 }, { name := "MAX_LENGTH", type := .int, accessFlags := 24, slot := 2, constantValue := 0 }, { name := "$assertionsDisabled", type := .boolean, accessFlags := 4120, slot := 3, constantValue := 0 }]
  methods := #[k8m0, k8m1, k8m2, k8m3, k8m4, k8m5, k8m6, k8m7, k8m8, k8m9, k8m10, k8m11, k8m12, k8m13, k8m14, k8m15]
  instanceTypes := #[]
  staticTypes := #[.int, .int, .int, .boolean]
  resolved := Array.replicate 635 none
  statics := some 1 }

def pool9 : Array CpInfo := pool [(8, u "()Ljava/lang/String;"), (3, u "(Ljava/lang/String;)Ljava/lang/String;"), (4, .class_ 19), (1, u "java/lang/String"), (3, .class_ 25), (1, u "com/example/kazalo/kazalo/Failures"), (0, u "oneLine"), (8, .class_ 36), (0, u "java/lang/Object"), (9, .methodref 23 47), (0, .nameAndType 48 49), (0, u "holdsControl"), (0, u "(Ljava/lang/String;)Z"), (0, .class_ 51), (0, u "java/lang/StringBuilder"), (0, .methodref 50 53), (0, .nameAndType 54 55), (0, u "<init>"), (0, u "(Ljava/lang/String;)V"), (0, .methodref 50 57), (0, .nameAndType 58 59), (0, u "length"), (0, u "()I"), (0, .methodref 50 61), (0, .nameAndType 62 63), (0, u "charAt"), (0, u "(I)C"), (0, .methodref 65 66), (0, .class_ 67), (0, .nameAndType 68 69), (0, u "java/lang/Character"), (0, u "isISOControl"), (0, u "(C)Z"), (0, .methodref 50 71), (0, .nameAndType 72 73), (0, u "setCharAt"), (0, u "(IC)V"), (0, .methodref 50 75), (0, .nameAndType 76 8), (0, u "toString"), (0, .methodref 17 57), (0, .methodref 17 61), (2, u "()V")] 26

def k9c0 : Code := { maxStack := 3, maxLocals := 4, code := prog_2_method_3_code, exceptionTable := #[], attributes := #[] }
def k9m0 : Method := { name := "oneLine", desc := "(Ljava/lang/String;)Ljava/lang/String;", sig := { parameters := [(.object "java/lang/String")], returnType := some (.object "java/lang/String") }, accessFlags := 9, code := some k9c0 }
def k9c1 : Code := { maxStack := 2, maxLocals := 3, code := prog_2_method_4_code, exceptionTable := #[], attributes := #[] }
def k9m1 : Method := { name := "holdsControl", desc := "(Ljava/lang/String;)Z", sig := { parameters := [(.object "java/lang/String")], returnType := some .boolean }, accessFlags := 8, code := some k9c1 }
def k9m2 : Method := { name := "<init>", desc := "()V", sig := { parameters := [], returnType := none }, accessFlags := 2, code := none }
/-- com/example/kazalo/kazalo/Failures -/
def k9 : Class := { plain "com/example/kazalo/kazalo/Failures" (some 0) with
  accessFlags := 33
  interfaces := #[]
  cf := some (fileOf pool9 23 #[] #[{ accessFlags := 9, nameIndex := 26, descriptorIndex := 12, attributes := #[] }, { accessFlags := 8, nameIndex := 48, descriptorIndex := 49, attributes := #[] }, { accessFlags := 2, nameIndex := 54, descriptorIndex := 81, attributes := #[] }] 33 35 #[] #[])
  fields := #[]
  methods := #[k9m0, k9m1, k9m2]
  instanceTypes := #[]
  staticTypes := #[]
  resolved := Array.replicate 108 none
  statics := none }

def pool10 : Array CpInfo := pool [(1, .class_ 2), (0, u "java/lang/String"), (1, .class_ 6), (1, u "java/lang/Object"), (0, u "<init>"), (0, u "()V"), (0, .methodref 1 10), (0, .nameAndType 11 12), (0, u "checkIndex"), (0, u "(II)V"), (1, .class_ 16), (1, u "java/lang/StringLatin1"), (36, u "([BI)C"), (36, u "canEncode"), (14, u "(C)Z"), (15, u "$assertionsDisabled"), (0, u "Z"), (98, .class_ 223), (1, u "java/lang/StringLatin1$LinesSpliterator"), (28, u "charAt"), (137, .class_ 391), (0, u "java/lang/StringLatin1$CharsSpliterator")] 3

def k10m0 : Method := { name := "<init>", desc := "()V", sig := { parameters := [], returnType := none }, accessFlags := 0, code := none }
def k10c1 : Code := { maxStack := 2, maxLocals := 2, code := jdk_43_method_2_code, exceptionTable := #[], attributes := #[] }
def k10m1 : Method := { name := "charAt", desc := "([BI)C", sig := { parameters := [(.array .byte), .int], returnType := some .char }, accessFlags := 9, code := some k10c1 }
def k10c2 : Code := { maxStack := 2, maxLocals := 1, code := jdk_43_method_3_code, exceptionTable := #[], attributes := #[] }
def k10m2 : Method := { name := "canEncode", desc := "(C)Z", sig := { parameters := [.char], returnType := some .boolean }, accessFlags := 9, code := some k10c2 }
/-- java/lang/StringLatin1 -/
def k10 : Class := { plain "java/lang/StringLatin1" (some 0) with
  accessFlags := 48
  interfaces := #[]
  cf := some (fileOf pool10 14 #[.nestMembers #[390, 221]] #[{ accessFlags := 0, nameIndex := 7, descriptorIndex := 8, attributes := #[] }, { accessFlags := 9, nameIndex := 252, descriptorIndex := 53, attributes := #[] }, { accessFlags := 9, nameIndex := 90, descriptorIndex := 105, attributes := #[] }] 48 4 #[] #[{ accessFlags := 4120, nameIndex := 121, descriptorIndex := 122, attributes := #[] }])
  fields := #[{ name := "$assertionsDisabled", type := .boolean, accessFlags := 4120, slot := 0, constantValue := 0 }]
  methods := #[k10m0, k10m1, k10m2]
  instanceTypes := #[]
  staticTypes := #[.boolean]
  resolved := Array.replicate 395 none
  statics := none }

def pool11 : Array CpInfo := pool [(2, .class_ 4), (1, u "java/lang/Object"), (0, u "<init>"), (0, u "()V"), (17, .class_ 26), (1, u "jdk/internal/util/Preconditions"), (6, u "checkIndex"), (15, u "checkFromIndexSize"), (5, .class_ 56), (0, u "jdk/internal/util/Preconditions$4"), (57, .class_ 115), (0, u "jdk/internal/util/Preconditions$1"), (7, u "SIOOBE_FORMATTER"), (0, u "Ljava/util/function/BiFunction;"), (0, .class_ 126), (0, u "jdk/internal/util/Preconditions$2"), (3, u "AIOOBE_FORMATTER"), (0, .class_ 132), (0, u "jdk/internal/util/Preconditions$3"), (3, u "IOOBE_FORMATTER"), (41, u "(IILjava/util/function/BiFunction;)I"), (4, u "(IIILjava/util/function/BiFunction;)I")] 10

def k11m0 : Method := { name := "<init>", desc := "()V", sig := { parameters := [], returnType := none }, accessFlags := 1, code := none }
def k11c1 : Code := { maxStack := 3, maxLocals := 3, code := jdk_41_method_11_code, exceptionTable := #[], attributes := #[] }
def k11m1 : Method := { name := "checkIndex", desc := "(IILjava/util/function/BiFunction;)I", sig := { parameters := [.int, .int, (.object "java/util/function/BiFunction")], returnType := some .int }, accessFlags := 9, code := some k11c1 }
def k11c2 : Code := { maxStack := 4, maxLocals := 4, code := jdk_41_method_13_code, exceptionTable := #[], attributes := #[] }
def k11m2 : Method := { name := "checkFromIndexSize", desc := "(IIILjava/util/function/BiFunction;)I", sig := { parameters := [.int, .int, .int, (.object "java/util/function/BiFunction")], returnType := some .int }, accessFlags := 9, code := some k11c2 }
/-- jdk/internal/util/Preconditions -/
def k11 : Class := { plain "jdk/internal/util/Preconditions" (some 0) with
  accessFlags := 33
  interfaces := #[]
  cf := some (fileOf pool11 24 #[.nestMembers #[55, 131, 125, 114]] #[{ accessFlags := 1, nameIndex := 5, descriptorIndex := 6, attributes := #[] }, { accessFlags := 9, nameIndex := 33, descriptorIndex := 178, attributes := #[] }, { accessFlags := 9, nameIndex := 49, descriptorIndex := 183, attributes := #[] }] 33 2 #[] #[{ accessFlags := 25, nameIndex := 123, descriptorIndex := 124, attributes := #[] }, { accessFlags := 25, nameIndex := 130, descriptorIndex := 124, attributes := #[] }, { accessFlags := 25, nameIndex := 136, descriptorIndex := 124, attributes := #[] }])
  fields := #[{ name := "SIOOBE_FORMATTER", type := (.object "java/util/function/BiFunction"), accessFlags := 25, slot := 0, constantValue := 0 }, { name := "AIOOBE_FORMATTER", type := (.object "java/util/function/BiFunction"), accessFlags := 25, slot := 1, constantValue := 0 }, { name := "IOOBE_FORMATTER", type := (.object "java/util/function/BiFunction"), accessFlags := 25, slot := 2, constantValue := 0 }]
  methods := #[k11m0, k11m1, k11m2]
  instanceTypes := #[]
  staticTypes := #[(.object "java/util/function/BiFunction"), (.object "java/util/function/BiFunction"), (.object "java/util/function/BiFunction")]
  resolved := Array.replicate 194 none
  statics := some 2 }

def pool12 : Array CpInfo := pool [(1, .class_ 2), (0, u "java/lang/Character"), (18, u "value"), (0, u "C"), (19, .class_ 44), (1, u "java/lang/Object"), (3, .class_ 50), (1, u "java/lang/Character$CharacterCache"), (30, u "(C)Z"), (32, u "(I)Z"), (151, .methodref 1 267), (0, .nameAndType 268 114), (0, u "isISOControl"), (15, u "$assertionsDisabled"), (0, u "Z"), (21, .class_ 309), (1, u "java/lang/Character$UnicodeBlock"), (73, u "TYPE"), (0, u "Ljava/lang/Class;"), (0, .class_ 386), (0, u "java/io/Serializable"), (0, .class_ 388), (0, u "java/lang/Comparable"), (0, .class_ 390), (0, u "java/lang/constant/Constable"), (0, u "MIN_RADIX"), (0, u "I"), (2, u "MAX_RADIX"), (1, u "MIN_VALUE"), (1, u "MAX_VALUE"), (3, u "UNASSIGNED"), (0, u "B"), (0, u "UPPERCASE_LETTER"), (1, u "LOWERCASE_LETTER"), (0, u "TITLECASE_LETTER"), (1, u "MODIFIER_LETTER"), (1, u "OTHER_LETTER"), (1, u "NON_SPACING_MARK"), (1, u "ENCLOSING_MARK"), (1, u "COMBINING_SPACING_MARK"), (1, u "DECIMAL_DIGIT_NUMBER"), (1, u "LETTER_NUMBER"), (1, u "OTHER_NUMBER"), (1, u "SPACE_SEPARATOR"), (1, u "LINE_SEPARATOR"), (1, u "PARAGRAPH_SEPARATOR"), (1, u "CONTROL"), (1, u "FORMAT"), (1, u "PRIVATE_USE"), (1, u "SURROGATE"), (1, u "DASH_PUNCTUATION"), (1, u "START_PUNCTUATION"), (1, u "END_PUNCTUATION"), (1, u "CONNECTOR_PUNCTUATION"), (1, u "OTHER_PUNCTUATION"), (1, u "MATH_SYMBOL"), (1, u "CURRENCY_SYMBOL"), (1, u "MODIFIER_SYMBOL"), (1, u "OTHER_SYMBOL"), (1, u "INITIAL_QUOTE_PUNCTUATION"), (1, u "FINAL_QUOTE_PUNCTUATION"), (1, u "ERROR"), (1, u "DIRECTIONALITY_UNDEFINED"), (0, u "DIRECTIONALITY_LEFT_TO_RIGHT"), (0, u "DIRECTIONALITY_RIGHT_TO_LEFT"), (0, u "DIRECTIONALITY_RIGHT_TO_LEFT_ARABIC"), (0, u "DIRECTIONALITY_EUROPEAN_NUMBER"), (0, u "DIRECTIONALITY_EUROPEAN_NUMBER_SEPARATOR"), (0, u "DIRECTIONALITY_EUROPEAN_NUMBER_TERMINATOR"), (0, u "DIRECTIONALITY_ARABIC_NUMBER"), (0, u "DIRECTIONALITY_COMMON_NUMBER_SEPARATOR"), (0, u "DIRECTIONALITY_NONSPACING_MARK"), (0, u "DIRECTIONALITY_BOUNDARY_NEUTRAL"), (0, u "DIRECTIONALITY_PARAGRAPH_SEPARATOR"), (0, u "DIRECTIONALITY_SEGMENT_SEPARATOR"), (0, u "DIRECTIONALITY_WHITESPACE"), (0, u "DIRECTIONALITY_OTHER_NEUTRALS"), (0, u "DIRECTIONALITY_LEFT_TO_RIGHT_EMBEDDING"), (0, u "DIRECTIONALITY_LEFT_TO_RIGHT_OVERRIDE"), (0, u "DIRECTIONALITY_RIGHT_TO_LEFT_EMBEDDING"), (0, u "DIRECTIONALITY_RIGHT_TO_LEFT_OVERRIDE"), (1, u "DIRECTIONALITY_POP_DIRECTIONAL_FORMAT"), (0, u "DIRECTIONALITY_LEFT_TO_RIGHT_ISOLATE"), (0, u "DIRECTIONALITY_RIGHT_TO_LEFT_ISOLATE"), (0, u "DIRECTIONALITY_FIRST_STRONG_ISOLATE"), (0, u "DIRECTIONALITY_POP_DIRECTIONAL_ISOLATE"), (0, u "MIN_HIGH_SURROGATE"), (0, u "MAX_HIGH_SURROGATE"), (1, u "MIN_LOW_SURROGATE"), (0, u "MAX_LOW_SURROGATE"), (1, u "MIN_SURROGATE"), (0, u "MAX_SURROGATE"), (0, u "MIN_SUPPLEMENTARY_CODE_POINT"), (0, u "MIN_CODE_POINT"), (0, u "MAX_CODE_POINT"), (1, u "serialVersionUID"), (0, u "J"), (2, u "SIZE"), (0, u "BYTES"), (88, .class_ 596), (0, u "java/lang/Character$UnicodeScript"), (0, .class_ 598), (0, u "java/lang/Character$Subset")] 5

def k12c0 : Code := { maxStack := 1, maxLocals := 1, code := jdk_89_method_88_code, exceptionTable := #[], attributes := #[] }
def k12m0 : Method := { name := "isISOControl", desc := "(C)Z", sig := { parameters := [.char], returnType := some .boolean }, accessFlags := 9, code := some k12c0 }
def k12c1 : Code := { maxStack := 2, maxLocals := 1, code := jdk_89_method_89_code, exceptionTable := #[], attributes := #[] }
def k12m1 : Method := { name := "isISOControl", desc := "(I)Z", sig := { parameters := [.int], returnType := some .boolean }, accessFlags := 9, code := some k12c1 }
/-- java/lang/Character -/
def k12 : Class := { plain "java/lang/Character" (some 0) with
  accessFlags := 49
  interfaces := #[2, 3, 5]
  cf := some (fileOf pool12 1 #[.nestMembers #[48, 595, 307, 597]] #[{ accessFlags := 9, nameIndex := 268, descriptorIndex := 81, attributes := #[] }, { accessFlags := 9, nameIndex := 268, descriptorIndex := 114, attributes := #[] }] 49 42 #[385, 387, 389] #[{ accessFlags := 25, nameIndex := 391, descriptorIndex := 392, attributes := #[] }, { accessFlags := 25, nameIndex := 395, descriptorIndex := 392, attributes := #[] }, { accessFlags := 25, nameIndex := 397, descriptorIndex := 22, attributes := #[] }, { accessFlags := 25, nameIndex := 399, descriptorIndex := 22, attributes := #[] }, { accessFlags := 25, nameIndex := 383, descriptorIndex := 384, attributes := #[] }, { accessFlags := 25, nameIndex := 403, descriptorIndex := 404, attributes := #[] }, { accessFlags := 25, nameIndex := 405, descriptorIndex := 404, attributes := #[] }, { accessFlags := 25, nameIndex := 407, descriptorIndex := 404, attributes := #[] }, { accessFlags := 25, nameIndex := 408, descriptorIndex := 404, attributes := #[] }, { accessFlags := 25, nameIndex := 410, descriptorIndex := 404, attributes := #[] }, { accessFlags := 25, nameIndex := 412, descriptorIndex := 404, attributes := #[] }, { accessFlags := 25, nameIndex := 414, descriptorIndex := 404, attributes := #[] }, { accessFlags := 25, nameIndex := 416, descriptorIndex := 404, attributes := #[] }, { accessFlags := 25, nameIndex := 418, descriptorIndex := 404, attributes := #[] }, { accessFlags := 25, nameIndex := 420, descriptorIndex := 404, attributes := #[] }, { accessFlags := 25, nameIndex := 422, descriptorIndex := 404, attributes := #[] }, { accessFlags := 25, nameIndex := 424, descriptorIndex := 404, attributes := #[] }, { accessFlags := 25, nameIndex := 426, descriptorIndex := 404, attributes := #[] }, { accessFlags := 25, nameIndex := 428, descriptorIndex := 404, attributes := #[] }, { accessFlags := 25, nameIndex := 430, descriptorIndex := 404, attributes := #[] }, { accessFlags := 25, nameIndex := 432, descriptorIndex := 404, attributes := #[] }, { accessFlags := 25, nameIndex := 434, descriptorIndex := 404, attributes := #[] }, { accessFlags := 25, nameIndex := 436, descriptorIndex := 404, attributes := #[] }, { accessFlags := 25, nameIndex := 438, descriptorIndex := 404, attributes := #[] }, { accessFlags := 25, nameIndex := 440, descriptorIndex := 404, attributes := #[] }, { accessFlags := 25, nameIndex := 442, descriptorIndex := 404, attributes := #[] }, { accessFlags := 25, nameIndex := 444, descriptorIndex := 404, attributes := #[] }, { accessFlags := 25, nameIndex := 446, descriptorIndex := 404, attributes := #[] }, { accessFlags := 25, nameIndex := 448, descriptorIndex := 404, attributes := #[] }, { accessFlags := 25, nameIndex := 450, descriptorIndex := 404, attributes := #[] }, { accessFlags := 25, nameIndex := 452, descriptorIndex := 404, attributes := #[] }, { accessFlags := 25, nameIndex := 454, descriptorIndex := 404, attributes := #[] }, { accessFlags := 25, nameIndex := 456, descriptorIndex := 404, attributes := #[] }, { accessFlags := 25, nameIndex := 458, descriptorIndex := 404, attributes := #[] }, { accessFlags := 25, nameIndex := 460, descriptorIndex := 404, attributes := #[] }, { accessFlags := 24, nameIndex := 462, descriptorIndex := 392, attributes := #[] }, { accessFlags := 25, nameIndex := 464, descriptorIndex := 404, attributes := #[] }, { accessFlags := 25, nameIndex := 465, descriptorIndex := 404, attributes := #[] }, { accessFlags := 25, nameIndex := 466, descriptorIndex := 404, attributes := #[] }, { accessFlags := 25, nameIndex := 467, descriptorIndex := 404, attributes := #[] }, { accessFlags := 25, nameIndex := 468, descriptorIndex := 404, attributes := #[] }, { accessFlags := 25, nameIndex := 469, descriptorIndex := 404, attributes := #[] }, { accessFlags := 25, nameIndex := 470, descriptorIndex := 404, attributes := #[] }, { accessFlags := 25, nameIndex := 471, descriptorIndex := 404, attributes := #[] }, { accessFlags := 25, nameIndex := 472, descriptorIndex := 404, attributes := #[] }, { accessFlags := 25, nameIndex := 473, descriptorIndex := 404, attributes := #[] }, { accessFlags := 25, nameIndex := 474, descriptorIndex := 404, attributes := #[] }, { accessFlags := 25, nameIndex := 475, descriptorIndex := 404, attributes := #[] }, { accessFlags := 25, nameIndex := 476, descriptorIndex := 404, attributes := #[] }, { accessFlags := 25, nameIndex := 477, descriptorIndex := 404, attributes := #[] }, { accessFlags := 25, nameIndex := 478, descriptorIndex := 404, attributes := #[] }, { accessFlags := 25, nameIndex := 479, descriptorIndex := 404, attributes := #[] }, { accessFlags := 25, nameIndex := 480, descriptorIndex := 404, attributes := #[] }, { accessFlags := 25, nameIndex := 481, descriptorIndex := 404, attributes := #[] }, { accessFlags := 25, nameIndex := 482, descriptorIndex := 404, attributes := #[] }, { accessFlags := 25, nameIndex := 484, descriptorIndex := 404, attributes := #[] }, { accessFlags := 25, nameIndex := 485, descriptorIndex := 404, attributes := #[] }, { accessFlags := 25, nameIndex := 486, descriptorIndex := 404, attributes := #[] }, { accessFlags := 25, nameIndex := 487, descriptorIndex := 404, attributes := #[] }, { accessFlags := 25, nameIndex := 488, descriptorIndex := 404, attributes := #[] }, { accessFlags := 25, nameIndex := 489, descriptorIndex := 22, attributes := #[] }, { accessFlags := 25, nameIndex := 490, descriptorIndex := 22, attributes := #[] }, { accessFlags := 25, nameIndex := 492, descriptorIndex := 22, attributes := #[] }, { accessFlags := 25, nameIndex := 493, descriptorIndex := 22, attributes := #[] }, { accessFlags := 25, nameIndex := 495, descriptorIndex := 22, attributes := #[] }, { accessFlags := 25, nameIndex := 496, descriptorIndex := 22, attributes := #[] }, { accessFlags := 25, nameIndex := 497, descriptorIndex := 392, attributes := #[] }, { accessFlags := 25, nameIndex := 498, descriptorIndex := 392, attributes := #[] }, { accessFlags := 25, nameIndex := 499, descriptorIndex := 392, attributes := #[] }, { accessFlags := 18, nameIndex := 21, descriptorIndex := 22, attributes := #[] }, { accessFlags := 26, nameIndex := 501, descriptorIndex := 502, attributes := #[] }, { accessFlags := 25, nameIndex := 505, descriptorIndex := 392, attributes := #[] }, { accessFlags := 25, nameIndex := 506, descriptorIndex := 392, attributes := #[] }, { accessFlags := 4120, nameIndex := 284, descriptorIndex := 285, attributes := #[] }])
  fields := #[{ name := "MIN_RADIX", type := .int, accessFlags := 25, slot := 0, constantValue := 0 }, { name := "MAX_RADIX", type := .int, accessFlags := 25, slot := 1, constantValue := 0 }, { name := "MIN_VALUE", type := .char, accessFlags := 25, slot := 2, constantValue := 0 }, { name := "MAX_VALUE", type := .char, accessFlags := 25, slot := 3, constantValue := 0 }, { name := "TYPE", type := (.object "java/lang/Class"), accessFlags := 25, slot := 4, constantValue := 0 }, { name := "UNASSIGNED", type := .byte, accessFlags := 25, slot := 5, constantValue := 0 }, { name := "UPPERCASE_LETTER", type := .byte, accessFlags := 25, slot := 6, constantValue := 0 }, { name := "LOWERCASE_LETTER", type := .byte, accessFlags := 25, slot := 7, constantValue := 0 }, { name := "TITLECASE_LETTER", type := .byte, accessFlags := 25, slot := 8, constantValue := 0 }, { name := "MODIFIER_LETTER", type := .byte, accessFlags := 25, slot := 9, constantValue := 0 }, { name := "OTHER_LETTER", type := .byte, accessFlags := 25, slot := 10, constantValue := 0 }, { name := "NON_SPACING_MARK", type := .byte, accessFlags := 25, slot := 11, constantValue := 0 }, { name := "ENCLOSING_MARK", type := .byte, accessFlags := 25, slot := 12, constantValue := 0 }, { name := "COMBINING_SPACING_MARK", type := .byte, accessFlags := 25, slot := 13, constantValue := 0 }, { name := "DECIMAL_DIGIT_NUMBER", type := .byte, accessFlags := 25, slot := 14, constantValue := 0 }, { name := "LETTER_NUMBER", type := .byte, accessFlags := 25, slot := 15, constantValue := 0 }, { name := "OTHER_NUMBER", type := .byte, accessFlags := 25, slot := 16, constantValue := 0 }, { name := "SPACE_SEPARATOR", type := .byte, accessFlags := 25, slot := 17, constantValue := 0 }, { name := "LINE_SEPARATOR", type := .byte, accessFlags := 25, slot := 18, constantValue := 0 }, { name := "PARAGRAPH_SEPARATOR", type := .byte, accessFlags := 25, slot := 19, constantValue := 0 }, { name := "CONTROL", type := .byte, accessFlags := 25, slot := 20, constantValue := 0 }, { name := "FORMAT", type := .byte, accessFlags := 25, slot := 21, constantValue := 0 }, { name := "PRIVATE_USE", type := .byte, accessFlags := 25, slot := 22, constantValue := 0 }, { name := "SURROGATE", type := .byte, accessFlags := 25, slot := 23, constantValue := 0 }, { name := "DASH_PUNCTUATION", type := .byte, accessFlags := 25, slot := 24, constantValue := 0 }, { name := "START_PUNCTUATION", type := .byte, accessFlags := 25, slot := 25, constantValue := 0 }, { name := "END_PUNCTUATION", type := .byte, accessFlags := 25, slot := 26, constantValue := 0 }, { name := "CONNECTOR_PUNCTUATION", type := .byte, accessFlags := 25, slot := 27, constantValue := 0 }, { name := "OTHER_PUNCTUATION", type := .byte, accessFlags := 25, slot := 28, constantValue := 0 }, { name := "MATH_SYMBOL", type := .byte, accessFlags := 25, slot := 29, constantValue := 0 }, { name := "CURRENCY_SYMBOL", type := .byte, accessFlags := 25, slot := 30, constantValue := 0 }, { name := "MODIFIER_SYMBOL", type := .byte, accessFlags := 25, slot := 31, constantValue := 0 }, { name := "OTHER_SYMBOL", type := .byte, accessFlags := 25, slot := 32, constantValue := 0 }, { name := "INITIAL_QUOTE_PUNCTUATION", type := .byte, accessFlags := 25, slot := 33, constantValue := 0 }, { name := "FINAL_QUOTE_PUNCTUATION", type := .byte, accessFlags := 25, slot := 34, constantValue := 0 }, { name := "ERROR", type := .int, accessFlags := 24, slot := 35, constantValue := 0 }, { name := "DIRECTIONALITY_UNDEFINED", type := .byte, accessFlags := 25, slot := 36, constantValue := 0 }, { name := "DIRECTIONALITY_LEFT_TO_RIGHT", type := .byte, accessFlags := 25, slot := 37, constantValue := 0 }, { name := "DIRECTIONALITY_RIGHT_TO_LEFT", type := .byte, accessFlags := 25, slot := 38, constantValue := 0 }, { name := "DIRECTIONALITY_RIGHT_TO_LEFT_ARABIC", type := .byte, accessFlags := 25, slot := 39, constantValue := 0 }, { name := "DIRECTIONALITY_EUROPEAN_NUMBER", type := .byte, accessFlags := 25, slot := 40, constantValue := 0 }, { name := "DIRECTIONALITY_EUROPEAN_NUMBER_SEPARATOR", type := .byte, accessFlags := 25, slot := 41, constantValue := 0 }, { name := "DIRECTIONALITY_EUROPEAN_NUMBER_TERMINATOR", type := .byte, accessFlags := 25, slot := 42, constantValue := 0 }, { name := "DIRECTIONALITY_ARABIC_NUMBER", type := .byte, accessFlags := 25, slot := 43, constantValue := 0 }, { name := "DIRECTIONALITY_COMMON_NUMBER_SEPARATOR", type := .byte, accessFlags := 25, slot := 44, constantValue := 0 }, { name := "DIRECTIONALITY_NONSPACING_MARK", type := .byte, accessFlags := 25, slot := 45, constantValue := 0 }, { name := "DIRECTIONALITY_BOUNDARY_NEUTRAL", type := .byte, accessFlags := 25, slot := 46, constantValue := 0 }, { name := "DIRECTIONALITY_PARAGRAPH_SEPARATOR", type := .byte, accessFlags := 25, slot := 47, constantValue := 0 }, { name := "DIRECTIONALITY_SEGMENT_SEPARATOR", type := .byte, accessFlags := 25, slot := 48, constantValue := 0 }, { name := "DIRECTIONALITY_WHITESPACE", type := .byte, accessFlags := 25, slot := 49, constantValue := 0 }, { name := "DIRECTIONALITY_OTHER_NEUTRALS", type := .byte, accessFlags := 25, slot := 50, constantValue := 0 }, { name := "DIRECTIONALITY_LEFT_TO_RIGHT_EMBEDDING", type := .byte, accessFlags := 25, slot := 51, constantValue := 0 }, { name := "DIRECTIONALITY_LEFT_TO_RIGHT_OVERRIDE", type := .byte, accessFlags := 25, slot := 52, constantValue := 0 }, { name := "DIRECTIONALITY_RIGHT_TO_LEFT_EMBEDDING", type := .byte, accessFlags := 25, slot := 53, constantValue := 0 }, { name := "DIRECTIONALITY_RIGHT_TO_LEFT_OVERRIDE", type := .byte, accessFlags := 25, slot := 54, constantValue := 0 }, { name := "DIRECTIONALITY_POP_DIRECTIONAL_FORMAT", type := .byte, accessFlags := 25, slot := 55, constantValue := 0 }, { name := "DIRECTIONALITY_LEFT_TO_RIGHT_ISOLATE", type := .byte, accessFlags := 25, slot := 56, constantValue := 0 }, { name := "DIRECTIONALITY_RIGHT_TO_LEFT_ISOLATE", type := .byte, accessFlags := 25, slot := 57, constantValue := 0 }, { name := "DIRECTIONALITY_FIRST_STRONG_ISOLATE", type := .byte, accessFlags := 25, slot := 58, constantValue := 0 }, { name := "DIRECTIONALITY_POP_DIRECTIONAL_ISOLATE", type := .byte, accessFlags := 25, slot := 59, constantValue := 0 }, { name := "MIN_HIGH_SURROGATE", type := .char, accessFlags := 25, slot := 60, constantValue := 0 }, { name := "MAX_HIGH_SURROGATE", type := .char, accessFlags := 25, slot := 61, constantValue := 0 }, { name := "MIN_LOW_SURROGATE", type := .char, accessFlags := 25, slot := 62, constantValue := 0 }, { name := "MAX_LOW_SURROGATE", type := .char, accessFlags := 25, slot := 63, constantValue := 0 }, { name := "MIN_SURROGATE", type := .char, accessFlags := 25, slot := 64, constantValue := 0 }, { name := "MAX_SURROGATE", type := .char, accessFlags := 25, slot := 65, constantValue := 0 }, { name := "MIN_SUPPLEMENTARY_CODE_POINT", type := .int, accessFlags := 25, slot := 66, constantValue := 0 }, { name := "MIN_CODE_POINT", type := .int, accessFlags := 25, slot := 67, constantValue := 0 }, { name := "MAX_CODE_POINT", type := .int, accessFlags := 25, slot := 68, constantValue := 0 }, { name := "value", type := .char, accessFlags := 18, slot := 0, constantValue := 0 }, { name := "serialVersionUID", type := .long, accessFlags := 26, slot := 69, constantValue := 0 }, { name := "SIZE", type := .int, accessFlags := 25, slot := 70, constantValue := 0 }, { name := "BYTES", type := .int, accessFlags := 25, slot := 71, constantValue := 0 }, { name := "$assertionsDisabled", type := .boolean, accessFlags := 4120, slot := 72, constantValue := 0 }]
  methods := #[k12m0, k12m1]
  instanceTypes := #[.char]
  staticTypes := #[.int, .int, .char, .char, (.object "java/lang/Class"), .byte, .byte, .byte, .byte, .byte, .byte, .byte, .byte, .byte, .byte, .byte, .byte, .byte, .byte, .byte, .byte, .byte, .byte, .byte, .byte, .byte, .byte, .byte, .byte, .byte, .byte, .byte, .byte, .byte, .byte, .int, .byte, .byte, .byte, .byte, .byte, .byte, .byte, .byte, .byte, .byte, .byte, .byte, .byte, .byte, .byte, .byte, .byte, .byte, .byte, .byte, .byte, .byte, .byte, .byte, .char, .char, .char, .char, .char, .char, .int, .int, .int, .long, .int, .int, .boolean]
  resolved := Array.replicate 604 none
  statics := none }

def pool13 : Array CpInfo := pool [(1, .class_ 2), (0, u "java/lang/Appendable"), (0, .class_ 4), (0, u "java/lang/Object")] 9

/-- java/lang/Appendable -/
def k13 : Class := { plain "java/lang/Appendable" (some 0) with
  accessFlags := 1537
  interfaces := #[]
  cf := some (fileOf pool13 1 #[] #[] 1537 3 #[] #[])
  fields := #[]
  methods := #[]
  instanceTypes := #[]
  staticTypes := #[]
  resolved := Array.replicate 14 none
  statics := none }

def pool14 : Array CpInfo := pool [(1, .class_ 2), (0, u "java/lang/String"), (0, .methodref 4 5), (0, .class_ 6), (0, .nameAndType 7 8), (0, u "java/lang/Object"), (0, u "<init>"), (0, u "()V"), (1, .class_ 12), (1, u "java/lang/AbstractStringBuilder"), (0, u "EMPTYVALUE"), (0, u "[B"), (0, .fieldref 10 16), (0, .nameAndType 17 14), (0, u "value"), (0, .fieldref 1 19), (0, .nameAndType 20 21), (0, u "COMPACT_STRINGS"), (0, u "Z"), (0, .fieldref 10 23), (0, .nameAndType 24 25), (0, u "coder"), (0, u "B"), (0, .methodref 27 28), (0, .class_ 29), (0, .nameAndType 30 31), (0, u "java/lang/StringUTF16"), (0, u "newBytesFor"), (0, u "(I)[B"), (0, .methodref 1 33), (0, .nameAndType 34 35), (0, u "length"), (0, u "()I"), (2, .integer 2147483631), (1, .methodref 1 41), (0, .nameAndType 24 42), (0, u "()B"), (0, .methodref 10 44), (0, .nameAndType 45 46), (0, u "append"), (0, u "(Ljava/lang/String;)Ljava/lang/AbstractStringBuilder;"), (1, .class_ 49), (0, u "java/lang/CharSequence"), (19, u "(Ljava/lang/String;)V"), (3, .fieldref 10 74), (0, .nameAndType 75 21), (0, u "maybeLatin1"), (3, .fieldref 10 80), (0, .nameAndType 81 82), (0, u "count"), (0, u "I"), (0, .methodref 10 84), (0, .nameAndType 85 86), (0, u "isLatin1"), (0, u "()Z"), (1, .class_ 90), (1, u "java/lang/StringLatin1"), (9, .methodref 10 101), (0, .nameAndType 102 103), (0, u "ensureCapacityInternal"), (0, u "(I)V"), (32, u "([BII)V"), (1, .methodref 139 140), (0, .class_ 141), (0, .nameAndType 142 143), (0, u "java/lang/Math"), (0, u "min"), (0, u "(II)I"), (0, .methodref 1 145), (0, .nameAndType 146 147), (0, u "checkIndex"), (0, u "(II)V"), (0, .methodref 27 149), (0, .nameAndType 150 151), (0, u "getChar"), (0, u "([BI)C"), (39, .methodref 88 192), (0, .nameAndType 193 194), (0, u "canEncode"), (0, u "(C)Z"), (2, .methodref 27 198), (0, .nameAndType 199 136), (0, u "putCharSB"), (8, .methodref 10 209), (0, .nameAndType 210 211), (0, u "putStringAt"), (0, u "(ILjava/lang/String;)V"), (5, u "inflateIfNeededFor"), (2, .nameAndType 221 222), (0, u "getBytes"), (0, u "([BIB)V"), (169, u "charAt"), (0, u "(I)C"), (3, .methodref 10 398), (0, .nameAndType 217 69), (0, .methodref 1 220), (3, u "()[B"), (40, .class_ 445), (0, u "java/lang/Appendable"), (46, u "setCharAt"), (0, u "(IC)V"), (58, u "getValue")] 56

def k14m0 : Method := { name := "<init>", desc := "()V", sig := { parameters := [], returnType := none }, accessFlags := 0, code := none }
def k14c1 : Code := { maxStack := 2, maxLocals := 5, code := jdk_68_method_3_code, exceptionTable := #[], attributes := #[] }
def k14m1 : Method := { name := "<init>", desc := "(Ljava/lang/String;)V", sig := { parameters := [(.object "java/lang/String")], returnType := none }, accessFlags := 0, code := some k14c1 }
def k14c2 : Code := { maxStack := 1, maxLocals := 1, code := jdk_68_method_6_code, exceptionTable := #[], attributes := #[] }
def k14m2 : Method := { name := "length", desc := "()I", sig := { parameters := [], returnType := some .int }, accessFlags := 1, code := some k14c2 }
def k14c3 : Code := { maxStack := 4, maxLocals := 3, code := jdk_68_method_9_code, exceptionTable := #[], attributes := #[] }
def k14m3 : Method := { name := "ensureCapacityInternal", desc := "(I)V", sig := { parameters := [.int], returnType := none }, accessFlags := 2, code := some k14c3 }
def k14c4 : Code := { maxStack := 3, maxLocals := 5, code := jdk_68_method_14_code, exceptionTable := #[], attributes := #[] }
def k14m4 : Method := { name := "charAt", desc := "(I)C", sig := { parameters := [.int], returnType := some .char }, accessFlags := 1, code := some k14c4 }
def k14c5 : Code := { maxStack := 3, maxLocals := 3, code := jdk_68_method_20_code, exceptionTable := #[], attributes := #[] }
def k14m5 : Method := { name := "setCharAt", desc := "(IC)V", sig := { parameters := [.int, .char], returnType := none }, accessFlags := 1, code := some k14c5 }
def k14c6 : Code := { maxStack := 3, maxLocals := 3, code := jdk_68_method_22_code, exceptionTable := #[], attributes := #[] }
def k14m6 : Method := { name := "append", desc := "(Ljava/lang/String;)Ljava/lang/AbstractStringBuilder;", sig := { parameters := [(.object "java/lang/String")], returnType := some (.object "java/lang/AbstractStringBuilder") }, accessFlags := 1, code := some k14c6 }
def k14c7 : Code := { maxStack := 1, maxLocals := 1, code := jdk_68_method_64_code, exceptionTable := #[], attributes := #[] }
def k14m7 : Method := { name := "getValue", desc := "()[B", sig := { parameters := [], returnType := some (.array .byte) }, accessFlags := 16, code := some k14c7 }
def k14c8 : Code := { maxStack := 1, maxLocals := 1, code := jdk_68_method_68_code, exceptionTable := #[], attributes := #[] }
def k14m8 : Method := { name := "isLatin1", desc := "()Z", sig := { parameters := [], returnType := some .boolean }, accessFlags := 16, code := some k14c8 }
def k14c9 : Code := { maxStack := 2, maxLocals := 2, code := jdk_68_method_71_code, exceptionTable := #[], attributes := #[] }
def k14m9 : Method := { name := "inflateIfNeededFor", desc := "(Ljava/lang/String;)V", sig := { parameters := [(.object "java/lang/String")], returnType := none }, accessFlags := 2, code := some k14c9 }
def k14c10 : Code := { maxStack := 4, maxLocals := 3, code := jdk_68_method_73_code, exceptionTable := #[], attributes := #[] }
def k14m10 : Method := { name := "putStringAt", desc := "(ILjava/lang/String;)V", sig := { parameters := [.int, (.object "java/lang/String")], returnType := none }, accessFlags := 2, code := some k14c10 }
/-- java/lang/AbstractStringBuilder -/
def k14 : Class := { plain "java/lang/AbstractStringBuilder" (some 0) with
  accessFlags := 1056
  interfaces := #[13, 4]
  cf := some (fileOf pool14 10 #[] #[{ accessFlags := 0, nameIndex := 7, descriptorIndex := 8, attributes := #[] }, { accessFlags := 0, nameIndex := 7, descriptorIndex := 69, attributes := #[] }, { accessFlags := 1, nameIndex := 34, descriptorIndex := 35, attributes := #[] }, { accessFlags := 2, nameIndex := 102, descriptorIndex := 103, attributes := #[] }, { accessFlags := 1, nameIndex := 392, descriptorIndex := 393, attributes := #[] }, { accessFlags := 1, nameIndex := 492, descriptorIndex := 493, attributes := #[] }, { accessFlags := 1, nameIndex := 45, descriptorIndex := 46, attributes := #[] }, { accessFlags := 16, nameIndex := 552, descriptorIndex := 403, attributes := #[] }, { accessFlags := 16, nameIndex := 85, descriptorIndex := 86, attributes := #[] }, { accessFlags := 2, nameIndex := 217, descriptorIndex := 69, attributes := #[] }, { accessFlags := 2, nameIndex := 210, descriptorIndex := 211, attributes := #[] }] 1056 4 #[444, 48] #[{ accessFlags := 0, nameIndex := 17, descriptorIndex := 14, attributes := #[] }, { accessFlags := 0, nameIndex := 24, descriptorIndex := 25, attributes := #[] }, { accessFlags := 0, nameIndex := 75, descriptorIndex := 21, attributes := #[] }, { accessFlags := 0, nameIndex := 81, descriptorIndex := 82, attributes := #[] }, { accessFlags := 26, nameIndex := 13, descriptorIndex := 14, attributes := #[] }])
  fields := #[{ name := "value", type := (.array .byte), accessFlags := 0, slot := 0, constantValue := 0 }, { name := "coder", type := .byte, accessFlags := 0, slot := 1, constantValue := 0 }, { name := "maybeLatin1", type := .boolean, accessFlags := 0, slot := 2, constantValue := 0 }, { name := "count", type := .int, accessFlags := 0, slot := 3, constantValue := 0 }, { name := "EMPTYVALUE", type := (.array .byte), accessFlags := 26, slot := 0, constantValue := 0 }]
  methods := #[k14m0, k14m1, k14m2, k14m3, k14m4, k14m5, k14m6, k14m7, k14m8, k14m9, k14m10]
  instanceTypes := #[(.array .byte), .byte, .boolean, .int]
  staticTypes := #[(.array .byte)]
  resolved := Array.replicate 609 none
  statics := none }

def pool15 : Array CpInfo := pool [(2, .class_ 4), (1, u "java/lang/AbstractStringBuilder"), (0, u "<init>"), (1, .methodref 2 8), (0, .nameAndType 5 9), (0, u "(Ljava/lang/String;)V"), (8, .class_ 20), (1, u "java/lang/String"), (2, .methodref 24 25), (0, .class_ 26), (0, .nameAndType 27 28), (0, u "java/lang/StringBuilder"), (0, u "append"), (0, u "(Ljava/lang/String;)Ljava/lang/StringBuilder;"), (0, .methodref 2 30), (0, .nameAndType 27 31), (0, u "(Ljava/lang/String;)Ljava/lang/AbstractStringBuilder;"), (105, .methodref 18 138), (0, .nameAndType 5 139), (0, u "(Ljava/lang/StringBuilder;)V"), (5, u "()V"), (10, u "()I"), (151, .methodref 2 309), (0, .nameAndType 310 311), (0, u "setCharAt"), (0, u "(IC)V"), (17, .methodref 2 330), (0, .nameAndType 331 332), (0, u "charAt"), (0, u "(I)C"), (10, .methodref 2 344), (0, .nameAndType 345 156), (0, u "length"), (3, .class_ 350), (0, u "java/lang/Appendable"), (0, .class_ 352), (0, u "java/io/Serializable"), (0, .class_ 354), (0, u "java/lang/Comparable"), (0, .class_ 356), (0, u "java/lang/CharSequence"), (0, u "serialVersionUID"), (0, u "J"), (40, u "toString"), (0, u "()Ljava/lang/String;")] 21

def k15m0 : Method := { name := "<init>", desc := "()V", sig := { parameters := [], returnType := none }, accessFlags := 1, code := none }
def k15c1 : Code := { maxStack := 2, maxLocals := 2, code := jdk_67_method_3_code, exceptionTable := #[], attributes := #[] }
def k15m1 : Method := { name := "<init>", desc := "(Ljava/lang/String;)V", sig := { parameters := [(.object "java/lang/String")], returnType := none }, accessFlags := 1, code := some k15c1 }
def k15c2 : Code := { maxStack := 2, maxLocals := 2, code := jdk_67_method_7_code, exceptionTable := #[], attributes := #[] }
def k15m2 : Method := { name := "append", desc := "(Ljava/lang/String;)Ljava/lang/StringBuilder;", sig := { parameters := [(.object "java/lang/String")], returnType := some (.object "java/lang/StringBuilder") }, accessFlags := 1, code := some k15c2 }
def k15c3 : Code := { maxStack := 3, maxLocals := 1, code := jdk_67_method_42_code, exceptionTable := #[], attributes := #[] }
def k15m3 : Method := { name := "toString", desc := "()Ljava/lang/String;", sig := { parameters := [], returnType := some (.object "java/lang/String") }, accessFlags := 1, code := some k15c3 }
def k15c4 : Code := { maxStack := 2, maxLocals := 2, code := jdk_67_method_80_code, exceptionTable := #[], attributes := #[] }
def k15m4 : Method := { name := "append", desc := "(Ljava/lang/String;)Ljava/lang/AbstractStringBuilder;", sig := { parameters := [(.object "java/lang/String")], returnType := some (.object "java/lang/AbstractStringBuilder") }, accessFlags := 4161, code := some k15c4 }
def k15c5 : Code := { maxStack := 3, maxLocals := 3, code := jdk_67_method_82_code, exceptionTable := #[], attributes := #[] }
def k15m5 : Method := { name := "setCharAt", desc := "(IC)V", sig := { parameters := [.int, .char], returnType := none }, accessFlags := 4161, code := some k15c5 }
def k15c6 : Code := { maxStack := 2, maxLocals := 2, code := jdk_67_method_88_code, exceptionTable := #[], attributes := #[] }
def k15m6 : Method := { name := "charAt", desc := "(I)C", sig := { parameters := [.int], returnType := some .char }, accessFlags := 4161, code := some k15c6 }
def k15c7 : Code := { maxStack := 1, maxLocals := 1, code := jdk_67_method_93_code, exceptionTable := #[], attributes := #[] }
def k15m7 : Method := { name := "length", desc := "()I", sig := { parameters := [], returnType := some .int }, accessFlags := 4161, code := some k15c7 }
/-- java/lang/StringBuilder -/
def k15 : Class := { plain "java/lang/StringBuilder" (some 14) with
  accessFlags := 49
  interfaces := #[13, 2, 3, 4]
  cf := some (fileOf pool15 24 #[] #[{ accessFlags := 1, nameIndex := 5, descriptorIndex := 145, attributes := #[] }, { accessFlags := 1, nameIndex := 5, descriptorIndex := 9, attributes := #[] }, { accessFlags := 1, nameIndex := 27, descriptorIndex := 28, attributes := #[] }, { accessFlags := 1, nameIndex := 399, descriptorIndex := 400, attributes := #[] }, { accessFlags := 4161, nameIndex := 27, descriptorIndex := 31, attributes := #[] }, { accessFlags := 4161, nameIndex := 310, descriptorIndex := 311, attributes := #[] }, { accessFlags := 4161, nameIndex := 331, descriptorIndex := 332, attributes := #[] }, { accessFlags := 4161, nameIndex := 345, descriptorIndex := 156, attributes := #[] }] 49 2 #[349, 351, 353, 355] #[{ accessFlags := 24, nameIndex := 357, descriptorIndex := 358, attributes := #[] }])
  fields := #[{ name := "serialVersionUID", type := .long, accessFlags := 24, slot := 0, constantValue := 0 }]
  methods := #[k15m0, k15m1, k15m2, k15m3, k15m4, k15m5, k15m6, k15m7]
  instanceTypes := #[(.array .byte), .byte, .boolean, .int]
  staticTypes := #[.long]
  resolved := Array.replicate 422 none
  statics := none }

def pool16 : Array CpInfo := pool [(2, .class_ 4), (1, u "java/lang/Object"), (0, u "<init>"), (0, u "()V"), (1, .class_ 10), (1, u "java/lang/System"), (0, u "allowSecurityManager"), (0, u "I"), (16, u "cons"), (0, u "Ljava/io/Console;"), (77, .class_ 110), (1, u "java/lang/System$CallersHolder"), (43, u "initialErrStream"), (0, u "Ljava/io/PrintStream;"), (19, u "security"), (0, u "Ljava/lang/SecurityManager;"), (31, .class_ 209), (0, u "java/lang/System$1"), (7, u "props"), (0, u "Ljava/util/Properties;"), (2, u "lineSeparator"), (0, u "Ljava/lang/String;"), (96, .class_ 321), (1, u "java/lang/System$LoggerFinder"), (5, .class_ 328), (0, u "java/lang/System$Logger"), (67, u "err"), (2, u "out"), (91, u "notSupportedJnuEncoding"), (15, u "in"), (17, u "initialIn"), (0, u "Ljava/io/InputStream;"), (35, u "bootLayer"), (0, u "Ljava/lang/ModuleLayer;"), (99, .class_ 664), (0, u "java/lang/System$2"), (9, u "NEVER"), (2, u "MAYBE"), (49, u "arraycopy"), (0, u "(Ljava/lang/Object;ILjava/lang/Object;II)V"), (72, .class_ 802), (0, u "java/lang/System$Logger$Level")] 31

def k16m0 : Method := { name := "<init>", desc := "()V", sig := { parameters := [], returnType := none }, accessFlags := 2, code := none }
def k16m1 : Method := { name := "arraycopy", desc := "(Ljava/lang/Object;ILjava/lang/Object;II)V", sig := { parameters := [(.object "java/lang/Object"), .int, (.object "java/lang/Object"), .int, .int], returnType := none }, accessFlags := 265, code := none }
/-- java/lang/System -/
def k16 : Class := { plain "java/lang/System" (some 0) with
  accessFlags := 49
  interfaces := #[]
  cf := some (fileOf pool16 8 #[.nestMembers #[319, 327, 801, 108, 663, 208]] #[{ accessFlags := 2, nameIndex := 5, descriptorIndex := 6, attributes := #[] }, { accessFlags := 265, nameIndex := 727, descriptorIndex := 728, attributes := #[] }] 49 2 #[] #[{ accessFlags := 25, nameIndex := 507, descriptorIndex := 526, attributes := #[] }, { accessFlags := 25, nameIndex := 399, descriptorIndex := 155, attributes := #[] }, { accessFlags := 25, nameIndex := 396, descriptorIndex := 155, attributes := #[] }, { accessFlags := 10, nameIndex := 525, descriptorIndex := 526, attributes := #[] }, { accessFlags := 26, nameIndex := 674, descriptorIndex := 12, attributes := #[] }, { accessFlags := 26, nameIndex := 677, descriptorIndex := 12, attributes := #[] }, { accessFlags := 10, nameIndex := 11, descriptorIndex := 12, attributes := #[] }, { accessFlags := 74, nameIndex := 175, descriptorIndex := 176, attributes := #[] }, { accessFlags := 10, nameIndex := 491, descriptorIndex := 222, attributes := #[] }, { accessFlags := 74, nameIndex := 29, descriptorIndex := 30, attributes := #[] }, { accessFlags := 74, nameIndex := 154, descriptorIndex := 155, attributes := #[] }, { accessFlags := 10, nameIndex := 217, descriptorIndex := 218, attributes := #[] }, { accessFlags := 10, nameIndex := 221, descriptorIndex := 222, attributes := #[] }, { accessFlags := 8, nameIndex := 562, descriptorIndex := 563, attributes := #[] }])
  fields := #[{ name := "in", type := (.object "java/io/InputStream"), accessFlags := 25, slot := 0, constantValue := 0 }, { name := "out", type := (.object "java/io/PrintStream"), accessFlags := 25, slot := 1, constantValue := 0 }, { name := "err", type := (.object "java/io/PrintStream"), accessFlags := 25, slot := 2, constantValue := 0 }, { name := "initialIn", type := (.object "java/io/InputStream"), accessFlags := 10, slot := 3, constantValue := 0 }, { name := "NEVER", type := .int, accessFlags := 26, slot := 4, constantValue := 0 }, { name := "MAYBE", type := .int, accessFlags := 26, slot := 5, constantValue := 0 }, { name := "allowSecurityManager", type := .int, accessFlags := 10, slot := 6, constantValue := 0 }, { name := "security", type := (.object "java/lang/SecurityManager"), accessFlags := 74, slot := 7, constantValue := 0 }, { name := "notSupportedJnuEncoding", type := (.object "java/lang/String"), accessFlags := 10, slot := 8, constantValue := 0 }, { name := "cons", type := (.object "java/io/Console"), accessFlags := 74, slot := 9, constantValue := 0 }, { name := "initialErrStream", type := (.object "java/io/PrintStream"), accessFlags := 74, slot := 10, constantValue := 0 }, { name := "props", type := (.object "java/util/Properties"), accessFlags := 10, slot := 11, constantValue := 0 }, { name := "lineSeparator", type := (.object "java/lang/String"), accessFlags := 10, slot := 12, constantValue := 0 }, { name := "bootLayer", type := (.object "java/lang/ModuleLayer"), accessFlags := 8, slot := 13, constantValue := 0 }]
  methods := #[k16m0, k16m1]
  instanceTypes := #[]
  staticTypes := #[(.object "java/io/InputStream"), (.object "java/io/PrintStream"), (.object "java/io/PrintStream"), (.object "java/io/InputStream"), .int, .int, .int, (.object "java/lang/SecurityManager"), (.object "java/lang/String"), (.object "java/io/Console"), (.object "java/io/PrintStream"), (.object "java/util/Properties"), (.object "java/lang/String"), (.object "java/lang/ModuleLayer")]
  resolved := Array.replicate 834 none
  statics := none }

def pool17 : Array CpInfo := pool [(1, .class_ 2), (0, u "java/lang/Math"), (1, .class_ 6), (1, u "java/lang/Object"), (0, u "<init>"), (0, u "()V"), (89, .class_ 100), (1, u "java/lang/Math$RandomNumberGeneratorHolder"), (71, u "negativeZeroFloatBits"), (0, u "J"), (2, u "negativeZeroDoubleBits"), (24, u "min"), (43, u "$assertionsDisabled"), (0, u "Z"), (88, u "(II)I"), (2, u "twoToTheDoubleScaleDown"), (0, u "D"), (4, u "twoToTheDoubleScaleUp"), (9, u "E"), (3, u "PI"), (2, u "TAU"), (2, u "DEGREES_TO_RADIANS"), (0, u "RADIANS_TO_DEGREES")] 94

def k17m0 : Method := { name := "<init>", desc := "()V", sig := { parameters := [], returnType := none }, accessFlags := 2, code := none }
def k17c1 : Code := { maxStack := 2, maxLocals := 2, code := jdk_29_method_69_code, exceptionTable := #[], attributes := #[] }
def k17m1 : Method := { name := "min", desc := "(II)I", sig := { parameters := [.int, .int], returnType := some .int }, accessFlags := 9, code := some k17c1 }
/-- java/lang/Math -/
def k17 : Class := { plain "java/lang/Math" (some 0) with
  accessFlags := 49
  interfaces := #[]
  cf := some (fileOf pool17 1 #[.nestMembers #[98]] #[{ accessFlags := 2, nameIndex := 7, descriptorIndex := 8, attributes := #[] }, { accessFlags := 9, nameIndex := 201, descriptorIndex := 335, attributes := #[] }] 49 4 #[] #[{ accessFlags := 25, nameIndex := 354, descriptorIndex := 339, attributes := #[] }, { accessFlags := 25, nameIndex := 358, descriptorIndex := 339, attributes := #[] }, { accessFlags := 25, nameIndex := 361, descriptorIndex := 339, attributes := #[] }, { accessFlags := 26, nameIndex := 364, descriptorIndex := 339, attributes := #[] }, { accessFlags := 26, nameIndex := 365, descriptorIndex := 339, attributes := #[] }, { accessFlags := 26, nameIndex := 172, descriptorIndex := 173, attributes := #[] }, { accessFlags := 26, nameIndex := 176, descriptorIndex := 173, attributes := #[] }, { accessFlags := 8, nameIndex := 344, descriptorIndex := 339, attributes := #[] }, { accessFlags := 8, nameIndex := 338, descriptorIndex := 339, attributes := #[] }, { accessFlags := 4120, nameIndex := 245, descriptorIndex := 246, attributes := #[] }])
  fields := #[{ name := "E", type := .double, accessFlags := 25, slot := 0, constantValue := 0 }, { name := "PI", type := .double, accessFlags := 25, slot := 1, constantValue := 0 }, { name := "TAU", type := .double, accessFlags := 25, slot := 2, constantValue := 0 }, { name := "DEGREES_TO_RADIANS", type := .double, accessFlags := 26, slot := 3, constantValue := 0 }, { name := "RADIANS_TO_DEGREES", type := .double, accessFlags := 26, slot := 4, constantValue := 0 }, { name := "negativeZeroFloatBits", type := .long, accessFlags := 26, slot := 5, constantValue := 0 }, { name := "negativeZeroDoubleBits", type := .long, accessFlags := 26, slot := 6, constantValue := 0 }, { name := "twoToTheDoubleScaleUp", type := .double, accessFlags := 8, slot := 7, constantValue := 0 }, { name := "twoToTheDoubleScaleDown", type := .double, accessFlags := 8, slot := 8, constantValue := 0 }, { name := "$assertionsDisabled", type := .boolean, accessFlags := 4120, slot := 9, constantValue := 0 }]
  methods := #[k17m0, k17m1]
  instanceTypes := #[]
  staticTypes := #[.double, .double, .double, .double, .double, .long, .long, .double, .double, .boolean]
  resolved := Array.replicate 460 none
  statics := none }

def pool18 : Array CpInfo := pool [(2, .class_ 4), (1, u "java/lang/Object"), (0, u "<init>"), (0, u "()V"), (7, .class_ 16), (1, u "java/util/Arrays"), (57, .class_ 76), (1, u "java/util/Arrays$NaturalOrder"), (36, .class_ 115), (1, u "java/util/Arrays$LegacyMergeSort"), (1, u "Z"), (21, u "copyOfRange"), (10, .methodref 151 152), (0, .class_ 153), (0, .nameAndType 154 155), (0, u "java/lang/System"), (0, u "arraycopy"), (0, u "(Ljava/lang/Object;ILjava/lang/Object;II)V"), (148, .methodref 305 306), (0, .class_ 307), (0, .nameAndType 308 309), (0, u "java/lang/Math"), (0, u "min"), (0, u "(II)I"), (29, .methodref 14 340), (0, .nameAndType 341 342), (0, u "copyOfRangeByte"), (0, u "([BII)[B"), (0, .methodref 14 344), (0, .nameAndType 345 346), (0, u "checkLength"), (0, u "(II)V"), (28, .class_ 376), (0, u "java/util/Arrays$ArrayList"), (68, u "$assertionsDisabled"), (269, u "MIN_ARRAY_SORT_GRAN"), (0, u "I"), (2, u "INSERTIONSORT_THRESHOLD"), (255, .class_ 976), (0, u "java/util/Arrays$ArrayItr")] 52

def k18m0 : Method := { name := "<init>", desc := "()V", sig := { parameters := [], returnType := none }, accessFlags := 2, code := none }
def k18c1 : Code := { maxStack := 4, maxLocals := 2, code := jdk_65_method_131_code, exceptionTable := #[], attributes := #[] }
def k18m1 : Method := { name := "checkLength", desc := "(II)V", sig := { parameters := [.int, .int], returnType := none }, accessFlags := 10, code := some k18c1 }
def k18c2 : Code := { maxStack := 3, maxLocals := 3, code := jdk_65_method_132_code, exceptionTable := #[], attributes := #[] }
def k18m2 : Method := { name := "copyOfRange", desc := "([BII)[B", sig := { parameters := [(.array .byte), .int, .int], returnType := some (.array .byte) }, accessFlags := 9, code := some k18c2 }
def k18c3 : Code := { maxStack := 6, maxLocals := 5, code := jdk_65_method_133_code, exceptionTable := #[], attributes := #[] }
def k18m3 : Method := { name := "copyOfRangeByte", desc := "([BII)[B", sig := { parameters := [(.array .byte), .int, .int], returnType := some (.array .byte) }, accessFlags := 10, code := some k18c3 }
/-- java/util/Arrays -/
def k18 : Class := { plain "java/util/Arrays" (some 0) with
  accessFlags := 49
  interfaces := #[]
  cf := some (fileOf pool18 14 #[.nestMembers #[975, 375, 113, 74]] #[{ accessFlags := 2, nameIndex := 5, descriptorIndex := 6, attributes := #[] }, { accessFlags := 10, nameIndex := 345, descriptorIndex := 346, attributes := #[] }, { accessFlags := 9, nameIndex := 139, descriptorIndex := 342, attributes := #[] }, { accessFlags := 10, nameIndex := 341, descriptorIndex := 342, attributes := #[] }] 49 2 #[] #[{ accessFlags := 26, nameIndex := 715, descriptorIndex := 716, attributes := #[] }, { accessFlags := 26, nameIndex := 719, descriptorIndex := 716, attributes := #[] }, { accessFlags := 4120, nameIndex := 445, descriptorIndex := 117, attributes := #[] }])
  fields := #[{ name := "MIN_ARRAY_SORT_GRAN", type := .int, accessFlags := 26, slot := 0, constantValue := 0 }, { name := "INSERTIONSORT_THRESHOLD", type := .int, accessFlags := 26, slot := 1, constantValue := 0 }, { name := "$assertionsDisabled", type := .boolean, accessFlags := 4120, slot := 2, constantValue := 0 }]
  methods := #[k18m0, k18m1, k18m2, k18m3]
  instanceTypes := #[]
  staticTypes := #[.int, .int, .boolean]
  resolved := Array.replicate 1029 none
  statics := none }

def pool19 : Array CpInfo := pool [(9, u "<init>"), (6, .class_ 18), (1, u "java/lang/Object"), (0, u "()V"), (1, .class_ 23), (1, u "jdk/internal/util/ArraysSupport"), (0, u "LOG2_ARRAY_LONG_INDEX_SCALE"), (0, u "I"), (2, u "U"), (0, u "Ljdk/internal/misc/Unsafe;"), (8, u "BIG_ENDIAN"), (0, u "Z"), (8, u "LOG2_BYTE_BIT_SIZE"), (4, u "LOG2_ARRAY_INT_INDEX_SCALE"), (54, u "JLA"), (0, u "Ljdk/internal/access/JavaLangAccess;"), (11, u "LOG2_ARRAY_BOOLEAN_INDEX_SCALE"), (9, u "LOG2_ARRAY_BYTE_INDEX_SCALE"), (5, u "LOG2_ARRAY_CHAR_INDEX_SCALE"), (5, u "LOG2_ARRAY_SHORT_INDEX_SCALE"), (18, u "LOG2_ARRAY_FLOAT_INDEX_SCALE"), (24, u "LOG2_ARRAY_DOUBLE_INDEX_SCALE"), (89, u "T_BOOLEAN"), (2, u "T_CHAR"), (1, u "T_FLOAT"), (1, u "T_DOUBLE"), (1, u "T_BYTE"), (1, u "T_SHORT"), (1, u "T_INT"), (1, u "T_LONG"), (1, u "SOFT_MAX_ARRAY_LENGTH")] 83

def k19m0 : Method := { name := "<init>", desc := "()V", sig := { parameters := [], returnType := none }, accessFlags := 2, code := none }
/-- jdk/internal/util/ArraysSupport -/
def k19 : Class := { plain "jdk/internal/util/ArraysSupport" (some 0) with
  accessFlags := 33
  interfaces := #[]
  cf := some (fileOf pool19 21 #[] #[{ accessFlags := 2, nameIndex := 9, descriptorIndex := 19, attributes := #[] }] 33 16 #[] #[{ accessFlags := 24, nameIndex := 28, descriptorIndex := 29, attributes := #[] }, { accessFlags := 26, nameIndex := 38, descriptorIndex := 39, attributes := #[] }, { accessFlags := 25, nameIndex := 121, descriptorIndex := 25, attributes := #[] }, { accessFlags := 25, nameIndex := 131, descriptorIndex := 25, attributes := #[] }, { accessFlags := 25, nameIndex := 137, descriptorIndex := 25, attributes := #[] }, { accessFlags := 25, nameIndex := 143, descriptorIndex := 25, attributes := #[] }, { accessFlags := 25, nameIndex := 53, descriptorIndex := 25, attributes := #[] }, { accessFlags := 25, nameIndex := 24, descriptorIndex := 25, attributes := #[] }, { accessFlags := 25, nameIndex := 162, descriptorIndex := 25, attributes := #[] }, { accessFlags := 25, nameIndex := 187, descriptorIndex := 25, attributes := #[] }, { accessFlags := 26, nameIndex := 48, descriptorIndex := 25, attributes := #[] }, { accessFlags := 25, nameIndex := 277, descriptorIndex := 25, attributes := #[] }, { accessFlags := 25, nameIndex := 280, descriptorIndex := 25, attributes := #[] }, { accessFlags := 25, nameIndex := 282, descriptorIndex := 25, attributes := #[] }, { accessFlags := 25, nameIndex := 284, descriptorIndex := 25, attributes := #[] }, { accessFlags := 25, nameIndex := 286, descriptorIndex := 25, attributes := #[] }, { accessFlags := 25, nameIndex := 288, descriptorIndex := 25, attributes := #[] }, { accessFlags := 25, nameIndex := 290, descriptorIndex := 25, attributes := #[] }, { accessFlags := 25, nameIndex := 292, descriptorIndex := 25, attributes := #[] }, { accessFlags := 26, nameIndex := 108, descriptorIndex := 109, attributes := #[] }, { accessFlags := 25, nameIndex := 294, descriptorIndex := 25, attributes := #[] }])
  fields := #[{ name := "U", type := (.object "jdk/internal/misc/Unsafe"), accessFlags := 24, slot := 0, constantValue := 0 }, { name := "BIG_ENDIAN", type := .boolean, accessFlags := 26, slot := 1, constantValue := 0 }, { name := "LOG2_ARRAY_BOOLEAN_INDEX_SCALE", type := .int, accessFlags := 25, slot := 2, constantValue := 0 }, { name := "LOG2_ARRAY_BYTE_INDEX_SCALE", type := .int, accessFlags := 25, slot := 3, constantValue := 0 }, { name := "LOG2_ARRAY_CHAR_INDEX_SCALE", type := .int, accessFlags := 25, slot := 4, constantValue := 0 }, { name := "LOG2_ARRAY_SHORT_INDEX_SCALE", type := .int, accessFlags := 25, slot := 5, constantValue := 0 }, { name := "LOG2_ARRAY_INT_INDEX_SCALE", type := .int, accessFlags := 25, slot := 6, constantValue := 0 }, { name := "LOG2_ARRAY_LONG_INDEX_SCALE", type := .int, accessFlags := 25, slot := 7, constantValue := 0 }, { name := "LOG2_ARRAY_FLOAT_INDEX_SCALE", type := .int, accessFlags := 25, slot := 8, constantValue := 0 }, { name := "LOG2_ARRAY_DOUBLE_INDEX_SCALE", type := .int, accessFlags := 25, slot := 9, constantValue := 0 }, { name := "LOG2_BYTE_BIT_SIZE", type := .int, accessFlags := 26, slot := 10, constantValue := 0 }, { name := "T_BOOLEAN", type := .int, accessFlags := 25, slot := 11, constantValue := 0 }, { name := "T_CHAR", type := .int, accessFlags := 25, slot := 12, constantValue := 0 }, { name := "T_FLOAT", type := .int, accessFlags := 25, slot := 13, constantValue := 0 }, { name := "T_DOUBLE", type := .int, accessFlags := 25, slot := 14, constantValue := 0 }, { name := "T_BYTE", type := .int, accessFlags := 25, slot := 15, constantValue := 0 }, { name := "T_SHORT", type := .int, accessFlags := 25, slot := 16, constantValue := 0 }, { name := "T_INT", type := .int, accessFlags := 25, slot := 17, constantValue := 0 }, { name := "T_LONG", type := .int, accessFlags := 25, slot := 18, constantValue := 0 }, { name := "JLA", type := (.object "jdk/internal/access/JavaLangAccess"), accessFlags := 26, slot := 19, constantValue := 0 }, { name := "SOFT_MAX_ARRAY_LENGTH", type := .int, accessFlags := 25, slot := 20, constantValue := 0 }]
  methods := #[k19m0]
  instanceTypes := #[]
  staticTypes := #[(.object "jdk/internal/misc/Unsafe"), .boolean, .int, .int, .int, .int, .int, .int, .int, .int, .int, .int, .int, .int, .int, .int, .int, .int, .int, (.object "jdk/internal/access/JavaLangAccess"), .int]
  resolved := Array.replicate 378 none
  statics := none }

def pool20 : Array CpInfo := pool [(1, u "java/lang/Cloneable"), (0, .class_ 1), (0, u "java/lang/Object"), (0, .class_ 3)] 3

/-- java/lang/Cloneable -/
def k20 : Class := { plain "java/lang/Cloneable" (some 0) with
  accessFlags := 1537
  interfaces := #[]
  cf := some (fileOf pool20 2 #[] #[] 1537 4 #[] #[])
  fields := #[]
  methods := #[]
  instanceTypes := #[]
  staticTypes := #[]
  resolved := Array.replicate 8 none
  statics := none }

/-- the primitive byte -/
def k21 : Class := { plain "byte" none with kind := .primitive 'B', accessFlags := 0x411 }
/-- [B -/
def k22 : Class := { plain "[B" (some 0) with kind := .array 21 .byte, interfaces := #[20, 2], accessFlags := 1041 }

/-- the primitive char -/
def k23 : Class := { plain "char" none with kind := .primitive 'C', accessFlags := 0x411 }
/-- [C -/
def k24 : Class := { plain "[C" (some 0) with kind := .array 23 .char, interfaces := #[20, 2], accessFlags := 1041 }

/-- the primitive int -/
def k25 : Class := { plain "int" none with kind := .primitive 'I', accessFlags := 0x411 }
/-- [I -/
def k26 : Class := { plain "[I" (some 0) with kind := .array 25 .int, interfaces := #[20, 2], accessFlags := 1041 }

def heap : Heap := #[{ cls := 7, slots := #[.long 0, .int 1, .null, .int 0, .null, .int 0, .int 0], vm := .statics 7 },
  { cls := 8, slots := #[.int 0, .int 8, .int 0, .int 1], vm := .statics 8 },
  { cls := 11, slots := #[.null, .null, .null], vm := .statics 11 }]
def classes : Array Class := #[k0, k1, k2, k3, k4, k5, k6, k7, k8, k9, k10, k11, k12, k13, k14, k15, k16, k17, k18, k19, k20, k21, k22, k23, k24, k25, k26]
def interned : List (Array UInt16 × Addr) := []
def slotsUsed : Nat := 14
def theMethod : MethodId := ⟨1, 1⟩
def args0 : Array Value := #[.int 3, .int 5, .int 6, .int 7]
def aboutOver (below : List Frame) : State where
  vm := { classes := classes, interned := interned.toArray }
  heap := heap
  slotsUsed := slotsUsed
  threads := #[{ frames := .invoking theMethod args0 :: below }]
def below0 : List Frame := [.native { method := ⟨0, 0⟩, args := #[] }]
def about1 : State := aboutOver below0
def p0 : Program := .bare "" "" ""
def e0 : Env := launch0.env 0 0 0
theorem w_frames : about1.frames = Frame.invoking theMethod args0 :: below0 := rfl
set_option maxRecDepth 65536 in
theorem w_args : argsFit about1.vm theMethod args0 = true := by decide +kernel
set_option maxRecDepth 65536 in
theorem w_heap : heapFits about1 = true := by decide +kernel
set_option maxRecDepth 65536 in
theorem w_runnable : about1.curStatus? = some .runnable := by decide +kernel
set_option maxRecDepth 65536 in
theorem w_alone : about1.alone = true := by decide +kernel
set_option maxRecDepth 65536 in
theorem w_named : about1.methodNamed? x = some theMethod := by decide +kernel
set_option maxRecDepth 65536 in
theorem w_hears : about1.hears theMethod below0 = true := by decide +kernel
set_option maxRecDepth 65536 in
theorem w_ripe : about1.ripe theMethod args0 below0 = true := by decide +kernel
theorem w_running : about1.status = .running := rfl
set_option maxRecDepth 65536 in
theorem w_room : about1.hasRoom e0.platform room_1 = true :=
  launch0.hasRoom_least _ room_1 (by decide +kernel) (by decide +kernel) (by decide +kernel) (by decide +kernel) (by decide +kernel) (by decide +kernel)
theorem allAtoms_all (ts : List Jvm.Cond) (a : Array Jvm.Value) (st : Jvm.State) : (allAtoms ts).before a st = ts.all (fun c => c.before a st) := by
  induction ts with
  | nil => rfl
  | cons c t ih =>
    show (Jvm.Cond.and c (allAtoms t)).before a st = _
    rw [Jvm.Cond.before_and, ih, List.all_cons]
def words1 : List Jvm.Cond := Jvm.Cond.code x code maxLocals ret :: tables_1
/-- a 'code' word, met by the world's own term for the bytes: nothing is compared byte by byte -/
theorem code_word {y : MethodName} {bytes : ByteArray} {mx : Nat} {rt : Option FieldType} {a : Array Value} {s : State} {m : MethodId} {meth : Method} {c : Code} (h1 : s.methodNamed? y = some m) (h2 : s.vm.method? m = some meth) (h3 : meth.code = some c) (h4 : c.code = bytes)
    (h5 : (c.maxLocals == mx && c.exceptionTable.isEmpty && decide (c.maxStack ≤ mostOperands) && decide (meth.sig.returnType = rt) && !meth.locks && decide (parseMethodDescriptor y.desc = some meth.sig)) = true) : (Jvm.Cond.code y bytes mx rt).before a s = true := by
  simp only [Bool.and_eq_true, beq_iff_eq, Bool.not_eq_true', decide_eq_true_eq] at h5
  obtain ⟨⟨⟨⟨⟨g1, g2⟩, g3⟩, g4⟩, g5⟩, g6⟩ := h5
  simp [Cond.before, Cond.holds, Cond.value, h1, h2, h3, h4, g1, g2, g3, g4, g5, g6]
def isCode : Jvm.Cond → Bool
  | .code _ _ _ _ => true
  | _ => false
theorem all_split {L : List Jvm.Cond} {P : Jvm.Cond → Bool} (h1 : L.all (fun c => isCode c || P c) = true) (h2 : ∀ c ∈ L.filter isCode, P c = true) : L.all P = true := by
  refine List.all_eq_true.mpr fun c hc => ?_
  have h := List.all_eq_true.mp h1 c hc
  rcases Bool.eq_false_or_eq_true (isCode c) with hi | hi
  · exact h2 c (List.mem_filter.mpr ⟨hc, hi⟩)
  · simpa [hi] using h
set_option maxRecDepth 65536 in
theorem w_c0 : (Jvm.Cond.code x code maxLocals ret).before args0 about1 = true := code_word (m := ⟨1, 1⟩) (meth := k1m1) (c := k1c1) (by decide +kernel) rfl rfl rfl (by decide +kernel)
set_option maxRecDepth 65536 in
theorem w_c1 : (Jvm.Cond.code ({ cls := "com/example/kazalo/kazalo/FailuresOneLinePinLaw", name := "make", desc := "(ICCC)[C" } : Jvm.MethodName) method_3_code (4 : Nat) (Option.some (Jvm.ClassFile.FieldType.array Jvm.ClassFile.FieldType.char))).before args0 about1 = true := code_word (m := ⟨1, 2⟩) (meth := k1m2) (c := k1c2) (by decide +kernel) rfl rfl rfl (by decide +kernel)
set_option maxRecDepth 65536 in
theorem w_c2 : (Jvm.Cond.code ({ cls := "java/lang/String", name := "<init>", desc := "([C)V" } : Jvm.MethodName) jdk_42_method_3_code (2 : Nat) (Option.none : Option Jvm.ClassFile.FieldType)).before args0 about1 = true := code_word (m := ⟨7, 1⟩) (meth := k7m1) (c := k7c1) (by decide +kernel) rfl rfl rfl (by decide +kernel)
set_option maxRecDepth 65536 in
theorem w_c3 : (Jvm.Cond.code ({ cls := "java/lang/String", name := "<init>", desc := "([CIILjava/lang/Void;)V" } : Jvm.MethodName) jdk_42_method_149_code (6 : Nat) (Option.none : Option Jvm.ClassFile.FieldType)).before args0 about1 = true := code_word (m := ⟨7, 6⟩) (meth := k7m6) (c := k7c6) (by decide +kernel) rfl rfl rfl (by decide +kernel)
set_option maxRecDepth 65536 in
theorem w_c4 : (Jvm.Cond.code ({ cls := "java/lang/Object", name := "<init>", desc := "()V" } : Jvm.MethodName) object_method_1_code (1 : Nat) (Option.none : Option Jvm.ClassFile.FieldType)).before args0 about1 = true := code_word (m := ⟨0, 0⟩) (meth := k0m0) (c := k0c0) (by decide +kernel) rfl rfl rfl (by decide +kernel)
set_option maxRecDepth 65536 in
theorem w_c5 : (Jvm.Cond.code ({ cls := "java/lang/StringUTF16", name := "compress", desc := "([CII)[B" } : Jvm.MethodName) jdk_52_method_16_code (6 : Nat) (Option.some (Jvm.ClassFile.FieldType.array Jvm.ClassFile.FieldType.byte))).before args0 about1 = true := code_word (m := ⟨8, 8⟩) (meth := k8m8) (c := k8c8) (by decide +kernel) rfl rfl rfl (by decide +kernel)
set_option maxRecDepth 65536 in
theorem w_c6 : (Jvm.Cond.code ({ cls := "java/lang/StringUTF16", name := "compress", desc := "([CI[BII)I" } : Jvm.MethodName) jdk_52_method_21_code (7 : Nat) (Option.some Jvm.ClassFile.FieldType.int)).before args0 about1 = true := code_word (m := ⟨8, 10⟩) (meth := k8m10) (c := k8c10) (by decide +kernel) rfl rfl rfl (by decide +kernel)
set_option maxRecDepth 65536 in
theorem w_c7 : (Jvm.Cond.code ({ cls := "java/lang/StringUTF16", name := "coderFromArrayLen", desc := "([BI)B" } : Jvm.MethodName) jdk_52_method_15_code (2 : Nat) (Option.some Jvm.ClassFile.FieldType.byte)).before args0 about1 = true := code_word (m := ⟨8, 7⟩) (meth := k8m7) (c := k8c7) (by decide +kernel) rfl rfl rfl (by decide +kernel)
set_option maxRecDepth 65536 in
theorem w_c8 : (Jvm.Cond.code ({ cls := "com/example/kazalo/kazalo/Failures", name := "oneLine", desc := "(Ljava/lang/String;)Ljava/lang/String;" } : Jvm.MethodName) prog_2_method_3_code (4 : Nat) (Option.some (Jvm.ClassFile.FieldType.object "java/lang/String"))).before args0 about1 = true := code_word (m := ⟨9, 0⟩) (meth := k9m0) (c := k9c0) (by decide +kernel) rfl rfl rfl (by decide +kernel)
set_option maxRecDepth 65536 in
theorem w_c9 : (Jvm.Cond.code ({ cls := "com/example/kazalo/kazalo/Failures", name := "holdsControl", desc := "(Ljava/lang/String;)Z" } : Jvm.MethodName) prog_2_method_4_code (3 : Nat) (Option.some Jvm.ClassFile.FieldType.boolean)).before args0 about1 = true := code_word (m := ⟨9, 1⟩) (meth := k9m1) (c := k9c1) (by decide +kernel) rfl rfl rfl (by decide +kernel)
set_option maxRecDepth 65536 in
theorem w_c10 : (Jvm.Cond.code ({ cls := "java/lang/String", name := "length", desc := "()I" } : Jvm.MethodName) jdk_42_method_54_code (1 : Nat) (Option.some Jvm.ClassFile.FieldType.int)).before args0 about1 = true := code_word (m := ⟨7, 3⟩) (meth := k7m3) (c := k7c3) (by decide +kernel) rfl rfl rfl (by decide +kernel)
set_option maxRecDepth 65536 in
theorem w_c11 : (Jvm.Cond.code ({ cls := "java/lang/String", name := "coder", desc := "()B" } : Jvm.MethodName) jdk_42_method_152_code (1 : Nat) (Option.some Jvm.ClassFile.FieldType.byte)).before args0 about1 = true := code_word (m := ⟨7, 8⟩) (meth := k7m8) (c := k7c8) (by decide +kernel) rfl rfl rfl (by decide +kernel)
set_option maxRecDepth 65536 in
theorem w_c12 : (Jvm.Cond.code ({ cls := "java/lang/String", name := "charAt", desc := "(I)C" } : Jvm.MethodName) jdk_42_method_56_code (2 : Nat) (Option.some Jvm.ClassFile.FieldType.char)).before args0 about1 = true := code_word (m := ⟨7, 4⟩) (meth := k7m4) (c := k7c4) (by decide +kernel) rfl rfl rfl (by decide +kernel)
set_option maxRecDepth 65536 in
theorem w_c13 : (Jvm.Cond.code ({ cls := "java/lang/String", name := "isLatin1", desc := "()Z" } : Jvm.MethodName) jdk_42_method_154_code (1 : Nat) (Option.some Jvm.ClassFile.FieldType.boolean)).before args0 about1 = true := code_word (m := ⟨7, 9⟩) (meth := k7m9) (c := k7c9) (by decide +kernel) rfl rfl rfl (by decide +kernel)
set_option maxRecDepth 65536 in
theorem w_c14 : (Jvm.Cond.code ({ cls := "java/lang/StringLatin1", name := "charAt", desc := "([BI)C" } : Jvm.MethodName) jdk_43_method_2_code (2 : Nat) (Option.some Jvm.ClassFile.FieldType.char)).before args0 about1 = true := code_word (m := ⟨10, 1⟩) (meth := k10m1) (c := k10c1) (by decide +kernel) rfl rfl rfl (by decide +kernel)
set_option maxRecDepth 65536 in
theorem w_c15 : (Jvm.Cond.code ({ cls := "java/lang/String", name := "checkIndex", desc := "(II)V" } : Jvm.MethodName) jdk_42_method_155_code (2 : Nat) (Option.none : Option Jvm.ClassFile.FieldType)).before args0 about1 = true := code_word (m := ⟨7, 10⟩) (meth := k7m10) (c := k7c10) (by decide +kernel) rfl rfl rfl (by decide +kernel)
set_option maxRecDepth 65536 in
theorem w_c16 : (Jvm.Cond.code ({ cls := "jdk/internal/util/Preconditions", name := "checkIndex", desc := "(IILjava/util/function/BiFunction;)I" } : Jvm.MethodName) jdk_41_method_11_code (3 : Nat) (Option.some Jvm.ClassFile.FieldType.int)).before args0 about1 = true := code_word (m := ⟨11, 1⟩) (meth := k11m1) (c := k11c1) (by decide +kernel) rfl rfl rfl (by decide +kernel)
set_option maxRecDepth 65536 in
theorem w_c17 : (Jvm.Cond.code ({ cls := "java/lang/Character", name := "isISOControl", desc := "(C)Z" } : Jvm.MethodName) jdk_89_method_88_code (1 : Nat) (Option.some Jvm.ClassFile.FieldType.boolean)).before args0 about1 = true := code_word (m := ⟨12, 0⟩) (meth := k12m0) (c := k12c0) (by decide +kernel) rfl rfl rfl (by decide +kernel)
set_option maxRecDepth 65536 in
theorem w_c18 : (Jvm.Cond.code ({ cls := "java/lang/Character", name := "isISOControl", desc := "(I)Z" } : Jvm.MethodName) jdk_89_method_89_code (1 : Nat) (Option.some Jvm.ClassFile.FieldType.boolean)).before args0 about1 = true := code_word (m := ⟨12, 1⟩) (meth := k12m1) (c := k12c1) (by decide +kernel) rfl rfl rfl (by decide +kernel)
set_option maxRecDepth 65536 in
theorem w_c19 : (Jvm.Cond.code ({ cls := "java/lang/StringBuilder", name := "<init>", desc := "(Ljava/lang/String;)V" } : Jvm.MethodName) jdk_67_method_3_code (2 : Nat) (Option.none : Option Jvm.ClassFile.FieldType)).before args0 about1 = true := code_word (m := ⟨15, 1⟩) (meth := k15m1) (c := k15c1) (by decide +kernel) rfl rfl rfl (by decide +kernel)
set_option maxRecDepth 65536 in
theorem w_c20 : (Jvm.Cond.code ({ cls := "java/lang/AbstractStringBuilder", name := "<init>", desc := "(Ljava/lang/String;)V" } : Jvm.MethodName) jdk_68_method_3_code (5 : Nat) (Option.none : Option Jvm.ClassFile.FieldType)).before args0 about1 = true := code_word (m := ⟨14, 1⟩) (meth := k14m1) (c := k14c1) (by decide +kernel) rfl rfl rfl (by decide +kernel)
set_option maxRecDepth 65536 in
theorem w_c21 : (Jvm.Cond.code ({ cls := "java/lang/StringBuilder", name := "append", desc := "(Ljava/lang/String;)Ljava/lang/AbstractStringBuilder;" } : Jvm.MethodName) jdk_67_method_80_code (2 : Nat) (Option.some (Jvm.ClassFile.FieldType.object "java/lang/AbstractStringBuilder"))).before args0 about1 = true := code_word (m := ⟨15, 4⟩) (meth := k15m4) (c := k15c4) (by decide +kernel) rfl rfl rfl (by decide +kernel)
set_option maxRecDepth 65536 in
theorem w_c22 : (Jvm.Cond.code ({ cls := "java/lang/StringBuilder", name := "append", desc := "(Ljava/lang/String;)Ljava/lang/StringBuilder;" } : Jvm.MethodName) jdk_67_method_7_code (2 : Nat) (Option.some (Jvm.ClassFile.FieldType.object "java/lang/StringBuilder"))).before args0 about1 = true := code_word (m := ⟨15, 2⟩) (meth := k15m2) (c := k15c2) (by decide +kernel) rfl rfl rfl (by decide +kernel)
set_option maxRecDepth 65536 in
theorem w_c23 : (Jvm.Cond.code ({ cls := "java/lang/AbstractStringBuilder", name := "append", desc := "(Ljava/lang/String;)Ljava/lang/AbstractStringBuilder;" } : Jvm.MethodName) jdk_68_method_22_code (3 : Nat) (Option.some (Jvm.ClassFile.FieldType.object "java/lang/AbstractStringBuilder"))).before args0 about1 = true := code_word (m := ⟨14, 6⟩) (meth := k14m6) (c := k14c6) (by decide +kernel) rfl rfl rfl (by decide +kernel)
set_option maxRecDepth 65536 in
theorem w_c24 : (Jvm.Cond.code ({ cls := "java/lang/AbstractStringBuilder", name := "ensureCapacityInternal", desc := "(I)V" } : Jvm.MethodName) jdk_68_method_9_code (3 : Nat) (Option.none : Option Jvm.ClassFile.FieldType)).before args0 about1 = true := code_word (m := ⟨14, 3⟩) (meth := k14m3) (c := k14c3) (by decide +kernel) rfl rfl rfl (by decide +kernel)
set_option maxRecDepth 65536 in
theorem w_c25 : (Jvm.Cond.code ({ cls := "java/lang/AbstractStringBuilder", name := "putStringAt", desc := "(ILjava/lang/String;)V" } : Jvm.MethodName) jdk_68_method_73_code (3 : Nat) (Option.none : Option Jvm.ClassFile.FieldType)).before args0 about1 = true := code_word (m := ⟨14, 10⟩) (meth := k14m10) (c := k14c10) (by decide +kernel) rfl rfl rfl (by decide +kernel)
set_option maxRecDepth 65536 in
theorem w_c26 : (Jvm.Cond.code ({ cls := "java/lang/AbstractStringBuilder", name := "inflateIfNeededFor", desc := "(Ljava/lang/String;)V" } : Jvm.MethodName) jdk_68_method_71_code (2 : Nat) (Option.none : Option Jvm.ClassFile.FieldType)).before args0 about1 = true := code_word (m := ⟨14, 9⟩) (meth := k14m9) (c := k14c9) (by decide +kernel) rfl rfl rfl (by decide +kernel)
set_option maxRecDepth 65536 in
theorem w_c27 : (Jvm.Cond.code ({ cls := "java/lang/String", name := "getBytes", desc := "([BIB)V" } : Jvm.MethodName) jdk_42_method_147_code (4 : Nat) (Option.none : Option Jvm.ClassFile.FieldType)).before args0 about1 = true := code_word (m := ⟨7, 5⟩) (meth := k7m5) (c := k7c5) (by decide +kernel) rfl rfl rfl (by decide +kernel)
set_option maxRecDepth 65536 in
theorem w_c28 : (Jvm.Cond.code ({ cls := "java/lang/StringBuilder", name := "length", desc := "()I" } : Jvm.MethodName) jdk_67_method_93_code (1 : Nat) (Option.some Jvm.ClassFile.FieldType.int)).before args0 about1 = true := code_word (m := ⟨15, 7⟩) (meth := k15m7) (c := k15c7) (by decide +kernel) rfl rfl rfl (by decide +kernel)
set_option maxRecDepth 65536 in
theorem w_c29 : (Jvm.Cond.code ({ cls := "java/lang/AbstractStringBuilder", name := "length", desc := "()I" } : Jvm.MethodName) jdk_68_method_6_code (1 : Nat) (Option.some Jvm.ClassFile.FieldType.int)).before args0 about1 = true := code_word (m := ⟨14, 2⟩) (meth := k14m2) (c := k14c2) (by decide +kernel) rfl rfl rfl (by decide +kernel)
set_option maxRecDepth 65536 in
theorem w_c30 : (Jvm.Cond.code ({ cls := "java/lang/StringBuilder", name := "charAt", desc := "(I)C" } : Jvm.MethodName) jdk_67_method_88_code (2 : Nat) (Option.some Jvm.ClassFile.FieldType.char)).before args0 about1 = true := code_word (m := ⟨15, 6⟩) (meth := k15m6) (c := k15c6) (by decide +kernel) rfl rfl rfl (by decide +kernel)
set_option maxRecDepth 65536 in
theorem w_c31 : (Jvm.Cond.code ({ cls := "java/lang/AbstractStringBuilder", name := "charAt", desc := "(I)C" } : Jvm.MethodName) jdk_68_method_14_code (5 : Nat) (Option.some Jvm.ClassFile.FieldType.char)).before args0 about1 = true := code_word (m := ⟨14, 4⟩) (meth := k14m4) (c := k14c4) (by decide +kernel) rfl rfl rfl (by decide +kernel)
set_option maxRecDepth 65536 in
theorem w_c32 : (Jvm.Cond.code ({ cls := "java/lang/Math", name := "min", desc := "(II)I" } : Jvm.MethodName) jdk_29_method_69_code (2 : Nat) (Option.some Jvm.ClassFile.FieldType.int)).before args0 about1 = true := code_word (m := ⟨17, 1⟩) (meth := k17m1) (c := k17c1) (by decide +kernel) rfl rfl rfl (by decide +kernel)
set_option maxRecDepth 65536 in
theorem w_c33 : (Jvm.Cond.code ({ cls := "java/lang/StringBuilder", name := "setCharAt", desc := "(IC)V" } : Jvm.MethodName) jdk_67_method_82_code (3 : Nat) (Option.none : Option Jvm.ClassFile.FieldType)).before args0 about1 = true := code_word (m := ⟨15, 5⟩) (meth := k15m5) (c := k15c5) (by decide +kernel) rfl rfl rfl (by decide +kernel)
set_option maxRecDepth 65536 in
theorem w_c34 : (Jvm.Cond.code ({ cls := "java/lang/AbstractStringBuilder", name := "setCharAt", desc := "(IC)V" } : Jvm.MethodName) jdk_68_method_20_code (3 : Nat) (Option.none : Option Jvm.ClassFile.FieldType)).before args0 about1 = true := code_word (m := ⟨14, 5⟩) (meth := k14m5) (c := k14c5) (by decide +kernel) rfl rfl rfl (by decide +kernel)
set_option maxRecDepth 65536 in
theorem w_c35 : (Jvm.Cond.code ({ cls := "java/lang/AbstractStringBuilder", name := "isLatin1", desc := "()Z" } : Jvm.MethodName) jdk_68_method_68_code (1 : Nat) (Option.some Jvm.ClassFile.FieldType.boolean)).before args0 about1 = true := code_word (m := ⟨14, 8⟩) (meth := k14m8) (c := k14c8) (by decide +kernel) rfl rfl rfl (by decide +kernel)
set_option maxRecDepth 65536 in
theorem w_c36 : (Jvm.Cond.code ({ cls := "java/lang/StringLatin1", name := "canEncode", desc := "(C)Z" } : Jvm.MethodName) jdk_43_method_3_code (1 : Nat) (Option.some Jvm.ClassFile.FieldType.boolean)).before args0 about1 = true := code_word (m := ⟨10, 2⟩) (meth := k10m2) (c := k10c2) (by decide +kernel) rfl rfl rfl (by decide +kernel)
set_option maxRecDepth 65536 in
theorem w_c37 : (Jvm.Cond.code ({ cls := "java/lang/StringBuilder", name := "toString", desc := "()Ljava/lang/String;" } : Jvm.MethodName) jdk_67_method_42_code (1 : Nat) (Option.some (Jvm.ClassFile.FieldType.object "java/lang/String"))).before args0 about1 = true := code_word (m := ⟨15, 3⟩) (meth := k15m3) (c := k15c3) (by decide +kernel) rfl rfl rfl (by decide +kernel)
set_option maxRecDepth 65536 in
theorem w_c38 : (Jvm.Cond.code ({ cls := "java/lang/String", name := "<init>", desc := "(Ljava/lang/StringBuilder;)V" } : Jvm.MethodName) jdk_42_method_53_code (2 : Nat) (Option.none : Option Jvm.ClassFile.FieldType)).before args0 about1 = true := code_word (m := ⟨7, 2⟩) (meth := k7m2) (c := k7c2) (by decide +kernel) rfl rfl rfl (by decide +kernel)
set_option maxRecDepth 65536 in
theorem w_c39 : (Jvm.Cond.code ({ cls := "java/lang/String", name := "<init>", desc := "(Ljava/lang/AbstractStringBuilder;Ljava/lang/Void;)V" } : Jvm.MethodName) jdk_42_method_150_code (5 : Nat) (Option.none : Option Jvm.ClassFile.FieldType)).before args0 about1 = true := code_word (m := ⟨7, 7⟩) (meth := k7m7) (c := k7c7) (by decide +kernel) rfl rfl rfl (by decide +kernel)
set_option maxRecDepth 65536 in
theorem w_c40 : (Jvm.Cond.code ({ cls := "java/lang/AbstractStringBuilder", name := "getValue", desc := "()[B" } : Jvm.MethodName) jdk_68_method_64_code (1 : Nat) (Option.some (Jvm.ClassFile.FieldType.array Jvm.ClassFile.FieldType.byte))).before args0 about1 = true := code_word (m := ⟨14, 7⟩) (meth := k14m7) (c := k14c7) (by decide +kernel) rfl rfl rfl (by decide +kernel)
set_option maxRecDepth 65536 in
theorem w_c41 : (Jvm.Cond.code ({ cls := "java/util/Arrays", name := "copyOfRange", desc := "([BII)[B" } : Jvm.MethodName) jdk_65_method_132_code (3 : Nat) (Option.some (Jvm.ClassFile.FieldType.array Jvm.ClassFile.FieldType.byte))).before args0 about1 = true := code_word (m := ⟨18, 2⟩) (meth := k18m2) (c := k18c2) (by decide +kernel) rfl rfl rfl (by decide +kernel)
set_option maxRecDepth 65536 in
theorem w_c42 : (Jvm.Cond.code ({ cls := "java/util/Arrays", name := "copyOfRangeByte", desc := "([BII)[B" } : Jvm.MethodName) jdk_65_method_133_code (5 : Nat) (Option.some (Jvm.ClassFile.FieldType.array Jvm.ClassFile.FieldType.byte))).before args0 about1 = true := code_word (m := ⟨18, 3⟩) (meth := k18m3) (c := k18c3) (by decide +kernel) rfl rfl rfl (by decide +kernel)
set_option maxRecDepth 65536 in
theorem w_c43 : (Jvm.Cond.code ({ cls := "java/util/Arrays", name := "checkLength", desc := "(II)V" } : Jvm.MethodName) jdk_65_method_131_code (2 : Nat) (Option.none : Option Jvm.ClassFile.FieldType)).before args0 about1 = true := code_word (m := ⟨18, 1⟩) (meth := k18m1) (c := k18c1) (by decide +kernel) rfl rfl rfl (by decide +kernel)
set_option maxRecDepth 65536 in
theorem w_c44 : (Jvm.Cond.code ({ cls := "com/example/kazalo/kazalo/FailuresOneLinePinLaw", name := "expected", desc := "(C)C" } : Jvm.MethodName) method_4_code (1 : Nat) (Option.some Jvm.ClassFile.FieldType.char)).before args0 about1 = true := code_word (m := ⟨1, 3⟩) (meth := k1m3) (c := k1c3) (by decide +kernel) rfl rfl rfl (by decide +kernel)
set_option maxRecDepth 65536 in
theorem w_c45 : (Jvm.Cond.code ({ cls := "java/lang/StringUTF16", name := "toBytes", desc := "([CII)[B" } : Jvm.MethodName) jdk_52_method_14_code (5 : Nat) (Option.some (Jvm.ClassFile.FieldType.array Jvm.ClassFile.FieldType.byte))).before args0 about1 = true := code_word (m := ⟨8, 6⟩) (meth := k8m6) (c := k8c6) (by decide +kernel) rfl rfl rfl (by decide +kernel)
set_option maxRecDepth 65536 in
theorem w_c46 : (Jvm.Cond.code ({ cls := "java/lang/StringUTF16", name := "newBytesFor", desc := "(I)[B" } : Jvm.MethodName) jdk_52_method_2_code (1 : Nat) (Option.some (Jvm.ClassFile.FieldType.array Jvm.ClassFile.FieldType.byte))).before args0 about1 = true := code_word (m := ⟨8, 1⟩) (meth := k8m1) (c := k8c1) (by decide +kernel) rfl rfl rfl (by decide +kernel)
set_option maxRecDepth 65536 in
theorem w_c47 : (Jvm.Cond.code ({ cls := "java/lang/StringUTF16", name := "newBytesLength", desc := "(I)I" } : Jvm.MethodName) jdk_52_method_3_code (1 : Nat) (Option.some Jvm.ClassFile.FieldType.int)).before args0 about1 = true := code_word (m := ⟨8, 2⟩) (meth := k8m2) (c := k8c2) (by decide +kernel) rfl rfl rfl (by decide +kernel)
set_option maxRecDepth 65536 in
theorem w_c48 : (Jvm.Cond.code ({ cls := "java/lang/StringUTF16", name := "putChar", desc := "([BII)V" } : Jvm.MethodName) jdk_52_method_4_code (3 : Nat) (Option.none : Option Jvm.ClassFile.FieldType)).before args0 about1 = true := code_word (m := ⟨8, 3⟩) (meth := k8m3) (c := k8c3) (by decide +kernel) rfl rfl rfl (by decide +kernel)
set_option maxRecDepth 65536 in
theorem w_c49 : (Jvm.Cond.code ({ cls := "java/lang/StringUTF16", name := "getChar", desc := "([BI)C" } : Jvm.MethodName) jdk_52_method_5_code (2 : Nat) (Option.some Jvm.ClassFile.FieldType.char)).before args0 about1 = true := code_word (m := ⟨8, 4⟩) (meth := k8m4) (c := k8c4) (by decide +kernel) rfl rfl rfl (by decide +kernel)
set_option maxRecDepth 65536 in
theorem w_c50 : (Jvm.Cond.code ({ cls := "java/lang/StringUTF16", name := "charAt", desc := "([BI)C" } : Jvm.MethodName) jdk_52_method_83_code (2 : Nat) (Option.some Jvm.ClassFile.FieldType.char)).before args0 about1 = true := code_word (m := ⟨8, 13⟩) (meth := k8m13) (c := k8c13) (by decide +kernel) rfl rfl rfl (by decide +kernel)
set_option maxRecDepth 65536 in
theorem w_c51 : (Jvm.Cond.code ({ cls := "java/lang/StringUTF16", name := "checkIndex", desc := "(I[B)V" } : Jvm.MethodName) jdk_52_method_91_code (2 : Nat) (Option.none : Option Jvm.ClassFile.FieldType)).before args0 about1 = true := code_word (m := ⟨8, 14⟩) (meth := k8m14) (c := k8c14) (by decide +kernel) rfl rfl rfl (by decide +kernel)
set_option maxRecDepth 65536 in
theorem w_c52 : (Jvm.Cond.code ({ cls := "java/lang/StringUTF16", name := "length", desc := "([B)I" } : Jvm.MethodName) jdk_52_method_6_code (1 : Nat) (Option.some Jvm.ClassFile.FieldType.int)).before args0 about1 = true := code_word (m := ⟨8, 5⟩) (meth := k8m5) (c := k8c5) (by decide +kernel) rfl rfl rfl (by decide +kernel)
set_option maxRecDepth 65536 in
theorem w_c53 : (Jvm.Cond.code ({ cls := "java/lang/StringUTF16", name := "putCharSB", desc := "([BII)V" } : Jvm.MethodName) jdk_52_method_71_code (3 : Nat) (Option.none : Option Jvm.ClassFile.FieldType)).before args0 about1 = true := code_word (m := ⟨8, 12⟩) (meth := k8m12) (c := k8c12) (by decide +kernel) rfl rfl rfl (by decide +kernel)
set_option maxRecDepth 65536 in
theorem w_c54 : (Jvm.Cond.code ({ cls := "java/lang/StringUTF16", name := "compress", desc := "([BII)[B" } : Jvm.MethodName) jdk_52_method_17_code (6 : Nat) (Option.some (Jvm.ClassFile.FieldType.array Jvm.ClassFile.FieldType.byte))).before args0 about1 = true := code_word (m := ⟨8, 9⟩) (meth := k8m9) (c := k8c9) (by decide +kernel) rfl rfl rfl (by decide +kernel)
set_option maxRecDepth 65536 in
theorem w_c55 : (Jvm.Cond.code ({ cls := "java/lang/StringUTF16", name := "compress", desc := "([BI[BII)I" } : Jvm.MethodName) jdk_52_method_22_code (7 : Nat) (Option.some Jvm.ClassFile.FieldType.int)).before args0 about1 = true := code_word (m := ⟨8, 11⟩) (meth := k8m11) (c := k8c11) (by decide +kernel) rfl rfl rfl (by decide +kernel)
set_option maxRecDepth 65536 in
theorem w_c56 : (Jvm.Cond.code ({ cls := "java/lang/StringUTF16", name := "checkBoundsOffCount", desc := "(II[B)V" } : Jvm.MethodName) jdk_52_method_94_code (3 : Nat) (Option.none : Option Jvm.ClassFile.FieldType)).before args0 about1 = true := code_word (m := ⟨8, 15⟩) (meth := k8m15) (c := k8c15) (by decide +kernel) rfl rfl rfl (by decide +kernel)
set_option maxRecDepth 65536 in
theorem w_c57 : (Jvm.Cond.code ({ cls := "java/lang/String", name := "checkBoundsOffCount", desc := "(III)I" } : Jvm.MethodName) jdk_42_method_157_code (3 : Nat) (Option.some Jvm.ClassFile.FieldType.int)).before args0 about1 = true := code_word (m := ⟨7, 11⟩) (meth := k7m11) (c := k7c11) (by decide +kernel) rfl rfl rfl (by decide +kernel)
set_option maxRecDepth 65536 in
theorem w_c58 : (Jvm.Cond.code ({ cls := "jdk/internal/util/Preconditions", name := "checkFromIndexSize", desc := "(IIILjava/util/function/BiFunction;)I" } : Jvm.MethodName) jdk_41_method_13_code (4 : Nat) (Option.some Jvm.ClassFile.FieldType.int)).before args0 about1 = true := code_word (m := ⟨11, 2⟩) (meth := k11m2) (c := k11c2) (by decide +kernel) rfl rfl rfl (by decide +kernel)
def codes1 : List Jvm.Cond := [Jvm.Cond.code x code maxLocals ret, Jvm.Cond.code ({ cls := "com/example/kazalo/kazalo/FailuresOneLinePinLaw", name := "make", desc := "(ICCC)[C" } : Jvm.MethodName) method_3_code (4 : Nat) (Option.some (Jvm.ClassFile.FieldType.array Jvm.ClassFile.FieldType.char)), Jvm.Cond.code ({ cls := "java/lang/String", name := "<init>", desc := "([C)V" } : Jvm.MethodName) jdk_42_method_3_code (2 : Nat) (Option.none : Option Jvm.ClassFile.FieldType), Jvm.Cond.code ({ cls := "java/lang/String", name := "<init>", desc := "([CIILjava/lang/Void;)V" } : Jvm.MethodName) jdk_42_method_149_code (6 : Nat) (Option.none : Option Jvm.ClassFile.FieldType), Jvm.Cond.code ({ cls := "java/lang/Object", name := "<init>", desc := "()V" } : Jvm.MethodName) object_method_1_code (1 : Nat) (Option.none : Option Jvm.ClassFile.FieldType), Jvm.Cond.code ({ cls := "java/lang/StringUTF16", name := "compress", desc := "([CII)[B" } : Jvm.MethodName) jdk_52_method_16_code (6 : Nat) (Option.some (Jvm.ClassFile.FieldType.array Jvm.ClassFile.FieldType.byte)), Jvm.Cond.code ({ cls := "java/lang/StringUTF16", name := "compress", desc := "([CI[BII)I" } : Jvm.MethodName) jdk_52_method_21_code (7 : Nat) (Option.some Jvm.ClassFile.FieldType.int), Jvm.Cond.code ({ cls := "java/lang/StringUTF16", name := "coderFromArrayLen", desc := "([BI)B" } : Jvm.MethodName) jdk_52_method_15_code (2 : Nat) (Option.some Jvm.ClassFile.FieldType.byte), Jvm.Cond.code ({ cls := "com/example/kazalo/kazalo/Failures", name := "oneLine", desc := "(Ljava/lang/String;)Ljava/lang/String;" } : Jvm.MethodName) prog_2_method_3_code (4 : Nat) (Option.some (Jvm.ClassFile.FieldType.object "java/lang/String")), Jvm.Cond.code ({ cls := "com/example/kazalo/kazalo/Failures", name := "holdsControl", desc := "(Ljava/lang/String;)Z" } : Jvm.MethodName) prog_2_method_4_code (3 : Nat) (Option.some Jvm.ClassFile.FieldType.boolean), Jvm.Cond.code ({ cls := "java/lang/String", name := "length", desc := "()I" } : Jvm.MethodName) jdk_42_method_54_code (1 : Nat) (Option.some Jvm.ClassFile.FieldType.int), Jvm.Cond.code ({ cls := "java/lang/String", name := "coder", desc := "()B" } : Jvm.MethodName) jdk_42_method_152_code (1 : Nat) (Option.some Jvm.ClassFile.FieldType.byte), Jvm.Cond.code ({ cls := "java/lang/String", name := "charAt", desc := "(I)C" } : Jvm.MethodName) jdk_42_method_56_code (2 : Nat) (Option.some Jvm.ClassFile.FieldType.char), Jvm.Cond.code ({ cls := "java/lang/String", name := "isLatin1", desc := "()Z" } : Jvm.MethodName) jdk_42_method_154_code (1 : Nat) (Option.some Jvm.ClassFile.FieldType.boolean), Jvm.Cond.code ({ cls := "java/lang/StringLatin1", name := "charAt", desc := "([BI)C" } : Jvm.MethodName) jdk_43_method_2_code (2 : Nat) (Option.some Jvm.ClassFile.FieldType.char), Jvm.Cond.code ({ cls := "java/lang/String", name := "checkIndex", desc := "(II)V" } : Jvm.MethodName) jdk_42_method_155_code (2 : Nat) (Option.none : Option Jvm.ClassFile.FieldType), Jvm.Cond.code ({ cls := "jdk/internal/util/Preconditions", name := "checkIndex", desc := "(IILjava/util/function/BiFunction;)I" } : Jvm.MethodName) jdk_41_method_11_code (3 : Nat) (Option.some Jvm.ClassFile.FieldType.int), Jvm.Cond.code ({ cls := "java/lang/Character", name := "isISOControl", desc := "(C)Z" } : Jvm.MethodName) jdk_89_method_88_code (1 : Nat) (Option.some Jvm.ClassFile.FieldType.boolean), Jvm.Cond.code ({ cls := "java/lang/Character", name := "isISOControl", desc := "(I)Z" } : Jvm.MethodName) jdk_89_method_89_code (1 : Nat) (Option.some Jvm.ClassFile.FieldType.boolean), Jvm.Cond.code ({ cls := "java/lang/StringBuilder", name := "<init>", desc := "(Ljava/lang/String;)V" } : Jvm.MethodName) jdk_67_method_3_code (2 : Nat) (Option.none : Option Jvm.ClassFile.FieldType), Jvm.Cond.code ({ cls := "java/lang/AbstractStringBuilder", name := "<init>", desc := "(Ljava/lang/String;)V" } : Jvm.MethodName) jdk_68_method_3_code (5 : Nat) (Option.none : Option Jvm.ClassFile.FieldType), Jvm.Cond.code ({ cls := "java/lang/StringBuilder", name := "append", desc := "(Ljava/lang/String;)Ljava/lang/AbstractStringBuilder;" } : Jvm.MethodName) jdk_67_method_80_code (2 : Nat) (Option.some (Jvm.ClassFile.FieldType.object "java/lang/AbstractStringBuilder")), Jvm.Cond.code ({ cls := "java/lang/StringBuilder", name := "append", desc := "(Ljava/lang/String;)Ljava/lang/StringBuilder;" } : Jvm.MethodName) jdk_67_method_7_code (2 : Nat) (Option.some (Jvm.ClassFile.FieldType.object "java/lang/StringBuilder")), Jvm.Cond.code ({ cls := "java/lang/AbstractStringBuilder", name := "append", desc := "(Ljava/lang/String;)Ljava/lang/AbstractStringBuilder;" } : Jvm.MethodName) jdk_68_method_22_code (3 : Nat) (Option.some (Jvm.ClassFile.FieldType.object "java/lang/AbstractStringBuilder")), Jvm.Cond.code ({ cls := "java/lang/AbstractStringBuilder", name := "ensureCapacityInternal", desc := "(I)V" } : Jvm.MethodName) jdk_68_method_9_code (3 : Nat) (Option.none : Option Jvm.ClassFile.FieldType), Jvm.Cond.code ({ cls := "java/lang/AbstractStringBuilder", name := "putStringAt", desc := "(ILjava/lang/String;)V" } : Jvm.MethodName) jdk_68_method_73_code (3 : Nat) (Option.none : Option Jvm.ClassFile.FieldType), Jvm.Cond.code ({ cls := "java/lang/AbstractStringBuilder", name := "inflateIfNeededFor", desc := "(Ljava/lang/String;)V" } : Jvm.MethodName) jdk_68_method_71_code (2 : Nat) (Option.none : Option Jvm.ClassFile.FieldType), Jvm.Cond.code ({ cls := "java/lang/String", name := "getBytes", desc := "([BIB)V" } : Jvm.MethodName) jdk_42_method_147_code (4 : Nat) (Option.none : Option Jvm.ClassFile.FieldType), Jvm.Cond.code ({ cls := "java/lang/StringBuilder", name := "length", desc := "()I" } : Jvm.MethodName) jdk_67_method_93_code (1 : Nat) (Option.some Jvm.ClassFile.FieldType.int), Jvm.Cond.code ({ cls := "java/lang/AbstractStringBuilder", name := "length", desc := "()I" } : Jvm.MethodName) jdk_68_method_6_code (1 : Nat) (Option.some Jvm.ClassFile.FieldType.int), Jvm.Cond.code ({ cls := "java/lang/StringBuilder", name := "charAt", desc := "(I)C" } : Jvm.MethodName) jdk_67_method_88_code (2 : Nat) (Option.some Jvm.ClassFile.FieldType.char), Jvm.Cond.code ({ cls := "java/lang/AbstractStringBuilder", name := "charAt", desc := "(I)C" } : Jvm.MethodName) jdk_68_method_14_code (5 : Nat) (Option.some Jvm.ClassFile.FieldType.char), Jvm.Cond.code ({ cls := "java/lang/Math", name := "min", desc := "(II)I" } : Jvm.MethodName) jdk_29_method_69_code (2 : Nat) (Option.some Jvm.ClassFile.FieldType.int), Jvm.Cond.code ({ cls := "java/lang/StringBuilder", name := "setCharAt", desc := "(IC)V" } : Jvm.MethodName) jdk_67_method_82_code (3 : Nat) (Option.none : Option Jvm.ClassFile.FieldType), Jvm.Cond.code ({ cls := "java/lang/AbstractStringBuilder", name := "setCharAt", desc := "(IC)V" } : Jvm.MethodName) jdk_68_method_20_code (3 : Nat) (Option.none : Option Jvm.ClassFile.FieldType), Jvm.Cond.code ({ cls := "java/lang/AbstractStringBuilder", name := "isLatin1", desc := "()Z" } : Jvm.MethodName) jdk_68_method_68_code (1 : Nat) (Option.some Jvm.ClassFile.FieldType.boolean), Jvm.Cond.code ({ cls := "java/lang/StringLatin1", name := "canEncode", desc := "(C)Z" } : Jvm.MethodName) jdk_43_method_3_code (1 : Nat) (Option.some Jvm.ClassFile.FieldType.boolean), Jvm.Cond.code ({ cls := "java/lang/StringBuilder", name := "toString", desc := "()Ljava/lang/String;" } : Jvm.MethodName) jdk_67_method_42_code (1 : Nat) (Option.some (Jvm.ClassFile.FieldType.object "java/lang/String")), Jvm.Cond.code ({ cls := "java/lang/String", name := "<init>", desc := "(Ljava/lang/StringBuilder;)V" } : Jvm.MethodName) jdk_42_method_53_code (2 : Nat) (Option.none : Option Jvm.ClassFile.FieldType), Jvm.Cond.code ({ cls := "java/lang/String", name := "<init>", desc := "(Ljava/lang/AbstractStringBuilder;Ljava/lang/Void;)V" } : Jvm.MethodName) jdk_42_method_150_code (5 : Nat) (Option.none : Option Jvm.ClassFile.FieldType), Jvm.Cond.code ({ cls := "java/lang/AbstractStringBuilder", name := "getValue", desc := "()[B" } : Jvm.MethodName) jdk_68_method_64_code (1 : Nat) (Option.some (Jvm.ClassFile.FieldType.array Jvm.ClassFile.FieldType.byte)), Jvm.Cond.code ({ cls := "java/util/Arrays", name := "copyOfRange", desc := "([BII)[B" } : Jvm.MethodName) jdk_65_method_132_code (3 : Nat) (Option.some (Jvm.ClassFile.FieldType.array Jvm.ClassFile.FieldType.byte)), Jvm.Cond.code ({ cls := "java/util/Arrays", name := "copyOfRangeByte", desc := "([BII)[B" } : Jvm.MethodName) jdk_65_method_133_code (5 : Nat) (Option.some (Jvm.ClassFile.FieldType.array Jvm.ClassFile.FieldType.byte)), Jvm.Cond.code ({ cls := "java/util/Arrays", name := "checkLength", desc := "(II)V" } : Jvm.MethodName) jdk_65_method_131_code (2 : Nat) (Option.none : Option Jvm.ClassFile.FieldType), Jvm.Cond.code ({ cls := "com/example/kazalo/kazalo/FailuresOneLinePinLaw", name := "expected", desc := "(C)C" } : Jvm.MethodName) method_4_code (1 : Nat) (Option.some Jvm.ClassFile.FieldType.char), Jvm.Cond.code ({ cls := "java/lang/StringUTF16", name := "toBytes", desc := "([CII)[B" } : Jvm.MethodName) jdk_52_method_14_code (5 : Nat) (Option.some (Jvm.ClassFile.FieldType.array Jvm.ClassFile.FieldType.byte)), Jvm.Cond.code ({ cls := "java/lang/StringUTF16", name := "newBytesFor", desc := "(I)[B" } : Jvm.MethodName) jdk_52_method_2_code (1 : Nat) (Option.some (Jvm.ClassFile.FieldType.array Jvm.ClassFile.FieldType.byte)), Jvm.Cond.code ({ cls := "java/lang/StringUTF16", name := "newBytesLength", desc := "(I)I" } : Jvm.MethodName) jdk_52_method_3_code (1 : Nat) (Option.some Jvm.ClassFile.FieldType.int), Jvm.Cond.code ({ cls := "java/lang/StringUTF16", name := "putChar", desc := "([BII)V" } : Jvm.MethodName) jdk_52_method_4_code (3 : Nat) (Option.none : Option Jvm.ClassFile.FieldType), Jvm.Cond.code ({ cls := "java/lang/StringUTF16", name := "getChar", desc := "([BI)C" } : Jvm.MethodName) jdk_52_method_5_code (2 : Nat) (Option.some Jvm.ClassFile.FieldType.char), Jvm.Cond.code ({ cls := "java/lang/StringUTF16", name := "charAt", desc := "([BI)C" } : Jvm.MethodName) jdk_52_method_83_code (2 : Nat) (Option.some Jvm.ClassFile.FieldType.char), Jvm.Cond.code ({ cls := "java/lang/StringUTF16", name := "checkIndex", desc := "(I[B)V" } : Jvm.MethodName) jdk_52_method_91_code (2 : Nat) (Option.none : Option Jvm.ClassFile.FieldType), Jvm.Cond.code ({ cls := "java/lang/StringUTF16", name := "length", desc := "([B)I" } : Jvm.MethodName) jdk_52_method_6_code (1 : Nat) (Option.some Jvm.ClassFile.FieldType.int), Jvm.Cond.code ({ cls := "java/lang/StringUTF16", name := "putCharSB", desc := "([BII)V" } : Jvm.MethodName) jdk_52_method_71_code (3 : Nat) (Option.none : Option Jvm.ClassFile.FieldType), Jvm.Cond.code ({ cls := "java/lang/StringUTF16", name := "compress", desc := "([BII)[B" } : Jvm.MethodName) jdk_52_method_17_code (6 : Nat) (Option.some (Jvm.ClassFile.FieldType.array Jvm.ClassFile.FieldType.byte)), Jvm.Cond.code ({ cls := "java/lang/StringUTF16", name := "compress", desc := "([BI[BII)I" } : Jvm.MethodName) jdk_52_method_22_code (7 : Nat) (Option.some Jvm.ClassFile.FieldType.int), Jvm.Cond.code ({ cls := "java/lang/StringUTF16", name := "checkBoundsOffCount", desc := "(II[B)V" } : Jvm.MethodName) jdk_52_method_94_code (3 : Nat) (Option.none : Option Jvm.ClassFile.FieldType), Jvm.Cond.code ({ cls := "java/lang/String", name := "checkBoundsOffCount", desc := "(III)I" } : Jvm.MethodName) jdk_42_method_157_code (3 : Nat) (Option.some Jvm.ClassFile.FieldType.int), Jvm.Cond.code ({ cls := "jdk/internal/util/Preconditions", name := "checkFromIndexSize", desc := "(IIILjava/util/function/BiFunction;)I" } : Jvm.MethodName) jdk_41_method_13_code (4 : Nat) (Option.some Jvm.ClassFile.FieldType.int)]
set_option maxRecDepth 65536 in
theorem codes_eq : words1.filter isCode = codes1 := rfl
theorem w_codes : ∀ c ∈ words1.filter isCode, c.before args0 about1 = true := by
  rw [codes_eq]
  intro c hc
  simp only [codes1, List.mem_cons, List.not_mem_nil, or_false] at hc
  rcases hc with rfl | rfl | rfl | rfl | rfl | rfl | rfl | rfl | rfl | rfl | rfl | rfl | rfl | rfl | rfl | rfl | rfl | rfl | rfl | rfl | rfl | rfl | rfl | rfl | rfl | rfl | rfl | rfl | rfl | rfl | rfl | rfl | rfl | rfl | rfl | rfl | rfl | rfl | rfl | rfl | rfl | rfl | rfl | rfl | rfl | rfl | rfl | rfl | rfl | rfl | rfl | rfl | rfl | rfl | rfl | rfl | rfl | rfl | rfl
  · exact w_c0
  · exact w_c1
  · exact w_c2
  · exact w_c3
  · exact w_c4
  · exact w_c5
  · exact w_c6
  · exact w_c7
  · exact w_c8
  · exact w_c9
  · exact w_c10
  · exact w_c11
  · exact w_c12
  · exact w_c13
  · exact w_c14
  · exact w_c15
  · exact w_c16
  · exact w_c17
  · exact w_c18
  · exact w_c19
  · exact w_c20
  · exact w_c21
  · exact w_c22
  · exact w_c23
  · exact w_c24
  · exact w_c25
  · exact w_c26
  · exact w_c27
  · exact w_c28
  · exact w_c29
  · exact w_c30
  · exact w_c31
  · exact w_c32
  · exact w_c33
  · exact w_c34
  · exact w_c35
  · exact w_c36
  · exact w_c37
  · exact w_c38
  · exact w_c39
  · exact w_c40
  · exact w_c41
  · exact w_c42
  · exact w_c43
  · exact w_c44
  · exact w_c45
  · exact w_c46
  · exact w_c47
  · exact w_c48
  · exact w_c49
  · exact w_c50
  · exact w_c51
  · exact w_c52
  · exact w_c53
  · exact w_c54
  · exact w_c55
  · exact w_c56
  · exact w_c57
  · exact w_c58
set_option maxRecDepth 65536 in
theorem w_t1 : (words1.take 24).all (fun c => isCode c || c.before args0 about1) = true := by decide +kernel
set_option maxRecDepth 65536 in
theorem w_t2 : ((words1.drop 24).take 24).all (fun c => isCode c || c.before args0 about1) = true := by decide +kernel
set_option maxRecDepth 65536 in
theorem w_t3 : (((words1.drop 24).drop 24).take 24).all (fun c => isCode c || c.before args0 about1) = true := by decide +kernel
set_option maxRecDepth 65536 in
theorem w_t4 : ((((words1.drop 24).drop 24).drop 24).take 24).all (fun c => isCode c || c.before args0 about1) = true := by decide +kernel
set_option maxRecDepth 65536 in
theorem w_t5 : (((((words1.drop 24).drop 24).drop 24).drop 24).take 24).all (fun c => isCode c || c.before args0 about1) = true := by decide +kernel
set_option maxRecDepth 65536 in
theorem w_t6 : ((((((words1.drop 24).drop 24).drop 24).drop 24).drop 24).take 24).all (fun c => isCode c || c.before args0 about1) = true := by decide +kernel
set_option maxRecDepth 65536 in
theorem w_t7 : (((((((words1.drop 24).drop 24).drop 24).drop 24).drop 24).drop 24).take 24).all (fun c => isCode c || c.before args0 about1) = true := by decide +kernel
set_option maxRecDepth 65536 in
theorem w_t8 : ((((((((words1.drop 24).drop 24).drop 24).drop 24).drop 24).drop 24).drop 24).take 24).all (fun c => isCode c || c.before args0 about1) = true := by decide +kernel
set_option maxRecDepth 65536 in
theorem w_t9 : (((((((((words1.drop 24).drop 24).drop 24).drop 24).drop 24).drop 24).drop 24).drop 24).take 24).all (fun c => isCode c || c.before args0 about1) = true := by decide +kernel
set_option maxRecDepth 65536 in
theorem w_t10 : ((((((((((words1.drop 24).drop 24).drop 24).drop 24).drop 24).drop 24).drop 24).drop 24).drop 24).take 24).all (fun c => isCode c || c.before args0 about1) = true := by decide +kernel
set_option maxRecDepth 65536 in
theorem w_t11 : (((((((((((words1.drop 24).drop 24).drop 24).drop 24).drop 24).drop 24).drop 24).drop 24).drop 24).drop 24).take 24).all (fun c => isCode c || c.before args0 about1) = true := by decide +kernel
set_option maxRecDepth 65536 in
theorem w_t12 : (((((((((((words1.drop 24).drop 24).drop 24).drop 24).drop 24).drop 24).drop 24).drop 24).drop 24).drop 24).drop 24).all (fun c => isCode c || c.before args0 about1) = true := by decide +kernel
theorem w_tables : (allAtoms (Jvm.Cond.code x code maxLocals ret :: tables_1)).before args0 about1 = true := by
  rw [allAtoms_all]
  show words1.all (fun c => c.before args0 about1) = true
  refine all_split ?_ w_codes
  rw [← List.take_append_drop 24 words1, List.all_append, w_t1, ← List.take_append_drop 24 (words1.drop 24), List.all_append, w_t2, ← List.take_append_drop 24 ((words1.drop 24).drop 24), List.all_append, w_t3, ← List.take_append_drop 24 (((words1.drop 24).drop 24).drop 24), List.all_append, w_t4, ← List.take_append_drop 24 ((((words1.drop 24).drop 24).drop 24).drop 24), List.all_append, w_t5, ← List.take_append_drop 24 (((((words1.drop 24).drop 24).drop 24).drop 24).drop 24), List.all_append, w_t6, ← List.take_append_drop 24 ((((((words1.drop 24).drop 24).drop 24).drop 24).drop 24).drop 24), List.all_append, w_t7, ← List.take_append_drop 24 (((((((words1.drop 24).drop 24).drop 24).drop 24).drop 24).drop 24).drop 24), List.all_append, w_t8, ← List.take_append_drop 24 ((((((((words1.drop 24).drop 24).drop 24).drop 24).drop 24).drop 24).drop 24).drop 24), List.all_append, w_t9, ← List.take_append_drop 24 (((((((((words1.drop 24).drop 24).drop 24).drop 24).drop 24).drop 24).drop 24).drop 24).drop 24), List.all_append, w_t10, ← List.take_append_drop 24 ((((((((((words1.drop 24).drop 24).drop 24).drop 24).drop 24).drop 24).drop 24).drop 24).drop 24).drop 24), List.all_append, w_t11, w_t12]
  rfl
set_option maxRecDepth 65536 in
theorem w_rest : rest_1_c.before args0 about1 = true := by decide +kernel
set_option maxRecDepth 65536 in
theorem w_case : (Jvm.Cond.and given_1 narrow_1).before args0 about1 = true := by decide +kernel
set_option maxRecDepth 65536 in
theorem w_consts : constsHeld consts_1 about1 := Jvm.Lit.constsHeldB_iff.mp (by decide +kernel)
theorem w_applies : (headSpec (Jvm.Cond.code x code maxLocals ret :: tables_1) room_1).applies x e0.platform about1 = true :=
  (Spec.applies_iff w_frames).mpr ⟨w_running, w_runnable, w_alone, w_named, w_hears, w_ripe, w_room, w_tables⟩
theorem atStart : AtStart classFile x code maxLocals ret World_1 tables_1 room_1 Calls_1 rest_1 Pre_1 launch0 p0 e0 about1 theMethod args0 below0 :=
  ⟨lists_1, trivial, launch0.admits_env _ _ _, launch0.least_env, fairChoices_fair.cas, fairChoices_fair.clock, w_frames, w_args, w_heap, w_applies, ⟨w_consts, trivial⟩, w_rest, w_case⟩
end start1
theorem witness_1 : WitnessClaimed_1 := ⟨start1.p0, start1.e0, start1.about1, start1.theMethod, start1.args0, start1.below0, start1.atStart⟩
end Jvm.Pilot.@@N@@
