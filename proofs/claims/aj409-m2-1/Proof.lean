import JvmDerived
import JvmDerived.Pilot.@@N@@Statement
import JvmDerived.Pilot.@@N@@Code
set_option linter.unusedVariables false
set_option linter.unusedSimpArgs false
@@BLOCK:NumsL.lean.txt@@
namespace Jvm.RoadKit
open Sem ClassFile Op Lib Bundle Jvm.Stand Jvm.Free Jvm.LawKit
theorem Ext.rfl' {h : Heap} : Ext h h := ⟨Nat.le_refl _, fun _ _ q => q⟩
theorem Ext.tr {h h1 h2 : Heap} (A : Ext h h1) (B : Ext h1 h2) : Ext h h2 := ⟨Nat.le_trans A.1 B.1, fun a c q => B.2 a c (A.2 a c q)⟩
theorem Ext.wr' {h0 h h' : Heap} {a : Addr} {sl : Nat} {v : Value} (A : Ext h0 h) (W : Wr h h' a sl v) (ha : h0.size ≤ a) : Ext h0 h' := by
  obtain ⟨cl, -, -, -, rfl⟩ := W
  refine ⟨by simpa using A.1, fun b c q => ?_⟩
  have hb : b < h0.size := (Array.getElem?_eq_some_iff.mp q).1
  rw [Array.getElem?_setIfInBounds_ne (show a ≠ b from fun z => Nat.not_lt.mpr ha (z ▸ hb))]
  exact A.2 b c q
theorem Ext.keep' {h0 h h' : Heap} {ws : List Addr} (A : Ext h0 h) (K : Keep h h' ws) (q : ∀ x ∈ ws, h0.size ≤ x) : Ext h0 h' :=
  ⟨Nat.le_trans A.1 K.1, fun x c r => K.2.1 x c (A.2 x c r) fun z => absurd (Array.getElem?_eq_some_iff.mp r).1 (Nat.not_lt.mpr (q x z))⟩
end Jvm.RoadKit
namespace Jvm.Own
open Sem ClassFile Op Lib Bundle Jvm.Stand Jvm.Free Jvm.LawKit Jvm.RoadKit
/-! The own layer: a walk is a goal `Run .. vm h cells slots (fr m pc L st)`; each instruction is one lemma that turns the goal behind it into the goal ahead of it. -/
abbrev fr (m : MethodId) (pc : Nat) (L : List Slot) (st : List Value) : JFrame := mkF m pc ⟨L⟩ st
def Ends (tb : Tables) (e : Env) (below : List Frame) (K : State → Outcome → Prop) (T : State) (g : JFrame) : Prop :=
  ∃ s₂ o, Steps tb e below (T.setTop g) s₂ ∧ s₂.status = .running ∧ Ended s₂ below o ∧ K s₂ o
theorem Ends.go {tb : Tables} {e : Env} {below : List Frame} {K : State → Outcome → Prop} {T T' : State} {g g' : JFrame} (st : ∀ t, Steps tb e below (T'.setTop g') t → Steps tb e below (T.setTop g) t) (k : Ends tb e below K T' g') : Ends tb e below K T g := by
  obtain ⟨s₂, o, h1, h2⟩ := k
  exact ⟨s₂, o, st _ h1, h2⟩
/-- one decoded instruction and the pc behind it -/
def Dc (B : ByteArray) (pc : Nat) (i : Instr) (len q : Nat) : Prop := decode B pc = .ok (i, len) ∧ pc + len = q
/-- one decoded branch, the pc behind it and its target -/
def Jp (B : ByteArray) (pc : Nat) (i : Instr) (o : Int) (q t : Nat) : Prop := decode B pc = .ok (i, 3) ∧ pc + 3 = q ∧ 0 ≤ (pc : Int) + o ∧ ((pc : Int) + o).toNat = t
/-- CHr, and in a walk that interns nothing no cell more is a constant's -/
def CHs (nw : Prop) (Z : State) (EL : List (String × Nat)) (vm : Vm) (h : Heap) (vm' : Vm) (h' : Heap) : Prop := CHr Z EL vm h vm' h' ∧ (nw → ∀ y, Bk Z EL vm' h' y → Bk Z EL vm h y)
/-- where the walk stands -/
def Pnt (p : Program) (l : Launch) (e : Env) (R : Room) (s : State) (m : MethodId) (args : Array Value) (below : List Frame) (meth : Method) (c : Code) (Z : State) (nw : Prop) (EL : List (String × Nat)) (vm : Vm) (h : Heap) (cells slots : Nat) (T : State) : Prop :=
  ∃ (k : Nat) (locs : List Loc), Stand p l e R (s.setVm vm) m args below meth c T locs cells slots ∧ T.heap = h ∧ Fr Z.heap.size locs ∧ Ext Z.heap h ∧ s.Since vm k ∧ k ≤ h.size ∧ Z.Warmed39 vm ∧ CHs nw Z EL s.vm s.heap vm h ∧ (nw → s.WarmedH vm)
def Run (p : Program) (l : Launch) (e : Env) (R : Room) (s : State) (m : MethodId) (args : Array Value) (below : List Frame) (meth : Method) (c : Code) (Z : State) (nw : Prop) (EL : List (String × Nat)) (K : State → Outcome → Prop) (vm : Vm) (h : Heap) (cells slots : Nat) (g : JFrame) : Prop :=
  ∀ T, Pnt p l e R s m args below meth c Z nw EL vm h cells slots T → Ends p.tables e below K T g
/-- what never changes in a body's walk -/
def Cx (p : Program) (s : State) (m : MethodId) (meth : Method) (c : Code) (Z : State) (a0 : Array Value) (EL : List (String × Nat)) (own : String) (B : ByteArray) (n : Nat) (nm : String) (ret : Option FieldType) : Prop :=
  p.tables.exec = Jvm.exec ∧ c.code = B ∧ s.vm.findClass own = some m.cls ∧ c.maxLocals = n ∧ meth.locks = false ∧ meth.name = nm ∧ meth.sig.returnType = ret ∧ EW Z a0 EL
/-- how a body ends -/
def Kf (s Z : State) (nw : Prop) (EL : List (String × Nat)) (rm : Room) (Q : Option Value → Heap → Prop) (s₂ : State) (o : Outcome) : Prop :=
  ∃ v L, o = .returned v ∧ Q v s₂.heap ∧ Fr Z.heap.size L ∧ Ext Z.heap s₂.heap ∧ CHs nw Z EL s.vm s.heap s₂.vm s₂.heap ∧ ReturnedEndW s o s₂ L rm.cells rm.slots ∧ (nw → s.WarmedH s₂.vm)
/-- a body's contract -/
def Met (l : Launch) (Z : State) (nw : Prop) (EL : List (String × Nat)) (y : MethodName) (B : ByteArray) (n : Nat) (ret : Option FieldType) (rm : Room) (as : Array Value) (h : Heap) (sf : List Addr) (Q : Option Value → Heap → Prop) : Prop :=
  ∀ ws : List Jvm.Cond, MetFree l y (head1 (Cond.code y B n ret :: ws) rm) (fun a U => a = as ∧ Z.Warmed39 U.vm ∧ U.heap = h ∧ CHv Z EL U.vm h ∧ Ext Z.heap h ∧ ∀ x ∈ sf, Safe Z EL U.vm h x) (fun _ _ _ _ _ => True)
    (fun _ U o U' => Kf U Z nw EL rm Q U' o)
theorem Safe.nil {Z : State} {vm : Vm} {h : Heap} {x : Addr} : Safe Z [] vm h x := fun B => by
  obtain ⟨p, hp, -⟩ := B
  cases hp
theorem CHr.keepSafe {Z : State} {EL : List (String × Nat)} {vm vm1 : Vm} {h h' : Heap} (A : CHr Z EL vm h vm1 h') {x : Addr} (hx : x < h.size) (S : Safe Z EL vm h x) : Safe Z EL vm1 h' x := CHr.safe A hx S
theorem rew_mono {s t : State} {o : Outcome} {L : List Loc} {k n k' n' : Nat} (h : ReturnedEndW s o t L k n) (hk : k ≤ k') (hn : n ≤ n') : ReturnedEndW s o t L k' n' := by
  obtain ⟨h1, h2, h3, h4⟩ := h
  exact ⟨h1, h2, h3, h4.mono hk hn⟩
theorem CHs.refl {nw : Prop} {Z : State} {EL : List (String × Nat)} {vm : Vm} {h : Heap} (H : CHv Z EL vm h) : CHs nw Z EL vm h vm h := ⟨CHr.refl H, fun _ _ q => q⟩
theorem CHs.trans {nw : Prop} {Z : State} {EL : List (String × Nat)} {vm vm1 vm2 : Vm} {h h1 h2 : Heap} (A : CHs nw Z EL vm h vm1 h1) (B : CHs nw Z EL vm1 h1 vm2 h2) : CHs nw Z EL vm h vm2 h2 := ⟨A.1.trans B.1, fun z y q => A.2 z y (B.2 z y q)⟩
theorem CHs.wr {nw : Prop} {Z : State} {EL : List (String × Nat)} {vm : Vm} {h h' : Heap} {a : Addr} {sl : Nat} {v : Value} (W : Wr h h' a sl v) (S : Safe Z EL vm h a) (H : CHv Z EL vm h) : CHs nw Z EL vm h vm h' := ⟨CHr.wr W S H, fun _ => (H.wrStep W S).2⟩
theorem CHs.ext {nw : Prop} {Z : State} {EL : List (String × Nat)} {vm : Vm} {h h' : Heap} (E : Ext h h') (H : CHv Z EL vm h) : CHs nw Z EL vm h vm h' := ⟨CHr.ext E H, fun _ => (H.step fun _ _ _ q => E.2 _ _ q).2⟩
theorem CHs.keep {nw : Prop} {Z : State} {EL : List (String × Nat)} {vm : Vm} {h h' : Heap} {ws : List Addr} (K : Keep h h' ws) (hs : ∀ x ∈ ws, Safe Z EL vm h x) (H : CHv Z EL vm h) : CHs nw Z EL vm h vm h' := ⟨CHr.keep K hs H, fun _ => (H.keepStep K hs).2⟩
theorem CHs.of {nw : Prop} {Z : State} {EL : List (String × Nat)} {vm vm1 : Vm} {h : Heap} (A : CHr Z EL vm h vm1 h) : CHs nw Z EL vm h vm1 h := ⟨A, fun _ y q => by
  rcases A.2.2 y q with z | z
  · exact z
  · obtain ⟨cell, z2⟩ := q.there
    exact absurd (Array.getElem?_eq_some_iff.mp z2).1 (Nat.not_lt.mpr z)⟩
theorem CHs.cold {nw : Prop} {Z : State} {EL : List (String × Nat)} {vm vm1 : Vm} {h h' : Heap} (A : CHr Z EL vm h vm1 h') (hn : ¬ nw) : CHs nw Z EL vm h vm1 h' := ⟨A, fun z => absurd z hn⟩
theorem CHs.mono {nw nw' : Prop} {Z : State} {EL : List (String × Nat)} {vm vm1 : Vm} {h h' : Heap} (A : CHs nw' Z EL vm h vm1 h') (hn : nw → nw') : CHs nw Z EL vm h vm1 h' := ⟨A.1, fun z => A.2 (hn z)⟩
theorem CHs.fresh {nw : Prop} {Z : State} {EL : List (String × Nat)} {vm vm1 : Vm} {h h' : Heap} (A : CHs nw Z EL vm h vm1 h') (z : nw) {x : Addr} (hx : h.size ≤ x) : Safe Z EL vm1 h' x := fun B => by
  obtain ⟨cell, z2⟩ := (A.2 z x B).there
  exact absurd (Array.getElem?_eq_some_iff.mp z2).1 (Nat.not_lt.mpr hx)
section Body
variable {p : Program} {l : Launch} {e : Env} {R : Room} {s : State} {m : MethodId} {args : Array Value} {below : List Frame} {meth : Method} {c : Code} {Z : State} {a0 : Array Value} {nw : Prop} {EL : List (String × Nat)} {K : State → Outcome → Prop} {vm : Vm} {h : Heap} {cells slots : Nat} {own nm : String} {B : ByteArray} {n : Nat} {ret : Option FieldType}
theorem Run.plain {g g' : JFrame} (st : ∀ T, At T m c below → ∀ t, Steps p.tables e below (T.setTop g') t → Steps p.tables e below (T.setTop g) t) (k : Run p l e R s m args below meth c Z nw EL K vm h cells slots g') : Run p l e R s m args below meth c Z nw EL K vm h cells slots g := by
  intro T P
  have P' := P
  obtain ⟨kk, locs, X, -⟩ := P'
  exact Ends.go (st T X.here) (k T P)
/-- what the walk knows at every point -/
theorem Run.know {g : JFrame} (k : Ext Z.heap h → Z.Warmed39 vm → CHv Z EL vm h → Run p l e R s m args below meth c Z nw EL K vm h cells slots g) : Run p l e R s m args below meth c Z nw EL K vm h cells slots g := by
  intro T P
  have P' := P
  obtain ⟨kk, locs, X, e1, e2, e3, e4, e5, e6, e7, e8⟩ := P'
  exact k e3 e6 e7.1.1 T P
theorem Run.warm (C : Cx p s m meth c Z a0 EL own B n nm ret) {g g' : JFrame}
    (st : ∀ T locs, Stand p l e R (s.setVm vm) m args below meth c T locs cells slots → T.heap = h → Z.Warmed39 (s.setVm vm).vm → (s.setVm vm).vm.findClass own = some m.cls → ∃ T', Stand p l e R (s.setVm vm) m args below meth c T' locs cells slots ∧ T'.heap = h ∧ ∀ t, Steps p.tables e below (T'.setTop g') t → Steps p.tables e below (T.setTop g) t)
    (k : Run p l e R s m args below meth c Z nw EL K vm h cells slots g') : Run p l e R s m args below meth c Z nw EL K vm h cells slots g := by
  intro T P
  obtain ⟨kk, locs, X, e1, e2, e3, e4, e5, e6, e7, e8⟩ := P
  obtain ⟨T', X', e1', hst⟩ := st T locs X e1 e6 ((e4.1.alike.findClass _ _).trans C.2.2.1)
  exact Ends.go hst (k T' ⟨kk, locs, X', e1', e2, e3, e4, e5, e6, e7, e8⟩)
theorem Run.write (C : Cx p s m meth c Z a0 EL own B n nm ret) {g g' : JFrame} {a : Addr} {sl : Nat} {v : Value}
    (st : ∀ T locs, Stand p l e R (s.setVm vm) m args below meth c T locs cells slots → T.heap = h → Z.Warmed39 (s.setVm vm).vm → (s.setVm vm).vm.findClass own = some m.cls → ∃ T' h', Stand p l e R (s.setVm vm) m args below meth c T' (locs ++ [⟨a, sl⟩]) cells slots ∧ T'.heap = h' ∧ Wr h h' a sl v ∧ ∀ t, Steps p.tables e below (T'.setTop g') t → Steps p.tables e below (T.setTop g) t)
    (ha : Z.heap.size ≤ a) (hs : Safe Z EL vm h a)
    (k : ∀ h', Wr h h' a sl v → (∀ x, Safe Z EL vm h x → Safe Z EL vm h' x) → Run p l e R s m args below meth c Z nw EL K vm h' cells slots g') : Run p l e R s m args below meth c Z nw EL K vm h cells slots g := by
  intro T P
  obtain ⟨kk, locs, X, e1, e2, e3, e4, e5, e6, e7, e8⟩ := P
  obtain ⟨T', h', X', e1', W, hst⟩ := st T locs X e1 e6 ((e4.1.alike.findClass _ _).trans C.2.2.1)
  refine Ends.go hst (k h' W (fun x S => Safe.wr W hs e7.1.1 S) T' ⟨kk, _, X', e1', Fr.snoc X' e2 ha, Ext.wr' e3 W ha, e4, ?_, e6, e7.trans (CHs.wr W hs e7.1.1), e8⟩)
  rw [W.size]; exact e5
theorem Run.grow (C : Cx p s m meth c Z a0 EL own B n nm ret) {g g' : JFrame} {nn : Nat} {F : Heap → Prop}
    (st : ∀ T locs, Stand p l e R (s.setVm vm) m args below meth c T locs cells slots → T.heap = h → Z.Warmed39 (s.setVm vm).vm → (s.setVm vm).vm.findClass own = some m.cls → ∃ T' h', Stand p l e R (s.setVm vm) m args below meth c T' locs (cells + 1) (slots + nn) ∧ T'.heap = h' ∧ Ext h h' ∧ F h' ∧ ∀ t, Steps p.tables e below (T'.setTop g') t → Steps p.tables e below (T.setTop g) t)
    (k : ∀ h', Ext h h' → F h' → CHv Z EL vm h → (∀ x, Safe Z EL vm h x → Safe Z EL vm h' x) → Run p l e R s m args below meth c Z nw EL K vm h' (cells + 1) (slots + nn) g') : Run p l e R s m args below meth c Z nw EL K vm h cells slots g := by
  intro T P
  obtain ⟨kk, locs, X, e1, e2, e3, e4, e5, e6, e7, e8⟩ := P
  obtain ⟨T', h', X', e1', E, hF, hst⟩ := st T locs X e1 e6 ((e4.1.alike.findClass _ _).trans C.2.2.1)
  exact Ends.go hst (k h' E hF e7.1.1 (fun x S => Safe.ext E e7.1.1 S) T' ⟨kk, _, X', e1', e2, Ext.tr e3 E, e4, Nat.le_trans e5 E.1, e6, e7.trans (CHs.ext E e7.1.1), e8⟩)
/-- a bound on what was made may grow -/
theorem Run.more {g : JFrame} {cells' slots' : Nat} (hc : cells ≤ cells') (hs : slots ≤ slots') (k : Run p l e R s m args below meth c Z nw EL K vm h cells' slots' g) : Run p l e R s m args below meth c Z nw EL K vm h cells slots g := by
  intro T P
  obtain ⟨kk, locs, X, r⟩ := P
  exact k T ⟨kk, locs, X.more hc hs, r⟩
/-- the end of a body -/
theorem Run.out (C : Cx p s m meth c Z a0 EL own B n nm ret) {rm : Room} {Q : Option Value → Heap → Prop} {v : Option Value} {g : JFrame} (hv : ret = none → v = none) (hQ : Q v h) (hc : cells ≤ rm.cells) (hs : slots ≤ rm.slots)
    (st : ∀ T locs, Stand p l e R (s.setVm vm) m args below meth c T locs cells slots → ∀ fs : List Frame, (∀ (f : JFrame) (acts : List Action), f.method = m → f.locked = none → f.entered = [] → (doReturn e (T.setTop f) acts v).1 = T.setFrames fs) → Steps p.tables e below (T.setTop g) (T.setFrames fs)) :
    Run p l e R s m args below meth c Z nw EL (Kf s Z nw EL rm Q) vm h cells slots g := by
  intro T P
  obtain ⟨kk, locs, X, e1, e2, e3, e4, e5, e6, e7, e8⟩ := P
  obtain ⟨fs, hr, hrun, hended, hW⟩ := X.leaveW e4 (by rw [e1]; exact e5) (v := v) (fun q => hv (C.2.2.2.2.2.2.1.symm.trans q)) C.2.2.2.2.1
  refine ⟨_, _, st T locs X fs hr, hrun, hended, v, locs, rfl, ?_, e2, ?_, ?_, rew_mono hW hc hs, fun z => State.WarmedH.trans (t := s.setVm vm) (e8 z) X.warmed⟩
  · show Q v T.heap
    rw [e1]; exact hQ
  · show Ext Z.heap T.heap
    rw [e1]; exact e3
  · show CHs nw Z EL s.vm s.heap T.vm T.heap
    rw [e1]
    exact e7.trans (CHs.of (CHv.at X e6 C.2.2.2.2.2.2.2 e7.1.1))
/-- a body's walk gives its contract; the entry's heap named -/
theorem Met.mkH {y : MethodName} {rm : Room} {as : Array Value} {sf : List Addr} {Q : Option Value → Heap → Prop} (hw : EW Z a0 EL) (hpn : plainFor y = true)
    (body : ∀ (p : Program) (e : Env) (s : State) (m : MethodId) (below : List Frame) (meth : Method) (c : Code), Cx p s m meth c Z a0 EL y.cls B n y.name ret → s.heap = h → Ext Z.heap h → (∀ x ∈ sf, Safe Z EL s.vm h x) →
      Run p l e rm s m as below meth c Z nw EL (Kf s Z nw EL rm Q) s.vm h 0 0 (entryFrame m as n)) : Met l Z nw EL y B n ret rm as h sf Q := by
  intro ws
  refine MetFree.of_bodySF hpn hisR ?_
  intro p e s m args below meth c s₁ Bd hml0 hP hK
  obtain ⟨rfl, hZ, hh, hC, hE, hS⟩ := hP
  have X0 : Stand p l e rm s m args below meth c s₁ [] 0 0 := Stand.of_body Bd
  have e0 : s₁.heap = h := by rw [← hh, Bd.state]; rfl
  have hlk : meth.locks = false := BodyLoose.notSynchronized Bd
  have C : Cx p s m meth c Z a0 EL y.cls B n y.name ret := ⟨Bd.exec, Bd.bytes, findClass_of_methodNamed Bd.named, hml0, hlk, (name_of_methodNamed Bd.named Bd.method).1, Bd.returns, hw⟩
  exact body p e s m below meth c C hh hE hS s₁ ⟨h.size, [], X0, e0, Fr.nil _, hE, (State.WarmedH.refl s).since _, Nat.le_refl _, hZ, by rw [hh]; exact CHs.refl hC, fun _ => State.WarmedH.refl s⟩
/-- a body's walk gives its contract -/
theorem Met.mk {y : MethodName} {rm : Room} {as : Array Value} {sf : List Addr} {Q : Option Value → Heap → Prop} (hw : EW Z a0 EL) (hpn : plainName y.cls = true)
    (body : ∀ (p : Program) (e : Env) (s : State) (m : MethodId) (below : List Frame) (meth : Method) (c : Code), Cx p s m meth c Z a0 EL y.cls B n y.name ret → Ext Z.heap h → (∀ x ∈ sf, Safe Z EL s.vm h x) →
      Run p l e rm s m as below meth c Z nw EL (Kf s Z nw EL rm Q) s.vm h 0 0 (entryFrame m as n)) : Met l Z nw EL y B n ret rm as h sf Q :=
  Met.mkH hw (plainFor_of_name hpn) fun p e s m below meth c C _ hE hS => body p e s m below meth c C hE hS
theorem backM {y : MethodName} {B' : ByteArray} {n' : Nat} {ret' : Option FieldType} {rm : Room} {len W : Nat} {as : Array Value} {sf : List Addr} {Q : Option Value → Heap → Prop} (M : Met l Z nw EL y B' n' ret' rm as h sf Q)
    (hZ : Z.Warmed39 vm) (wc : (Cond.code y B' n' ret').before a0 Z = true) (wz : (Cond.initialized y.cls).before a0 Z = true) (hf : rm.frames + 1 ≤ R.frames) (hl : W + (n' + 11) + rm.locals ≤ R.locals) (hEL : EW Z a0 EL) (H : CHv Z EL vm h) (hE : Ext Z.heap h) (hsf : ∀ x ∈ sf, Safe Z EL vm h x) :
    BackS l R p e below (s.setVm vm) args y len W (fun A a => a = as ∧ A.U.heap = h ∧ A.cells + rm.cells ≤ R.cells ∧ A.slots + rm.slots ≤ R.slots)
      (fun A _ v Bp => ∃ L, Q v Bp.U.heap ∧ Fr Z.heap.size L ∧ Ext Z.heap Bp.U.heap ∧ Bp.locs = A.locs ++ L ∧ Bp.cells = A.cells + rm.cells ∧ Bp.slots = A.slots + rm.slots ∧ CHs nw Z EL vm h Bp.U.vm Bp.U.heap ∧ (nw → (s.setVm vm).WarmedH Bp.U.vm)) :=
  BackS.of_freeW (bytes := B') (maxL := n') (ret := ret') (E := fun _ first o t L k n => k = rm.cells ∧ n = rm.slots ∧ (∃ v, o = .returned v ∧ Q v t.heap) ∧ Fr Z.heap.size L ∧ Ext Z.heap t.heap ∧ CHs nw Z EL first.vm first.heap t.vm t.heap ∧ (nw → first.WarmedH t.vm)) (M []) hf hl
    (fun m meth c A a Y hp => have hU : Z.Warmed39 A.U.vm := wtrans (s := s.setVm vm) hZ Y.warmed
      ⟨by show (Cond.and _ .tt).before a A.U = true; rw [Cond.before_and, mv hU wc]; rfl, mv hU wc, mv hU wz, hp.2.2.1, hp.2.2.2⟩)
    (fun m meth c A a g mk Y hp => by
      have q := CHv.at Y hZ hEL H
      exact ⟨hp.1, wtrans (s := s.setVm vm) hZ Y.warmed, hp.2.1, q.1, hE, fun x hx => (Nat.lt_or_ge x h.size).elim (fun z => CHr.safe q z (hsf x hx)) (fun z => Safe.new z)⟩) (fun _ _ _ _ _ _ _ _ _ => trivial)
    (fun _ _ _ _ ⟨v, L, h1, h2, h3, h4, h5, h6, h7⟩ => ⟨L, _, _, h6, rfl, rfl, ⟨v, h1, h2⟩, h3, h4, h5, h7⟩)
    (fun m meth c A a g mk v t L k n Y hp _ _ ⟨e1, e2, ⟨v', e3, e4⟩, e5, e6, e7, e8⟩ => by
      cases e3; subst e1 e2
      refine ⟨L, e4, e5, e6, rfl, rfl, rfl, (CHs.of (CHv.at Y hZ hEL H)).trans ?_, fun z => State.WarmedH.trans (t := A.U.calling g mk a) Y.warmed (e8 z)⟩
      rw [← hp.2.1]; exact e7)
/-- behind any call of a contract -/
theorem Run.back (C : Cx p s m meth c Z a0 EL own B n nm ret) {nw' : Prop} (hnn : nw → nw') {g : JFrame} {q : Nat} {rm : Room} {Q : Option Value → Heap → Prop} {g' : Option Value → JFrame}
    (st : ∀ k T locs, Stand p l e R (s.setVm vm) m args below meth c T locs cells slots → T.heap = h → Z.Warmed39 vm → (s.setVm vm).vm.findClass own = some m.cls → CHv Z EL vm h → Ext Z.heap h → s.Since vm k → k ≤ h.size →
      ∃ (v : Option Value) (Bp : Pt), Stand p l e R (s.setVm Bp.U.vm) m args below meth c Bp.U Bp.locs Bp.cells Bp.slots ∧ (s.setVm vm).Since Bp.U.vm Bp.U.heap.size ∧ T.heap.size ≤ Bp.U.heap.size ∧ (∃ L, Q v Bp.U.heap ∧ Fr Z.heap.size L ∧ Ext Z.heap Bp.U.heap ∧ Bp.locs = locs ++ L ∧ Bp.cells = cells + rm.cells ∧ Bp.slots = slots + rm.slots ∧ CHs nw' Z EL vm h Bp.U.vm Bp.U.heap ∧ (nw' → (s.setVm vm).WarmedH Bp.U.vm)) ∧
        Steps p.tables e below (T.setTop g) (Bp.U.setTop (g' v)))
    (k : ∀ v vm' h', Q v h' → h.size ≤ h'.size → (∀ x, x < h.size → Safe Z EL vm h x → Safe Z EL vm' h' x) → (nw' → ∀ x, h.size ≤ x → Safe Z EL vm' h' x) → Run p l e R s m args below meth c Z nw EL K vm' h' (cells + rm.cells) (slots + rm.slots) (g' v)) :
    Run p l e R s m args below meth c Z nw EL K vm h cells slots g := by
  intro T P
  obtain ⟨kk, locs, X, e1, e2, e3, e4, e5, e6, e7, e8⟩ := P
  obtain ⟨v, Bp, X', hS, hg, ⟨L, hQ, hFr, hE, l1, l2, l3, hC, hN⟩, hst⟩ := st kk T locs X e1 e6 ((e4.1.alike.findClass _ _).trans C.2.2.1) e7.1.1 e3 e4 e5
  obtain ⟨U, ls, c1, s1⟩ := Bp
  dsimp only [Pt.U, Pt.locs, Pt.cells, Pt.slots] at X' hS hg hQ hE l1 l2 l3 hC hN hst
  subst l1 l2 l3
  have hk : kk ≤ T.heap.size := by rw [e1]; exact e5
  refine Ends.go (fun t z => hst.trans z) (k v U.vm U.heap hQ (by rw [← e1]; exact hg) (fun x hx S => CHr.safe hC.1 hx S) (fun z x hx => hC.fresh z hx) U ⟨U.heap.size, _, X', rfl, Fr.app e2 hFr, hE, e4.trans hS (Nat.le_trans hk hg), Nat.le_refl _, State.Warmed39.trans (t := s.setVm vm) e6 hS.1, e7.trans (hC.mono hnn), fun z => State.WarmedH.trans (t := s.setVm vm) (e8 z) (hN (hnn z))⟩)
end Body
theorem Met.room {l : Launch} {Z : State} {nw : Prop} {EL : List (String × Nat)} {y : MethodName} {B : ByteArray} {n : Nat} {ret : Option FieldType} {rm rm' : Room} {as : Array Value} {h : Heap} {sf : List Addr} {Q : Option Value → Heap → Prop} (M : Met l Z nw EL y B n ret rm as h sf Q) (h1 : rm.frames ≤ rm'.frames) (h2 : rm.cells ≤ rm'.cells) (h3 : rm.slots ≤ rm'.slots) (h4 : rm.locals ≤ rm'.locals) : Met l Z nw EL y B n ret rm' as h sf Q := by
  intro ws p e ha hc hk s m args below hf happ hP hK
  obtain ⟨a1, a2, a3, a4, a5, a6, a7, a8⟩ := (Spec.appliesLoose_iff hf).mp happ
  obtain ⟨k, o, b1, b2, b3, v, L, b4, b5, b6, b7, b8, b9, b10⟩ := M ws p e ha hc hk s m args below hf ((Spec.appliesLoose_iff hf).mpr ⟨a1, a2, a3, a4, a5, a6, hasRoom_mono h1 h4 h2 h3 a7, a8⟩) hP hK
  exact ⟨k, o, b1, b2, b3, v, L, b4, b5, b6, b7, b8, rew_mono b9 h2 h3, b10⟩
/-- what is promised may be weakened -/
theorem Met.imp {l : Launch} {Z : State} {nw : Prop} {EL : List (String × Nat)} {y : MethodName} {B : ByteArray} {n : Nat} {ret : Option FieldType} {rm : Room} {as : Array Value} {h : Heap} {sf : List Addr} {Q Q' : Option Value → Heap → Prop} (M : Met l Z nw EL y B n ret rm as h sf Q) (hq : ∀ v h', Q v h' → Q' v h') : Met l Z nw EL y B n ret rm as h sf Q' := by
  intro ws p e ha hc hk s m args below hf happ hP hK
  obtain ⟨k, o, b1, b2, b3, v, L, b4, b5, b6, b7, b8, b9, b10⟩ := M ws p e ha hc hk s m args below hf happ hP hK
  exact ⟨k, o, b1, b2, b3, v, L, b4, hq _ _ b5, b6, b7, b8, b9, b10⟩
section Steps
variable {p : Program} {l : Launch} {e : Env} {R : Room} {s : State} {m : MethodId} {args : Array Value} {below : List Frame} {meth : Method} {c : Code} {Z : State} {a0 : Array Value} {nw : Prop} {EL : List (String × Nat)} {K : State → Outcome → Prop} {vm : Vm} {h : Heap} {cells slots : Nat} {own nm : String} {B : ByteArray} {n : Nat} {ret : Option FieldType} {pc q tq : Nat} {L : List Slot} {r : List Value} {a : Addr}
theorem R_iadd (C : Cx p s m meth c Z a0 EL own B n nm ret) {x y : Int32} (hd : Dc B pc (.iadd) 1 q) 
    (k : Run p l e R s m args below meth c Z nw EL K vm h cells slots (fr m q L (.int (x + y) :: r))) : Run p l e R s m args below meth c Z nw EL K vm h cells slots (fr m pc L (.int y :: .int x :: r)) := by
  obtain ⟨hd, rfl⟩ := hd
  exact Run.plain (fun T A t st => XS.iadd A C.1 rfl (hb C.2.1 hd) rfl st) k
theorem R_isub (C : Cx p s m meth c Z a0 EL own B n nm ret) {x y : Int32} (hd : Dc B pc (.isub) 1 q) 
    (k : Run p l e R s m args below meth c Z nw EL K vm h cells slots (fr m q L (.int (x - y) :: r))) : Run p l e R s m args below meth c Z nw EL K vm h cells slots (fr m pc L (.int y :: .int x :: r)) := by
  obtain ⟨hd, rfl⟩ := hd
  exact Run.plain (fun T A t st => XS.isub A C.1 rfl (hb C.2.1 hd) rfl st) k
theorem R_imul (C : Cx p s m meth c Z a0 EL own B n nm ret) {x y : Int32} (hd : Dc B pc (.imul) 1 q) 
    (k : Run p l e R s m args below meth c Z nw EL K vm h cells slots (fr m q L (.int (x * y) :: r))) : Run p l e R s m args below meth c Z nw EL K vm h cells slots (fr m pc L (.int y :: .int x :: r)) := by
  obtain ⟨hd, rfl⟩ := hd
  exact Run.plain (fun T A t st => XS.imul A C.1 rfl (hb C.2.1 hd) rfl st) k
theorem R_iand (C : Cx p s m meth c Z a0 EL own B n nm ret) {x y : Int32} (hd : Dc B pc (.iand) 1 q) 
    (k : Run p l e R s m args below meth c Z nw EL K vm h cells slots (fr m q L (.int (x &&& y) :: r))) : Run p l e R s m args below meth c Z nw EL K vm h cells slots (fr m pc L (.int y :: .int x :: r)) := by
  obtain ⟨hd, rfl⟩ := hd
  exact Run.plain (fun T A t st => XS.iand A C.1 rfl (hb C.2.1 hd) rfl st) k
theorem R_ior (C : Cx p s m meth c Z a0 EL own B n nm ret) {x y : Int32} (hd : Dc B pc (.ior) 1 q) 
    (k : Run p l e R s m args below meth c Z nw EL K vm h cells slots (fr m q L (.int (x ||| y) :: r))) : Run p l e R s m args below meth c Z nw EL K vm h cells slots (fr m pc L (.int y :: .int x :: r)) := by
  obtain ⟨hd, rfl⟩ := hd
  exact Run.plain (fun T A t st => XT.ior A C.1 rfl (hb C.2.1 hd) rfl st) k
theorem R_ixor (C : Cx p s m meth c Z a0 EL own B n nm ret) {x y : Int32} (hd : Dc B pc (.ixor) 1 q) 
    (k : Run p l e R s m args below meth c Z nw EL K vm h cells slots (fr m q L (.int (x ^^^ y) :: r))) : Run p l e R s m args below meth c Z nw EL K vm h cells slots (fr m pc L (.int y :: .int x :: r)) := by
  obtain ⟨hd, rfl⟩ := hd
  exact Run.plain (fun T A t st => XT.ixor A C.1 rfl (hb C.2.1 hd) rfl st) k
theorem R_ishl (C : Cx p s m meth c Z a0 EL own B n nm ret) {x y : Int32} (hd : Dc B pc (.ishl) 1 q) 
    (k : Run p l e R s m args below meth c Z nw EL K vm h cells slots (fr m q L (.int (x <<< (y &&& 31)) :: r))) : Run p l e R s m args below meth c Z nw EL K vm h cells slots (fr m pc L (.int y :: .int x :: r)) := by
  obtain ⟨hd, rfl⟩ := hd
  exact Run.plain (fun T A t st => XT.ishl A C.1 rfl (hb C.2.1 hd) rfl st) k
theorem R_ishr (C : Cx p s m meth c Z a0 EL own B n nm ret) {x y : Int32} (hd : Dc B pc (.ishr) 1 q) 
    (k : Run p l e R s m args below meth c Z nw EL K vm h cells slots (fr m q L (.int (x >>> (y &&& 31)) :: r))) : Run p l e R s m args below meth c Z nw EL K vm h cells slots (fr m pc L (.int y :: .int x :: r)) := by
  obtain ⟨hd, rfl⟩ := hd
  exact Run.plain (fun T A t st => XT.ishr A C.1 rfl (hb C.2.1 hd) rfl st) k
theorem R_iushr (C : Cx p s m meth c Z a0 EL own B n nm ret) {x y : Int32} (hd : Dc B pc (.iushr) 1 q) 
    (k : Run p l e R s m args below meth c Z nw EL K vm h cells slots (fr m q L (.int (XT.ushr x y) :: r))) : Run p l e R s m args below meth c Z nw EL K vm h cells slots (fr m pc L (.int y :: .int x :: r)) := by
  obtain ⟨hd, rfl⟩ := hd
  exact Run.plain (fun T A t st => XT.iushr A C.1 rfl (hb C.2.1 hd) rfl st) k
theorem R_ineg (C : Cx p s m meth c Z a0 EL own B n nm ret) {x : Int32} (hd : Dc B pc (.ineg) 1 q) 
    (k : Run p l e R s m args below meth c Z nw EL K vm h cells slots (fr m q L (.int (-x) :: r))) : Run p l e R s m args below meth c Z nw EL K vm h cells slots (fr m pc L (.int x :: r)) := by
  obtain ⟨hd, rfl⟩ := hd
  exact Run.plain (fun T A t st => XS.ineg A C.1 rfl (hb C.2.1 hd) rfl st) k
theorem R_idiv (C : Cx p s m meth c Z a0 EL own B n nm ret) {x y : Int32} (hd : Dc B pc (.idiv) 1 q) (hy : y ≠ 0)
    (k : Run p l e R s m args below meth c Z nw EL K vm h cells slots (fr m q L (.int (x / y) :: r))) : Run p l e R s m args below meth c Z nw EL K vm h cells slots (fr m pc L (.int y :: .int x :: r)) := by
  obtain ⟨hd, rfl⟩ := hd
  exact Run.plain (fun T A t st => XS.idiv A C.1 rfl (hb C.2.1 hd) rfl hy st) k
theorem R_irem (C : Cx p s m meth c Z a0 EL own B n nm ret) {x y : Int32} (hd : Dc B pc (.irem) 1 q) (hy : y ≠ 0)
    (k : Run p l e R s m args below meth c Z nw EL K vm h cells slots (fr m q L (.int (x % y) :: r))) : Run p l e R s m args below meth c Z nw EL K vm h cells slots (fr m pc L (.int y :: .int x :: r)) := by
  obtain ⟨hd, rfl⟩ := hd
  refine Run.plain (fun T A t st => XS.irem A C.1 rfl (hb C.2.1 hd) rfl hy ?_) k
  have q : x - x / y * y = x % y := irem_eq_mod x y
  rw [q]; exact st
theorem R_ladd (C : Cx p s m meth c Z a0 EL own B n nm ret) {x y : Int64} (hd : Dc B pc (.ladd) 1 q) 
    (k : Run p l e R s m args below meth c Z nw EL K vm h cells slots (fr m q L (.long (x + y) :: r))) : Run p l e R s m args below meth c Z nw EL K vm h cells slots (fr m pc L (.long y :: .long x :: r)) := by
  obtain ⟨hd, rfl⟩ := hd
  exact Run.plain (fun T A t st => XT.ladd A C.1 rfl (hb C.2.1 hd) rfl st) k
theorem R_lsub (C : Cx p s m meth c Z a0 EL own B n nm ret) {x y : Int64} (hd : Dc B pc (.lsub) 1 q) 
    (k : Run p l e R s m args below meth c Z nw EL K vm h cells slots (fr m q L (.long (x - y) :: r))) : Run p l e R s m args below meth c Z nw EL K vm h cells slots (fr m pc L (.long y :: .long x :: r)) := by
  obtain ⟨hd, rfl⟩ := hd
  exact Run.plain (fun T A t st => XT.lsub A C.1 rfl (hb C.2.1 hd) rfl st) k
theorem R_lmul (C : Cx p s m meth c Z a0 EL own B n nm ret) {x y : Int64} (hd : Dc B pc (.lmul) 1 q) 
    (k : Run p l e R s m args below meth c Z nw EL K vm h cells slots (fr m q L (.long (x * y) :: r))) : Run p l e R s m args below meth c Z nw EL K vm h cells slots (fr m pc L (.long y :: .long x :: r)) := by
  obtain ⟨hd, rfl⟩ := hd
  exact Run.plain (fun T A t st => XT.lmul A C.1 rfl (hb C.2.1 hd) rfl st) k
theorem R_land (C : Cx p s m meth c Z a0 EL own B n nm ret) {x y : Int64} (hd : Dc B pc (.land) 1 q) 
    (k : Run p l e R s m args below meth c Z nw EL K vm h cells slots (fr m q L (.long (x &&& y) :: r))) : Run p l e R s m args below meth c Z nw EL K vm h cells slots (fr m pc L (.long y :: .long x :: r)) := by
  obtain ⟨hd, rfl⟩ := hd
  exact Run.plain (fun T A t st => XT.land A C.1 rfl (hb C.2.1 hd) rfl st) k
theorem R_lor (C : Cx p s m meth c Z a0 EL own B n nm ret) {x y : Int64} (hd : Dc B pc (.lor) 1 q) 
    (k : Run p l e R s m args below meth c Z nw EL K vm h cells slots (fr m q L (.long (x ||| y) :: r))) : Run p l e R s m args below meth c Z nw EL K vm h cells slots (fr m pc L (.long y :: .long x :: r)) := by
  obtain ⟨hd, rfl⟩ := hd
  exact Run.plain (fun T A t st => XT.lor A C.1 rfl (hb C.2.1 hd) rfl st) k
theorem R_lxor (C : Cx p s m meth c Z a0 EL own B n nm ret) {x y : Int64} (hd : Dc B pc (.lxor) 1 q) 
    (k : Run p l e R s m args below meth c Z nw EL K vm h cells slots (fr m q L (.long (x ^^^ y) :: r))) : Run p l e R s m args below meth c Z nw EL K vm h cells slots (fr m pc L (.long y :: .long x :: r)) := by
  obtain ⟨hd, rfl⟩ := hd
  exact Run.plain (fun T A t st => XT.lxor A C.1 rfl (hb C.2.1 hd) rfl st) k
theorem R_lushr (C : Cx p s m meth c Z a0 EL own B n nm ret) {x : Int64} {y : Int32} (hd : Dc B pc (.lushr) 1 q) 
    (k : Run p l e R s m args below meth c Z nw EL K vm h cells slots (fr m q L (.long (XT.ushrL x y) :: r))) : Run p l e R s m args below meth c Z nw EL K vm h cells slots (fr m pc L (.int y :: .long x :: r)) := by
  obtain ⟨hd, rfl⟩ := hd
  exact Run.plain (fun T A t st => XT.lushr A C.1 rfl (hb C.2.1 hd) rfl st) k
theorem R_lcmp (C : Cx p s m meth c Z a0 EL own B n nm ret) {x y : Int64} (hd : Dc B pc (.lcmp) 1 q) 
    (k : Run p l e R s m args below meth c Z nw EL K vm h cells slots (fr m q L (.int (XT.cmpL x y) :: r))) : Run p l e R s m args below meth c Z nw EL K vm h cells slots (fr m pc L (.long y :: .long x :: r)) := by
  obtain ⟨hd, rfl⟩ := hd
  exact Run.plain (fun T A t st => XT.lcmp A C.1 rfl (hb C.2.1 hd) rfl st) k
theorem R_i2l (C : Cx p s m meth c Z a0 EL own B n nm ret) {x : Int32} (hd : Dc B pc (.i2l) 1 q) 
    (k : Run p l e R s m args below meth c Z nw EL K vm h cells slots (fr m q L (.long x.toInt64 :: r))) : Run p l e R s m args below meth c Z nw EL K vm h cells slots (fr m pc L (.int x :: r)) := by
  obtain ⟨hd, rfl⟩ := hd
  exact Run.plain (fun T A t st => XT.i2l A C.1 rfl (hb C.2.1 hd) rfl st) k
theorem R_l2i (C : Cx p s m meth c Z a0 EL own B n nm ret) {x : Int64} (hd : Dc B pc (.l2i) 1 q) 
    (k : Run p l e R s m args below meth c Z nw EL K vm h cells slots (fr m q L (.int x.toInt32 :: r))) : Run p l e R s m args below meth c Z nw EL K vm h cells slots (fr m pc L (.long x :: r)) := by
  obtain ⟨hd, rfl⟩ := hd
  exact Run.plain (fun T A t st => XT.l2i A C.1 rfl (hb C.2.1 hd) rfl st) k
theorem R_i2b (C : Cx p s m meth c Z a0 EL own B n nm ret) {x : Int32} (hd : Dc B pc (.i2b) 1 q) 
    (k : Run p l e R s m args below meth c Z nw EL K vm h cells slots (fr m q L (.int x.toInt8.toInt32 :: r))) : Run p l e R s m args below meth c Z nw EL K vm h cells slots (fr m pc L (.int x :: r)) := by
  obtain ⟨hd, rfl⟩ := hd
  exact Run.plain (fun T A t st => XT.i2b A C.1 rfl (hb C.2.1 hd) rfl st) k
theorem R_i2c (C : Cx p s m meth c Z a0 EL own B n nm ret) {x : Int32} (hd : Dc B pc (.i2c) 1 q) 
    (k : Run p l e R s m args below meth c Z nw EL K vm h cells slots (fr m q L (.int (nar .char x) :: r))) : Run p l e R s m args below meth c Z nw EL K vm h cells slots (fr m pc L (.int x :: r)) := by
  obtain ⟨hd, rfl⟩ := hd
  exact Run.plain (fun T A t st => XT.i2c A C.1 rfl (hb C.2.1 hd) rfl st) k
theorem R_dup (C : Cx p s m meth c Z a0 EL own B n nm ret) {v : Value} (hd : Dc B pc (.dup) 1 q) (hc : v.category = 1)
    (k : Run p l e R s m args below meth c Z nw EL K vm h cells slots (fr m q L (v :: v :: r))) : Run p l e R s m args below meth c Z nw EL K vm h cells slots (fr m pc L (v :: r)) := by
  obtain ⟨hd, rfl⟩ := hd
  exact Run.plain (fun T A t st => XS.dup A C.1 rfl (hb C.2.1 hd) rfl hc st) k
theorem R_pop (C : Cx p s m meth c Z a0 EL own B n nm ret) {v : Value} (hd : Dc B pc (.pop) 1 q) (hc : v.category = 1)
    (k : Run p l e R s m args below meth c Z nw EL K vm h cells slots (fr m q L (r))) : Run p l e R s m args below meth c Z nw EL K vm h cells slots (fr m pc L (v :: r)) := by
  obtain ⟨hd, rfl⟩ := hd
  exact Run.plain (fun T A t st => XT.pop A C.1 rfl (hb C.2.1 hd) rfl hc st) k
theorem R_dup_x1 (C : Cx p s m meth c Z a0 EL own B n nm ret) {v w : Value} (hd : Dc B pc (.dup_x1) 1 q) (hc : v.category = 1) (hc' : w.category = 1)
    (k : Run p l e R s m args below meth c Z nw EL K vm h cells slots (fr m q L (v :: w :: v :: r))) : Run p l e R s m args below meth c Z nw EL K vm h cells slots (fr m pc L (v :: w :: r)) := by
  obtain ⟨hd, rfl⟩ := hd
  exact Run.plain (fun T A t st => XT.dupX1 A C.1 rfl (hb C.2.1 hd) rfl hc hc' st) k
theorem R_dup2 (C : Cx p s m meth c Z a0 EL own B n nm ret) {v w : Value} (hd : Dc B pc (.dup2) 1 q) (hc : v.category = 1) (hc' : w.category = 1)
    (k : Run p l e R s m args below meth c Z nw EL K vm h cells slots (fr m q L (v :: w :: v :: w :: r))) : Run p l e R s m args below meth c Z nw EL K vm h cells slots (fr m pc L (v :: w :: r)) := by
  obtain ⟨hd, rfl⟩ := hd
  exact Run.plain (fun T A t st => XT.dup2 A C.1 rfl (hb C.2.1 hd) rfl hc hc' st) k
theorem R_aconst_null (C : Cx p s m meth c Z a0 EL own B n nm ret)  (hd : Dc B pc (.aconst_null) 1 q) 
    (k : Run p l e R s m args below meth c Z nw EL K vm h cells slots (fr m q L (.null :: r))) : Run p l e R s m args below meth c Z nw EL K vm h cells slots (fr m pc L (r)) := by
  obtain ⟨hd, rfl⟩ := hd
  exact Run.plain (fun T A t st => XS.aconstNull A C.1 rfl (hb C.2.1 hd)  st) k
theorem R_iconst (C : Cx p s m meth c Z a0 EL own B n nm ret) {i : Int} {v : Int32} (hd : Dc B pc (.iconst i) 1 q) (hv : Int32.ofInt i = v)
    (k : Run p l e R s m args below meth c Z nw EL K vm h cells slots (fr m q L (.int v :: r))) : Run p l e R s m args below meth c Z nw EL K vm h cells slots (fr m pc L r) := by
  obtain ⟨hd, rfl⟩ := hd
  subst hv
  exact Run.plain (fun T A t st => XS.iconst A C.1 rfl (hb C.2.1 hd) st) k
theorem R_bipush (C : Cx p s m meth c Z a0 EL own B n nm ret) {i : Int} {v : Int32} (hd : Dc B pc (.bipush i) 2 q) (hv : (Int8.ofInt i).toInt32 = v)
    (k : Run p l e R s m args below meth c Z nw EL K vm h cells slots (fr m q L (.int v :: r))) : Run p l e R s m args below meth c Z nw EL K vm h cells slots (fr m pc L r) := by
  obtain ⟨hd, rfl⟩ := hd
  subst hv
  exact Run.plain (fun T A t st => XS.bipush A C.1 rfl (hb C.2.1 hd) st) k
theorem R_sipush (C : Cx p s m meth c Z a0 EL own B n nm ret) {i : Int} {v : Int32} (hd : Dc B pc (.sipush i) 3 q) (hv : (Int16.ofInt i).toInt32 = v)
    (k : Run p l e R s m args below meth c Z nw EL K vm h cells slots (fr m q L (.int v :: r))) : Run p l e R s m args below meth c Z nw EL K vm h cells slots (fr m pc L r) := by
  obtain ⟨hd, rfl⟩ := hd
  subst hv
  exact Run.plain (fun T A t st => XS.sipush A C.1 rfl (hb C.2.1 hd) st) k
theorem R_lconst (C : Cx p s m meth c Z a0 EL own B n nm ret) {i : Fin 2} {v : Int64} (hd : Dc B pc (.lconst i) 1 q) (hv : Int64.ofNat i = v)
    (k : Run p l e R s m args below meth c Z nw EL K vm h cells slots (fr m q L (.long v :: r))) : Run p l e R s m args below meth c Z nw EL K vm h cells slots (fr m pc L r) := by
  obtain ⟨hd, rfl⟩ := hd
  subst hv
  exact Run.plain (fun T A t st => XT.lconst A C.1 rfl (hb C.2.1 hd) st) k
theorem lget {L : List Slot} {k : Nat} {x : Slot} (h : L[k]? = some x) : (⟨L⟩ : Array Slot)[k]? = some x := by simpa using h
theorem R_iload (C : Cx p s m meth c Z a0 EL own B n nm ret) {j : Nat} {v : Int32} (hd : Dc B pc (.iload j) 2 q) (hl : L[j]? = some (.val (.int v)))
    (k : Run p l e R s m args below meth c Z nw EL K vm h cells slots (fr m q L (.int v :: r))) : Run p l e R s m args below meth c Z nw EL K vm h cells slots (fr m pc L r) := by
  obtain ⟨hd, rfl⟩ := hd
  exact Run.plain (fun T A t st => XS.iload A C.1 rfl (hb C.2.1 hd) (lget hl) st) k
theorem R_iload_n (C : Cx p s m meth c Z a0 EL own B n nm ret) {j : Fin 4} {v : Int32} (hd : Dc B pc (.iload_n j) 1 q) (hl : L[j.val]? = some (.val (.int v)))
    (k : Run p l e R s m args below meth c Z nw EL K vm h cells slots (fr m q L (.int v :: r))) : Run p l e R s m args below meth c Z nw EL K vm h cells slots (fr m pc L r) := by
  obtain ⟨hd, rfl⟩ := hd
  exact Run.plain (fun T A t st => XS.iloadN A C.1 rfl (hb C.2.1 hd) (lget hl) st) k
theorem R_lload (C : Cx p s m meth c Z a0 EL own B n nm ret) {j : Nat} {v : Int64} (hd : Dc B pc (.lload j) 2 q) (hl : L[j]? = some (.val (.long v)))
    (k : Run p l e R s m args below meth c Z nw EL K vm h cells slots (fr m q L (.long v :: r))) : Run p l e R s m args below meth c Z nw EL K vm h cells slots (fr m pc L r) := by
  obtain ⟨hd, rfl⟩ := hd
  exact Run.plain (fun T A t st => XT.lload A C.1 rfl (hb C.2.1 hd) (lget hl) st) k
theorem R_lload_n (C : Cx p s m meth c Z a0 EL own B n nm ret) {j : Fin 4} {v : Int64} (hd : Dc B pc (.lload_n j) 1 q) (hl : L[j.val]? = some (.val (.long v)))
    (k : Run p l e R s m args below meth c Z nw EL K vm h cells slots (fr m q L (.long v :: r))) : Run p l e R s m args below meth c Z nw EL K vm h cells slots (fr m pc L r) := by
  obtain ⟨hd, rfl⟩ := hd
  exact Run.plain (fun T A t st => XT.lloadN A C.1 rfl (hb C.2.1 hd) (lget hl) st) k
theorem R_aload (C : Cx p s m meth c Z a0 EL own B n nm ret) {j : Nat} {v : Value} (hd : Dc B pc (.aload j) 2 q) (hl : L[j]? = some (.val v)) (hv : v.isRef = true)
    (k : Run p l e R s m args below meth c Z nw EL K vm h cells slots (fr m q L (v :: r))) : Run p l e R s m args below meth c Z nw EL K vm h cells slots (fr m pc L r) := by
  obtain ⟨hd, rfl⟩ := hd
  exact Run.plain (fun T A t st => XS.aload A C.1 rfl (hb C.2.1 hd) (lget hl) hv st) k
theorem R_aload_n (C : Cx p s m meth c Z a0 EL own B n nm ret) {j : Fin 4} {v : Value} (hd : Dc B pc (.aload_n j) 1 q) (hl : L[j.val]? = some (.val v)) (hv : v.isRef = true)
    (k : Run p l e R s m args below meth c Z nw EL K vm h cells slots (fr m q L (v :: r))) : Run p l e R s m args below meth c Z nw EL K vm h cells slots (fr m pc L r) := by
  obtain ⟨hd, rfl⟩ := hd
  exact Run.plain (fun T A t st => XS.aloadN A C.1 rfl (hb C.2.1 hd) (lget hl) hv st) k
theorem notin1 {x a : Nat} (h : x < a) : x ∉ [a] := fun z => Nat.lt_irrefl _ ((List.mem_singleton.mp z) ▸ h)
theorem notin2 {x a b : Nat} (h1 : x < a) (h2 : x < b) : x ∉ [a, b] := fun z => by
  rcases List.mem_cons.mp z with z | z
  · rw [z] at h1; exact Nat.lt_irrefl _ h1
  · exact notin1 h2 z
theorem cat_int (x : Int32) : (Value.int x).category = 1 := rfl
theorem cat_rf (x : Addr) : (Value.ref x).category = 1 := rfl
theorem cat_lng (x : Int64) : (Value.long x).category = 2 := rfl
theorem fv0 : ((0 : Fin 4) : Nat) = 0 := rfl
theorem fv1 : ((1 : Fin 4) : Nat) = 1 := rfl
theorem fv2 : ((2 : Fin 4) : Nat) = 2 := rfl
theorem fv3 : ((3 : Fin 4) : Nat) = 3 := rfl
def okSlot (x : Slot) : Bool := match x with | .unset => true | .val v => v.category == 1 | .second => false
def okS (L : List Slot) (k : Nat) : Bool := match L[k]? with | some x => okSlot x | none => false
theorem okS_store {L : List Slot} {k : Nat} {v : Value} (h : okS L k = true) (hv : v.category = 1) : storeLocals ⟨L⟩ k v = some ⟨L.set k (.val v)⟩ := by
  have q : (⟨L⟩ : Array Slot).setIfInBounds k (.val v) = ⟨L.set k (.val v)⟩ := by simp
  rw [← q]
  unfold okS at h
  cases e : L[k]? with
  | none => rw [e] at h; cases h
  | some x =>
    rw [e] at h
    cases x with
    | unset => exact XS.store1 (lget e) (Or.inl rfl) hv
    | second => cases h
    | val w => exact XS.store1 (lget e) (Or.inr ⟨w, rfl, by simpa [okSlot] using h⟩) hv
theorem R_istore (C : Cx p s m meth c Z a0 EL own B n nm ret) {j : Nat} {v : Int32} (hd : Dc B pc (.istore j) 2 q) (hl : okS L j = true)
    (k : Run p l e R s m args below meth c Z nw EL K vm h cells slots (fr m q (L.set j (.val (.int v))) r)) : Run p l e R s m args below meth c Z nw EL K vm h cells slots (fr m pc L (.int v :: r)) := by
  obtain ⟨hd, rfl⟩ := hd
  exact Run.plain (fun T A t st => XS.istore A C.1 rfl (hb C.2.1 hd) rfl (okS_store hl rfl) st) k
theorem R_istore_n (C : Cx p s m meth c Z a0 EL own B n nm ret) {j : Fin 4} {v : Int32} (hd : Dc B pc (.istore_n j) 1 q) (hl : okS L j.val = true)
    (k : Run p l e R s m args below meth c Z nw EL K vm h cells slots (fr m q (L.set j.val (.val (.int v))) r)) : Run p l e R s m args below meth c Z nw EL K vm h cells slots (fr m pc L (.int v :: r)) := by
  obtain ⟨hd, rfl⟩ := hd
  exact Run.plain (fun T A t st => XS.istoreN A C.1 rfl (hb C.2.1 hd) rfl (okS_store hl rfl) st) k
theorem R_astore (C : Cx p s m meth c Z a0 EL own B n nm ret) {j : Nat} {v : Value} (hd : Dc B pc (.astore j) 2 q) (hv : v.isRef = true) (hc : v.category = 1) (hl : okS L j = true)
    (k : Run p l e R s m args below meth c Z nw EL K vm h cells slots (fr m q (L.set j (.val v)) r)) : Run p l e R s m args below meth c Z nw EL K vm h cells slots (fr m pc L (v :: r)) := by
  obtain ⟨hd, rfl⟩ := hd
  exact Run.plain (fun T A t st => XS.astore A C.1 rfl (hb C.2.1 hd) rfl hv (okS_store hl hc) st) k
theorem R_astore_n (C : Cx p s m meth c Z a0 EL own B n nm ret) {j : Fin 4} {v : Value} (hd : Dc B pc (.astore_n j) 1 q) (hv : v.isRef = true) (hc : v.category = 1) (hl : okS L j.val = true)
    (k : Run p l e R s m args below meth c Z nw EL K vm h cells slots (fr m q (L.set j.val (.val v)) r)) : Run p l e R s m args below meth c Z nw EL K vm h cells slots (fr m pc L (v :: r)) := by
  obtain ⟨hd, rfl⟩ := hd
  exact Run.plain (fun T A t st => XS.astoreN A C.1 rfl (hb C.2.1 hd) rfl hv (okS_store hl hc) st) k
theorem R_lstore (C : Cx p s m meth c Z a0 EL own B n nm ret) {j : Nat} {v : Int64} {L' : List Slot} (hd : Dc B pc (.lstore j) 2 q) (hl : storeLocals ⟨L⟩ j (.long v) = some ⟨L'⟩)
    (k : Run p l e R s m args below meth c Z nw EL K vm h cells slots (fr m q L' r)) : Run p l e R s m args below meth c Z nw EL K vm h cells slots (fr m pc L (.long v :: r)) := by
  obtain ⟨hd, rfl⟩ := hd
  exact Run.plain (fun T A t st => XT.lstore A C.1 rfl (hb C.2.1 hd) rfl hl st) k
theorem R_iinc (C : Cx p s m meth c Z a0 EL own B n nm ret) {j : Nat} {d : Int} {v w dI : Int32} (hd : Dc B pc (.iinc j d) 3 q) (hl : L[j]? = some (.val (.int v))) (ho : okS L j = true) (hdI : Int32.ofInt d = dI) (hw : v + dI = w)
    (k : Run p l e R s m args below meth c Z nw EL K vm h cells slots (fr m q (L.set j (.val (.int w))) r)) : Run p l e R s m args below meth c Z nw EL K vm h cells slots (fr m pc L r) := by
  obtain ⟨hd, rfl⟩ := hd
  subst hdI hw
  exact Run.plain (fun T A t st => XS.iinc A C.1 rfl (hb C.2.1 hd) (lget hl) (okS_store ho rfl) st) k
theorem R_goto (C : Cx p s m meth c Z a0 EL own B n nm ret) {o : Int} (hd : Jp B pc (.goto o) o q tq)
    (k : Run p l e R s m args below meth c Z nw EL K vm h cells slots (fr m tq L r)) : Run p l e R s m args below meth c Z nw EL K vm h cells slots (fr m pc L r) := by
  obtain ⟨hd, -, h1, h2⟩ := hd
  exact Run.plain (fun T A t st => XS.goto A C.1 rfl rfl (hb C.2.1 hd) h1 h2 st) k
abbrev cpr (cd : ClassFile.Cond) (x y : Int32) : Prop := match cd with | .eq => x = y | .ne => ¬ x = y | .lt => x < y | .ge => ¬ x < y | .gt => y < x | .le => ¬ y < x
theorem cpr_t {cd : ClassFile.Cond} {x y : Int32} (h : cpr cd x y) : if_icmp.holds cd x y = true := by
  cases cd
  · exact (teq h).1
  · exact (feq h).2
  · exact (tlt h).1
  · exact (flt h).2.1
  · exact (tlt h).2.2.1
  · exact (flt h).2.2.2
theorem cpr_f {cd : ClassFile.Cond} {x y : Int32} (h : ¬ cpr cd x y) : if_icmp.holds cd x y = false := by
  cases cd
  · exact (feq h).1
  · exact (teq (Decidable.not_not.mp h)).2
  · exact (flt h).1
  · exact (tlt (Decidable.not_not.mp h)).2.1
  · exact (flt h).2.2.1
  · exact (tlt (Decidable.not_not.mp h)).2.2.2
theorem R_icmp (C : Cx p s m meth c Z a0 EL own B n nm ret) {cd : ClassFile.Cond} {o : Int} {x y : Int32} (hd : Jp B pc (.if_icmp cd o) o q tq)
    (k1 : cpr cd x y → Run p l e R s m args below meth c Z nw EL K vm h cells slots (fr m tq L r)) (k2 : ¬ cpr cd x y → Run p l e R s m args below meth c Z nw EL K vm h cells slots (fr m q L r)) : Run p l e R s m args below meth c Z nw EL K vm h cells slots (fr m pc L (.int y :: .int x :: r)) := by
  obtain ⟨hd, rfl, h1, h2⟩ := hd
  by_cases hc : cpr cd x y
  · exact Run.plain (fun T A t st => XS.icmpYes A C.1 rfl rfl (hb C.2.1 hd) rfl (cpr_t hc) h1 h2 st) (k1 hc)
  · exact Run.plain (fun T A t st => XS.icmpNo A C.1 rfl (hb C.2.1 hd) rfl (cpr_f hc) st) (k2 hc)
theorem R_if (C : Cx p s m meth c Z a0 EL own B n nm ret) {cd : ClassFile.Cond} {o : Int} {x : Int32} (hd : Jp B pc (.ifCond cd o) o q tq)
    (k1 : cpr cd x 0 → Run p l e R s m args below meth c Z nw EL K vm h cells slots (fr m tq L r)) (k2 : ¬ cpr cd x 0 → Run p l e R s m args below meth c Z nw EL K vm h cells slots (fr m q L r)) : Run p l e R s m args below meth c Z nw EL K vm h cells slots (fr m pc L (.int x :: r)) := by
  obtain ⟨hd, rfl, h1, h2⟩ := hd
  by_cases hc : cpr cd x 0
  · exact Run.plain (fun T A t st => XS.ifYes A C.1 rfl rfl (hb C.2.1 hd) rfl ((if0 _ _).trans (cpr_t hc)) h1 h2 st) (k1 hc)
  · exact Run.plain (fun T A t st => XS.ifNo A C.1 rfl (hb C.2.1 hd) rfl ((if0 _ _).trans (cpr_f hc)) st) (k2 hc)
theorem R_ifnull_y (C : Cx p s m meth c Z a0 EL own B n nm ret) {o : Int} (hd : Jp B pc (.ifnull o) o q tq)
    (k : Run p l e R s m args below meth c Z nw EL K vm h cells slots (fr m tq L r)) : Run p l e R s m args below meth c Z nw EL K vm h cells slots (fr m pc L (.null :: r)) := by
  obtain ⟨hd, rfl, h1, h2⟩ := hd
  exact Run.plain (fun T A t st => XS.ifnullYes A C.1 rfl rfl (hb C.2.1 hd) rfl h1 h2 st) k
theorem R_ifnull_n (C : Cx p s m meth c Z a0 EL own B n nm ret) {o : Int} (hd : Jp B pc (.ifnull o) o q tq)
    (k : Run p l e R s m args below meth c Z nw EL K vm h cells slots (fr m q L r)) : Run p l e R s m args below meth c Z nw EL K vm h cells slots (fr m pc L (.ref a :: r)) := by
  obtain ⟨hd, rfl, h1, h2⟩ := hd
  exact Run.plain (fun T A t st => XS.ifnullNo A C.1 rfl (hb C.2.1 hd) rfl st) k
theorem R_ifnonnull_y (C : Cx p s m meth c Z a0 EL own B n nm ret) {o : Int} (hd : Jp B pc (.ifnonnull o) o q tq)
    (k : Run p l e R s m args below meth c Z nw EL K vm h cells slots (fr m tq L r)) : Run p l e R s m args below meth c Z nw EL K vm h cells slots (fr m pc L (.ref a :: r)) := by
  obtain ⟨hd, rfl, h1, h2⟩ := hd
  exact Run.plain (fun T A t st => XT.ifnonnullYes A C.1 rfl rfl (hb C.2.1 hd) rfl h1 h2 st) k
theorem R_ifnonnull_n (C : Cx p s m meth c Z a0 EL own B n nm ret) {o : Int} (hd : Jp B pc (.ifnonnull o) o q tq)
    (k : Run p l e R s m args below meth c Z nw EL K vm h cells slots (fr m q L r)) : Run p l e R s m args below meth c Z nw EL K vm h cells slots (fr m pc L (.null :: r)) := by
  obtain ⟨hd, rfl, h1, h2⟩ := hd
  exact Run.plain (fun T A t st => XT.ifnonnullNo A C.1 rfl (hb C.2.1 hd) rfl st) k
theorem R_acmp_ne (C : Cx p s m meth c Z a0 EL own B n nm ret) {o : Int} {v w : Value} (hd : Jp B pc (.if_acmp .ne o) o q tq) (hv : v.isRef = true) (hw : w.isRef = true)
    (k1 : v ≠ w → Run p l e R s m args below meth c Z nw EL K vm h cells slots (fr m tq L r)) (k2 : v = w → Run p l e R s m args below meth c Z nw EL K vm h cells slots (fr m q L r)) : Run p l e R s m args below meth c Z nw EL K vm h cells slots (fr m pc L (w :: v :: r)) := by
  obtain ⟨hd, rfl, h1, h2⟩ := hd
  by_cases hc : v = w
  · exact Run.plain (fun T A t st => XT.acmpNo A C.1 rfl (hb C.2.1 hd) rfl hv hw (by simp [XT.acmp, hc]) st) (k2 hc)
  · exact Run.plain (fun T A t st => XT.acmpYes A C.1 rfl rfl (hb C.2.1 hd) rfl hv hw (by simp [XT.acmp, hc]) h1 h2 st) (k1 hc)
theorem R_acmp_eq (C : Cx p s m meth c Z a0 EL own B n nm ret) {o : Int} {v w : Value} (hd : Jp B pc (.if_acmp .eq o) o q tq) (hv : v.isRef = true) (hw : w.isRef = true)
    (k1 : v = w → Run p l e R s m args below meth c Z nw EL K vm h cells slots (fr m tq L r)) (k2 : v ≠ w → Run p l e R s m args below meth c Z nw EL K vm h cells slots (fr m q L r)) : Run p l e R s m args below meth c Z nw EL K vm h cells slots (fr m pc L (w :: v :: r)) := by
  obtain ⟨hd, rfl, h1, h2⟩ := hd
  by_cases hc : v = w
  · exact Run.plain (fun T A t st => XT.acmpYes A C.1 rfl rfl (hb C.2.1 hd) rfl hv hw (by simp [XT.acmp, hc]) h1 h2 st) (k1 hc)
  · exact Run.plain (fun T A t st => XT.acmpNo A C.1 rfl (hb C.2.1 hd) rfl hv hw (by simp [XT.acmp, hc]) st) (k2 hc)
theorem R_getfield (C : Cx p s m meth c Z a0 EL own B n nm ret) {idx : Nat} {R0 O f d : String} {v : Value} (hd : Dc B pc (.getfield idx) 3 q) (w : (Cond.fieldLink own idx R0 f d).before a0 Z = true) (via : Via Z R0 O f d) (F : Fld Z h a O f d v)
    (k : Run p l e R s m args below meth c Z nw EL K vm h cells slots (fr m q L (v :: r))) : Run p l e R s m args below meth c Z nw EL K vm h cells slots (fr m pc L (.ref a :: r)) := by
  obtain ⟨hd, rfl⟩ := hd
  exact Run.warm C (fun T locs X e1 hZ hown => getF X C.1 hZ hown (host := "") (Or.inl w) via e1 F (g := fr m pc L (.ref a :: r)) rfl rfl (hb C.2.1 hd)) k
theorem R_getfieldN (C : Cx p s m meth c Z a0 EL own B n nm ret) {idx : Nat} {R0 O f d host : String} {v : Value} (hd : Dc B pc (.getfield idx) 3 q) (w : (Cond.fieldLinkNest own idx R0 f d host).before a0 Z = true) (via : Via Z R0 O f d) (F : Fld Z h a O f d v)
    (k : Run p l e R s m args below meth c Z nw EL K vm h cells slots (fr m q L (v :: r))) : Run p l e R s m args below meth c Z nw EL K vm h cells slots (fr m pc L (.ref a :: r)) := by
  obtain ⟨hd, rfl⟩ := hd
  exact Run.warm C (fun T locs X e1 hZ hown => getF X C.1 hZ hown (Or.inr w) via e1 F (g := fr m pc L (.ref a :: r)) rfl rfl (hb C.2.1 hd)) k
theorem R_putfield (C : Cx p s m meth c Z a0 EL own B n nm ret) {idx kk : Nat} {R0 O f d Cn : String} {ty : FieldType} {v old : Value} (hd : Dc B pc (.putfield idx) 3 q) (w : (Cond.fieldLink own idx R0 f d).before a0 Z = true) (via : Via Z R0 O f d)
    (F : Fld Z h a O f d old) (E : Exa Z h a Cn) (La : (Cond.lays Cn O f d).before a0 Z = true ∨ ((Cond.laysFinal Cn O f d).before a0 Z = true ∧ own = O ∧ nm = "<init>")) (wi : (Cond.instantiable Cn kk).before a0 Z = true)
    (hty : parseFieldDescriptor d = some ty) (hn : narrow ty v = v) (hf : fits ty v = true) (ha : Z.heap.size ≤ a) (hs : Safe Z EL vm h a)
    (k : ∀ h', Wr h h' a (RoadKit.slotOf Z O f d) v → (∀ x, Safe Z EL vm h x → Safe Z EL vm h' x) → Run p l e R s m args below meth c Z nw EL K vm h' cells slots (fr m q L r)) : Run p l e R s m args below meth c Z nw EL K vm h cells slots (fr m pc L (v :: .ref a :: r)) := by
  obtain ⟨hd, rfl⟩ := hd
  exact Run.write C (fun T locs X e1 hZ hown => putF X C.1 hZ hown (host := "") (Or.inl w) via e1 F E (La.imp id fun z => ⟨z.1, z.2.1, C.2.2.2.2.2.1.trans z.2.2⟩) wi hty hn hf (g := fr m pc L (v :: .ref a :: r)) rfl rfl (hb C.2.1 hd)) ha hs k
theorem R_getstatic (C : Cx p s m meth c Z a0 EL own B n nm ret) {idx : Nat} {R0 O f d : String} {v : Value} (hd : Dc B pc (.getstatic idx) 3 q) (w : (Cond.fieldLink own idx R0 f d).before a0 Z = true) (via : Via Z R0 O f d) (F : Sta Z h O f d v)
    (k : Run p l e R s m args below meth c Z nw EL K vm h cells slots (fr m q L (v :: r))) : Run p l e R s m args below meth c Z nw EL K vm h cells slots (fr m pc L r) := by
  obtain ⟨hd, rfl⟩ := hd
  exact Run.warm C (fun T locs X e1 hZ hown => getS X C.1 hZ hown (host := "") w via e1 F (g := fr m pc L r) rfl (hb C.2.1 hd)) k
theorem R_new (C : Cx p s m meth c Z a0 EL own B n nm ret) {idx nn : Nat} {Cn : String} (hd : Dc B pc (.new idx) 3 q) (w : (Cond.classLink own idx Cn).before a0 Z = true) (wi : (Cond.instantiable Cn nn).before a0 Z = true) (wz : (Cond.initialized Cn).before a0 Z = true) (hc : cells + 1 ≤ R.cells) (hl : slots + nn ≤ R.slots)
    (k : ∀ h', Ext h h' → (Exa Z h' h.size Cn ∧ (∀ {O f d : String} {ty : FieldType}, Laid Z a0 Cn O f d → parseFieldDescriptor d = some ty → Fld Z h' h.size O f d (defaultValue ty))) → Safe Z EL vm h' h.size → (∀ x, Safe Z EL vm h x → Safe Z EL vm h' x) → Run p l e R s m args below meth c Z nw EL K vm h' (cells + 1) (slots + nn) (fr m q L (.ref h.size :: r))) : Run p l e R s m args below meth c Z nw EL K vm h cells slots (fr m pc L r) := by
  obtain ⟨hd, rfl⟩ := hd
  refine Run.grow C (F := fun h' => Exa Z h' h.size Cn ∧ (∀ {O f d : String} {ty : FieldType}, Laid Z a0 Cn O f d → parseFieldDescriptor d = some ty → Fld Z h' h.size O f d (defaultValue ty))) (fun T locs X e1 hZ hown => ?_) (fun h' E F H Sf => k h' E F (Safe.ext E H (Safe.new (Nat.le_refl _))) Sf)
  obtain ⟨T', h', X', e2, E, A, D, -, st⟩ := newO X C.1 hZ hown w wi wz e1 (g := fr m pc L r) rfl (hb C.2.1 hd) hc hl
  exact ⟨T', h', X', e2, E, ⟨A, D⟩, st⟩
theorem R_initO (C : Cx p s m meth c Z a0 EL own B n nm ret) {idx : Nat} (hd : Dc B pc (.invokespecial idx) 3 q) (w1 : (Cond.methodLink own idx Lib.objectInit).before a0 Z = true) (w2 : (Cond.instanceMethod Lib.objectInit).before a0 Z = true) (w3 : (Cond.code Lib.objectInit Jvm.Pilot.@@N@@.object_method_1_code 1 none).before a0 Z = true)
    (hz : L.length = n) (hf : 1 ≤ R.frames) (hl : (r.map fun v => v.category).sum + 12 ≤ R.locals)
    (k : Run p l e R s m args below meth c Z nw EL K vm h cells slots (fr m q L r)) : Run p l e R s m args below meth c Z nw EL K vm h cells slots (fr m pc L (.ref a :: r)) := by
  obtain ⟨hd, rfl⟩ := hd
  exact Run.warm C (fun T locs X e1 hZ hown => initO X C.1 hZ hown w1 w2 w3 e1 (g := fr m pc L (.ref a :: r)) rfl (by rw [C.2.2.2.1]; exact hz) rfl (hb C.2.1 hd) hf (W := (r.map fun v => v.category).sum) (by show 2 * 0 + _ ≤ _; omega) hl) k
theorem R_checkcast (C : Cx p s m meth c Z a0 EL own B n nm ret) {idx : Nat} {Kn : String} (hd : Dc B pc (.checkcast idx) 3 q) (w : (Cond.classLink own idx Kn).before a0 Z = true) (F : RoadKit.Ins Z h a Kn true)
    (k : Run p l e R s m args below meth c Z nw EL K vm h cells slots (fr m q L (.ref a :: r))) : Run p l e R s m args below meth c Z nw EL K vm h cells slots (fr m pc L (.ref a :: r)) := by
  obtain ⟨hd, rfl⟩ := hd
  exact Run.warm C (fun T locs X e1 hZ hown => castY X C.1 hZ hown w e1 F (g := fr m pc L (.ref a :: r)) rfl rfl (hb C.2.1 hd)) k
theorem R_instanceof_y (C : Cx p s m meth c Z a0 EL own B n nm ret) {idx : Nat} {Kn : String} (hd : Dc B pc (.instanceof idx) 3 q) (w : (Cond.classLink own idx Kn).before a0 Z = true) (F : RoadKit.Ins Z h a Kn true)
    (k : Run p l e R s m args below meth c Z nw EL K vm h cells slots (fr m q L (.int 1 :: r))) : Run p l e R s m args below meth c Z nw EL K vm h cells slots (fr m pc L (.ref a :: r)) := by
  obtain ⟨hd, rfl⟩ := hd
  exact Run.warm C (fun T locs X e1 hZ hown => instY X C.1 hZ hown w e1 F (g := fr m pc L (.ref a :: r)) rfl rfl (hb C.2.1 hd)) k
theorem R_instanceof_n (C : Cx p s m meth c Z a0 EL own B n nm ret) {idx : Nat} {Kn Cn : String} (hd : Dc B pc (.instanceof idx) 3 q) (w : (Cond.classLink own idx Kn).before a0 Z = true) (F : RoadKit.Ins Z s.heap a Kn false) (E : RoadKit.Exa Z s.heap a Cn)
    (k : Run p l e R s m args below meth c Z nw EL K vm h cells slots (fr m q L (.int 0 :: r))) : Run p l e R s m args below meth c Z nw EL K vm h cells slots (fr m pc L (.ref a :: r)) := by
  obtain ⟨hd, rfl⟩ := hd
  exact Run.warm C (fun T locs X e1 hZ hown => instN X C.1 hZ hown w e1 F E (g := fr m pc L (.ref a :: r)) rfl rfl (hb C.2.1 hd)) k
theorem R_ldcInt (C : Cx p s m meth c Z a0 EL own B n nm ret) {idx : Nat} {v : Int32} (hd : Dc B pc (.ldc idx) 2 q) (w : (Cond.constant own idx v).before a0 Z = true)
    (k : Run p l e R s m args below meth c Z nw EL K vm h cells slots (fr m q L (.int v :: r))) : Run p l e R s m args below meth c Z nw EL K vm h cells slots (fr m pc L r) := by
  obtain ⟨hd, rfl⟩ := hd
  exact Run.warm C (fun T locs X e1 hZ hown => ⟨T, X, e1, X.ldcInt C.1 hown (mvT hZ w) (g := fr m pc L r) rfl (hb C.2.1 hd)⟩) k
theorem R_ldc2Long (C : Cx p s m meth c Z a0 EL own B n nm ret) {idx : Nat} {v : Int64} (hd : Dc B pc (.ldc2_w idx) 3 q) (w : (Cond.constantLong own idx v).before a0 Z = true)
    (k : Run p l e R s m args below meth c Z nw EL K vm h cells slots (fr m q L (.long v :: r))) : Run p l e R s m args below meth c Z nw EL K vm h cells slots (fr m pc L r) := by
  obtain ⟨hd, rfl⟩ := hd
  exact Run.warm C (fun T locs X e1 hZ hown => ⟨T, X, e1, X.ldc2Long C.1 hown (mvT hZ w) (g := fr m pc L r) rfl (hb C.2.1 hd)⟩) k
theorem R_return (C : Cx p s m meth c Z a0 EL own B n nm ret) {rm : Room} {Q : Option Value → Heap → Prop} (hd : Dc B pc (.return_) 1 q) (hr : ret = none) (hc : cells ≤ rm.cells) (hs : slots ≤ rm.slots) (hQ : Q none h) :
    Run p l e R s m args below meth c Z nw EL (Kf s Z nw EL rm Q) vm h cells slots (fr m pc L []) :=
  Run.out C (v := none) (fun _ => rfl) hQ hc hs (fun T locs X fs hl => X.returnOut C.1 (C.2.2.2.2.2.2.1.trans hr) (hb C.2.1 hd.1) hl)
theorem R_retI (C : Cx p s m meth c Z a0 EL own B n nm ret) {rm : Room} {Q : Option Value → Heap → Prop} {v : Int32} (hd : Dc B pc (.ireturn) 1 q) (hr : ret = some .int) (hc : cells ≤ rm.cells) (hs : slots ≤ rm.slots) (hQ : Q (some (.int v)) h) :
    Run p l e R s m args below meth c Z nw EL (Kf s Z nw EL rm Q) vm h cells slots (fr m pc L (.int v :: r)) :=
  Run.out C (v := some (.int v)) (fun z => by rw [hr] at z; cases z) hQ hc hs (fun T locs X fs hl => retOut X C.1 (C.2.2.2.2.2.2.1.trans hr) rfl (Or.inl ⟨rfl, Or.inl rfl, v, rfl⟩) (hb C.2.1 hd.1) hl)
theorem R_retN (C : Cx p s m meth c Z a0 EL own B n nm ret) {rm : Room} {Q : Option Value → Heap → Prop} {v : Int32} {t : FieldType} (hd : Dc B pc (.ireturn) 1 q) (hr : ret = some t) (ht : t = .boolean ∨ t = .byte ∨ t = .char ∨ t = .short) (hc : cells ≤ rm.cells) (hs : slots ≤ rm.slots) (hQ : Q (some (.int (nar t v))) h) :
    Run p l e R s m args below meth c Z nw EL (Kf s Z nw EL rm Q) vm h cells slots (fr m pc L (.int v :: r)) :=
  Run.out C (v := some (.int (nar t v))) (fun z => by rw [hr] at z; cases z) hQ hc hs (fun T locs X fs hl => retN X C.1 (C.2.2.2.2.2.2.1.trans hr) ht (hb C.2.1 hd.1) hl)
theorem R_retL (C : Cx p s m meth c Z a0 EL own B n nm ret) {rm : Room} {Q : Option Value → Heap → Prop} {v : Int64} (hd : Dc B pc (.lreturn) 1 q) (hr : ret = some .long) (hc : cells ≤ rm.cells) (hs : slots ≤ rm.slots) (hQ : Q (some (.long v)) h) :
    Run p l e R s m args below meth c Z nw EL (Kf s Z nw EL rm Q) vm h cells slots (fr m pc L (.long v :: r)) :=
  Run.out C (v := some (.long v)) (fun z => by rw [hr] at z; cases z) hQ hc hs (fun T locs X fs hl => retOut X C.1 (C.2.2.2.2.2.2.1.trans hr) rfl (Or.inr (Or.inl ⟨rfl, rfl, v, rfl⟩)) (hb C.2.1 hd.1) hl)
theorem nar_ref {t : FieldType} {v : Value} (hv : v.isRef = true) : narrow t v = v := by cases t <;> cases v <;> first | rfl | cases hv
theorem R_areturn (C : Cx p s m meth c Z a0 EL own B n nm ret) {rm : Room} {Q : Option Value → Heap → Prop} {v : Value} {t : FieldType} (hd : Dc B pc (.areturn) 1 q) (hr : ret = some t) (ht : t.isReference = true) (hv : v.isRef = true) (hc : cells ≤ rm.cells) (hs : slots ≤ rm.slots) (hQ : Q (some v) h) :
    Run p l e R s m args below meth c Z nw EL (Kf s Z nw EL rm Q) vm h cells slots (fr m pc L (v :: r)) :=
  Run.out C (v := some v) (fun z => by rw [hr] at z; cases z) hQ hc hs (fun T locs X fs hl => retOut X C.1 (C.2.2.2.2.2.2.1.trans hr) (nar_ref hv) (Or.inr (Or.inr (Or.inr (Or.inr ⟨rfl, ht, hv⟩)))) (hb C.2.1 hd.1) hl)
theorem R_static (C : Cx p s m meth c Z a0 EL own B n nm ret) {idx n' : Nat} {y : MethodName} {B' : ByteArray} {ret' : Option FieldType} {rm : Room} {sf : List Addr} {Q : Option Value → Heap → Prop} {ps : List FieldType} {rr : Option FieldType} {st : List Value} (argsL : List Value) (hd : Dc B pc (.invokestatic idx) 3 q)
    {nw' : Prop} (M : Met l Z nw' EL y B' n' ret' rm argsL.toArray h sf Q) (hnn : nw → nw') (w1 : (Cond.methodLink own idx y).before a0 Z = true) (w2 : (Cond.static y).before a0 Z = true) (w3 : (Cond.initialized y.cls).before a0 Z = true) (w4 : (Cond.code y B' n' ret').before a0 Z = true)
    (hy : y.cls ≠ "java/lang/invoke/MethodHandle" ∧ y.cls ≠ "java/lang/invoke/VarHandle") (pd : parseMethodDescriptor y.desc = some ⟨ps, rr⟩) (hlen : argsL.length = ps.length) (hst : st = argsL.reverse ++ r) (hz : L.length = n)
    (rf : rm.frames + 1 ≤ R.frames) (rl : (r.map fun v => v.category).sum + (n' + 11) + rm.locals ≤ R.locals) (rc : cells + rm.cells ≤ R.cells) (rs : slots + rm.slots ≤ R.slots) (hsf : ∀ x ∈ sf, Safe Z EL vm h x)
    (k : ∀ v vm' h', Q v h' → h.size ≤ h'.size → (∀ x, x < h.size → Safe Z EL vm h x → Safe Z EL vm' h' x) → (nw' → ∀ x, h.size ≤ x → Safe Z EL vm' h' x) → Run p l e R s m args below meth c Z nw EL K vm' h' (cells + rm.cells) (slots + rm.slots) (fr m q L (v.toList ++ r))) : Run p l e R s m args below meth c Z nw EL K vm h cells slots (fr m pc L st) := by
  obtain ⟨hd, rfl⟩ := hd
  refine Run.back C hnn (Q := Q) (g' := fun v => fr m (pc + 3) L (v.toList ++ r)) (q := 0) (fun kk T locs X e1 hZ hown H hE hS hk => ?_) k
  obtain ⟨v, vm1, Bp, -, X', hS', hg, hP, hst'⟩ := callSS X C.1 hown (mvT (s := s.setVm vm) hZ w1) (mvT (s := s.setVm vm) hZ w2) (mvT (s := s.setVm vm) hZ w3) (mvT (s := s.setVm vm) hZ w4) hy (backM (W := (r.map fun v => v.category).sum) M hZ w4 w3 rf rl C.2.2.2.2.2.2.2 H hE hsf) (g := fr m pc L st) rfl (by rw [C.2.2.2.1]; exact hz) (argsL := argsL) (rest := r) (lenOf pd hlen) hst (by show 2 * 0 + _ ≤ _; omega) (hb C.2.1 hd) (fun _ _ => ⟨rfl, e1, rc, rs⟩)
  exact ⟨v, Bp, X', hS', hg, hP, hst'⟩
theorem R_special (C : Cx p s m meth c Z a0 EL own B n nm ret) {idx n' : Nat} {y : MethodName} {B' : ByteArray} {rm : Room} {sf : List Addr} {Q : Option Value → Heap → Prop} {ps : List FieldType} {rr : Option FieldType} {st : List Value} (argsL : List Value) (hd : Dc B pc (.invokespecial idx) 3 q)
    {nw' : Prop} (M : Met l Z nw' EL y B' n' none rm (.ref a :: argsL).toArray h sf Q) (hnn : nw → nw') (hy1 : y.name = "<init>") (w1 : (Cond.methodLink own idx y).before a0 Z = true) (w2 : (Cond.instanceMethod y).before a0 Z = true) (w3 : (Cond.initialized y.cls).before a0 Z = true) (w4 : (Cond.code y B' n' none).before a0 Z = true)
    (hy : y.cls ≠ "java/lang/invoke/MethodHandle" ∧ y.cls ≠ "java/lang/invoke/VarHandle") (pd : parseMethodDescriptor y.desc = some ⟨ps, rr⟩) (hlen : argsL.length = ps.length) (hst : st = argsL.reverse ++ .ref a :: r) (hz : L.length = n)
    (rf : rm.frames + 1 ≤ R.frames) (rl : (r.map fun v => v.category).sum + (n' + 11) + rm.locals ≤ R.locals) (rc : cells + rm.cells ≤ R.cells) (rs : slots + rm.slots ≤ R.slots) (hsf : ∀ x ∈ sf, Safe Z EL vm h x)
    (k : ∀ v vm' h', Q v h' → h.size ≤ h'.size → (∀ x, x < h.size → Safe Z EL vm h x → Safe Z EL vm' h' x) → (nw' → ∀ x, h.size ≤ x → Safe Z EL vm' h' x) → Run p l e R s m args below meth c Z nw EL K vm' h' (cells + rm.cells) (slots + rm.slots) (fr m q L (v.toList ++ r))) : Run p l e R s m args below meth c Z nw EL K vm h cells slots (fr m pc L st) := by
  obtain ⟨hd, rfl⟩ := hd
  refine Run.back C hnn (Q := Q) (g' := fun v => fr m (pc + 3) L (v.toList ++ r)) (q := 0) (fun kk T locs X e1 hZ hown H hE hS hk => ?_) k
  obtain ⟨v, vm1, Bp, -, X', hS', hg, hP, hst'⟩ := X.specialBackS C.1 hy1 hown (mvT (s := s.setVm vm) hZ w1) (mvT (s := s.setVm vm) hZ w2) (mvT (s := s.setVm vm) hZ w4) hy (backM (W := (r.map fun v => v.category).sum) M hZ w4 w3 rf rl C.2.2.2.2.2.2.2 H hE hsf) (g := fr m pc L st) rfl (by rw [C.2.2.2.1]; exact hz) (Steps.refl _) (a := a) (argsL := argsL) (rest := r) (lenOf pd hlen) hst (by show 2 * 0 + _ ≤ _; omega) (hb C.2.1 hd) (fun _ _ => ⟨rfl, e1, rc, rs⟩)
  exact ⟨v, Bp, X', hS', hg, hP, hst'⟩
theorem R_virtual (C : Cx p s m meth c Z a0 EL own B n nm ret) {idx n' : Nat} {y : MethodName} {B' : ByteArray} {ret' : Option FieldType} {rm : Room} {sf : List Addr} {Q : Option Value → Heap → Prop} {ps : List FieldType} {rr : Option FieldType} {st : List Value} {Cn : String} (argsL : List Value) (hd : Dc B pc (.invokevirtual idx) 3 q)
    {nw' : Prop} (M : Met l Z nw' EL y B' n' ret' rm (.ref a :: argsL).toArray h sf Q) (hnn : nw → nw') (E : Exa Z h a Cn) (w1 : (Cond.methodLink own idx y).before a0 Z = true) (w2 : (Cond.declares y).before a0 Z = true) (w5 : (Cond.selects Cn y y).before a0 Z = true) (w6 : (Cond.instanceMethod y).before a0 Z = true) (w3 : (Cond.initialized y.cls).before a0 Z = true) (w4 : (Cond.code y B' n' ret').before a0 Z = true)
    (hy : y.cls ≠ "java/lang/invoke/MethodHandle" ∧ y.cls ≠ "java/lang/invoke/VarHandle") (pd : parseMethodDescriptor y.desc = some ⟨ps, rr⟩) (hlen : argsL.length = ps.length) (hst : st = argsL.reverse ++ .ref a :: r) (hz : L.length = n)
    (rf : rm.frames + 1 ≤ R.frames) (rl : (r.map fun v => v.category).sum + (n' + 11) + rm.locals ≤ R.locals) (rc : cells + rm.cells ≤ R.cells) (rs : slots + rm.slots ≤ R.slots) (hsf : ∀ x ∈ sf, Safe Z EL vm h x)
    (k : ∀ v vm' h', Q v h' → h.size ≤ h'.size → (∀ x, x < h.size → Safe Z EL vm h x → Safe Z EL vm' h' x) → (nw' → ∀ x, h.size ≤ x → Safe Z EL vm' h' x) → Run p l e R s m args below meth c Z nw EL K vm' h' (cells + rm.cells) (slots + rm.slots) (fr m q L (v.toList ++ r))) : Run p l e R s m args below meth c Z nw EL K vm h cells slots (fr m pc L st) := by
  obtain ⟨hd, rfl⟩ := hd
  refine Run.back C hnn (Q := Q) (g' := fun v => fr m (pc + 3) L (v.toList ++ r)) (q := 0) (fun kk T locs X e1 hZ hown H hE hS hk => ?_) k
  obtain ⟨cq, kq, qa, qb, qc⟩ := isOf (s := s.setVm vm) hZ e1 E
  obtain ⟨v, vm1, Bp, -, X', hS', hg, hP, hst'⟩ := X.virtualBackS C.1 hown (mvT (s := s.setVm vm) hZ w1) (mvT (s := s.setVm vm) hZ w2) (notFace_of_selects (args := #[]) (mvT (s := s.setVm vm) hZ w5)) (mvT (s := s.setVm vm) hZ w5) (mvT (s := s.setVm vm) hZ w6) hy (backM (W := (r.map fun v => v.category).sum) M hZ w4 w3 rf rl C.2.2.2.2.2.2.2 H hE hsf) qa qc (g := fr m pc L st) rfl (by rw [C.2.2.2.1]; exact hz) (Steps.refl _) (argsL := argsL) (rest := r) (lenOf pd hlen) hst (by show 2 * 0 + _ ≤ _; omega) (hb C.2.1 hd) (fun _ _ => ⟨rfl, e1, rc, rs⟩)
  exact ⟨v, Bp, X', hS', hg, hP, hst'⟩
theorem R_private (C : Cx p s m meth c Z a0 EL own B n nm ret) {idx n' : Nat} {y : MethodName} {B' : ByteArray} {ret' : Option FieldType} {rm : Room} {sf : List Addr} {Q : Option Value → Heap → Prop} {ps : List FieldType} {rr : Option FieldType} {st : List Value} {Cn : String} (argsL : List Value) (hd : Dc B pc (.invokevirtual idx) 3 q)
    {nw' : Prop} (M : Met l Z nw' EL y B' n' ret' rm (.ref a :: argsL).toArray h sf Q) (hnn : nw → nw') (E : Exa Z h a Cn) (w1 : (Cond.methodLink own idx y).before a0 Z = true) (w2 : (Cond.privateMethod y).before a0 Z = true) (w5 : (Cond.selects y.cls y y).before a0 Z = true) (w6 : (Cond.instanceMethod y).before a0 Z = true) (w3 : (Cond.initialized y.cls).before a0 Z = true) (w4 : (Cond.code y B' n' ret').before a0 Z = true)
    (hy : y.cls ≠ "java/lang/invoke/MethodHandle" ∧ y.cls ≠ "java/lang/invoke/VarHandle") (pd : parseMethodDescriptor y.desc = some ⟨ps, rr⟩) (hlen : argsL.length = ps.length) (hst : st = argsL.reverse ++ .ref a :: r) (hz : L.length = n)
    (rf : rm.frames + 1 ≤ R.frames) (rl : (r.map fun v => v.category).sum + (n' + 11) + rm.locals ≤ R.locals) (rc : cells + rm.cells ≤ R.cells) (rs : slots + rm.slots ≤ R.slots) (hsf : ∀ x ∈ sf, Safe Z EL vm h x)
    (k : ∀ v vm' h', Q v h' → h.size ≤ h'.size → (∀ x, x < h.size → Safe Z EL vm h x → Safe Z EL vm' h' x) → (nw' → ∀ x, h.size ≤ x → Safe Z EL vm' h' x) → Run p l e R s m args below meth c Z nw EL K vm' h' (cells + rm.cells) (slots + rm.slots) (fr m q L (v.toList ++ r))) : Run p l e R s m args below meth c Z nw EL K vm h cells slots (fr m pc L st) := by
  obtain ⟨hd, rfl⟩ := hd
  refine Run.back C hnn (Q := Q) (g' := fun v => fr m (pc + 3) L (v.toList ++ r)) (q := 0) (fun kk T locs X e1 hZ hown H hE hS hk => ?_) k
  obtain ⟨cell, hcell, hobj⟩ := E.cell
  obtain ⟨v, vm1, Bp, -, X', hS', hg, hP, hst'⟩ := X.privateBackS C.1 (y := y) hown (mvT (s := s.setVm vm) hZ w1) (mvT (s := s.setVm vm) hZ w6) (mvT (s := s.setVm vm) hZ w5) (Cond.privateMethod_at (mvP (s := s.setVm vm) hZ w2 (args := #[]))) (mvT (s := s.setVm vm) hZ w4) hy (backM (W := (r.map fun v => v.category).sum) M hZ w4 w3 rf rl C.2.2.2.2.2.2.2 H hE hsf) (g := fr m pc L st) rfl (by rw [C.2.2.2.1]; exact hz) (Steps.refl _) (a := a) (by rw [e1]; exact hcell) hobj (argsL := argsL) (rest := r) (lenOf pd hlen) hst (by show 2 * 0 + _ ≤ _; omega) (hb C.2.1 hd) (fun _ _ => ⟨rfl, e1, rc, rs⟩)
  exact ⟨v, Bp, X', hS', hg, hP, hst'⟩
theorem R_privateI (C : Cx p s m meth c Z a0 EL own B n nm ret) {idx n' ki : Nat} {y : MethodName} {B' : ByteArray} {ret' : Option FieldType} {rm : Room} {sf : List Addr} {Q : Option Value → Heap → Prop} {ps : List FieldType} {rr : Option FieldType} {st : List Value} {Cn : String} (argsL : List Value) (hd : Dc B pc (.invokevirtual idx) 3 q)
    {nw' : Prop} (M : Met l Z nw' EL y B' n' ret' rm (.ref a :: argsL).toArray h sf Q) (hnn : nw → nw') (E : Exa Z h a Cn) (w1 : (Cond.methodLink own idx y).before a0 Z = true) (w2 : (Cond.privateMethod y).before a0 Z = true) (w5 : (Cond.instantiable y.cls ki).before a0 Z = true) (w6 : (Cond.instanceMethod y).before a0 Z = true) (w3 : (Cond.initialized y.cls).before a0 Z = true) (w4 : (Cond.code y B' n' ret').before a0 Z = true)
    (hy : y.cls ≠ "java/lang/invoke/MethodHandle" ∧ y.cls ≠ "java/lang/invoke/VarHandle") (pd : parseMethodDescriptor y.desc = some ⟨ps, rr⟩) (hlen : argsL.length = ps.length) (hst : st = argsL.reverse ++ .ref a :: r) (hz : L.length = n)
    (rf : rm.frames + 1 ≤ R.frames) (rl : (r.map fun v => v.category).sum + (n' + 11) + rm.locals ≤ R.locals) (rc : cells + rm.cells ≤ R.cells) (rs : slots + rm.slots ≤ R.slots) (hsf : ∀ x ∈ sf, Safe Z EL vm h x)
    (k : ∀ v vm' h', Q v h' → h.size ≤ h'.size → (∀ x, x < h.size → Safe Z EL vm h x → Safe Z EL vm' h' x) → (nw' → ∀ x, h.size ≤ x → Safe Z EL vm' h' x) → Run p l e R s m args below meth c Z nw EL K vm' h' (cells + rm.cells) (slots + rm.slots) (fr m q L (v.toList ++ r))) : Run p l e R s m args below meth c Z nw EL K vm h cells slots (fr m pc L st) := by
  obtain ⟨hd, rfl⟩ := hd
  refine Run.back C hnn (Q := Q) (g' := fun v => fr m (pc + 3) L (v.toList ++ r)) (q := 0) (fun kk T locs X e1 hZ hown H hE hS hk => ?_) k
  obtain ⟨cell, hcell, hobj⟩ := E.cell
  have hK := backM (p := p) (e := e) (below := below) (s := s) (args := args) (R := R) (len := 3) (W := (r.map fun v => v.category).sum) M hZ w4 w3 rf rl C.2.2.2.2.2.2.2 H hE hsf
  obtain ⟨mk, methM, hnamed, hmethM, hstM, habM⟩ := Cond.instanceMethod_spec (mvT (s := s.setVm vm) (args := args) hZ w6)
  obtain ⟨methM', cM, hmethM', -, -, -, -, -, -, hsigM⟩ := Cond.code_spec hnamed (mvT (s := s.setVm vm) (args := args) hZ w4)
  cases hmethM.symm.trans hmethM'
  obtain ⟨ci, kP, i1, hkP, -, i4, -⟩ := Cond.instantiable_spec (mvT (s := s.setVm vm) (args := args) hZ w5)
  have hcls := findClass_of_methodNamed hnamed
  cases hcls.symm.trans i1
  have hkPi : kP.isInterface = false := (Bool.or_eq_false_iff.mp i4).1
  have hpriv := Cond.privateMethod_at (mvP (s := s.setVm vm) hZ w2 (args := #[]))
  have hselP : selectMethod e.platform (s.setVm vm).vm cell.cls mk = .method mk := selectMethod_private hmethM (hpriv mk methM hnamed hmethM)
  obtain ⟨vm₁, X₁, hstep₁⟩ := X.invokevirtual C.1 hown (mvT (s := s.setVm vm) hZ w1) hnamed hmethM hstM hkP hkPi hy (a := a) (cell := cell) (by rw [e1]; exact hcell) hobj hselP hmethM habM hkP hkPi (g := fr m pc L st) rfl (argsL := argsL) (rest := r) (lenOf pd hlen _ hsigM) hst (hb C.2.1 hd)
  obtain ⟨v, Bp, X', hS', hgr, hpost, hsteps⟩ := hK m meth c ⟨T.setVm vm₁, locs, cells, slots⟩ (fr m pc L r) (.invokevirtual idx) mk (.ref a :: argsL).toArray X₁ rfl (by rw [C.2.2.2.1]; exact hz) (hb C.2.1 hd) (by show 2 * 0 + (r.map fun v => v.category).sum ≤ (r.map fun v => v.category).sum; omega) (X₁.named hnamed) ⟨rfl, e1, rc, rs⟩
  exact ⟨v, Bp, X', hS', hgr, hpost, (hstep₁ _ fun acts => by rw [doInvoke_state]; exact Steps.refl _).trans hsteps⟩
theorem nf_of {Z : State} {a0 : Array Value} {C : String} {y y' : MethodName} (w : (Cond.selects C y' y').before a0 Z = true) (hc : y'.cls = y.cls) : NotFace Z y := fun r0 h0 => by
  obtain ⟨c2, r2, m2, q1, q2, q3, q4, kP, hkP, hkPi⟩ := Cond.selects_spec w
  have e1 := findClass_of_methodNamed q3
  have e2 := findClass_of_methodNamed h0
  rw [hc] at e1
  have e3 : m2.cls = r0.cls := Option.some.inj (e1.symm.trans e2)
  exact ⟨kP, by rw [← e3]; exact hkP, hkPi⟩
theorem same_of {Z : State} {a0 : Array Value} {C : String} {y y' : MethodName} (w : (Cond.selects C y' y').before a0 Z = true) (hc : y'.cls = y.cls) (w2 : (Cond.instanceMethod y).before a0 Z = true) (hy : y.cls ≠ "java/lang/invoke/MethodHandle" ∧ y.cls ≠ "java/lang/invoke/VarHandle") : (Cond.sameMethod y.cls y.cls y.name y.desc).before a0 Z = true := by
  obtain ⟨mk, methM, hnamed, -, -, -⟩ := Cond.instanceMethod_spec w2
  obtain ⟨kP, hkP, hkPi⟩ := nf_of w hc mk hnamed
  have e1 := findClass_of_methodNamed hnamed
  have e2 := State.methodFound?_of_named hnamed hy
  have e3 : Z.methodNamed? ⟨y.cls, y.name, y.desc⟩ = some mk := hnamed
  simp [Cond.before, Cond.holds, Cond.value, e1, e2, e3, hkP, hkPi]
theorem R_super (C : Cx p s m meth c Z a0 EL own B n nm ret) {idx n' : Nat} {y y' : MethodName} {B' : ByteArray} {ret' : Option FieldType} {rm : Room} {sf : List Addr} {Q : Option Value → Heap → Prop} {ps : List FieldType} {rr : Option FieldType} {st : List Value} {Cn Cs : String} (argsL : List Value) (hd : Dc B pc (.invokespecial idx) 3 q)
    {nw' : Prop} (M : Met l Z nw' EL y B' n' ret' rm (.ref a :: argsL).toArray h sf Q) (hnn : nw → nw') (E : Exa Z h a Cn) (w1 : (Cond.methodLink own idx y).before a0 Z = true) (w5 : (Cond.selects Cs y' y').before a0 Z = true) (hcc : y'.cls = y.cls) (w6 : (Cond.instanceMethod y).before a0 Z = true) (w7 : (Cond.superclass own y.cls).before a0 Z = true) (w3 : (Cond.initialized y.cls).before a0 Z = true) (w4 : (Cond.code y B' n' ret').before a0 Z = true) (hn1 : y.name ≠ "<init>")
    (hy : y.cls ≠ "java/lang/invoke/MethodHandle" ∧ y.cls ≠ "java/lang/invoke/VarHandle") (pd : parseMethodDescriptor y.desc = some ⟨ps, rr⟩) (hlen : argsL.length = ps.length) (hst : st = argsL.reverse ++ .ref a :: r) (hz : L.length = n)
    (rf : rm.frames + 1 ≤ R.frames) (rl : (r.map fun v => v.category).sum + (n' + 11) + rm.locals ≤ R.locals) (rc : cells + rm.cells ≤ R.cells) (rs : slots + rm.slots ≤ R.slots) (hsf : ∀ x ∈ sf, Safe Z EL vm h x)
    (k : ∀ v vm' h', Q v h' → h.size ≤ h'.size → (∀ x, x < h.size → Safe Z EL vm h x → Safe Z EL vm' h' x) → (nw' → ∀ x, h.size ≤ x → Safe Z EL vm' h' x) → Run p l e R s m args below meth c Z nw EL K vm' h' (cells + rm.cells) (slots + rm.slots) (fr m q L (v.toList ++ r))) : Run p l e R s m args below meth c Z nw EL K vm h cells slots (fr m pc L st) := by
  obtain ⟨hd, rfl⟩ := hd
  refine Run.back C hnn (Q := Q) (g' := fun v => fr m (pc + 3) L (v.toList ++ r)) (q := 0) (fun kk T locs X e1 hZ hown H hE hS hk => ?_) k
  obtain ⟨v, vm1, Bp, -, X', hS', hg, hP, hst'⟩ := superBackS X C.1 (s := s.setVm vm) hZ hown w1 (same_of w5 hcc w6 hy) w6 w7 hn1 (backM (W := (r.map fun v => v.category).sum) M hZ w4 w3 rf rl C.2.2.2.2.2.2.2 H hE hsf) e1 (RoadKit.Ins.self E) (g := fr m pc L st) rfl (by rw [C.2.2.2.1]; exact hz) w4 (argsL := argsL) (rest := r) (lenOf pd hlen) hst (by show 2 * 0 + _ ≤ _; omega) (hb C.2.1 hd) (fun _ _ => ⟨rfl, e1, rc, rs⟩)
  exact ⟨v, Bp, X', hS', hg, hP, hst'⟩
theorem R_virtual2 (C : Cx p s m meth c Z a0 EL own B n nm ret) {idx n' : Nat} {y z y' : MethodName} {B' : ByteArray} {ret' : Option FieldType} {rm : Room} {sf : List Addr} {Q : Option Value → Heap → Prop} {ps : List FieldType} {rr : Option FieldType} {st : List Value} {Cn : String} (argsL : List Value) (hd : Dc B pc (.invokevirtual idx) 3 q)
    {nw' : Prop} (M : Met l Z nw' EL z B' n' ret' rm (.ref a :: argsL).toArray h sf Q) (hnn : nw → nw') (E : Exa Z h a Cn) (w1 : (Cond.methodLink own idx y).before a0 Z = true) (w2 : (Cond.declares y).before a0 Z = true) (w5 : (Cond.selects Cn y z).before a0 Z = true) (w8 : (Cond.selects Cn y' y').before a0 Z = true) (hcc : y'.cls = y.cls) (w6 : (Cond.instanceMethod z).before a0 Z = true) (w3 : (Cond.initialized z.cls).before a0 Z = true) (w4 : (Cond.code z B' n' ret').before a0 Z = true)
    (hy : y.cls ≠ "java/lang/invoke/MethodHandle" ∧ y.cls ≠ "java/lang/invoke/VarHandle") (pd : parseMethodDescriptor y.desc = some ⟨ps, rr⟩) (hlen : argsL.length = ps.length) (hst : st = argsL.reverse ++ .ref a :: r) (hz : L.length = n)
    (rf : rm.frames + 1 ≤ R.frames) (rl : (r.map fun v => v.category).sum + (n' + 11) + rm.locals ≤ R.locals) (rc : cells + rm.cells ≤ R.cells) (rs : slots + rm.slots ≤ R.slots) (hsf : ∀ x ∈ sf, Safe Z EL vm h x)
    (k : ∀ v vm' h', Q v h' → h.size ≤ h'.size → (∀ x, x < h.size → Safe Z EL vm h x → Safe Z EL vm' h' x) → (nw' → ∀ x, h.size ≤ x → Safe Z EL vm' h' x) → Run p l e R s m args below meth c Z nw EL K vm' h' (cells + rm.cells) (slots + rm.slots) (fr m q L (v.toList ++ r))) : Run p l e R s m args below meth c Z nw EL K vm h cells slots (fr m pc L st) := by
  obtain ⟨hd, rfl⟩ := hd
  refine Run.back C hnn (Q := Q) (g' := fun v => fr m (pc + 3) L (v.toList ++ r)) (q := 0) (fun kk T locs X e1 hZ hown H hE hS hk => ?_) k
  obtain ⟨cq, kq, qa, qb, qc⟩ := isOf (s := s.setVm vm) hZ e1 E
  obtain ⟨v, vm1, Bp, -, X', hS', hg, hP, hst'⟩ := X.virtualBackS C.1 hown (mvT (s := s.setVm vm) hZ w1) (mvT (s := s.setVm vm) hZ w2) (nf_of (mvT (s := s.setVm vm) (args := #[]) hZ w8) hcc) (mvT (s := s.setVm vm) hZ w5) (mvT (s := s.setVm vm) hZ w6) hy (backM (W := (r.map fun v => v.category).sum) M hZ w4 w3 rf rl C.2.2.2.2.2.2.2 H hE hsf) qa qc (g := fr m pc L st) rfl (by rw [C.2.2.2.1]; exact hz) (Steps.refl _) (argsL := argsL) (rest := r) (lenOf pd hlen) hst (by show 2 * 0 + _ ≤ _; omega) (hb C.2.1 hd) (fun _ _ => ⟨rfl, e1, rc, rs⟩)
  exact ⟨v, Bp, X', hS', hg, hP, hst'⟩
theorem R_privateS (C : Cx p s m meth c Z a0 EL own B n nm ret) {idx n' : Nat} {y : MethodName} {B' : ByteArray} {ret' : Option FieldType} {rm : Room} {sf : List Addr} {Q : Option Value → Heap → Prop} {ps : List FieldType} {rr : Option FieldType} {st : List Value} {Cn Cs : String} (argsL : List Value) (hd : Dc B pc (.invokevirtual idx) 3 q)
    {nw' : Prop} (M : Met l Z nw' EL y B' n' ret' rm (.ref a :: argsL).toArray h sf Q) (hnn : nw → nw') (E : Exa Z h a Cn) (w1 : (Cond.methodLink own idx y).before a0 Z = true) (w2 : (Cond.privateMethod y).before a0 Z = true) (w5 : (Cond.selects Cs y y).before a0 Z = true) (w6 : (Cond.instanceMethod y).before a0 Z = true) (w3 : (Cond.initialized y.cls).before a0 Z = true) (w4 : (Cond.code y B' n' ret').before a0 Z = true)
    (hy : y.cls ≠ "java/lang/invoke/MethodHandle" ∧ y.cls ≠ "java/lang/invoke/VarHandle") (pd : parseMethodDescriptor y.desc = some ⟨ps, rr⟩) (hlen : argsL.length = ps.length) (hst : st = argsL.reverse ++ .ref a :: r) (hz : L.length = n)
    (rf : rm.frames + 1 ≤ R.frames) (rl : (r.map fun v => v.category).sum + (n' + 11) + rm.locals ≤ R.locals) (rc : cells + rm.cells ≤ R.cells) (rs : slots + rm.slots ≤ R.slots) (hsf : ∀ x ∈ sf, Safe Z EL vm h x)
    (k : ∀ v vm' h', Q v h' → h.size ≤ h'.size → (∀ x, x < h.size → Safe Z EL vm h x → Safe Z EL vm' h' x) → (nw' → ∀ x, h.size ≤ x → Safe Z EL vm' h' x) → Run p l e R s m args below meth c Z nw EL K vm' h' (cells + rm.cells) (slots + rm.slots) (fr m q L (v.toList ++ r))) : Run p l e R s m args below meth c Z nw EL K vm h cells slots (fr m pc L st) := by
  obtain ⟨hd, rfl⟩ := hd
  refine Run.back C hnn (Q := Q) (g' := fun v => fr m (pc + 3) L (v.toList ++ r)) (q := 0) (fun kk T locs X e1 hZ hown H hE hS hk => ?_) k
  obtain ⟨cell, hcell, hobj⟩ := E.cell
  have hK := backM (p := p) (e := e) (below := below) (s := s) (args := args) (R := R) (len := 3) (W := (r.map fun v => v.category).sum) M hZ w4 w3 rf rl C.2.2.2.2.2.2.2 H hE hsf
  obtain ⟨mk, methM, hnamed, hmethM, hstM, habM⟩ := Cond.instanceMethod_spec (mvT (s := s.setVm vm) (args := args) hZ w6)
  obtain ⟨methM', cM, hmethM', -, -, -, -, -, -, hsigM⟩ := Cond.code_spec hnamed (mvT (s := s.setVm vm) (args := args) hZ w4)
  cases hmethM.symm.trans hmethM'
  obtain ⟨kP, hkP, hkPi⟩ := notFace_of_selects (args := #[]) (mvT (s := s.setVm vm) hZ w5) mk hnamed
  have hpriv := Cond.privateMethod_at (mvP (s := s.setVm vm) hZ w2 (args := #[]))
  have hselP : selectMethod e.platform (s.setVm vm).vm cell.cls mk = .method mk := selectMethod_private hmethM (hpriv mk methM hnamed hmethM)
  obtain ⟨vm₁, X₁, hstep₁⟩ := X.invokevirtual C.1 hown (mvT (s := s.setVm vm) hZ w1) hnamed hmethM hstM hkP hkPi hy (a := a) (cell := cell) (by rw [e1]; exact hcell) hobj hselP hmethM habM hkP hkPi (g := fr m pc L st) rfl (argsL := argsL) (rest := r) (lenOf pd hlen _ hsigM) hst (hb C.2.1 hd)
  obtain ⟨v, Bp, X', hS', hgr, hpost, hsteps⟩ := hK m meth c ⟨T.setVm vm₁, locs, cells, slots⟩ (fr m pc L r) (.invokevirtual idx) mk (.ref a :: argsL).toArray X₁ rfl (by rw [C.2.2.2.1]; exact hz) (hb C.2.1 hd) (by show 2 * 0 + (r.map fun v => v.category).sum ≤ (r.map fun v => v.category).sum; omega) (X₁.named hnamed) ⟨rfl, e1, rc, rs⟩
  exact ⟨v, Bp, X', hS', hgr, hpost, (hstep₁ _ fun acts => by rw [doInvoke_state]; exact Steps.refl _).trans hsteps⟩
end Steps
end Jvm.Own
namespace Jvm.Own
open Sem ClassFile Op Lib Bundle Jvm.Stand Jvm.Free Jvm.LawKit Jvm.RoadKit
section Arrays
variable {p : Program} {l : Launch} {e : Env} {R : Room} {s : State} {m : MethodId} {args : Array Value} {below : List Frame} {meth : Method} {c : Code} {Z : State} {a0 : Array Value} {nw : Prop} {EL : List (String × Nat)} {K : State → Outcome → Prop} {vm : Vm} {h h' h0 : Heap} {cells slots : Nat} {own nm : String} {B : ByteArray} {n : Nat} {ret : Option FieldType} {pc q tq : Nat} {L : List Slot} {r : List Value} {a b : Addr} {ty : FieldType} {N sl : Nat} {f g : Nat → Value} {v : Value}
/-- the array at a: N places, place i holds f i -/
def AR (Z : State) (h : Heap) (a : Addr) (ty : FieldType) (N : Nat) (f : Nat → Value) : Prop :=
  ∃ cl : Cell, Arr Z h a cl ty ∧ cl.slots.size = N ∧ N < 2 ^ 31 ∧ ∀ i, i < N → cl.slots[i]? = some (f i) ∧ fits ty (f i) = true
def upd (f : Nat → Value) (j : Nat) (v : Value) : Nat → Value := fun i => if i = j then v else f i
theorem upd_eq {j : Nat} : upd f j v j = v := if_pos rfl
theorem upd_ne {i j : Nat} (q : i ≠ j) : upd f j v i = f i := if_neg q
theorem AR.lt (A : AR Z h a ty N f) : a < h.size := by obtain ⟨cl, A, -⟩ := A; exact A.lt
theorem AR.small (A : AR Z h a ty N f) : N < 2 ^ 31 := by obtain ⟨cl, A, -, q, -⟩ := A; exact q
theorem AR.ext (A : AR Z h a ty N f) (E : Ext h h') : AR Z h' a ty N f := by obtain ⟨cl, A, r⟩ := A; exact ⟨cl, A.ext E, r⟩
theorem AR.other (A : AR Z h a ty N f) (W : Wr h h' b sl v) (q : a ≠ b) : AR Z h' a ty N f := by obtain ⟨cl, A, r⟩ := A; exact ⟨cl, A.other W q, r⟩
theorem AR.keep {ws : List Addr} (A : AR Z h a ty N f) (K : Keep h h' ws) (q : a ∉ ws) : AR Z h' a ty N f := by obtain ⟨cl, A, r⟩ := A; exact ⟨cl, ⟨K.2.1 a cl A.1 q, A.2⟩, r⟩
theorem AR.cg (A : AR Z h a ty N f) (q : ∀ i, i < N → f i = g i) : AR Z h a ty N g := by
  obtain ⟨cl, A, h1, h2, H⟩ := A
  exact ⟨cl, A, h1, h2, fun i hi => by rw [← q i hi]; exact H i hi⟩
theorem AR.set (A : AR Z h a ty N f) {j : Nat} (W : Wr h h' a j v) (hv : fits ty v = true) : AR Z h' a ty N (upd f j v) := by
  obtain ⟨cl, A, hn, h31, H⟩ := A
  refine ⟨cl.setSlot j v, A.same W, by rw [sz_set]; exact hn, h31, fun i hi => ?_⟩
  unfold upd
  by_cases e : i = j
  · subst e
    rw [if_pos rfl]
    exact ⟨by simp [Cell.setSlot, hn, hi], hv⟩
  · rw [if_neg e]
    exact ⟨(Array.getElem?_setIfInBounds_ne (Ne.symm e)).trans (H i hi).1, (H i hi).2⟩
theorem AR.fit (A : AR Z h a ty N f) {i : Nat} (hi : i < N) : fits ty (f i) = true := by obtain ⟨cl, A, h1, h2, H⟩ := A; exact (H i hi).2
theorem AR.safe (A : AR Z h a ty N f) (hW : Z.Warmed39 vm) (ht : ty ≠ .byte) : Safe Z EL vm h a := by obtain ⟨cl, A, -⟩ := A; exact Safe.arr hW.alike A ht
theorem AR.neExa {C : String} {k : Nat} (A : AR Z h a ty N f) (E : Exa Z h b C) (w : (Cond.instantiable C k).before a0 Z = true) : a ≠ b := by obtain ⟨cl, A, -⟩ := A; exact (ne_arr E w A).symm
theorem AR.start (hf : Fit Z) {t : Term} (ev : t.eval args Z none [] Z = some (.ref a)) (hx : (Cond.arrayOf t ty).value args Z none Z [] = some true) {w : Int32} (hl : (Cond.eq (.length t) (.int w)).value args Z none Z [] = some true) (hw : w.toInt = N) : ∃ cl : Cell, Arr Z Z.heap a cl ty ∧ AR Z Z.heap a ty N (fun i => cl.slots.getD i .null) := by
  obtain ⟨cl, A⟩ := Arr.start ev hx
  have e1 : Z.arrayAt? a = some cl := A.fin (Vm.Alike.refl _)
  have hsz : cl.slots.size < 2 ^ 31 ∧ cl.slots.size.toInt32 = w := by
    by_cases z : cl.slots.size < 2 ^ 31
    · refine ⟨z, ?_⟩
      have z2 := len_f ev e1 z
      simp only [Cond.value, z2, Term.int_eval] at hl
      simpa using hl
    · have z2 : (Term.length t).eval args Z none [] Z = none := by simp only [Term.eval, ev, e1, Option.bind_eq_bind, Option.bind_some, if_neg z]
      simp [Cond.value, z2] at hl
  have hN : cl.slots.size = N := by
    have z := len_toInt hsz.1
    rw [hsz.2, hw] at z
    omega
  refine ⟨cl, A, cl, A, hN, by rw [← hN]; exact hsz.1, fun i hi => ?_⟩
  have hi' : i < cl.slots.size := by omega
  obtain ⟨v, v1, v2⟩ := elem_fit (j := i.toInt32) hf A (idx_in hi' hsz.1)
  have z3 : i.toInt32.toNatClampNeg = i := by simp [Int32.toNatClampNeg, len_toInt (show i < 2 ^ 31 by omega)]
  rw [z3] at v1
  have z4 : cl.slots.getD i .null = v := by simp [Array.getD_eq_getD_getElem?, v1]
  exact ⟨by show cl.slots[i]? = some (cl.slots.getD i .null); rw [z4]; exact v1, by show fits ty (cl.slots.getD i .null) = true; rw [z4]; exact v2⟩
theorem cl_of {j : Int32} {i : Nat} (hj : j.toInt = i) : j.toNatClampNeg = i := by simp [Int32.toNatClampNeg, hj]
theorem int_lit {t : Term} {w : Int32} (q : (Cond.eq t (.int w)).value args Z none Z [] = some true) : t.eval args Z none [] Z = some (.int w) := by
  obtain ⟨x, y, ex, ey, k1, k2⟩ := cmp_v (Or.inl q)
  have hy : y = .int w := (Option.some.inj ey).symm
  subst hy
  obtain ⟨x', rfl⟩ : ∃ x', x = .int x' := k2
  have z : x' = w := gotT (Cond.eq_ints ex (Term.int_eval w)) q
  rw [← z]; exact ex
theorem elem_lit {t : Term} {cl : Cell} (ev : t.eval args Z none [] Z = some (.ref a)) (A : Arr Z Z.heap a cl ty) {k w : Int32} {i : Nat} (hk : k.toInt = i) (q : (Cond.eq (.elem t (.int k)) (.int w)).value args Z none Z [] = some true) : cl.slots.getD i .null = .int w := by
  have z := elem_in (int_lit q) ev (Term.int_eval k) A.1
  rw [cl_of hk] at z
  simp [Array.getD_eq_getD_getElem?, z.2]
theorem Keep.ofExt (E : Ext h h') {ws : List Addr} : Keep h h' ws := (Keep.refl h ws).ext E
theorem nn_of {j : Int32} {i : Nat} (hj : j.toInt = i) : ¬ j < 0 := by
  rw [Int32.lt_iff_toInt_lt, hj, Int32.toInt_zero]; omega
theorem in_of {j : Int32} {i : Nat} {cl : Cell} (hj : j.toInt = i) (hi : i < N) (hn : cl.slots.size = N) : ¬ (j < 0 ∨ cl.slots.size ≤ j.toNatClampNeg) := by
  rw [cl_of hj, hn]
  intro z
  rcases z with z | z
  · exact nn_of hj z
  · omega
theorem R_arraylength (C : Cx p s m meth c Z a0 EL own B n nm ret) {w : Int32} (hd : Dc B pc (.arraylength) 1 q) (A : AR Z h a ty N f) (hv : N.toInt32 = w)
    (k : Run p l e R s m args below meth c Z nw EL K vm h cells slots (fr m q L (.int w :: r))) : Run p l e R s m args below meth c Z nw EL K vm h cells slots (fr m pc L (.ref a :: r)) := by
  obtain ⟨hd, rfl⟩ := hd
  obtain ⟨cl, A, hn, -⟩ := A
  subst hv hn
  exact Run.warm C (fun T locs X e1 hZ hown => ⟨T, X, e1, fun t st => X.arraylength C.1 (cell := cl) (by rw [e1]; exact A.1) (State.isArrayOf_alike hZ.alike A.2.1) (g := fr m pc L (.ref a :: r)) rfl rfl (hb C.2.1 hd) t st⟩) k
theorem R_iaload (C : Cx p s m meth c Z a0 EL own B n nm ret) {j : Int32} (i : Nat) (hd : Dc B pc (.iaload) 1 q) (A : AR Z h a .int N f) (hj : j.toInt = i) (hi : i < N) (hv : f i = v)
    (k : Run p l e R s m args below meth c Z nw EL K vm h cells slots (fr m q L (v :: r))) : Run p l e R s m args below meth c Z nw EL K vm h cells slots (fr m pc L (.int j :: .ref a :: r)) := by
  obtain ⟨hd, rfl⟩ := hd
  obtain ⟨cl, A, hn, h31, H⟩ := A
  subst hv
  exact Run.warm C (fun T locs X e1 hZ hown => ⟨T, X, e1, fun t st => X.iaload C.1 (cell := cl) (by rw [e1]; exact A.1) (State.isArrayOf_alike hZ.alike A.2.1) A.2.2 (in_of hj hi hn) (by rw [cl_of hj]; exact (H i hi).1) (g := fr m pc L (.int j :: .ref a :: r)) rfl rfl (hb C.2.1 hd) t st⟩) k
theorem R_caload (C : Cx p s m meth c Z a0 EL own B n nm ret) {j : Int32} (i : Nat) (hd : Dc B pc (.caload) 1 q) (A : AR Z h a .char N f) (hj : j.toInt = i) (hi : i < N) (hv : f i = v)
    (k : Run p l e R s m args below meth c Z nw EL K vm h cells slots (fr m q L (v :: r))) : Run p l e R s m args below meth c Z nw EL K vm h cells slots (fr m pc L (.int j :: .ref a :: r)) := by
  obtain ⟨hd, rfl⟩ := hd
  obtain ⟨cl, A, hn, h31, H⟩ := A
  subst hv
  exact Run.warm C (fun T locs X e1 hZ hown => ⟨T, X, e1, fun t st => X.caload C.1 (cell := cl) (by rw [e1]; exact A.1) (State.isArrayOf_alike hZ.alike A.2.1) A.2.2 (in_of hj hi hn) (by rw [cl_of hj]; exact (H i hi).1) (g := fr m pc L (.int j :: .ref a :: r)) rfl rfl (hb C.2.1 hd) t st⟩) k
theorem R_baload (C : Cx p s m meth c Z a0 EL own B n nm ret) {j : Int32} (i : Nat) (hd : Dc B pc (.baload) 1 q) (A : AR Z h a .byte N f) (hj : j.toInt = i) (hi : i < N) (hv : f i = v)
    (k : Run p l e R s m args below meth c Z nw EL K vm h cells slots (fr m q L (v :: r))) : Run p l e R s m args below meth c Z nw EL K vm h cells slots (fr m pc L (.int j :: .ref a :: r)) := by
  obtain ⟨hd, rfl⟩ := hd
  obtain ⟨cl, A, hn, h31, H⟩ := A
  subst hv
  exact Run.warm C (fun T locs X e1 hZ hown => ⟨T, X, e1, fun t st => X.baloadBytes C.1 (cell := cl) (by rw [e1]; exact A.1) (State.isArrayOf_alike hZ.alike A.2.1) A.2.2 (in_of hj hi hn) (by rw [cl_of hj]; exact (H i hi).1) (g := fr m pc L (.int j :: .ref a :: r)) rfl rfl (hb C.2.1 hd) t st⟩) k
theorem R_laload (C : Cx p s m meth c Z a0 EL own B n nm ret) {j : Int32} (i : Nat) (hd : Dc B pc (.laload) 1 q) (A : AR Z h a .long N f) (hj : j.toInt = i) (hi : i < N) (hv : f i = v)
    (k : Run p l e R s m args below meth c Z nw EL K vm h cells slots (fr m q L (v :: r))) : Run p l e R s m args below meth c Z nw EL K vm h cells slots (fr m pc L (.int j :: .ref a :: r)) := by
  obtain ⟨hd, rfl⟩ := hd
  obtain ⟨cl, A, hn, h31, H⟩ := A
  subst hv
  exact Run.warm C (fun T locs X e1 hZ hown => ⟨T, X, e1, fun t st => X.laload C.1 (cell := cl) (by rw [e1]; exact A.1) (State.isArrayOf_alike hZ.alike A.2.1) A.2.2 (in_of hj hi hn) (by rw [cl_of hj]; exact (H i hi).1) (g := fr m pc L (.int j :: .ref a :: r)) rfl rfl (hb C.2.1 hd) t st⟩) k
theorem R_aaload (C : Cx p s m meth c Z a0 EL own B n nm ret) {j : Int32} (i : Nat) (hd : Dc B pc (.aaload) 1 q) (A : AR Z h a ty N f) (ht : ty.isReference = true) (hj : j.toInt = i) (hi : i < N) (hv : f i = v)
    (k : Run p l e R s m args below meth c Z nw EL K vm h cells slots (fr m q L (v :: r))) : Run p l e R s m args below meth c Z nw EL K vm h cells slots (fr m pc L (.int j :: .ref a :: r)) := by
  obtain ⟨hd, rfl⟩ := hd
  obtain ⟨cl, A, hn, h31, H⟩ := A
  subst hv
  exact Run.warm C (fun T locs X e1 hZ hown => ⟨T, X, e1, fun t st => X.aaload C.1 (cell := cl) (by rw [e1]; exact A.1) (State.isArrayOf_alike hZ.alike A.2.1) ht A.2.2 (in_of hj hi hn) (by rw [cl_of hj]; exact (H i hi).1) (g := fr m pc L (.int j :: .ref a :: r)) rfl rfl (hb C.2.1 hd) t st⟩) k
theorem R_iastore (C : Cx p s m meth c Z a0 EL own B n nm ret) {j x : Int32} (i : Nat) (hd : Dc B pc (.iastore) 1 q) (A : AR Z h a .int N f) (hj : j.toInt = i) (hi : i < N) (ha : Z.heap.size ≤ a) (hs : Safe Z EL vm h a)
    (k : ∀ h', Wr h h' a i (.int x) → AR Z h' a .int N (upd f i (.int x)) → (∀ x, Safe Z EL vm h x → Safe Z EL vm h' x) → Run p l e R s m args below meth c Z nw EL K vm h' cells slots (fr m q L r)) : Run p l e R s m args below meth c Z nw EL K vm h cells slots (fr m pc L (.int x :: .int j :: .ref a :: r)) := by
  obtain ⟨hd, rfl⟩ := hd
  have A0 := A
  obtain ⟨cl, A, hn, h31, H⟩ := A
  refine Run.write C (a := a) (sl := i) (v := .int x) (fun T locs X e1 hZ hown => ?_) ha hs (fun h' W Sf => k h' W (A0.set W (rfl)) Sf)
  have z := stI X C.1 hZ e1 A (x := x) (in_of hj hi hn) (g := fr m pc L (.int x :: .int j :: .ref a :: r)) rfl rfl (hb C.2.1 hd)
  rw [cl_of hj] at z
  exact z
theorem R_castore (C : Cx p s m meth c Z a0 EL own B n nm ret) {j x : Int32} (i : Nat) (hd : Dc B pc (.castore) 1 q) (A : AR Z h a .char N f) (hj : j.toInt = i) (hi : i < N) (ha : Z.heap.size ≤ a) (hs : Safe Z EL vm h a)
    (k : ∀ h', Wr h h' a i (.int (nar .char x)) → AR Z h' a .char N (upd f i (.int (nar .char x))) → (∀ x, Safe Z EL vm h x → Safe Z EL vm h' x) → Run p l e R s m args below meth c Z nw EL K vm h' cells slots (fr m q L r)) : Run p l e R s m args below meth c Z nw EL K vm h cells slots (fr m pc L (.int x :: .int j :: .ref a :: r)) := by
  obtain ⟨hd, rfl⟩ := hd
  have A0 := A
  obtain ⟨cl, A, hn, h31, H⟩ := A
  refine Run.write C (a := a) (sl := i) (v := .int (nar .char x)) (fun T locs X e1 hZ hown => ?_) ha hs (fun h' W Sf => k h' W (A0.set W (fits_nar_char x)) Sf)
  have z := stC X C.1 hZ e1 A (x := x) (in_of hj hi hn) (g := fr m pc L (.int x :: .int j :: .ref a :: r)) rfl rfl (hb C.2.1 hd)
  rw [cl_of hj] at z
  exact z
theorem R_bastore (C : Cx p s m meth c Z a0 EL own B n nm ret) {j x : Int32} (i : Nat) (hd : Dc B pc (.bastore) 1 q) (A : AR Z h a .byte N f) (hj : j.toInt = i) (hi : i < N) (ha : Z.heap.size ≤ a) (hs : Safe Z EL vm h a)
    (k : ∀ h', Wr h h' a i (.int (nar .byte x)) → AR Z h' a .byte N (upd f i (.int (nar .byte x))) → (∀ x, Safe Z EL vm h x → Safe Z EL vm h' x) → Run p l e R s m args below meth c Z nw EL K vm h' cells slots (fr m q L r)) : Run p l e R s m args below meth c Z nw EL K vm h cells slots (fr m pc L (.int x :: .int j :: .ref a :: r)) := by
  obtain ⟨hd, rfl⟩ := hd
  have A0 := A
  obtain ⟨cl, A, hn, h31, H⟩ := A
  refine Run.write C (a := a) (sl := i) (v := .int (nar .byte x)) (fun T locs X e1 hZ hown => ?_) ha hs (fun h' W Sf => k h' W (A0.set W (fits_nar_byte x)) Sf)
  have z := stB X C.1 hZ e1 A (x := x) (in_of hj hi hn) (g := fr m pc L (.int x :: .int j :: .ref a :: r)) rfl rfl (hb C.2.1 hd)
  rw [cl_of hj] at z
  exact z
theorem nsz {x : Int32} (h : x.toInt = N) : N < 2 ^ 31 := by have := Int32.toInt_lt x; omega
theorem R_newarray (C : Cx p s m meth c Z a0 EL own B n nm ret) {x : Int32} {aty : ArrayType} (cap : Nat) (hd : Dc B pc (.newarray aty) 2 q) (w : (Cond.arrayClass (newarray.typeOf aty)).before a0 Z = true) (hx : x.toInt = N) (hcap : N ≤ cap) (hb8 : cap * 8 ≤ 536870912) (hc : cells + 1 ≤ R.cells) (hl : slots + cap ≤ R.slots) (hfit : fits (newarray.typeOf aty) (defaultValue (newarray.typeOf aty)) = true)
    (k : ∀ h', Ext h h' → AR Z h' h.size (newarray.typeOf aty) N (fun _ => defaultValue (newarray.typeOf aty)) → Safe Z EL vm h' h.size → (∀ x, Safe Z EL vm h x → Safe Z EL vm h' x) → Run p l e R s m args below meth c Z nw EL K vm h' (cells + 1) (slots + cap) (fr m q L (.ref h.size :: r))) : Run p l e R s m args below meth c Z nw EL K vm h cells slots (fr m pc L (.int x :: r)) := by
  obtain ⟨hd, rfl⟩ := hd
  refine Run.grow C (F := fun h' => AR Z h' h.size (newarray.typeOf aty) N (fun _ => defaultValue (newarray.typeOf aty))) (fun T locs X e1 hZ hown => ?_) (fun h' E F H Sf => k h' E F (Safe.ext E H (Safe.new (Nat.le_refl _))) Sf)
  obtain ⟨T', h', cA, X', e2, E, A, st⟩ := newP X C.1 hZ w e1 (g := fr m pc L (.int x :: r)) rfl (hb C.2.1 hd) (n := x) (rest := r) rfl (nn_of hx) (cap := cap) (by rw [cl_of hx]; exact hcap) hb8 hc hl
  refine ⟨T', h', X', e2, E, ⟨_, A, by rw [sz_new, cl_of hx], nsz hx, fun i hi => ⟨?_, hfit⟩⟩, st⟩
  simp [newA, cl_of hx, hi]
theorem Run.keepW (C : Cx p s m meth c Z a0 EL own B n nm ret) {g g' : JFrame} {F : Heap → Prop}
    (st : ∀ T locs, Stand p l e R (s.setVm vm) m args below meth c T locs cells slots → T.heap = h → Z.Warmed39 (s.setVm vm).vm → (s.setVm vm).vm.findClass own = some m.cls → ∃ T' h' L', Stand p l e R (s.setVm vm) m args below meth c T' (locs ++ L') cells slots ∧ T'.heap = h' ∧ Keep h h' [a] ∧ (∀ y ∈ L', y.base = a) ∧ F h' ∧ ∀ t, Steps p.tables e below (T'.setTop g') t → Steps p.tables e below (T.setTop g) t)
    (ha : Z.heap.size ≤ a) (hs : Safe Z EL vm h a)
    (k : ∀ h', Keep h h' [a] → F h' → (∀ x, Safe Z EL vm h x → Safe Z EL vm h' x) → Run p l e R s m args below meth c Z nw EL K vm h' cells slots g') : Run p l e R s m args below meth c Z nw EL K vm h cells slots g := by
  intro T P
  obtain ⟨kk, locs, X, e1, e2, e3, e4, e5, e6, e7, e8⟩ := P
  obtain ⟨T', h', L', X', e1', Kp, hL, hF, hst⟩ := st T locs X e1 e6 ((e4.1.alike.findClass _ _).trans C.2.2.1)
  have h1 : ∀ x ∈ [a], Safe Z EL vm h x := fun x hx => by cases List.mem_singleton.mp hx; exact hs
  exact Ends.go hst (k h' Kp hF (fun x S => Safe.keep Kp h1 e7.1.1 S) T' ⟨kk, _, X', e1', Fr.app e2 fun y hy => by rw [hL y hy]; exact ha, Ext.keep' e3 Kp fun x hx => by cases List.mem_singleton.mp hx; exact ha, e4, Nat.le_trans e5 Kp.1, e6, e7.trans (CHs.keep Kp h1 e7.1.1), e8⟩)
theorem arr_kind {cl : Cell} (A : Arr Z h a cl ty) : ∃ (k : Class) (comp : ClassId), Z.vm.classes[cl.cls]? = some k ∧ k.kind = .array comp ty := by
  obtain ⟨-, ⟨-, k, h1, comp, h2⟩, -⟩ := A
  exact ⟨k, comp, h1, h2⟩
theorem gd_of {cl : Cell} {i : Nat} (h : cl.slots[i]? = some v) : cl.slots.getD i .null = v := by
  simp [Array.getD, Array.getElem?_eq_some_iff] at h ⊢
  obtain ⟨h1, h2⟩ := h
  simp [h1, h2]
theorem R_arraycopy (C : Cx p s m meth c Z a0 EL own B n nm ret) {idx : Nat} {src dst : Addr} {sp dp nn : Int32} {Ns Nd : Nat} {fs fd : Nat → Value} (isp idp inn : Nat) (hd : Dc B pc (.invokestatic idx) 3 q)
    (w1 : (Cond.methodLink own idx acN).before a0 Z = true) (w2 : (Cond.native acN).before a0 Z = true) (w3 : (Cond.static acN).before a0 Z = true) (w4 : (Cond.initialized "java/lang/System").before a0 Z = true)
    (A : AR Z h src ty Ns fs) (D : AR Z h dst ty Nd fd) (hp : refKind ty = false) (q1 : sp.toInt = isp) (q2 : dp.toInt = idp) (q3 : nn.toInt = inn) (b1 : isp + inn ≤ Ns) (b2 : idp + inn ≤ Nd) (hz : L.length = n)
    (rf : 1 ≤ R.frames) (rl : (r.map fun v => v.category).sum + 18 ≤ R.locals) (ha : Z.heap.size ≤ dst) (hs : Safe Z EL vm h dst)
    (k : ∀ h', Keep h h' [dst] → AR Z h' dst ty Nd (fun i => if idp ≤ i ∧ i < idp + inn then fs (isp + (i - idp)) else fd i) → (∀ x, Safe Z EL vm h x → Safe Z EL vm h' x) → Run p l e R s m args below meth c Z nw EL K vm h' cells slots (fr m q L r)) : Run p l e R s m args below meth c Z nw EL K vm h cells slots (fr m pc L (.int nn :: .int dp :: .ref dst :: .int sp :: .ref src :: r)) := by
  obtain ⟨hd, rfl⟩ := hd
  obtain ⟨cs, A, hns, h31, H⟩ := A
  obtain ⟨cd, D, hnd, h31', H'⟩ := D
  refine Run.keepW C (F := fun h' => AR Z h' dst ty Nd (fun i => if idp ≤ i ∧ i < idp + inn then fs (isp + (i - idp)) else fd i)) (fun T locs X e1 hZ hown => ?_) ha hs k
  obtain ⟨ks, sc, k1, k2⟩ := arr_kind A
  obtain ⟨kd, dc, k3, k4⟩ := arr_kind D
  obtain ⟨ks', k1', ek1⟩ := hZ.alike.2.2 _ _ k1
  obtain ⟨kd', k3', ek3⟩ := hZ.alike.2.2 _ _ k3
  have hty : ((refKind ty != refKind ty) || (!refKind ty && ty != ty)) = false := by simp
  obtain ⟨vm1, hW1, X', st⟩ := X.arraycopyK C.1 hown (mvT hZ w1) (mvT hZ w2) (mvT hZ w3) (mvT hZ w4) (src := src) (dst := dst) (srcPos := sp) (destPos := dp) (n := nn) (cs := cs) (cd := cd) (by rw [e1]; exact A.1) (by rw [e1]; exact D.1) A.2.1.1 D.2.1.1 A.2.2 D.2.2 k1' k3' (by rw [ek1]; exact k2) (by rw [ek3]; exact k4) hty (nn_of q1) (nn_of q2) (nn_of q3) (by rw [q1, q3, hns]; omega) (by rw [q2, q3, hnd]; omega)
    (fun vm2 _ i hi => by
      rw [cl_of q3] at hi
      rw [cl_of q1]
      have z := H (isp + i) (by omega)
      rw [gd_of z.1]
      exact ⟨z.2, State.takes_of_prim _ _ hp z.2⟩) (g := fr m pc L (.int nn :: .int dp :: .ref dst :: .int sp :: .ref src :: r)) rfl (by rw [C.2.2.2.1]; exact hz) (rest := r) rfl (hb C.2.1 hd) rf (by show 2 * 0 + _ + (7 + 11) ≤ _; omega)
  have hfacts := Cell.storeRun_facts cd dp.toNatClampNeg (cs.stretch sp.toNatClampNeg nn.toNatClampNeg)
  have hlt : dst < h.size := D.lt
  have hnew : (h.setIfInBounds dst (copied cs cd sp dp nn))[dst]? = some (copied cs cd sp dp nn) := by simp [hlt]
  have hoth : ∀ x, x ≠ dst → (h.setIfInBounds dst (copied cs cd sp dp nn))[x]? = h[x]? := fun x hx => Array.getElem?_setIfInBounds_ne (Ne.symm hx)
  refine ⟨_, h.setIfInBounds dst (copied cs cd sp dp nn), _, X', ?_, ⟨by simp, fun x cl hx hn => ?_, fun x cl hx => ?_⟩, fun y hy => copyLocs_base hy, ⟨copied cs cd sp dp nn, ⟨hnew, ?_, ?_⟩, ?_, h31', fun i hi => ?_⟩, st⟩
  · rw [← e1]; rfl
  · rw [hoth x (fun z => hn (by rw [z]; exact List.mem_singleton.mpr rfl))]; exact hx
  · by_cases z : x = dst
    · subst z
      cases D.1.symm.trans hx
      exact ⟨_, hnew, hfacts.1, hfacts.2.1, hfacts.2.2.1⟩
    · exact ⟨cl, by rw [hoth x z]; exact hx, rfl, rfl, rfl⟩
  · obtain ⟨z1, kk, z2, z3⟩ := D.2.1
    exact ⟨by rw [hfacts.2.1]; exact z1, kk, by rw [hfacts.1]; exact z2, z3⟩
  · rw [hfacts.2.1]; exact D.2.2
  · rw [hfacts.2.2.1]; exact hnd
  · have z : (copied cs cd sp dp nn).slots[i]? = if idp ≤ i ∧ i < idp + inn then (cs.stretch isp inn)[i - idp]? else cd.slots[i]? := by
      show (cd.storeRun dp.toNatClampNeg (cs.stretch sp.toNatClampNeg nn.toNatClampNeg)).slots[i]? = _
      rw [cl_of q1, cl_of q2, cl_of q3, Cell.storeRun_get _ _ _ _ (by rw [Cell.stretch_length, hnd]; exact b2), Cell.stretch_length]
    rw [z]
    by_cases hc : idp ≤ i ∧ i < idp + inn
    · simp only [if_pos hc]
      have z2 := H (isp + (i - idp)) (by omega)
      refine ⟨?_, z2.2⟩
      have z3 : i - idp < inn := by omega
      simp only [Cell.stretch, List.getElem?_map, List.getElem?_range z3, Option.map_some]
      rw [gd_of z2.1]
    · simp only [if_neg hc]
      exact H' i hi
theorem R_checkcast_null (C : Cx p s m meth c Z a0 EL own B n nm ret) {idx : Nat} (hd : Dc B pc (.checkcast idx) 3 q)
    (k : Run p l e R s m args below meth c Z nw EL K vm h cells slots (fr m q L (.null :: r))) : Run p l e R s m args below meth c Z nw EL K vm h cells slots (fr m pc L (.null :: r)) := by
  obtain ⟨hd, rfl⟩ := hd
  exact Run.warm C (fun T locs X e1 hZ hown => ⟨T, X, e1, X.checkcastNull C.1 (g := fr m pc L (.null :: r)) rfl rfl (hb C.2.1 hd)⟩) k
theorem R_instanceof_null (C : Cx p s m meth c Z a0 EL own B n nm ret) {idx : Nat} (hd : Dc B pc (.instanceof idx) 3 q)
    (k : Run p l e R s m args below meth c Z nw EL K vm h cells slots (fr m q L (.int 0 :: r))) : Run p l e R s m args below meth c Z nw EL K vm h cells slots (fr m pc L (.null :: r)) := by
  obtain ⟨hd, rfl⟩ := hd
  exact Run.warm C (fun T locs X e1 hZ hown => ⟨T, X, e1, X.instanceofNull C.1 (g := fr m pc L (.null :: r)) rfl rfl (hb C.2.1 hd)⟩) k
/-- the clone of an array of the start -/
theorem R_clone (C : Cx p s m meth c Z a0 EL own B n nm ret) {idx : Nat} {ad : String} {cl : Cell} (hd : Dc B pc (.invokevirtual idx) 3 q)
    (w1 : (Cond.methodLink own idx ⟨ad, "clone", "()Ljava/lang/Object;"⟩).before a0 Z = true) (w2 : (Cond.sameMethod ad "java/lang/Object" "clone" "()Ljava/lang/Object;").before a0 Z = true) (w3 : (Cond.native ⟨"java/lang/Object", "clone", "()Ljava/lang/Object;"⟩).before a0 Z = true)
    (w4 : (Cond.instanceMethod ⟨"java/lang/Object", "clone", "()Ljava/lang/Object;"⟩).before a0 Z = true) (w5 : (Cond.selects ad ⟨ad, "clone", "()Ljava/lang/Object;"⟩ ⟨"java/lang/Object", "clone", "()Ljava/lang/Object;"⟩).before a0 Z = true) (w6 : (Cond.castable ad "java/lang/Cloneable").before a0 Z = true)
    (A : Arr Z h a cl ty) (hN : cl.slots.size = N) (h31 : N < 2 ^ 31) (hf : ∀ i, i < N → cl.slots[i]? = some (f i) ∧ fits ty (f i) = true) (E : Exa Z h a ad) (F : FitC Z cl) (hz : L.length = n) (rf : 1 ≤ R.frames) (rl : (r.map fun v => v.category).sum + 14 ≤ R.locals) (hc : cells + 1 ≤ R.cells) (hl : slots + N ≤ R.slots)
    (k : ∀ h', Ext h h' → AR Z h' h.size ty N f ∧ Exa Z h' h.size ad → (∀ x, Safe Z EL vm h x → Safe Z EL vm h' x) → Run p l e R s m args below meth c Z nw EL K vm h' (cells + 1) (slots + N) (fr m q L (.ref h.size :: r))) : Run p l e R s m args below meth c Z nw EL K vm h cells slots (fr m pc L (.ref a :: r)) := by
  obtain ⟨hd, rfl⟩ := hd
  refine Run.grow C (F := fun h' => AR Z h' h.size ty N f ∧ Exa Z h' h.size ad) (fun T locs X e1 hZ hown => ?_) (fun h' E F H Sf => k h' E F Sf)
  obtain ⟨T', h', X', e2, E2, A2, E3, st⟩ := cloneA X C.1 hZ hown w1 w2 w3 w4 w5 w6 e1 A E F (g := fr m pc L (.ref a :: r)) rfl (by rw [C.2.2.2.1]; exact hz) rfl (hb C.2.1 hd) rf (W := (r.map fun v => v.category).sum) (cap := N) (by show 2 * 0 + _ ≤ _; omega) rl (Nat.le_of_eq hN) hc hl
  exact ⟨T', h', X', e2, E2, ⟨⟨_, A2, hN, h31, hf⟩, E3⟩, st⟩
end Arrays
end Jvm.Own
namespace Jvm.Own
open Sem ClassFile Op Lib Bundle Jvm.Stand Jvm.Free Jvm.LawKit Jvm.RoadKit
section Cold
variable {p : Program} {l : Launch} {e : Env} {R : Room} {s : State} {m : MethodId} {args : Array Value} {below : List Frame} {meth : Method} {c : Code} {Z : State} {a0 : Array Value} {nw : Prop} {EL : List (String × Nat)} {K : State → Outcome → Prop} {vm : Vm} {h h' h0 : Heap} {cells slots : Nat} {own nm : String} {B : ByteArray} {n : Nat} {ret : Option FieldType} {pc q tq : Nat} {L : List Slot} {r : List Value} {a b : Addr} {ty : FieldType} {N sl : Nat} {f g : Nat → Value} {v : Value}
/-- ldc of a String constant that nobody reads -/
theorem R_ldcO (C : Cx p s m meth c Z a0 EL own B n nm ret) {idx : Nat} {text : String} (nn : Nat) (hd : Dc B pc (.ldc idx) 2 q) (hnw : ¬ nw) (w : (Cond.stringLink own idx text).before a0 Z = true) (wS : ∀ a ∈ Bundle.stringAtoms, a.before a0 Z = true)
    (hn : 4 * text.toList.length ≤ nn) (hbig : nn ≤ 536870912) (hc : cells + 2 ≤ R.cells) (hl : slots + (nn + 4) ≤ R.slots)
    (k : ∀ a vm' h', Ext h h' → (∀ x, x < h.size → Safe Z EL vm h x → Safe Z EL vm' h' x) → Run p l e R s m args below meth c Z nw EL K vm' h' (cells + 2) (slots + (nn + 4)) (fr m q L (.ref a :: r))) : Run p l e R s m args below meth c Z nw EL K vm h cells slots (fr m pc L r) := by
  obtain ⟨hd, rfl⟩ := hd
  intro T P
  obtain ⟨kk, locs, X, e1, e2, e3, e4, e5, e6, e7, e8⟩ := P
  obtain ⟨a, T', h', k1, X', e1', E, hS', hk', hZ', hf', hC, hL, st⟩ := ldcOH X C.1 e6 ((e4.1.alike.findClass _ _).trans C.2.2.1) w wS e1 e4 e5 C.2.2.2.2.2.2.2 e7.1.1 (g := fr m pc L r) rfl (hb C.2.1 hd) hn hbig hc hl
  exact Ends.go st (k a T'.vm h' E (fun x hx S => CHr.safe hC hx S) T' ⟨k1, locs, X', e1', e2, Ext.tr e3 E, hS', hk', hZ', e7.trans (CHs.cold hC hnw), fun z => absurd z hnw⟩)
/-- ldc of a String constant whose text is read -/
theorem R_ldcK (C : Cx p s m meth c Z a0 EL own B n nm ret) {idx : Nat} {text : String} {vs : List Value} {z : Int32} (nn : Nat) (hd : Dc B pc (.ldc idx) 2 q) (hnw : ¬ nw) (w : (Cond.stringLink own idx text).before a0 Z = true) (wS : ∀ a ∈ Bundle.stringAtoms, a.before a0 Z = true) (hmem : (own, idx) ∈ EL)
    (ht : (∀ c ∈ text.toList, c.toNat < 256) ∧ text.toList.map (fun c => Value.int (Jvm.Lit.byteI c.toNat.toUInt16)) = vs) (hz : z.toInt = vs.length)
    (hn : 4 * text.toList.length ≤ nn) (hbig : nn ≤ 536870912) (hc : cells + 2 ≤ R.cells) (hl : slots + (nn + 4) ≤ R.slots)
    (k : ∀ a b vm' h', Ext h h' → Exa Z h' a "java/lang/String" → Fld Z h' a "java/lang/String" "coder" "B" (.int 0) → Fld Z h' a "java/lang/String" "value" "[B" (.ref b) → AR Z h' b .byte vs.length (fun i => vs.getD i (.int 0)) → (∀ x, x < h.size → Safe Z EL vm h x → Safe Z EL vm' h' x) → (∀ x, Safe Z EL vm' h' x → x ≠ a ∧ x ≠ b) → Run p l e R s m args below meth c Z nw EL K vm' h' (cells + 2) (slots + (nn + 4)) (fr m q L (.ref a :: r))) : Run p l e R s m args below meth c Z nw EL K vm h cells slots (fr m pc L r) := by
  obtain ⟨hd, rfl⟩ := hd
  have hz0 : ¬ z < 0 := nn_of hz
  have hzc : z.toNatClampNeg = vs.length := cl_of hz
  intro T P
  obtain ⟨kk, locs, X, e1, e2, e3, e4, e5, e6, e7, e8⟩ := P
  obtain ⟨a, T', h', k1, b, kb, X', e1', E, hS', hk', hZ', hf', hE, hF1, hF2, hA, -, -, hC, hL, hne, st⟩ := ldcCH X C.1 e6 ((e4.1.alike.findClass _ _).trans C.2.2.1) w wS e1 e4 e5 C.2.2.2.2.2.2.2 hmem e7.1.1 ht hz0 hzc (g := fr m pc L r) rfl (hb C.2.1 hd) hn hbig hc hl
  have A : AR Z h' b .byte vs.length (fun i => vs.getD i (.int 0)) := by
    obtain ⟨cl, A1, -, A3, -, A5, A6⟩ := hA
    have hsz : cl.slots.size = vs.length := by rw [A3, hzc]
    refine ⟨cl, A1, hsz, nsz hz, fun i hi => ⟨A5 i (by omega), A6 i (by omega)⟩⟩
  exact Ends.go st (k a b T'.vm h' E hE hF1 hF2 A (fun x hx S => CHr.safe hC hx S) hne T' ⟨k1, locs, X', e1', e2, Ext.tr e3 E, hS', hk', hZ', e7.trans (CHs.cold hC hnw), fun z => absurd z hnw⟩)
end Cold
end Jvm.Own
namespace Jvm.Pilot.@@N@@
open Jvm Jvm.ClassFile Sem Op Lib Jvm.Free Jvm.Stand Jvm.LawKit Jvm.RoadKit Bundle Jvm.Own Jvm.Kit Jvm.Pilot.@@N@@.Jvm.D
theorem pd_0 : parseMethodDescriptor "()B" = some ⟨[], (some .byte)⟩ := by decide +kernel
theorem pd_1 : parseMethodDescriptor "([CI[BII)I" = some ⟨[(.array .char), .int, (.array .byte), .int, .int], (some .int)⟩ := by decide +kernel
theorem pd_2 : parseMethodDescriptor "([CII)[B" = some ⟨[(.array .char), .int, .int], (some (.array .byte))⟩ := by decide +kernel
theorem pd_3 : parseMethodDescriptor "([BI)B" = some ⟨[(.array .byte), .int], (some .byte)⟩ := by decide +kernel
theorem pd_4 : parseMethodDescriptor "(IILjava/util/function/BiFunction;)I" = some ⟨[.int, .int, (.object "java/util/function/BiFunction")], (some .int)⟩ := by decide +kernel
theorem pd_5 : parseMethodDescriptor "(II)V" = some ⟨[.int, .int], none⟩ := by decide +kernel
theorem pd_6 : parseMethodDescriptor "()Z" = some ⟨[], (some .boolean)⟩ := by decide +kernel
theorem pd_7 : parseMethodDescriptor "([BI)C" = some ⟨[(.array .byte), .int], (some .char)⟩ := by decide +kernel
theorem pd_8 : parseMethodDescriptor "(I)I" = some ⟨[.int], (some .int)⟩ := by decide +kernel
theorem pd_9 : parseMethodDescriptor "([BII)V" = some ⟨[(.array .byte), .int, .int], none⟩ := by decide +kernel
theorem pd_10 : parseMethodDescriptor "(I)[B" = some ⟨[.int], (some (.array .byte))⟩ := by decide +kernel
theorem pd_11 : parseMethodDescriptor "([B)I" = some ⟨[(.array .byte)], (some .int)⟩ := by decide +kernel
theorem pd_12 : parseMethodDescriptor "(I[B)V" = some ⟨[.int, (.array .byte)], none⟩ := by decide +kernel
theorem pd_13 : parseMethodDescriptor "(IIILjava/util/function/BiFunction;)I" = some ⟨[.int, .int, .int, (.object "java/util/function/BiFunction")], (some .int)⟩ := by decide +kernel
theorem pd_14 : parseMethodDescriptor "(III)I" = some ⟨[.int, .int, .int], (some .int)⟩ := by decide +kernel
theorem pd_15 : parseMethodDescriptor "([CII)Ljava/lang/Void;" = some ⟨[(.array .char), .int, .int], (some (.object "java/lang/Void"))⟩ := by decide +kernel
theorem pd_16 : parseMethodDescriptor "([CIILjava/lang/Void;)V" = some ⟨[(.array .char), .int, .int, (.object "java/lang/Void")], none⟩ := by decide +kernel
theorem pd_17 : parseMethodDescriptor "(I)V" = some ⟨[.int], none⟩ := by decide +kernel
theorem pd_18 : parseMethodDescriptor "([CII)V" = some ⟨[(.array .char), .int, .int], none⟩ := by decide +kernel
theorem pd_19 : parseMethodDescriptor "(I)C" = some ⟨[.int], (some .char)⟩ := by decide +kernel
theorem pd_20 : parseMethodDescriptor "()Ljava/lang/String;" = some ⟨[], (some (.object "java/lang/String"))⟩ := by decide +kernel
theorem pd_21 : parseMethodDescriptor "()I" = some ⟨[], (some .int)⟩ := by decide +kernel
theorem pd_22 : parseMethodDescriptor "(C)Lcom/example/ruth/ruth/protocol/XmlText;" = some ⟨[.char], (some (.object "com/example/ruth/ruth/protocol/XmlText"))⟩ := by decide +kernel
theorem pd_23 : parseMethodDescriptor "()V" = some ⟨[], none⟩ := by decide +kernel
theorem cat_ref {v : Value} (h : v.isRef = true) : v.category = 1 := by cases v <;> first | rfl | cases h
theorem ofNat_toInt {x : Int32} (h : 0 ≤ x.toInt) : x = Int32.ofNat x.toInt.toNat := by
  apply Int32.toInt_inj.mp
  have := Int32.toInt_lt x
  rw [Int32.toInt_ofNat_small (by omega)]
  omega
theorem byte_back {x : Int32} (h0 : 0 ≤ x.toInt) (h1 : x.toInt ≤ 255) : nar .char (x.toInt8.toInt32 &&& 255) = x := by
  have z : ∀ k : Fin 256, nar .char ((Int32.ofNat k.val).toInt8.toInt32 &&& 255) = Int32.ofNat k.val := by decide +kernel
  have z1 := z ⟨x.toInt.toNat, by omega⟩
  rw [ofNat_toInt h0]
  exact z1
theorem nar_c (x : Int32) : nar .char x = x.toUInt32.toUInt16.toUInt32.toInt32 := rfl
theorem u16_toInt (u : UInt16) : u.toUInt32.toInt32.toInt = (u.toNat : Int) := by
  have h := u.toNat_lt
  show (u.toUInt32.toBitVec).toInt = _
  rw [BitVec.toInt_eq_toNat_of_lt]
  · rfl
  · show 2 * u.toUInt32.toNat < 2 ^ 32
    rw [UInt16.toNat_toUInt32]; omega
theorem char_bound (x : Int32) : 0 ≤ (nar .char x).toInt ∧ (nar .char x).toInt ≤ 65535 := by
  rw [nar_c, u16_toInt]
  have h1 := x.toUInt32.toUInt16.toNat_lt
  omega
theorem i32_nn_u (x : Int32) (h : 0 ≤ x.toInt) : (x.toUInt32.toNat : Int) = x.toInt := by
  show (x.toBitVec.toNat : Int) = x.toBitVec.toInt
  have : 0 ≤ x.toBitVec.toInt := h
  rw [BitVec.toInt_eq_toNat_cond] at *
  split at this
  · rw [if_pos ‹_›]
  · have := x.toBitVec.isLt
    omega
theorem nar_char_id {x : Int32} (h0 : 0 ≤ x.toInt) (h1 : x.toInt ≤ 65535) : nar .char x = x := by
  apply Int32.toInt_inj.mp
  rw [nar_c, u16_toInt]
  have q := i32_nn_u x h0
  rw [UInt32.toNat_toUInt16]
  omega
theorem nar_nar_char (x : Int32) : nar .char (nar .char x) = nar .char x := nar_char_id (char_bound x).1 (char_bound x).2
theorem lo_byte (x : Int32) : (x.toInt8.toInt32 &&& 255).toInt = x.toInt % 256 := by
  have q : (x.toInt8.toInt32 &&& 255).toInt = _ := i32_mask x.toInt8.toInt32 255 (k := 8) (by decide) (by decide)
  rw [q, Int8.toInt_toInt32, Int32.toInt_toInt8, Int.bmod_def]
  omega
theorem or_parts (x y : Int32) (h0 : 0 ≤ x.toInt) (h1 : x.toInt < 256) (h2 : 0 ≤ y.toInt) (h3 : y.toInt < 256) : (x <<< ((0 : Int32) &&& 31) ||| y <<< ((8 : Int32) &&& 31)).toInt = x.toInt + 256 * y.toInt := by
  have a1 : x <<< ((0 : Int32) &&& 31) = x := by rw [show ((0 : Int32) &&& 31) = 0 from rfl]; simp
  have a2 : (y <<< ((8 : Int32) &&& 31)).toInt = y.toInt * 256 := by
    have q := i32_shl y ((8 : Int32) &&& 31) (k := 8) (by decide) (by omega) (by omega)
    exact q
  rw [a1]
  generalize hz : y <<< ((8 : Int32) &&& 31) = z at a2 ⊢
  have b1 := i32_nn_u x h0
  have b2 := i32_nn_u z (by omega)
  have b3 : (x ||| z).toUInt32.toNat = x.toUInt32.toNat ||| z.toUInt32.toNat := rfl
  have b4 : z.toUInt32.toNat = 2 ^ 8 * y.toInt.toNat := by omega
  have b5 : x.toUInt32.toNat < 2 ^ 8 := by omega
  have b6 : (x ||| z).toUInt32.toNat = 2 ^ 8 * y.toInt.toNat + x.toUInt32.toNat := by
    rw [b3, b4, Nat.or_comm, ← Nat.two_pow_add_eq_or_of_lt b5]
  have b7 : (x ||| z).toInt = ((x ||| z).toUInt32.toNat : Int) := by
    show (x ||| z).toBitVec.toInt = _
    rw [BitVec.toInt_eq_toNat_of_lt]
    · rfl
    · show 2 * (x ||| z).toUInt32.toNat < 2 ^ 32
      omega
  rw [b7, b6]
  omega
theorem chr_back {c : Int32} (h0 : 0 ≤ c.toInt) (h1 : c.toInt ≤ 65535) : nar .char ((c.toInt8.toInt32 &&& 255) <<< ((0 : Int32) &&& 31) ||| ((c >>> ((8 : Int32) &&& 31)).toInt8.toInt32 &&& 255) <<< ((8 : Int32) &&& 31)) = c := by
  have e1 := lo_byte c
  have e2 := lo_byte (c >>> ((8 : Int32) &&& 31))
  have e3 : (c >>> ((8 : Int32) &&& 31)).toInt = c.toInt / 256 := i32_shr c ((8 : Int32) &&& 31) (k := 8) (by decide)
  have e4 := or_parts (c.toInt8.toInt32 &&& 255) ((c >>> ((8 : Int32) &&& 31)).toInt8.toInt32 &&& 255) (by omega) (by omega) (by omega) (by omega)
  have e5 : ((c.toInt8.toInt32 &&& 255) <<< ((0 : Int32) &&& 31) ||| ((c >>> ((8 : Int32) &&& 31)).toInt8.toInt32 &&& 255) <<< ((8 : Int32) &&& 31)) = c := Int32.toInt_inj.mp (by omega)
  rw [e5, nar_char_id h0 h1]
theorem nar_byte_byte (x : Int32) : nar .byte x.toInt8.toInt32 = x.toInt8.toInt32 := by simp [nar]
theorem tw2 (a b : Int32) : ∀ i, i < 2 → upd (upd (fun _ => defaultValue (newarray.typeOf .char)) 0 (.int a)) 1 (.int b) i = .int (if i = 0 then a else b) := by
  intro i hi
  match i, hi with
  | 0, _ => rfl
  | 1, _ => rfl
theorem tw1 (a : Int32) : ∀ i, i < 1 → upd (fun _ => defaultValue (newarray.typeOf .char)) 0 (.int a) i = .int a := by
  intro i hi
  match i, hi with
  | 0, _ => rfl
abbrev by8 (x : Int32) : Value := .int x.toInt8.toInt32
abbrev STR : String := "java/lang/String"
abbrev UTF : String := "java/lang/StringUTF16"
abbrev LAT : String := "java/lang/StringLatin1"
abbrev PRE : String := "jdk/internal/util/Preconditions"
abbrev BIF : String := "Ljava/util/function/BiFunction;"
theorem pn_str : plainName STR = true := by first | (simp [plainName, overriddenIn]; done) | decide +kernel
theorem pn_utf : plainName UTF = true := by first | (simp [plainName, overriddenIn]; done) | decide +kernel
theorem pn_lat : plainName LAT = true := by first | (simp [plainName, overriddenIn]; done) | decide +kernel
theorem pn_pre : plainName PRE = true := by first | (simp [plainName, overriddenIn]; done) | decide +kernel
theorem efs1 (m : MethodId) (x0 : Addr) : entryFrame m #[(.ref x0)] 1 = fr m 0 [.val (.ref x0)] [] := by first | (simp [entryFrame, mkF, argsToLocals, Value.category]; done) | rfl
theorem efRI2 (m : MethodId) (x0 : Addr) (x1 : Int32) : entryFrame m #[(.ref x0), (.int x1)] 2 = fr m 0 [.val (.ref x0), .val (.int x1)] [] := by first | (simp [entryFrame, mkF, argsToLocals, Value.category]; done) | rfl
theorem efII2 (m : MethodId) (x0 : Int32) (x1 : Int32) : entryFrame m #[(.int x0), (.int x1)] 2 = fr m 0 [.val (.int x0), .val (.int x1)] [] := by first | (simp [entryFrame, mkF, argsToLocals, Value.category]; done) | rfl
theorem efck (m : MethodId) (x0 : Int32) (x1 : Int32) (x2 : Value) (q2 : x2.category = 1) : entryFrame m #[(.int x0), (.int x1), (x2)] 3 = fr m 0 [.val (.int x0), .val (.int x1), .val (x2)] [] := by simp [entryFrame, mkF, argsToLocals, cat_int, cat_rf, cat_lng, q2]
theorem efi2 (m : MethodId) (x0 : Addr) (x1 : Addr) : entryFrame m #[(.ref x0), (.ref x1)] 2 = fr m 0 [.val (.ref x0), .val (.ref x1)] [] := by first | (simp [entryFrame, mkF, argsToLocals, Value.category]; done) | rfl
theorem efi6 (m : MethodId) (x0 : Addr) (x1 : Addr) (x2 : Int32) (x3 : Int32) (x4 : Value) (q4 : x4.category = 1) : entryFrame m #[(.ref x0), (.ref x1), (.int x2), (.int x3), (x4)] 6 = fr m 0 [.val (.ref x0), .val (.ref x1), .val (.int x2), .val (.int x3), .val (x4), .unset] [] := by simp [entryFrame, mkF, argsToLocals, cat_int, cat_rf, cat_lng, q4]
theorem efc6 (m : MethodId) (x0 : Addr) (x1 : Int32) (x2 : Int32) : entryFrame m #[(.ref x0), (.int x1), (.int x2)] 6 = fr m 0 [.val (.ref x0), .val (.int x1), .val (.int x2), .unset, .unset, .unset] [] := by first | (simp [entryFrame, mkF, argsToLocals, Value.category]; done) | rfl
theorem efl7 (m : MethodId) (x0 : Addr) (x1 : Int32) (x2 : Addr) (x3 : Int32) (x4 : Int32) : entryFrame m #[(.ref x0), (.int x1), (.ref x2), (.int x3), (.int x4)] 7 = fr m 0 [.val (.ref x0), .val (.int x1), .val (.ref x2), .val (.int x3), .val (.int x4), .unset, .unset] [] := by first | (simp [entryFrame, mkF, argsToLocals, Value.category]; done) | rfl
/-- the statics that the Strings' methods read -/
def SS (Z : State) (cs : Int32) (fm : Value) : Prop := (¬ cs = 0) ∧ Sta Z Z.heap STR "COMPACT_STRINGS" "Z" (.int cs) ∧ fm.isRef = true ∧ Sta Z Z.heap PRE "SIOOBE_FORMATTER" BIF fm
/-- the String at a is Latin-1, its bytes at b: n chars, the i-th g i -/
def StrL (Z : State) (h : Heap) (a b : Addr) (n : Nat) (g : Nat → Int32) : Prop := Exa Z h a STR ∧ Fld Z h a STR "value" "[B" (.ref b) ∧ Fld Z h a STR "coder" "B" (.int 0) ∧ AR Z h b .byte n (fun i => by8 (g i)) ∧ ∀ i, i < n → 0 ≤ (g i).toInt ∧ (g i).toInt ≤ 255
theorem cd_0 : Dc jdk_42_method_152_code 0 (.getstatic 38) 3 3 := ⟨by decide +kernel, rfl⟩
theorem cd_3 : Jp jdk_42_method_152_code 3 (.ifCond .eq 10) (10) 6 13 := ⟨by decide +kernel, rfl, by decide, by decide⟩
theorem cd_6 : Dc jdk_42_method_152_code 6 (.aload_n 0) 1 7 := ⟨by decide +kernel, rfl⟩
theorem cd_7 : Dc jdk_42_method_152_code 7 (.getfield 15) 3 10 := ⟨by decide +kernel, rfl⟩
theorem cd_10 : Jp jdk_42_method_152_code 10 (.goto 4) (4) 13 14 := ⟨by decide +kernel, rfl, by decide, by decide⟩
theorem cd_13 : Dc jdk_42_method_152_code 13 (.iconst 1) 1 14 := ⟨by decide +kernel, rfl⟩
theorem cd_14 : Dc jdk_42_method_152_code 14 (.ireturn) 1 15 := ⟨by decide +kernel, rfl⟩
theorem le_0 : Dc jdk_42_method_54_code 0 (.aload_n 0) 1 1 := ⟨by decide +kernel, rfl⟩
theorem le_1 : Dc jdk_42_method_54_code 1 (.getfield 9) 3 4 := ⟨by decide +kernel, rfl⟩
theorem le_4 : Dc jdk_42_method_54_code 4 (.arraylength) 1 5 := ⟨by decide +kernel, rfl⟩
theorem le_5 : Dc jdk_42_method_54_code 5 (.aload_n 0) 1 6 := ⟨by decide +kernel, rfl⟩
theorem le_6 : Dc jdk_42_method_54_code 6 (.invokevirtual 335) 3 9 := ⟨by decide +kernel, rfl⟩
theorem le_9 : Dc jdk_42_method_54_code 9 (.ishr) 1 10 := ⟨by decide +kernel, rfl⟩
theorem le_10 : Dc jdk_42_method_54_code 10 (.ireturn) 1 11 := ⟨by decide +kernel, rfl⟩
theorem met_coder (l : Launch) (Z : State) (a0 : Array Value) (hw : ∀ d ∈ tables_1, d.before a0 Z = true) (nw : Prop) (EL : List (String × Nat)) (hEL : EW Z a0 EL) (cs : Int32) (fm : Value) (S : SS Z cs fm) (h : Heap) (a : Addr) (k : Int32) (hk : nar .byte k = k) (F : Fld Z h a STR "coder" "B" (.int k)) :
    Met l Z nw EL ⟨STR, "coder", "()B"⟩ jdk_42_method_152_code 1 (some .byte) ⟨0, 0, 0, 0⟩ #[.ref a] h [] (fun v h' => v = some (.int k) ∧ h' = h) := by
  refine Met.mk (a0 := a0) hEL pn_str ?_
  intro p e s m below meth c C hE hS
  rw [efs1]
  refine R_getstatic C cd_0 (hw _ (List.mem_of_getElem? (i := 62) rfl)) Via.refl (S.2.1.ext hE) ?_
  refine R_if C cd_3 (fun hc => absurd hc S.1) (fun _ => ?_)
  refine R_aload_n C cd_6 rfl rfl ?_
  refine R_getfield C cd_7 (hw _ (List.mem_of_getElem? (i := 51) rfl)) Via.refl (F) ?_
  refine R_goto C cd_10 ?_
  exact R_retN C cd_14 rfl (Or.inr (Or.inl rfl)) (Nat.le_refl _) (Nat.le_refl _) ⟨by rw [hk], rfl⟩
theorem met_length (l : Launch) (Z : State) (a0 : Array Value) (hw : ∀ d ∈ tables_1, d.before a0 Z = true) (nw : Prop) (EL : List (String × Nat)) (hEL : EW Z a0 EL) (cs : Int32) (fm : Value) (S : SS Z cs fm) (h : Heap) (a b : Addr) (N : Nat) (f : Nat → Value) (k : Int32) (hk : nar .byte k = k) (E : Exa Z h a STR) (F : Fld Z h a STR "coder" "B" (.int k)) (V : Fld Z h a STR "value" "[B" (.ref b)) (A : AR Z h b .byte N f) :
    Met l Z nw EL ⟨STR, "length", "()I"⟩ jdk_42_method_54_code 1 (some .int) ⟨1, 0, 0, 13⟩ #[.ref a] h [] (fun v h' => v = some (.int (N.toInt32 >>> (k &&& 31))) ∧ h' = h) := by
  refine Met.mk (a0 := a0) hEL pn_str ?_
  intro p e s m below meth c C hE hS
  rw [efs1]
  refine R_aload_n C le_0 rfl rfl ?_
  refine R_getfield C le_1 (hw _ (List.mem_of_getElem? (i := 50) rfl)) Via.refl (V) ?_
  refine R_arraylength C le_4 (A) rfl ?_
  refine R_aload_n C le_5 rfl rfl ?_
  refine R_virtual C [] le_6 (met_coder l Z a0 hw nw EL hEL cs fm S h a k hk F) (by first | exact fun z => z | exact fun _ => trivial) (E) (hw _ (List.mem_of_getElem? (i := 57) rfl)) (hw _ (List.mem_of_getElem? (i := 58) rfl)) (hw _ (List.mem_of_getElem? (i := 60) rfl)) (hw _ (List.mem_of_getElem? (i := 59) rfl)) (hw _ (List.mem_of_getElem? (i := 22) rfl)) (hw _ (List.mem_of_getElem? (i := 61) rfl)) (by decide) pd_0 rfl rfl rfl (Nat.le_of_ble_eq_true rfl) (Nat.le_of_ble_eq_true rfl) (Nat.le_of_ble_eq_true rfl) (Nat.le_of_ble_eq_true rfl) (fun _ q => nomatch q) ?_
  intro v vm' h' hQ hsz hSf hFr
  obtain ⟨rfl, rfl⟩ := hQ
  simp only [Option.toList_some, List.cons_append, List.nil_append]
  refine R_ishr C le_9 ?_
  exact R_retI C le_10 rfl (Nat.le_refl _) (Nat.le_refl _) ⟨rfl, rfl⟩
theorem shr0 (x : Int32) : x >>> ((0 : Int32) &&& 31) = x := by
  rw [show ((0 : Int32) &&& 31) = 0 from rfl]
  simp
theorem met_lengthL (l : Launch) (Z : State) (a0 : Array Value) (hw : ∀ d ∈ tables_1, d.before a0 Z = true) (nw : Prop) (EL : List (String × Nat)) (hEL : EW Z a0 EL) (cs : Int32) (fm : Value) (S : SS Z cs fm) (h : Heap) (a b : Addr) (n : Nat) (g : Nat → Int32) (X : StrL Z h a b n g) :
    Met l Z nw EL ⟨STR, "length", "()I"⟩ jdk_42_method_54_code 1 (some .int) ⟨1, 0, 0, 13⟩ #[.ref a] h [] (fun v h' => v = some (.int n.toInt32) ∧ h' = h) := by
  have q := met_length l Z a0 hw nw EL hEL cs fm S h a b n _ 0 rfl X.1 X.2.2.1 X.2.1 X.2.2.2.1
  rw [shr0] at q
  exact q
theorem cl_0 : Dc jdk_52_method_21_code 0 (.iconst 0) 1 1 := ⟨by decide +kernel, rfl⟩
theorem cl_1 : Dc jdk_52_method_21_code 1 (.istore 5) 2 3 := ⟨by decide +kernel, rfl⟩
theorem cl_3 : Dc jdk_52_method_21_code 3 (.iload 5) 2 5 := ⟨by decide +kernel, rfl⟩
theorem cl_5 : Dc jdk_52_method_21_code 5 (.iload 4) 2 7 := ⟨by decide +kernel, rfl⟩
theorem cl_7 : Jp jdk_52_method_21_code 7 (.if_icmp .ge 37) (37) 10 44 := ⟨by decide +kernel, rfl, by decide, by decide⟩
theorem cl_10 : Dc jdk_52_method_21_code 10 (.aload_n 0) 1 11 := ⟨by decide +kernel, rfl⟩
theorem cl_11 : Dc jdk_52_method_21_code 11 (.iload_n 1) 1 12 := ⟨by decide +kernel, rfl⟩
theorem cl_12 : Dc jdk_52_method_21_code 12 (.caload) 1 13 := ⟨by decide +kernel, rfl⟩
theorem cl_13 : Dc jdk_52_method_21_code 13 (.istore 6) 2 15 := ⟨by decide +kernel, rfl⟩
theorem cl_15 : Dc jdk_52_method_21_code 15 (.iload 6) 2 17 := ⟨by decide +kernel, rfl⟩
theorem cl_17 : Dc jdk_52_method_21_code 17 (.sipush 255) 3 20 := ⟨by decide +kernel, rfl⟩
theorem cl_20 : Jp jdk_52_method_21_code 20 (.if_icmp .le 6) (6) 23 26 := ⟨by decide +kernel, rfl, by decide, by decide⟩
theorem cl_23 : Dc jdk_52_method_21_code 23 (.iload 5) 2 25 := ⟨by decide +kernel, rfl⟩
theorem cl_25 : Dc jdk_52_method_21_code 25 (.ireturn) 1 26 := ⟨by decide +kernel, rfl⟩
theorem cl_26 : Dc jdk_52_method_21_code 26 (.aload_n 2) 1 27 := ⟨by decide +kernel, rfl⟩
theorem cl_27 : Dc jdk_52_method_21_code 27 (.iload_n 3) 1 28 := ⟨by decide +kernel, rfl⟩
theorem cl_28 : Dc jdk_52_method_21_code 28 (.iload 6) 2 30 := ⟨by decide +kernel, rfl⟩
theorem cl_30 : Dc jdk_52_method_21_code 30 (.i2b) 1 31 := ⟨by decide +kernel, rfl⟩
theorem cl_31 : Dc jdk_52_method_21_code 31 (.bastore) 1 32 := ⟨by decide +kernel, rfl⟩
theorem cl_32 : Dc jdk_52_method_21_code 32 (.iinc 1 1) 3 35 := ⟨by decide +kernel, rfl⟩
theorem cl_35 : Dc jdk_52_method_21_code 35 (.iinc 3 1) 3 38 := ⟨by decide +kernel, rfl⟩
theorem cl_38 : Dc jdk_52_method_21_code 38 (.iinc 5 1) 3 41 := ⟨by decide +kernel, rfl⟩
theorem cl_41 : Jp jdk_52_method_21_code 41 (.goto (-38)) (-38) 44 3 := ⟨by decide +kernel, rfl, by decide, by decide⟩
theorem cl_44 : Dc jdk_52_method_21_code 44 (.iload 4) 2 46 := ⟨by decide +kernel, rfl⟩
theorem cl_46 : Dc jdk_52_method_21_code 46 (.ireturn) 1 47 := ⟨by decide +kernel, rfl⟩
theorem cp_0 : Dc jdk_52_method_16_code 0 (.iload_n 2) 1 1 := ⟨by decide +kernel, rfl⟩
theorem cp_1 : Dc jdk_52_method_16_code 1 (.newarray .byte) 2 3 := ⟨by decide +kernel, rfl⟩
theorem cp_3 : Dc jdk_52_method_16_code 3 (.astore_n 3) 1 4 := ⟨by decide +kernel, rfl⟩
theorem cp_4 : Dc jdk_52_method_16_code 4 (.aload_n 0) 1 5 := ⟨by decide +kernel, rfl⟩
theorem cp_5 : Dc jdk_52_method_16_code 5 (.iload_n 1) 1 6 := ⟨by decide +kernel, rfl⟩
theorem cp_6 : Dc jdk_52_method_16_code 6 (.aload_n 3) 1 7 := ⟨by decide +kernel, rfl⟩
theorem cp_7 : Dc jdk_52_method_16_code 7 (.iconst 0) 1 8 := ⟨by decide +kernel, rfl⟩
theorem cp_8 : Dc jdk_52_method_16_code 8 (.iload_n 2) 1 9 := ⟨by decide +kernel, rfl⟩
theorem cp_9 : Dc jdk_52_method_16_code 9 (.invokestatic 115) 3 12 := ⟨by decide +kernel, rfl⟩
theorem cp_12 : Dc jdk_52_method_16_code 12 (.istore 4) 2 14 := ⟨by decide +kernel, rfl⟩
theorem cp_14 : Dc jdk_52_method_16_code 14 (.iload 4) 2 16 := ⟨by decide +kernel, rfl⟩
theorem cp_16 : Dc jdk_52_method_16_code 16 (.iload_n 2) 1 17 := ⟨by decide +kernel, rfl⟩
theorem cp_17 : Jp jdk_52_method_16_code 17 (.if_icmp .eq 40) (40) 20 57 := ⟨by decide +kernel, rfl, by decide, by decide⟩
theorem cp_20 : Dc jdk_52_method_16_code 20 (.aload_n 0) 1 21 := ⟨by decide +kernel, rfl⟩
theorem cp_21 : Dc jdk_52_method_16_code 21 (.iload_n 1) 1 22 := ⟨by decide +kernel, rfl⟩
theorem cp_22 : Dc jdk_52_method_16_code 22 (.iload_n 2) 1 23 := ⟨by decide +kernel, rfl⟩
theorem cp_23 : Dc jdk_52_method_16_code 23 (.invokestatic 119) 3 26 := ⟨by decide +kernel, rfl⟩
theorem cp_26 : Dc jdk_52_method_16_code 26 (.astore 5) 2 28 := ⟨by decide +kernel, rfl⟩
theorem cp_28 : Dc jdk_52_method_16_code 28 (.aload 5) 2 30 := ⟨by decide +kernel, rfl⟩
theorem cp_30 : Dc jdk_52_method_16_code 30 (.iload 4) 2 32 := ⟨by decide +kernel, rfl⟩
theorem cp_32 : Dc jdk_52_method_16_code 32 (.invokestatic 71) 3 35 := ⟨by decide +kernel, rfl⟩
theorem cp_35 : Dc jdk_52_method_16_code 35 (.sipush 255) 3 38 := ⟨by decide +kernel, rfl⟩
theorem cp_38 : Jp jdk_52_method_16_code 38 (.if_icmp .gt 16) (16) 41 54 := ⟨by decide +kernel, rfl, by decide, by decide⟩
theorem cp_41 : Dc jdk_52_method_16_code 41 (.aload 5) 2 43 := ⟨by decide +kernel, rfl⟩
theorem cp_43 : Dc jdk_52_method_16_code 43 (.iconst 0) 1 44 := ⟨by decide +kernel, rfl⟩
theorem cp_44 : Dc jdk_52_method_16_code 44 (.aload_n 3) 1 45 := ⟨by decide +kernel, rfl⟩
theorem cp_45 : Dc jdk_52_method_16_code 45 (.iconst 0) 1 46 := ⟨by decide +kernel, rfl⟩
theorem cp_46 : Dc jdk_52_method_16_code 46 (.iload_n 2) 1 47 := ⟨by decide +kernel, rfl⟩
theorem cp_47 : Dc jdk_52_method_16_code 47 (.invokestatic 123) 3 50 := ⟨by decide +kernel, rfl⟩
theorem cp_50 : Dc jdk_52_method_16_code 50 (.iload_n 2) 1 51 := ⟨by decide +kernel, rfl⟩
theorem cp_51 : Jp jdk_52_method_16_code 51 (.if_icmp .eq 6) (6) 54 57 := ⟨by decide +kernel, rfl, by decide, by decide⟩
theorem cp_54 : Dc jdk_52_method_16_code 54 (.aload 5) 2 56 := ⟨by decide +kernel, rfl⟩
theorem cp_56 : Dc jdk_52_method_16_code 56 (.areturn) 1 57 := ⟨by decide +kernel, rfl⟩
theorem cp_57 : Dc jdk_52_method_16_code 57 (.aload_n 3) 1 58 := ⟨by decide +kernel, rfl⟩
theorem cp_58 : Dc jdk_52_method_16_code 58 (.areturn) 1 59 := ⟨by decide +kernel, rfl⟩
theorem cf_0 : Dc jdk_52_method_15_code 0 (.iload_n 1) 1 1 := ⟨by decide +kernel, rfl⟩
theorem cf_1 : Dc jdk_52_method_15_code 1 (.aload_n 0) 1 2 := ⟨by decide +kernel, rfl⟩
theorem cf_2 : Dc jdk_52_method_15_code 2 (.arraylength) 1 3 := ⟨by decide +kernel, rfl⟩
theorem cf_3 : Dc jdk_52_method_15_code 3 (.isub) 1 4 := ⟨by decide +kernel, rfl⟩
theorem cf_4 : Dc jdk_52_method_15_code 4 (.bipush 31) 2 6 := ⟨by decide +kernel, rfl⟩
theorem cf_6 : Dc jdk_52_method_15_code 6 (.iushr) 1 7 := ⟨by decide +kernel, rfl⟩
theorem cf_7 : Dc jdk_52_method_15_code 7 (.i2b) 1 8 := ⟨by decide +kernel, rfl⟩
theorem cf_8 : Dc jdk_52_method_15_code 8 (.ireturn) 1 9 := ⟨by decide +kernel, rfl⟩
theorem i6_0 : Dc jdk_42_method_149_code 0 (.aload_n 0) 1 1 := ⟨by decide +kernel, rfl⟩
theorem i6_1 : Dc jdk_42_method_149_code 1 (.invokespecial 1) 3 4 := ⟨by decide +kernel, rfl⟩
theorem i6_4 : Dc jdk_42_method_149_code 4 (.iload_n 3) 1 5 := ⟨by decide +kernel, rfl⟩
theorem i6_5 : Jp jdk_42_method_149_code 5 (.ifCond .ne 22) (22) 8 27 := ⟨by decide +kernel, rfl, by decide, by decide⟩
theorem i6_8 : Dc jdk_42_method_149_code 8 (.aload_n 0) 1 9 := ⟨by decide +kernel, rfl⟩
theorem i6_9 : Dc jdk_42_method_149_code 9 (.ldc 7) 2 11 := ⟨by decide +kernel, rfl⟩
theorem i6_11 : Dc jdk_42_method_149_code 11 (.getfield 9) 3 14 := ⟨by decide +kernel, rfl⟩
theorem i6_14 : Dc jdk_42_method_149_code 14 (.putfield 9) 3 17 := ⟨by decide +kernel, rfl⟩
theorem i6_17 : Dc jdk_42_method_149_code 17 (.aload_n 0) 1 18 := ⟨by decide +kernel, rfl⟩
theorem i6_18 : Dc jdk_42_method_149_code 18 (.ldc 7) 2 20 := ⟨by decide +kernel, rfl⟩
theorem i6_20 : Dc jdk_42_method_149_code 20 (.getfield 15) 3 23 := ⟨by decide +kernel, rfl⟩
theorem i6_23 : Dc jdk_42_method_149_code 23 (.putfield 15) 3 26 := ⟨by decide +kernel, rfl⟩
theorem i6_26 : Dc jdk_42_method_149_code 26 (.return_) 1 27 := ⟨by decide +kernel, rfl⟩
theorem i6_27 : Dc jdk_42_method_149_code 27 (.getstatic 38) 3 30 := ⟨by decide +kernel, rfl⟩
theorem i6_30 : Jp jdk_42_method_149_code 30 (.ifCond .eq 28) (28) 33 58 := ⟨by decide +kernel, rfl, by decide, by decide⟩
theorem i6_33 : Dc jdk_42_method_149_code 33 (.aload_n 1) 1 34 := ⟨by decide +kernel, rfl⟩
theorem i6_34 : Dc jdk_42_method_149_code 34 (.iload_n 2) 1 35 := ⟨by decide +kernel, rfl⟩
theorem i6_35 : Dc jdk_42_method_149_code 35 (.iload_n 3) 1 36 := ⟨by decide +kernel, rfl⟩
theorem i6_36 : Dc jdk_42_method_149_code 36 (.invokestatic 177) 3 39 := ⟨by decide +kernel, rfl⟩
theorem i6_39 : Dc jdk_42_method_149_code 39 (.astore 5) 2 41 := ⟨by decide +kernel, rfl⟩
theorem i6_41 : Dc jdk_42_method_149_code 41 (.aload_n 0) 1 42 := ⟨by decide +kernel, rfl⟩
theorem i6_42 : Dc jdk_42_method_149_code 42 (.aload 5) 2 44 := ⟨by decide +kernel, rfl⟩
theorem i6_44 : Dc jdk_42_method_149_code 44 (.iload_n 3) 1 45 := ⟨by decide +kernel, rfl⟩
theorem i6_45 : Dc jdk_42_method_149_code 45 (.invokestatic 47) 3 48 := ⟨by decide +kernel, rfl⟩
theorem i6_48 : Dc jdk_42_method_149_code 48 (.putfield 15) 3 51 := ⟨by decide +kernel, rfl⟩
theorem i6_51 : Dc jdk_42_method_149_code 51 (.aload_n 0) 1 52 := ⟨by decide +kernel, rfl⟩
theorem i6_52 : Dc jdk_42_method_149_code 52 (.aload 5) 2 54 := ⟨by decide +kernel, rfl⟩
theorem i6_54 : Dc jdk_42_method_149_code 54 (.putfield 9) 3 57 := ⟨by decide +kernel, rfl⟩
theorem i6_57 : Dc jdk_42_method_149_code 57 (.return_) 1 58 := ⟨by decide +kernel, rfl⟩
theorem i6_58 : Dc jdk_42_method_149_code 58 (.aload_n 0) 1 59 := ⟨by decide +kernel, rfl⟩
theorem i6_59 : Dc jdk_42_method_149_code 59 (.iconst 1) 1 60 := ⟨by decide +kernel, rfl⟩
theorem i6_60 : Dc jdk_42_method_149_code 60 (.putfield 15) 3 63 := ⟨by decide +kernel, rfl⟩
theorem i6_63 : Dc jdk_42_method_149_code 63 (.aload_n 0) 1 64 := ⟨by decide +kernel, rfl⟩
theorem i6_64 : Dc jdk_42_method_149_code 64 (.aload_n 1) 1 65 := ⟨by decide +kernel, rfl⟩
theorem i6_65 : Dc jdk_42_method_149_code 65 (.iload_n 2) 1 66 := ⟨by decide +kernel, rfl⟩
theorem i6_66 : Dc jdk_42_method_149_code 66 (.iload_n 3) 1 67 := ⟨by decide +kernel, rfl⟩
theorem i6_67 : Dc jdk_42_method_149_code 67 (.invokestatic 180) 3 70 := ⟨by decide +kernel, rfl⟩
theorem i6_70 : Dc jdk_42_method_149_code 70 (.putfield 9) 3 73 := ⟨by decide +kernel, rfl⟩
theorem i6_73 : Dc jdk_42_method_149_code 73 (.return_) 1 74 := ⟨by decide +kernel, rfl⟩
theorem met_cl (l : Launch) (Z : State) (a0 : Array Value) (hw : ∀ d ∈ tables_1, d.before a0 Z = true) (nw : Prop) (EL : List (String × Nat)) (hEL : EW Z a0 EL) (h : Heap) (val dst : Addr) (Nc off len : Nat) (g : Nat → Int32) (fd : Nat → Value) (A : AR Z h val .char Nc (fun i => .int (g i))) (D : AR Z h dst .byte len fd) (hne : val ≠ dst) (hb : off + len ≤ Nc) (hdst : Z.heap.size ≤ dst) (offI lenI : Int32) (ho : offI.toInt = off) (hl : lenI.toInt = len) :
    Met l Z nw EL ⟨UTF, "compress", "([CI[BII)I"⟩ jdk_52_method_21_code 7 (some .int) ⟨0, 0, 0, 0⟩ #[.ref val, .int offI, .ref dst, .int 0, .int lenI] h [dst] (fun v h' => ∃ (r : Nat) (rI : Int32), v = some (.int rI) ∧ rI.toInt = r ∧ r ≤ len ∧ (∀ i, i < r → (g (off + i)).toInt ≤ 255) ∧ (r < len → 255 < (g (off + r)).toInt) ∧ Keep h h' [dst] ∧ AR Z h' dst .byte len (fun i => if i < r then by8 (g (off + i)) else fd i)) := by
  have h31 := A.small
  refine Met.mk (a0 := a0) hEL pn_utf ?_
  intro p e s m below meth c C hE hS
  rw [efl7]
  have hvd : val ∉ [dst] := fun z => hne (List.mem_singleton.mp z)
  have one : (1 : Int32).toInt = 1 := rfl
  have loop : ∀ (t i : Nat) (h1 : Heap) (oI dI iI : Int32) (s6 : Slot), i + t = len → okSlot s6 = true → oI.toInt = (off + i : Nat) → dI.toInt = i → iI.toInt = i → (∀ j, j < i → (g (off + j)).toInt ≤ 255) → Keep h h1 [dst] → AR Z h1 dst .byte len (fun j => if j < i then by8 (g (off + j)) else fd j) → Safe Z EL s.vm h1 dst →
      Run p l e ⟨0, 0, 0, 0⟩ s m #[.ref val, .int offI, .ref dst, .int 0, .int lenI] below meth c Z nw EL (Kf s Z nw EL ⟨0, 0, 0, 0⟩ (fun v h' => ∃ (r : Nat) (rI : Int32), v = some (.int rI) ∧ rI.toInt = r ∧ r ≤ len ∧ (∀ i, i < r → (g (off + i)).toInt ≤ 255) ∧ (r < len → 255 < (g (off + r)).toInt) ∧ Keep h h' [dst] ∧ AR Z h' dst .byte len (fun i => if i < r then by8 (g (off + i)) else fd i))) s.vm h1 0 0 (fr m 3 [.val (.ref val), .val (.int oI), .val (.ref dst), .val (.int dI), .val (.int lenI), .val (.int iI), s6] []) := by
    intro t
    induction t with
    | zero =>
      intro i h1 oI dI iI s6 hi o6 q1 q2 q3 q4 K1 D1 S1
      have hi' : i = len := by omega
      subst hi'
      refine R_iload C cl_3 rfl ?_
      refine R_iload C cl_5 rfl ?_
      refine R_icmp C cl_7 (fun _ => ?_) (fun (hc : ¬ ¬ iI < lenI) => absurd (show ¬ iI < lenI from ?_) hc)
      · refine R_iload C cl_44 rfl ?_
        exact R_retI C cl_46 rfl (Nat.le_refl _) (Nat.le_refl _) ⟨i, lenI, rfl, hl, Nat.le_refl _, q4, fun z => absurd z (Nat.lt_irrefl _), K1, D1⟩
      · rw [Int32.lt_iff_toInt_lt]; omega
    | succ t ih =>
      intro i h1 oI dI iI s6 hi o6 q1 q2 q3 q4 K1 D1 S1
      refine R_iload C cl_3 rfl ?_
      refine R_iload C cl_5 rfl ?_
      refine R_icmp C cl_7 (fun (hc : ¬ iI < lenI) => absurd (Int32.lt_iff_toInt_lt.mpr (by omega)) hc) (fun _ => ?_)
      have A1 := A.keep K1 hvd
      refine R_aload_n C cl_10 rfl rfl ?_
      refine R_iload_n C cl_11 rfl ?_
      refine R_caload C (off + i) cl_12 A1 q1 (by omega) rfl ?_
      refine R_istore C cl_13 o6 ?_
      simp only [fv0, fv1, fv2, fv3, List.set_cons_zero, List.set_cons_succ]
      refine R_iload C cl_15 rfl ?_
      refine R_sipush C cl_17 (v := 255) rfl ?_
      refine R_icmp C cl_20 (fun (hc : ¬ (255 : Int32) < g (off + i)) => ?_) (fun (hc : ¬ ¬ (255 : Int32) < g (off + i)) => ?_)
      · rw [Int32.lt_iff_toInt_lt, show (255 : Int32).toInt = 255 from rfl] at hc
        refine R_aload_n C cl_26 rfl rfl ?_
        refine R_iload_n C cl_27 rfl ?_
        refine R_iload C cl_28 rfl ?_
        refine R_i2b C cl_30 ?_
        refine R_bastore C i cl_31 D1 q2 (by omega) hdst S1 ?_
        intro h2 W2 D2 Sf2
        have r1 := Jvm.Kit.i32_add (p := oI) (q := 1) (by omega) (by omega)
        have r2 := Jvm.Kit.i32_add (p := dI) (q := 1) (by omega) (by omega)
        have r3 := Jvm.Kit.i32_add (p := iI) (q := 1) (by omega) (by omega)
        refine R_iinc C cl_32 rfl rfl (dI := 1) rfl rfl ?_
        simp only [fv0, fv1, fv2, fv3, List.set_cons_zero, List.set_cons_succ]
        refine R_iinc C cl_35 rfl rfl (dI := 1) rfl rfl ?_
        simp only [fv0, fv1, fv2, fv3, List.set_cons_zero, List.set_cons_succ]
        refine R_iinc C cl_38 rfl rfl (dI := 1) rfl rfl ?_
        simp only [fv0, fv1, fv2, fv3, List.set_cons_zero, List.set_cons_succ]
        refine R_goto C cl_41 ?_
        refine ih (i + 1) h2 _ _ _ _ (by omega) rfl (by omega) (by omega) (by omega) (fun j hj => ?_) (K1.wr W2 (Or.inl (List.mem_singleton.mpr rfl))) (D2.cg fun j hj => ?_) (Sf2 _ S1)
        · by_cases z : j = i
          · subst z; omega
          · exact q4 j (by omega)
        · by_cases z : j = i
          · subst z
            rw [upd_eq, if_pos (by omega), nar_byte_byte]
          · rw [upd_ne z]
            by_cases z2 : j < i
            · rw [if_pos z2, if_pos (by omega)]
            · rw [if_neg z2, if_neg (by omega)]
      · have hc' := Int32.lt_iff_toInt_lt.mp (Decidable.not_not.mp hc)
        rw [show (255 : Int32).toInt = 255 from rfl] at hc'
        refine R_iload C cl_23 rfl ?_
        exact R_retI C cl_25 rfl (Nat.le_refl _) (Nat.le_refl _) ⟨i, iI, rfl, q3, by omega, q4, fun _ => hc', K1, D1⟩
  refine R_iconst C cl_0 (v := 0) rfl ?_
  refine R_istore C cl_1 rfl ?_
  simp only [fv0, fv1, fv2, fv3, List.set_cons_zero, List.set_cons_succ]
  exact loop len 0 h _ _ _ _ (by omega) rfl (by omega) rfl rfl (fun j hj => absurd hj (Nat.not_lt_zero _)) (Keep.refl _ _) (D.cg fun j hj => by rw [if_neg (Nat.not_lt_zero _)]) (hS dst (List.mem_singleton.mpr rfl))
theorem met_cpL (l : Launch) (Z : State) (a0 : Array Value) (hw : ∀ d ∈ tables_1, d.before a0 Z = true) (nw : Prop) (EL : List (String × Nat)) (hEL : EW Z a0 EL) (h : Heap) (val : Addr) (Nc off len cap : Nat) (g : Nat → Int32) (A : AR Z h val .char Nc (fun i => .int (g i))) (hb : off + len ≤ Nc) (hcap : len ≤ cap) (hc8 : cap * 8 ≤ 536870912) (offI lenI : Int32) (ho : offI.toInt = off) (hl : lenI.toInt = len) (hlat : ∀ i, i < len → (g (off + i)).toInt ≤ 255) :
    Met l Z nw EL ⟨UTF, "compress", "([CII)[B"⟩ jdk_52_method_16_code 6 (some (.array .byte)) ⟨1, 1, cap, 18⟩ #[.ref val, .int offI, .int lenI] h [] (fun v h' => v = some (.ref h.size) ∧ Ext h h' ∧ AR Z h' h.size .byte len (fun i => by8 (g (off + i)))) := by
  refine Met.mk (a0 := a0) hEL pn_utf ?_
  intro p e s m below meth c C hE hS
  rw [efc6]
  refine R_iload_n C cp_0 rfl ?_
  refine R_newarray C cap cp_1 (hw _ (List.mem_of_getElem? (i := 45) rfl)) hl hcap hc8 (Nat.le_refl _) (Nat.le_of_eq (Nat.zero_add _)) rfl ?_
  intro h1 E1 D1 S1 Sf1
  refine R_astore_n C cp_3 rfl rfl rfl ?_
  simp only [fv0, fv1, fv2, fv3, List.set_cons_zero, List.set_cons_succ]
  refine R_aload_n C cp_4 rfl rfl ?_
  refine R_iload_n C cp_5 rfl ?_
  refine R_aload_n C cp_6 rfl rfl ?_
  refine R_iconst C cp_7 (v := 0) rfl ?_
  refine R_iload_n C cp_8 rfl ?_
  refine R_static C [.ref val, .int offI, .ref h.size, .int 0, .int lenI] cp_9 (met_cl l Z a0 hw nw EL hEL h1 val h.size Nc off len g _ (A.ext E1) D1 (Nat.ne_of_lt A.lt) hb hE.1 offI lenI ho hl) (by first | exact fun z => z | exact fun _ => trivial) (hw _ (List.mem_of_getElem? (i := 81) rfl)) (hw _ (List.mem_of_getElem? (i := 82) rfl)) (hw _ (List.mem_of_getElem? (i := 79) rfl)) (hw _ (List.mem_of_getElem? (i := 83) rfl)) (by decide) pd_1 rfl rfl rfl (Nat.le_refl _) (Nat.le_of_ble_eq_true rfl) (Nat.le_refl _) (Nat.le_of_eq (Nat.zero_add _)) (fun x hx => by cases List.mem_singleton.mp hx; exact S1) ?_
  intro v vm2 h2 hQ hsz2 hSf2 hFr
  obtain ⟨r, rI, rfl, hr1, hr2, hr3, hr4, K2, D2⟩ := hQ
  have hrl : r = len := by
    rcases Nat.lt_or_ge r len with z | z
    · have z1 := hr4 z
      have z2 := hlat r z
      omega
    · omega
  subst hrl
  simp only [Option.toList_some, List.cons_append, List.nil_append]
  refine R_istore C cp_12 rfl ?_
  simp only [fv0, fv1, fv2, fv3, List.set_cons_zero, List.set_cons_succ]
  refine R_iload C cp_14 rfl ?_
  refine R_iload_n C cp_16 rfl ?_
  refine R_icmp C cp_17 (fun _ => ?_) (fun (hc : ¬ rI = lenI) => absurd (Int32.toInt_inj.mp (by omega)) hc)
  refine R_aload_n C cp_57 rfl rfl ?_
  refine R_areturn C cp_58 rfl rfl rfl (Nat.le_refl _) (Nat.le_of_eq (Nat.zero_add _)) ⟨rfl, E1.keep' K2 (fun x hx => by cases List.mem_singleton.mp hx; exact Nat.le_refl _), D2.cg fun i hi => by rw [if_pos hi]⟩
theorem ushr0 : (XT.ushr 0 31).toInt8.toInt32 = 0 := by decide +kernel
theorem met_cfL (l : Launch) (Z : State) (a0 : Array Value) (hw : ∀ d ∈ tables_1, d.before a0 Z = true) (nw : Prop) (EL : List (String × Nat)) (hEL : EW Z a0 EL) (h : Heap) (b : Addr) (len : Nat) (f : Nat → Value) (A : AR Z h b .byte len f) (lenI : Int32) (hl : lenI.toInt = len) :
    Met l Z nw EL ⟨UTF, "coderFromArrayLen", "([BI)B"⟩ jdk_52_method_15_code 2 (some .byte) ⟨0, 0, 0, 0⟩ #[.ref b, .int lenI] h [] (fun v h' => v = some (.int 0) ∧ h' = h) := by
  refine Met.mk (a0 := a0) hEL pn_utf ?_
  intro p e s m below meth c C hE hS
  rw [efRI2]
  have hll : len.toInt32 = lenI := Int32.toInt_inj.mp (by rw [len_toInt A.small]; omega)
  subst hll
  refine R_iload_n C cf_0 rfl ?_
  refine R_aload_n C cf_1 rfl rfl ?_
  refine R_arraylength C cf_2 (A) rfl ?_
  refine R_isub C cf_3 ?_
  refine R_bipush C cf_4 (v := 31) rfl ?_
  refine R_iushr C cf_6 ?_
  refine R_i2b C cf_7 ?_
  refine R_retN C cf_8 rfl (Or.inr (Or.inl rfl)) (Nat.le_refl _) (Nat.le_refl _) ⟨?_, rfl⟩
  rw [Int32.sub_self, ushr0]
  rfl
/-- what new String(char[], off, len) leaves -/
def InQ (Z : State) (h : Heap) (a : Addr) (len : Nat) (g : Nat → Int32) (v : Option Value) (h' : Heap) : Prop := v = none ∧ Keep h h' [a] ∧ ∃ b, StrL Z h' a b len g
theorem met_i6L (l : Launch) (Z : State) (a0 : Array Value) (hw : ∀ d ∈ tables_1, d.before a0 Z = true) (nw : Prop) (EL : List (String × Nat)) (hEL : EW Z a0 EL) (cs : Int32) (fm : Value) (S : SS Z cs fm) (h : Heap) (a val : Addr) (Nc off len cap : Nat) (g : Nat → Int32) (A : AR Z h val .char Nc (fun i => .int (g i))) (hb : off + len ≤ Nc) (hcap : len ≤ cap) (hc8 : cap * 8 ≤ 536870912) (offI lenI : Int32) (ho : offI.toInt = off) (hl : lenI.toInt = len) (hpos : 0 < len) (hlat : ∀ i, i < len → 0 ≤ (g (off + i)).toInt ∧ (g (off + i)).toInt ≤ 255) (vo : Value) (hvo : vo.category = 1)
    (E : Exa Z h a STR) (F1 : Fld Z h a STR "value" "[B" .null) (F2 : Fld Z h a STR "coder" "B" (.int 0)) (ha : Z.heap.size ≤ a) :
    Met l Z nw EL ⟨STR, "<init>", "([CIILjava/lang/Void;)V"⟩ jdk_42_method_149_code 6 none ⟨2, 1, cap, 35⟩ #[.ref a, .ref val, .int offI, .int lenI, vo] h [a] (InQ Z h a len (fun i => g (off + i))) := by
  have Lv : Laid Z a0 STR STR "value" "[B" := Or.inr (hw _ (List.mem_of_getElem? (i := 46) rfl))
  have Lc : Laid Z a0 STR STR "coder" "B" := Or.inr (hw _ (List.mem_of_getElem? (i := 47) rfl))
  have nvc := slot_ne Lv Lc (by decide) (t := .array .byte) (t' := .byte) (by decide) (by decide)
  have ncv := slot_ne Lc Lv (by decide) (t := .byte) (t' := .array .byte) (by decide) (by decide)
  refine Met.mk (a0 := a0) hEL pn_str ?_
  intro p e s m below meth c C hE hS
  rw [efi6 m _ _ _ _ _ hvo]
  refine R_aload_n C i6_0 rfl rfl ?_
  refine R_initO C i6_1 (hw _ (List.mem_of_getElem? (i := 43) rfl)) (hw _ (List.mem_of_getElem? (i := 8) rfl)) (hw _ (List.mem_of_getElem? (i := 9) rfl)) rfl (Nat.le_of_ble_eq_true rfl) (Nat.le_of_ble_eq_true rfl) ?_
  refine R_iload_n C i6_4 rfl ?_
  refine R_if C i6_5 (fun _ => ?_) (fun (hc : ¬ ¬ lenI = 0) => absurd (show ¬ lenI = 0 from fun z => ?_) hc)
  · refine R_getstatic C i6_27 (hw _ (List.mem_of_getElem? (i := 62) rfl)) Via.refl (S.2.1.ext hE) ?_
    refine R_if C i6_30 (fun hc => absurd hc S.1) (fun _ => ?_)
    refine R_aload_n C i6_33 rfl rfl ?_
    refine R_iload_n C i6_34 rfl ?_
    refine R_iload_n C i6_35 rfl ?_
    refine R_static C [.ref val, .int offI, .int lenI] i6_36 (met_cpL l Z a0 hw nw EL hEL h val Nc off len cap g A hb hcap hc8 offI lenI ho hl (fun i hi => (hlat i hi).2)) (by first | exact fun z => z | exact fun _ => trivial) (hw _ (List.mem_of_getElem? (i := 77) rfl)) (hw _ (List.mem_of_getElem? (i := 78) rfl)) (hw _ (List.mem_of_getElem? (i := 79) rfl)) (hw _ (List.mem_of_getElem? (i := 80) rfl)) (by decide) pd_2 rfl rfl rfl (Nat.le_of_ble_eq_true rfl) (Nat.le_of_ble_eq_true rfl) (Nat.le_refl _) (Nat.le_of_eq (Nat.zero_add _)) (fun _ q => nomatch q) ?_
    intro v vm2 h2 hQ hsz2 hSf2 hFr
    obtain ⟨rfl, E2, D2⟩ := hQ
    simp only [Option.toList_some, List.cons_append, List.nil_append]
    refine R_astore C i6_39 rfl rfl rfl ?_
    simp only [fv0, fv1, fv2, fv3, List.set_cons_zero, List.set_cons_succ]
    refine R_aload_n C i6_41 rfl rfl ?_
    refine R_aload C i6_42 rfl rfl ?_
    refine R_iload_n C i6_44 rfl ?_
    refine R_static C [.ref h.size, .int lenI] i6_45 (met_cfL l Z a0 hw nw EL hEL h2 h.size len _ D2 lenI hl) (by first | exact fun z => z | exact fun _ => trivial) (hw _ (List.mem_of_getElem? (i := 84) rfl)) (hw _ (List.mem_of_getElem? (i := 85) rfl)) (hw _ (List.mem_of_getElem? (i := 79) rfl)) (hw _ (List.mem_of_getElem? (i := 86) rfl)) (by decide) pd_3 rfl rfl rfl (Nat.le_of_ble_eq_true rfl) (Nat.le_of_ble_eq_true rfl) (Nat.le_refl _) (Nat.le_of_eq (by simp)) (fun _ q => nomatch q) ?_
    intro v vm3 h3 hQ hsz3 hSf3 hFr
    obtain ⟨rfl, rfl⟩ := hQ
    have Sa : Safe Z EL vm3 h3 a := hSf3 a (E.ext E2).lt (hSf2 a E.lt (hS a (List.mem_singleton.mpr rfl)))
    refine R_putfield C i6_48 (hw _ (List.mem_of_getElem? (i := 51) rfl)) Via.refl (F2.ext E2) (E.ext E2) (Or.inr ⟨(hw _ (List.mem_of_getElem? (i := 47) rfl)), rfl, rfl⟩) (hw _ (List.mem_of_getElem? (i := 21) rfl)) (ty := .byte) (by decide) rfl rfl ha Sa ?_
    intro h4 W4 Sf4
    refine R_aload_n C i6_51 rfl rfl ?_
    refine R_aload C i6_52 rfl rfl ?_
    refine R_putfield C i6_54 (hw _ (List.mem_of_getElem? (i := 50) rfl)) Via.refl ((F1.ext E2).other W4 (Or.inr nvc)) ((E.ext E2).wr W4) (Or.inr ⟨(hw _ (List.mem_of_getElem? (i := 46) rfl)), rfl, rfl⟩) (hw _ (List.mem_of_getElem? (i := 21) rfl)) (ty := .array .byte) (by decide) rfl rfl ha (Sf4 _ Sa) ?_
    intro h5 W5 Sf5
    have ne : h.size ≠ a := Nat.ne_of_gt E.lt
    refine R_return C i6_57 rfl (Nat.le_refl _) (Nat.le_of_eq (by simp)) ⟨rfl, ?_, h.size, ((E.ext E2).wr W4).wr W5, ((F1.ext E2).other W4 (Or.inr nvc)).same W5, ((F2.ext E2).same W4).other W5 (Or.inr ncv), (D2.other W4 ne).other W5 ne, hlat⟩
    exact ((Keep.ofExt E2).wr W4 (Or.inl (List.mem_singleton.mpr rfl))).wr W5 (Or.inl (List.mem_singleton.mpr rfl))
  · rw [z] at hl
    rw [Int32.toInt_zero] at hl
    omega
theorem wS_1 {Z : State} {a0 : Array Value} (hw : ∀ d ∈ tables_1, d.before a0 Z = true) : ∀ a ∈ Bundle.stringAtoms, a.before a0 Z = true := by
  intro d hd
  simp only [Bundle.stringAtoms, List.mem_cons, List.not_mem_nil, or_false] at hd
  rcases hd with rfl | rfl | rfl | rfl | rfl | rfl | rfl
  · exact (hw _ (List.mem_of_getElem? (i := 22) rfl))
  · exact (hw _ (List.mem_of_getElem? (i := 21) rfl))
  · exact (hw _ (List.mem_of_getElem? (i := 45) rfl))
  · exact (hw _ (List.mem_of_getElem? (i := 46) rfl))
  · exact (hw _ (List.mem_of_getElem? (i := 47) rfl))
  · exact (hw _ (List.mem_of_getElem? (i := 48) rfl))
  · exact (hw _ (List.mem_of_getElem? (i := 49) rfl))
theorem met_i6E (l : Launch) (Z : State) (a0 : Array Value) (hw : ∀ d ∈ tables_1, d.before a0 Z = true) (EL : List (String × Nat)) (hEL : EW Z a0 EL) (hmem : ("java/lang/String", 7) ∈ EL) (h : Heap) (a val : Addr) (g : Nat → Int32) (offI : Int32) (vo : Value) (hvo : vo.category = 1)
    (E : Exa Z h a STR) (F1 : Fld Z h a STR "value" "[B" .null) (F2 : Fld Z h a STR "coder" "B" (.int 0)) (ha : Z.heap.size ≤ a) :
    Met l Z False EL ⟨STR, "<init>", "([CIILjava/lang/Void;)V"⟩ jdk_42_method_149_code 6 none ⟨2, 4, 8, 35⟩ #[.ref a, .ref val, .int offI, .int 0, vo] h [a] (InQ Z h a 0 g) := by
  have Lv : Laid Z a0 STR STR "value" "[B" := Or.inr (hw _ (List.mem_of_getElem? (i := 46) rfl))
  have Lc : Laid Z a0 STR STR "coder" "B" := Or.inr (hw _ (List.mem_of_getElem? (i := 47) rfl))
  have nvc := slot_ne Lv Lc (by decide) (t := .array .byte) (t' := .byte) (by decide) (by decide)
  have ncv := slot_ne Lc Lv (by decide) (t := .byte) (t' := .array .byte) (by decide) (by decide)
  refine Met.mk (a0 := a0) hEL pn_str ?_
  intro p e s m below meth c C hE hS
  rw [efi6 m _ _ _ _ _ hvo]
  refine R_aload_n C i6_0 rfl rfl ?_
  refine R_initO C i6_1 (hw _ (List.mem_of_getElem? (i := 43) rfl)) (hw _ (List.mem_of_getElem? (i := 8) rfl)) (hw _ (List.mem_of_getElem? (i := 9) rfl)) rfl (Nat.le_of_ble_eq_true rfl) (Nat.le_of_ble_eq_true rfl) ?_
  refine R_iload_n C i6_4 rfl ?_
  refine R_if C i6_5 (fun (hc : ¬ (0 : Int32) = 0) => absurd rfl hc) (fun _ => ?_)
  refine R_aload_n C i6_8 rfl rfl ?_
  refine R_ldcK C 0 i6_9 (fun z => z) (hw _ (List.mem_of_getElem? (i := 44) rfl)) (wS_1 hw) hmem (vs := []) (z := 0) ⟨by intro c hc; simp at hc, rfl⟩ rfl (Nat.le_of_ble_eq_true rfl) (Nat.le_of_ble_eq_true rfl) (Nat.le_of_ble_eq_true rfl) (Nat.le_of_ble_eq_true rfl) ?_
  intro l1 b1 vm1 h1 E1 X1 C1 V1 A1 Sf1 Ne1
  have Sa : Safe Z EL vm1 h1 a := Sf1 a E.lt (hS a (List.mem_singleton.mpr rfl))
  refine R_getfield C i6_11 (hw _ (List.mem_of_getElem? (i := 50) rfl)) Via.refl (V1) ?_
  refine R_putfield C i6_14 (hw _ (List.mem_of_getElem? (i := 50) rfl)) Via.refl (F1.ext E1) (E.ext E1) (Or.inr ⟨(hw _ (List.mem_of_getElem? (i := 46) rfl)), rfl, rfl⟩) (hw _ (List.mem_of_getElem? (i := 21) rfl)) (ty := .array .byte) (by decide) rfl rfl ha Sa ?_
  intro h2 W2 Sf2
  have Sa2 := Sf2 a Sa
  have nab : b1 ≠ a := (Ne1 a Sa).2.symm
  have E2 := (E.ext E1).wr W2
  have F22 := (F2.ext E1).other W2 (Or.inr ncv)
  have F12 := (F1.ext E1).same W2
  have A2 := A1.other W2 nab
  refine R_aload_n C i6_17 rfl rfl ?_
  refine R_ldcK C 0 i6_18 (fun z => z) (hw _ (List.mem_of_getElem? (i := 44) rfl)) (wS_1 hw) hmem (vs := []) (z := 0) ⟨by intro c hc; simp at hc, rfl⟩ rfl (Nat.le_of_ble_eq_true rfl) (Nat.le_of_ble_eq_true rfl) (Nat.le_of_ble_eq_true rfl) (Nat.le_of_ble_eq_true rfl) ?_
  intro l3 b3 vm3 h3 E3 X3 C3 V3 A3 Sf3 Ne3
  have Sa3 := Sf3 a E2.lt Sa2
  refine R_getfield C i6_20 (hw _ (List.mem_of_getElem? (i := 51) rfl)) Via.refl (C3) ?_
  refine R_putfield C i6_23 (hw _ (List.mem_of_getElem? (i := 51) rfl)) Via.refl (F22.ext E3) (E2.ext E3) (Or.inr ⟨(hw _ (List.mem_of_getElem? (i := 47) rfl)), rfl, rfl⟩) (hw _ (List.mem_of_getElem? (i := 21) rfl)) (ty := .byte) (by decide) rfl rfl ha Sa3 ?_
  intro h4 W4 Sf4
  refine R_return C i6_26 rfl (Nat.le_of_ble_eq_true rfl) (Nat.le_of_ble_eq_true rfl) ⟨rfl, ?_, b1, (E2.ext E3).wr W4, (F12.ext E3).other W4 (Or.inr nvc), (F22.ext E3).same W4, ((A2.ext E3).other W4 nab).cg (fun i hi => absurd hi (Nat.not_lt_zero _)), fun i hi => absurd hi (Nat.not_lt_zero _)⟩
  exact (((Keep.ofExt E1).wr W2 (Or.inl (List.mem_singleton.mpr rfl))).ext E3).wr W4 (Or.inl (List.mem_singleton.mpr rfl))
theorem il_0 : Dc jdk_42_method_154_code 0 (.getstatic 38) 3 3 := ⟨by decide +kernel, rfl⟩
theorem il_3 : Jp jdk_42_method_154_code 3 (.ifCond .eq 14) (14) 6 17 := ⟨by decide +kernel, rfl, by decide, by decide⟩
theorem il_6 : Dc jdk_42_method_154_code 6 (.aload_n 0) 1 7 := ⟨by decide +kernel, rfl⟩
theorem il_7 : Dc jdk_42_method_154_code 7 (.getfield 15) 3 10 := ⟨by decide +kernel, rfl⟩
theorem il_10 : Jp jdk_42_method_154_code 10 (.ifCond .ne 7) (7) 13 17 := ⟨by decide +kernel, rfl, by decide, by decide⟩
theorem il_13 : Dc jdk_42_method_154_code 13 (.iconst 1) 1 14 := ⟨by decide +kernel, rfl⟩
theorem il_14 : Jp jdk_42_method_154_code 14 (.goto 4) (4) 17 18 := ⟨by decide +kernel, rfl, by decide, by decide⟩
theorem il_17 : Dc jdk_42_method_154_code 17 (.iconst 0) 1 18 := ⟨by decide +kernel, rfl⟩
theorem il_18 : Dc jdk_42_method_154_code 18 (.ireturn) 1 19 := ⟨by decide +kernel, rfl⟩
theorem pk_0 : Dc jdk_41_method_11_code 0 (.iload_n 0) 1 1 := ⟨by decide +kernel, rfl⟩
theorem pk_1 : Jp jdk_41_method_11_code 1 (.ifCond .lt 8) (8) 4 9 := ⟨by decide +kernel, rfl, by decide, by decide⟩
theorem pk_4 : Dc jdk_41_method_11_code 4 (.iload_n 0) 1 5 := ⟨by decide +kernel, rfl⟩
theorem pk_5 : Dc jdk_41_method_11_code 5 (.iload_n 1) 1 6 := ⟨by decide +kernel, rfl⟩
theorem pk_6 : Jp jdk_41_method_11_code 6 (.if_icmp .lt 10) (10) 9 16 := ⟨by decide +kernel, rfl, by decide, by decide⟩
theorem pk_9 : Dc jdk_41_method_11_code 9 (.aload_n 2) 1 10 := ⟨by decide +kernel, rfl⟩
theorem pk_10 : Dc jdk_41_method_11_code 10 (.iload_n 0) 1 11 := ⟨by decide +kernel, rfl⟩
theorem pk_11 : Dc jdk_41_method_11_code 11 (.iload_n 1) 1 12 := ⟨by decide +kernel, rfl⟩
theorem pk_12 : Dc jdk_41_method_11_code 12 (.invokestatic 95) 3 15 := ⟨by decide +kernel, rfl⟩
theorem pk_15 : Dc jdk_41_method_11_code 15 (.athrow) 1 16 := ⟨by decide +kernel, rfl⟩
theorem pk_16 : Dc jdk_41_method_11_code 16 (.iload_n 0) 1 17 := ⟨by decide +kernel, rfl⟩
theorem pk_17 : Dc jdk_41_method_11_code 17 (.ireturn) 1 18 := ⟨by decide +kernel, rfl⟩
theorem ck_0 : Dc jdk_42_method_155_code 0 (.iload_n 0) 1 1 := ⟨by decide +kernel, rfl⟩
theorem ck_1 : Dc jdk_42_method_155_code 1 (.iload_n 1) 1 2 := ⟨by decide +kernel, rfl⟩
theorem ck_2 : Dc jdk_42_method_155_code 2 (.getstatic 1053) 3 5 := ⟨by decide +kernel, rfl⟩
theorem ck_5 : Dc jdk_42_method_155_code 5 (.invokestatic 1059) 3 8 := ⟨by decide +kernel, rfl⟩
theorem ck_8 : Dc jdk_42_method_155_code 8 (.pop) 1 9 := ⟨by decide +kernel, rfl⟩
theorem ck_9 : Dc jdk_42_method_155_code 9 (.return_) 1 10 := ⟨by decide +kernel, rfl⟩
theorem lc_0 : Dc jdk_43_method_2_code 0 (.iload_n 1) 1 1 := ⟨by decide +kernel, rfl⟩
theorem lc_1 : Dc jdk_43_method_2_code 1 (.aload_n 0) 1 2 := ⟨by decide +kernel, rfl⟩
theorem lc_2 : Dc jdk_43_method_2_code 2 (.arraylength) 1 3 := ⟨by decide +kernel, rfl⟩
theorem lc_3 : Dc jdk_43_method_2_code 3 (.invokestatic 9) 3 6 := ⟨by decide +kernel, rfl⟩
theorem lc_6 : Dc jdk_43_method_2_code 6 (.aload_n 0) 1 7 := ⟨by decide +kernel, rfl⟩
theorem lc_7 : Dc jdk_43_method_2_code 7 (.iload_n 1) 1 8 := ⟨by decide +kernel, rfl⟩
theorem lc_8 : Dc jdk_43_method_2_code 8 (.baload) 1 9 := ⟨by decide +kernel, rfl⟩
theorem lc_9 : Dc jdk_43_method_2_code 9 (.sipush 255) 3 12 := ⟨by decide +kernel, rfl⟩
theorem lc_12 : Dc jdk_43_method_2_code 12 (.iand) 1 13 := ⟨by decide +kernel, rfl⟩
theorem lc_13 : Dc jdk_43_method_2_code 13 (.i2c) 1 14 := ⟨by decide +kernel, rfl⟩
theorem lc_14 : Dc jdk_43_method_2_code 14 (.ireturn) 1 15 := ⟨by decide +kernel, rfl⟩
theorem ca_0 : Dc jdk_42_method_56_code 0 (.aload_n 0) 1 1 := ⟨by decide +kernel, rfl⟩
theorem ca_1 : Dc jdk_42_method_56_code 1 (.invokevirtual 492) 3 4 := ⟨by decide +kernel, rfl⟩
theorem ca_4 : Jp jdk_42_method_56_code 4 (.ifCond .eq 12) (12) 7 16 := ⟨by decide +kernel, rfl, by decide, by decide⟩
theorem ca_7 : Dc jdk_42_method_56_code 7 (.aload_n 0) 1 8 := ⟨by decide +kernel, rfl⟩
theorem ca_8 : Dc jdk_42_method_56_code 8 (.getfield 9) 3 11 := ⟨by decide +kernel, rfl⟩
theorem ca_11 : Dc jdk_42_method_56_code 11 (.iload_n 1) 1 12 := ⟨by decide +kernel, rfl⟩
theorem ca_12 : Dc jdk_42_method_56_code 12 (.invokestatic 495) 3 15 := ⟨by decide +kernel, rfl⟩
theorem ca_15 : Dc jdk_42_method_56_code 15 (.ireturn) 1 16 := ⟨by decide +kernel, rfl⟩
theorem ca_16 : Dc jdk_42_method_56_code 16 (.aload_n 0) 1 17 := ⟨by decide +kernel, rfl⟩
theorem ca_17 : Dc jdk_42_method_56_code 17 (.getfield 9) 3 20 := ⟨by decide +kernel, rfl⟩
theorem ca_20 : Dc jdk_42_method_56_code 20 (.iload_n 1) 1 21 := ⟨by decide +kernel, rfl⟩
theorem ca_21 : Dc jdk_42_method_56_code 21 (.invokestatic 498) 3 24 := ⟨by decide +kernel, rfl⟩
theorem ca_24 : Dc jdk_42_method_56_code 24 (.ireturn) 1 25 := ⟨by decide +kernel, rfl⟩
theorem met_isLat (l : Launch) (Z : State) (a0 : Array Value) (hw : ∀ d ∈ tables_1, d.before a0 Z = true) (nw : Prop) (EL : List (String × Nat)) (hEL : EW Z a0 EL) (cs : Int32) (fm : Value) (S : SS Z cs fm) (h : Heap) (a : Addr) (k : Int32) (F : Fld Z h a STR "coder" "B" (.int k)) :
    Met l Z nw EL ⟨STR, "isLatin1", "()Z"⟩ jdk_42_method_154_code 1 (some .boolean) ⟨0, 0, 0, 0⟩ #[.ref a] h [] (fun v h' => v = some (.int (if k = 0 then 1 else 0)) ∧ h' = h) := by
  refine Met.mk (a0 := a0) hEL pn_str ?_
  intro p e s m below meth c C hE hS
  rw [efs1]
  refine R_getstatic C il_0 (hw _ (List.mem_of_getElem? (i := 62) rfl)) Via.refl (S.2.1.ext hE) ?_
  refine R_if C il_3 (fun hc => absurd hc S.1) (fun _ => ?_)
  refine R_aload_n C il_6 rfl rfl ?_
  refine R_getfield C il_7 (hw _ (List.mem_of_getElem? (i := 51) rfl)) Via.refl (F) ?_
  refine R_if C il_10 (fun (hc : ¬ k = 0) => ?_) (fun (hc : ¬ ¬ k = 0) => ?_)
  · refine R_iconst C il_17 (v := 0) rfl ?_
    exact R_retN C il_18 rfl (Or.inl rfl) (Nat.le_refl _) (Nat.le_refl _) ⟨by rw [if_neg hc]; rfl, rfl⟩
  · refine R_iconst C il_13 (v := 1) rfl ?_
    refine R_goto C il_14 ?_
    exact R_retN C il_18 rfl (Or.inl rfl) (Nat.le_refl _) (Nat.le_refl _) ⟨by rw [if_pos (Decidable.not_not.mp hc)]; rfl, rfl⟩
theorem met_pk (l : Launch) (Z : State) (a0 : Array Value) (hw : ∀ d ∈ tables_1, d.before a0 Z = true) (nw : Prop) (EL : List (String × Nat)) (hEL : EW Z a0 EL) (h : Heap) (i n : Int32) (fm : Value) (hfm : fm.isRef = true) (h1 : ¬ i < 0) (h2 : i < n) :
    Met l Z nw EL ⟨PRE, "checkIndex", "(IILjava/util/function/BiFunction;)I"⟩ jdk_41_method_11_code 3 (some .int) ⟨0, 0, 0, 0⟩ #[.int i, .int n, fm] h [] (fun v h' => v = some (.int i) ∧ h' = h) := by
  refine Met.mk (a0 := a0) hEL pn_pre ?_
  intro p e s m below meth c C hE hS
  rw [efck m _ _ _ (cat_ref hfm)]
  refine R_iload_n C pk_0 rfl ?_
  refine R_if C pk_1 (fun hc => absurd hc h1) (fun _ => ?_)
  refine R_iload_n C pk_4 rfl ?_
  refine R_iload_n C pk_5 rfl ?_
  refine R_icmp C pk_6 (fun _ => ?_) (fun hc => absurd h2 hc)
  refine R_iload_n C pk_16 rfl ?_
  exact R_retI C pk_17 rfl (Nat.le_refl _) (Nat.le_refl _) ⟨rfl, rfl⟩
theorem met_ck (l : Launch) (Z : State) (a0 : Array Value) (hw : ∀ d ∈ tables_1, d.before a0 Z = true) (nw : Prop) (EL : List (String × Nat)) (hEL : EW Z a0 EL) (cs : Int32) (fm : Value) (S : SS Z cs fm) (h : Heap) (i n : Int32) (h1 : ¬ i < 0) (h2 : i < n) :
    Met l Z nw EL ⟨STR, "checkIndex", "(II)V"⟩ jdk_42_method_155_code 2 none ⟨1, 0, 0, 14⟩ #[.int i, .int n] h [] (fun v h' => v = none ∧ h' = h) := by
  refine Met.mk (a0 := a0) hEL pn_str ?_
  intro p e s m below meth c C hE hS
  rw [efII2]
  refine R_iload_n C ck_0 rfl ?_
  refine R_iload_n C ck_1 rfl ?_
  refine R_getstatic C ck_2 (hw _ (List.mem_of_getElem? (i := 34) rfl)) Via.refl (S.2.2.2.ext hE) ?_
  refine R_static C [.int i, .int n, fm] ck_5 (met_pk l Z a0 hw nw EL hEL h i n fm S.2.2.1 h1 h2) (by first | exact fun z => z | exact fun _ => trivial) (hw _ (List.mem_of_getElem? (i := 104) rfl)) (hw _ (List.mem_of_getElem? (i := 105) rfl)) (hw _ (List.mem_of_getElem? (i := 35) rfl)) (hw _ (List.mem_of_getElem? (i := 106) rfl)) (by decide) pd_4 rfl rfl rfl (Nat.le_of_ble_eq_true rfl) (Nat.le_of_ble_eq_true rfl) (Nat.le_of_ble_eq_true rfl) (Nat.le_of_ble_eq_true rfl) (fun _ q => nomatch q) ?_
  intro v vm' h' hQ hsz hSf hFr
  obtain ⟨rfl, rfl⟩ := hQ
  simp only [Option.toList_some, List.cons_append, List.nil_append]
  refine R_pop C ck_8 rfl ?_
  exact R_return C ck_9 rfl (Nat.le_refl _) (Nat.le_refl _) ⟨rfl, rfl⟩
theorem met_lc (l : Launch) (Z : State) (a0 : Array Value) (hw : ∀ d ∈ tables_1, d.before a0 Z = true) (nw : Prop) (EL : List (String × Nat)) (hEL : EW Z a0 EL) (cs : Int32) (fm : Value) (S : SS Z cs fm) (h : Heap) (b : Addr) (n : Nat) (g : Nat → Int32) (A : AR Z h b .byte n (fun i => by8 (g i))) (hg : ∀ i, i < n → 0 ≤ (g i).toInt ∧ (g i).toInt ≤ 255) (iI : Int32) (i : Nat) (hi : iI.toInt = i) (hin : i < n) :
    Met l Z nw EL ⟨LAT, "charAt", "([BI)C"⟩ jdk_43_method_2_code 2 (some .char) ⟨2, 0, 0, 27⟩ #[.ref b, .int iI] h [] (fun v h' => v = some (.int (g i)) ∧ h' = h) := by
  have h31 := A.small
  refine Met.mk (a0 := a0) hEL pn_lat ?_
  intro p e s m below meth c C hE hS
  rw [efRI2]
  refine R_iload_n C lc_0 rfl ?_
  refine R_aload_n C lc_1 rfl rfl ?_
  refine R_arraylength C lc_2 (A) rfl ?_
  refine R_static C [.int iI, .int n.toInt32] lc_3 (met_ck l Z a0 hw nw EL hEL cs fm S h iI n.toInt32 (nn_of hi) (by rw [Int32.lt_iff_toInt_lt, len_toInt h31]; omega)) (by first | exact fun z => z | exact fun _ => trivial) (hw _ (List.mem_of_getElem? (i := 101) rfl)) (hw _ (List.mem_of_getElem? (i := 102) rfl)) (hw _ (List.mem_of_getElem? (i := 22) rfl)) (hw _ (List.mem_of_getElem? (i := 103) rfl)) (by decide) pd_5 rfl rfl rfl (Nat.le_of_ble_eq_true rfl) (Nat.le_of_ble_eq_true rfl) (Nat.le_of_ble_eq_true rfl) (Nat.le_of_ble_eq_true rfl) (fun _ q => nomatch q) ?_
  intro v vm' h' hQ hsz hSf hFr
  obtain ⟨rfl, rfl⟩ := hQ
  simp only [Option.toList_none, List.nil_append]
  refine R_aload_n C lc_6 rfl rfl ?_
  refine R_iload_n C lc_7 rfl ?_
  refine R_baload C (i) lc_8 (A) (hi) (hin) (rfl) ?_
  refine R_sipush C lc_9 (v := 255) rfl ?_
  refine R_iand C lc_12 ?_
  refine R_i2c C lc_13 ?_
  refine R_retN C lc_14 rfl (Or.inr (Or.inr (Or.inl rfl))) (Nat.le_refl _) (Nat.le_refl _) ⟨?_, rfl⟩
  rw [nar_nar_char, byte_back (hg i hin).1 (hg i hin).2]
theorem met_charAtL (l : Launch) (Z : State) (a0 : Array Value) (hw : ∀ d ∈ tables_1, d.before a0 Z = true) (nw : Prop) (EL : List (String × Nat)) (hEL : EW Z a0 EL) (cs : Int32) (fm : Value) (S : SS Z cs fm) (h : Heap) (a b : Addr) (n : Nat) (g : Nat → Int32) (X : StrL Z h a b n g) (iI : Int32) (i : Nat) (hi : iI.toInt = i) (hin : i < n) :
    Met l Z nw EL ⟨STR, "charAt", "(I)C"⟩ jdk_42_method_56_code 2 (some .char) ⟨3, 0, 0, 40⟩ #[.ref a, .int iI] h [] (fun v h' => v = some (.int (g i)) ∧ h' = h) := by
  obtain ⟨E, V, F, A, hg⟩ := X
  refine Met.mk (a0 := a0) hEL pn_str ?_
  intro p e s m below meth c C hE hS
  rw [efRI2]
  refine R_aload_n C ca_0 rfl rfl ?_
  refine R_virtual C [] ca_1 (met_isLat l Z a0 hw nw EL hEL cs fm S h a 0 F) (by first | exact fun z => z | exact fun _ => trivial) (E) (hw _ (List.mem_of_getElem? (i := 92) rfl)) (hw _ (List.mem_of_getElem? (i := 93) rfl)) (hw _ (List.mem_of_getElem? (i := 95) rfl)) (hw _ (List.mem_of_getElem? (i := 94) rfl)) (hw _ (List.mem_of_getElem? (i := 22) rfl)) (hw _ (List.mem_of_getElem? (i := 96) rfl)) (by decide) pd_6 rfl rfl rfl (Nat.le_of_ble_eq_true rfl) (Nat.le_of_ble_eq_true rfl) (Nat.le_of_ble_eq_true rfl) (Nat.le_of_ble_eq_true rfl) (fun _ q => nomatch q) ?_
  intro v vm' h' hQ hsz hSf hFr
  obtain ⟨rfl, rfl⟩ := hQ
  rw [if_pos rfl]
  simp only [Option.toList_some, List.cons_append, List.nil_append]
  refine R_if C ca_4 (fun (hc : (1 : Int32) = 0) => absurd hc (by decide)) (fun _ => ?_)
  refine R_aload_n C ca_7 rfl rfl ?_
  refine R_getfield C ca_8 (hw _ (List.mem_of_getElem? (i := 50) rfl)) Via.refl (V) ?_
  refine R_iload_n C ca_11 rfl ?_
  refine R_static C [.ref b, .int iI] ca_12 (met_lc l Z a0 hw nw EL hEL cs fm S h' b n g A hg iI i hi hin) (by first | exact fun z => z | exact fun _ => trivial) (hw _ (List.mem_of_getElem? (i := 97) rfl)) (hw _ (List.mem_of_getElem? (i := 98) rfl)) (hw _ (List.mem_of_getElem? (i := 99) rfl)) (hw _ (List.mem_of_getElem? (i := 100) rfl)) (by decide) pd_7 rfl rfl rfl (Nat.le_of_ble_eq_true rfl) (Nat.le_of_ble_eq_true rfl) (Nat.le_of_ble_eq_true rfl) (Nat.le_of_ble_eq_true rfl) (fun _ q => nomatch q) ?_
  intro v vm2 h2 hQ hsz2 hSf2 hFr
  obtain ⟨rfl, rfl⟩ := hQ
  simp only [Option.toList_some, List.cons_append, List.nil_append]
  refine R_retN C ca_15 rfl (Or.inr (Or.inr (Or.inl rfl))) (Nat.le_refl _) (Nat.le_refl _) ⟨?_, rfl⟩
  have z : nar .char (g i) = g i := by
    conv => rhs; rw [← byte_back (hg i hin).1 (hg i hin).2]
    conv => lhs; rw [← byte_back (hg i hin).1 (hg i hin).2]
    rw [nar_nar_char]
  rw [z]
theorem ul_0 : Dc jdk_52_method_6_code 0 (.aload_n 0) 1 1 := ⟨by decide +kernel, rfl⟩
theorem ul_1 : Dc jdk_52_method_6_code 1 (.arraylength) 1 2 := ⟨by decide +kernel, rfl⟩
theorem ul_2 : Dc jdk_52_method_6_code 2 (.iconst 1) 1 3 := ⟨by decide +kernel, rfl⟩
theorem ul_3 : Dc jdk_52_method_6_code 3 (.ishr) 1 4 := ⟨by decide +kernel, rfl⟩
theorem ul_4 : Dc jdk_52_method_6_code 4 (.ireturn) 1 5 := ⟨by decide +kernel, rfl⟩
theorem nl_0 : Dc jdk_52_method_3_code 0 (.iload_n 0) 1 1 := ⟨by decide +kernel, rfl⟩
theorem nl_1 : Jp jdk_52_method_3_code 1 (.ifCond .ge 11) (11) 4 12 := ⟨by decide +kernel, rfl, by decide, by decide⟩
theorem nl_4 : Dc jdk_52_method_3_code 4 (.new 17) 3 7 := ⟨by decide +kernel, rfl⟩
theorem nl_7 : Dc jdk_52_method_3_code 7 (.dup) 1 8 := ⟨by decide +kernel, rfl⟩
theorem nl_8 : Dc jdk_52_method_3_code 8 (.invokespecial 19) 3 11 := ⟨by decide +kernel, rfl⟩
theorem nl_11 : Dc jdk_52_method_3_code 11 (.athrow) 1 12 := ⟨by decide +kernel, rfl⟩
theorem nl_12 : Dc jdk_52_method_3_code 12 (.iload_n 0) 1 13 := ⟨by decide +kernel, rfl⟩
theorem nl_13 : Dc jdk_52_method_3_code 13 (.ldc 20) 2 15 := ⟨by decide +kernel, rfl⟩
theorem nl_15 : Jp jdk_52_method_3_code 15 (.if_icmp .lt 40) (40) 18 55 := ⟨by decide +kernel, rfl, by decide, by decide⟩
theorem nl_18 : Dc jdk_52_method_3_code 18 (.new 21) 3 21 := ⟨by decide +kernel, rfl⟩
theorem nl_21 : Dc jdk_52_method_3_code 21 (.dup) 1 22 := ⟨by decide +kernel, rfl⟩
theorem nl_22 : Dc jdk_52_method_3_code 22 (.new 23) 3 25 := ⟨by decide +kernel, rfl⟩
theorem nl_25 : Dc jdk_52_method_3_code 25 (.dup) 1 26 := ⟨by decide +kernel, rfl⟩
theorem nl_26 : Dc jdk_52_method_3_code 26 (.invokespecial 25) 3 29 := ⟨by decide +kernel, rfl⟩
theorem nl_29 : Dc jdk_52_method_3_code 29 (.ldc 26) 2 31 := ⟨by decide +kernel, rfl⟩
theorem nl_31 : Dc jdk_52_method_3_code 31 (.invokevirtual 28) 3 34 := ⟨by decide +kernel, rfl⟩
theorem nl_34 : Dc jdk_52_method_3_code 34 (.iload_n 0) 1 35 := ⟨by decide +kernel, rfl⟩
theorem nl_35 : Dc jdk_52_method_3_code 35 (.invokevirtual 32) 3 38 := ⟨by decide +kernel, rfl⟩
theorem nl_38 : Dc jdk_52_method_3_code 38 (.ldc 35) 2 40 := ⟨by decide +kernel, rfl⟩
theorem nl_40 : Dc jdk_52_method_3_code 40 (.invokevirtual 28) 3 43 := ⟨by decide +kernel, rfl⟩
theorem nl_43 : Dc jdk_52_method_3_code 43 (.ldc 20) 2 45 := ⟨by decide +kernel, rfl⟩
theorem nl_45 : Dc jdk_52_method_3_code 45 (.invokevirtual 32) 3 48 := ⟨by decide +kernel, rfl⟩
theorem nl_48 : Dc jdk_52_method_3_code 48 (.invokevirtual 37) 3 51 := ⟨by decide +kernel, rfl⟩
theorem nl_51 : Dc jdk_52_method_3_code 51 (.invokespecial 41) 3 54 := ⟨by decide +kernel, rfl⟩
theorem nl_54 : Dc jdk_52_method_3_code 54 (.athrow) 1 55 := ⟨by decide +kernel, rfl⟩
theorem nl_55 : Dc jdk_52_method_3_code 55 (.iload_n 0) 1 56 := ⟨by decide +kernel, rfl⟩
theorem nl_56 : Dc jdk_52_method_3_code 56 (.iconst 1) 1 57 := ⟨by decide +kernel, rfl⟩
theorem nl_57 : Dc jdk_52_method_3_code 57 (.ishl) 1 58 := ⟨by decide +kernel, rfl⟩
theorem nl_58 : Dc jdk_52_method_3_code 58 (.ireturn) 1 59 := ⟨by decide +kernel, rfl⟩
theorem nf_0 : Dc jdk_52_method_2_code 0 (.iload_n 0) 1 1 := ⟨by decide +kernel, rfl⟩
theorem nf_1 : Dc jdk_52_method_2_code 1 (.invokestatic 11) 3 4 := ⟨by decide +kernel, rfl⟩
theorem nf_4 : Dc jdk_52_method_2_code 4 (.newarray .byte) 2 6 := ⟨by decide +kernel, rfl⟩
theorem nf_6 : Dc jdk_52_method_2_code 6 (.areturn) 1 7 := ⟨by decide +kernel, rfl⟩
theorem pu_0 : Dc jdk_52_method_4_code 0 (.getstatic 44) 3 3 := ⟨by decide +kernel, rfl⟩
theorem pu_3 : Jp jdk_52_method_4_code 3 (.ifCond .ne 25) (25) 6 28 := ⟨by decide +kernel, rfl, by decide, by decide⟩
theorem pu_6 : Dc jdk_52_method_4_code 6 (.iload_n 1) 1 7 := ⟨by decide +kernel, rfl⟩
theorem pu_7 : Jp jdk_52_method_4_code 7 (.ifCond .lt 11) (11) 10 18 := ⟨by decide +kernel, rfl, by decide, by decide⟩
theorem pu_10 : Dc jdk_52_method_4_code 10 (.iload_n 1) 1 11 := ⟨by decide +kernel, rfl⟩
theorem pu_11 : Dc jdk_52_method_4_code 11 (.aload_n 0) 1 12 := ⟨by decide +kernel, rfl⟩
theorem pu_12 : Dc jdk_52_method_4_code 12 (.invokestatic 48) 3 15 := ⟨by decide +kernel, rfl⟩
theorem pu_15 : Jp jdk_52_method_4_code 15 (.if_icmp .lt 13) (13) 18 28 := ⟨by decide +kernel, rfl, by decide, by decide⟩
theorem pu_18 : Dc jdk_52_method_4_code 18 (.new 52) 3 21 := ⟨by decide +kernel, rfl⟩
theorem pu_21 : Dc jdk_52_method_4_code 21 (.dup) 1 22 := ⟨by decide +kernel, rfl⟩
theorem pu_22 : Dc jdk_52_method_4_code 22 (.ldc 54) 2 24 := ⟨by decide +kernel, rfl⟩
theorem pu_24 : Dc jdk_52_method_4_code 24 (.invokespecial 56) 3 27 := ⟨by decide +kernel, rfl⟩
theorem pu_27 : Dc jdk_52_method_4_code 27 (.athrow) 1 28 := ⟨by decide +kernel, rfl⟩
theorem pu_28 : Dc jdk_52_method_4_code 28 (.iload_n 1) 1 29 := ⟨by decide +kernel, rfl⟩
theorem pu_29 : Dc jdk_52_method_4_code 29 (.iconst 1) 1 30 := ⟨by decide +kernel, rfl⟩
theorem pu_30 : Dc jdk_52_method_4_code 30 (.ishl) 1 31 := ⟨by decide +kernel, rfl⟩
theorem pu_31 : Dc jdk_52_method_4_code 31 (.istore_n 1) 1 32 := ⟨by decide +kernel, rfl⟩
theorem pu_32 : Dc jdk_52_method_4_code 32 (.aload_n 0) 1 33 := ⟨by decide +kernel, rfl⟩
theorem pu_33 : Dc jdk_52_method_4_code 33 (.iload_n 1) 1 34 := ⟨by decide +kernel, rfl⟩
theorem pu_34 : Dc jdk_52_method_4_code 34 (.iinc 1 1) 3 37 := ⟨by decide +kernel, rfl⟩
theorem pu_37 : Dc jdk_52_method_4_code 37 (.iload_n 2) 1 38 := ⟨by decide +kernel, rfl⟩
theorem pu_38 : Dc jdk_52_method_4_code 38 (.getstatic 59) 3 41 := ⟨by decide +kernel, rfl⟩
theorem pu_41 : Dc jdk_52_method_4_code 41 (.ishr) 1 42 := ⟨by decide +kernel, rfl⟩
theorem pu_42 : Dc jdk_52_method_4_code 42 (.i2b) 1 43 := ⟨by decide +kernel, rfl⟩
theorem pu_43 : Dc jdk_52_method_4_code 43 (.bastore) 1 44 := ⟨by decide +kernel, rfl⟩
theorem pu_44 : Dc jdk_52_method_4_code 44 (.aload_n 0) 1 45 := ⟨by decide +kernel, rfl⟩
theorem pu_45 : Dc jdk_52_method_4_code 45 (.iload_n 1) 1 46 := ⟨by decide +kernel, rfl⟩
theorem pu_46 : Dc jdk_52_method_4_code 46 (.iload_n 2) 1 47 := ⟨by decide +kernel, rfl⟩
theorem pu_47 : Dc jdk_52_method_4_code 47 (.getstatic 63) 3 50 := ⟨by decide +kernel, rfl⟩
theorem pu_50 : Dc jdk_52_method_4_code 50 (.ishr) 1 51 := ⟨by decide +kernel, rfl⟩
theorem pu_51 : Dc jdk_52_method_4_code 51 (.i2b) 1 52 := ⟨by decide +kernel, rfl⟩
theorem pu_52 : Dc jdk_52_method_4_code 52 (.bastore) 1 53 := ⟨by decide +kernel, rfl⟩
theorem pu_53 : Dc jdk_52_method_4_code 53 (.return_) 1 54 := ⟨by decide +kernel, rfl⟩
theorem gu_0 : Dc jdk_52_method_5_code 0 (.getstatic 44) 3 3 := ⟨by decide +kernel, rfl⟩
theorem gu_3 : Jp jdk_52_method_5_code 3 (.ifCond .ne 25) (25) 6 28 := ⟨by decide +kernel, rfl, by decide, by decide⟩
theorem gu_6 : Dc jdk_52_method_5_code 6 (.iload_n 1) 1 7 := ⟨by decide +kernel, rfl⟩
theorem gu_7 : Jp jdk_52_method_5_code 7 (.ifCond .lt 11) (11) 10 18 := ⟨by decide +kernel, rfl, by decide, by decide⟩
theorem gu_10 : Dc jdk_52_method_5_code 10 (.iload_n 1) 1 11 := ⟨by decide +kernel, rfl⟩
theorem gu_11 : Dc jdk_52_method_5_code 11 (.aload_n 0) 1 12 := ⟨by decide +kernel, rfl⟩
theorem gu_12 : Dc jdk_52_method_5_code 12 (.invokestatic 48) 3 15 := ⟨by decide +kernel, rfl⟩
theorem gu_15 : Jp jdk_52_method_5_code 15 (.if_icmp .lt 13) (13) 18 28 := ⟨by decide +kernel, rfl, by decide, by decide⟩
theorem gu_18 : Dc jdk_52_method_5_code 18 (.new 52) 3 21 := ⟨by decide +kernel, rfl⟩
theorem gu_21 : Dc jdk_52_method_5_code 21 (.dup) 1 22 := ⟨by decide +kernel, rfl⟩
theorem gu_22 : Dc jdk_52_method_5_code 22 (.ldc 54) 2 24 := ⟨by decide +kernel, rfl⟩
theorem gu_24 : Dc jdk_52_method_5_code 24 (.invokespecial 56) 3 27 := ⟨by decide +kernel, rfl⟩
theorem gu_27 : Dc jdk_52_method_5_code 27 (.athrow) 1 28 := ⟨by decide +kernel, rfl⟩
theorem gu_28 : Dc jdk_52_method_5_code 28 (.iload_n 1) 1 29 := ⟨by decide +kernel, rfl⟩
theorem gu_29 : Dc jdk_52_method_5_code 29 (.iconst 1) 1 30 := ⟨by decide +kernel, rfl⟩
theorem gu_30 : Dc jdk_52_method_5_code 30 (.ishl) 1 31 := ⟨by decide +kernel, rfl⟩
theorem gu_31 : Dc jdk_52_method_5_code 31 (.istore_n 1) 1 32 := ⟨by decide +kernel, rfl⟩
theorem gu_32 : Dc jdk_52_method_5_code 32 (.aload_n 0) 1 33 := ⟨by decide +kernel, rfl⟩
theorem gu_33 : Dc jdk_52_method_5_code 33 (.iload_n 1) 1 34 := ⟨by decide +kernel, rfl⟩
theorem gu_34 : Dc jdk_52_method_5_code 34 (.iinc 1 1) 3 37 := ⟨by decide +kernel, rfl⟩
theorem gu_37 : Dc jdk_52_method_5_code 37 (.baload) 1 38 := ⟨by decide +kernel, rfl⟩
theorem gu_38 : Dc jdk_52_method_5_code 38 (.sipush 255) 3 41 := ⟨by decide +kernel, rfl⟩
theorem gu_41 : Dc jdk_52_method_5_code 41 (.iand) 1 42 := ⟨by decide +kernel, rfl⟩
theorem gu_42 : Dc jdk_52_method_5_code 42 (.getstatic 59) 3 45 := ⟨by decide +kernel, rfl⟩
theorem gu_45 : Dc jdk_52_method_5_code 45 (.ishl) 1 46 := ⟨by decide +kernel, rfl⟩
theorem gu_46 : Dc jdk_52_method_5_code 46 (.aload_n 0) 1 47 := ⟨by decide +kernel, rfl⟩
theorem gu_47 : Dc jdk_52_method_5_code 47 (.iload_n 1) 1 48 := ⟨by decide +kernel, rfl⟩
theorem gu_48 : Dc jdk_52_method_5_code 48 (.baload) 1 49 := ⟨by decide +kernel, rfl⟩
theorem gu_49 : Dc jdk_52_method_5_code 49 (.sipush 255) 3 52 := ⟨by decide +kernel, rfl⟩
theorem gu_52 : Dc jdk_52_method_5_code 52 (.iand) 1 53 := ⟨by decide +kernel, rfl⟩
theorem gu_53 : Dc jdk_52_method_5_code 53 (.getstatic 63) 3 56 := ⟨by decide +kernel, rfl⟩
theorem gu_56 : Dc jdk_52_method_5_code 56 (.ishl) 1 57 := ⟨by decide +kernel, rfl⟩
theorem gu_57 : Dc jdk_52_method_5_code 57 (.ior) 1 58 := ⟨by decide +kernel, rfl⟩
theorem gu_58 : Dc jdk_52_method_5_code 58 (.i2c) 1 59 := ⟨by decide +kernel, rfl⟩
theorem gu_59 : Dc jdk_52_method_5_code 59 (.ireturn) 1 60 := ⟨by decide +kernel, rfl⟩
theorem tb_0 : Dc jdk_52_method_14_code 0 (.iload_n 2) 1 1 := ⟨by decide +kernel, rfl⟩
theorem tb_1 : Dc jdk_52_method_14_code 1 (.invokestatic 107) 3 4 := ⟨by decide +kernel, rfl⟩
theorem tb_4 : Dc jdk_52_method_14_code 4 (.astore_n 3) 1 5 := ⟨by decide +kernel, rfl⟩
theorem tb_5 : Dc jdk_52_method_14_code 5 (.iconst 0) 1 6 := ⟨by decide +kernel, rfl⟩
theorem tb_6 : Dc jdk_52_method_14_code 6 (.istore 4) 2 8 := ⟨by decide +kernel, rfl⟩
theorem tb_8 : Dc jdk_52_method_14_code 8 (.iload 4) 2 10 := ⟨by decide +kernel, rfl⟩
theorem tb_10 : Dc jdk_52_method_14_code 10 (.iload_n 2) 1 11 := ⟨by decide +kernel, rfl⟩
theorem tb_11 : Jp jdk_52_method_14_code 11 (.if_icmp .ge 21) (21) 14 32 := ⟨by decide +kernel, rfl, by decide, by decide⟩
theorem tb_14 : Dc jdk_52_method_14_code 14 (.aload_n 3) 1 15 := ⟨by decide +kernel, rfl⟩
theorem tb_15 : Dc jdk_52_method_14_code 15 (.iload 4) 2 17 := ⟨by decide +kernel, rfl⟩
theorem tb_17 : Dc jdk_52_method_14_code 17 (.aload_n 0) 1 18 := ⟨by decide +kernel, rfl⟩
theorem tb_18 : Dc jdk_52_method_14_code 18 (.iload_n 1) 1 19 := ⟨by decide +kernel, rfl⟩
theorem tb_19 : Dc jdk_52_method_14_code 19 (.caload) 1 20 := ⟨by decide +kernel, rfl⟩
theorem tb_20 : Dc jdk_52_method_14_code 20 (.invokestatic 111) 3 23 := ⟨by decide +kernel, rfl⟩
theorem tb_23 : Dc jdk_52_method_14_code 23 (.iinc 1 1) 3 26 := ⟨by decide +kernel, rfl⟩
theorem tb_26 : Dc jdk_52_method_14_code 26 (.iinc 4 1) 3 29 := ⟨by decide +kernel, rfl⟩
theorem tb_29 : Jp jdk_52_method_14_code 29 (.goto (-21)) (-21) 32 8 := ⟨by decide +kernel, rfl, by decide, by decide⟩
theorem tb_32 : Dc jdk_52_method_14_code 32 (.aload_n 3) 1 33 := ⟨by decide +kernel, rfl⟩
theorem tb_33 : Dc jdk_52_method_14_code 33 (.areturn) 1 34 := ⟨by decide +kernel, rfl⟩
theorem efu1 (m : MethodId) (x0 : Addr) : entryFrame m #[(.ref x0)] 1 = fr m 0 [.val (.ref x0)] [] := by first | (simp [entryFrame, mkF, argsToLocals, Value.category]; done) | rfl
theorem efI1 (m : MethodId) (x0 : Int32) : entryFrame m #[(.int x0)] 1 = fr m 0 [.val (.int x0)] [] := by first | (simp [entryFrame, mkF, argsToLocals, Value.category]; done) | rfl
theorem efRII3 (m : MethodId) (x0 : Addr) (x1 : Int32) (x2 : Int32) : entryFrame m #[(.ref x0), (.int x1), (.int x2)] 3 = fr m 0 [.val (.ref x0), .val (.int x1), .val (.int x2)] [] := by first | (simp [entryFrame, mkF, argsToLocals, Value.category]; done) | rfl
theorem eftb (m : MethodId) (x0 : Addr) (x1 : Int32) (x2 : Int32) : entryFrame m #[(.ref x0), (.int x1), (.int x2)] 5 = fr m 0 [.val (.ref x0), .val (.int x1), .val (.int x2), .unset, .unset] [] := by first | (simp [entryFrame, mkF, argsToLocals, Value.category]; done) | rfl
/-- the statics that StringUTF16's methods read -/
def SU (Z : State) : Prop := Sta Z Z.heap UTF "$assertionsDisabled" "Z" (.int 1) ∧ Sta Z Z.heap UTF "HI_BYTE_SHIFT" "I" (.int 0) ∧ Sta Z Z.heap UTF "LO_BYTE_SHIFT" "I" (.int 8)
def ub (g : Nat → Int32) (i : Nat) : Value := if i % 2 = 0 then by8 (g (i / 2)) else by8 (g (i / 2) >>> ((8 : Int32) &&& 31))
def StrU (Z : State) (h : Heap) (a b : Addr) (n : Nat) (g : Nat → Int32) : Prop := Exa Z h a STR ∧ Fld Z h a STR "value" "[B" (.ref b) ∧ Fld Z h a STR "coder" "B" (.int 1) ∧ AR Z h b .byte (2 * n) (ub g) ∧ ∀ i, i < n → 0 ≤ (g i).toInt ∧ (g i).toInt ≤ 65535
theorem dbl {x : Int32} (h0 : 0 ≤ x.toInt) (h1 : x.toInt < 1000000) : (x <<< ((1 : Int32) &&& 31)).toInt = x.toInt * 2 := by
  have z := i32_shl x ((1 : Int32) &&& 31) (k := 1) (by decide) (by omega) (by omega)
  omega
theorem hlf {N : Nat} (h : 2 * N < 2 ^ 31) : (2 * N).toInt32 >>> ((1 : Int32) &&& 31) = N.toInt32 := by
  apply Int32.toInt_inj.mp
  have z := i32_shr (2 * N).toInt32 ((1 : Int32) &&& 31) (k := 1) (by decide)
  rw [z, len_toInt h, len_toInt (by omega)]
  omega
theorem met_ul (l : Launch) (Z : State) (a0 : Array Value) (hw : ∀ d ∈ tables_1, d.before a0 Z = true) (nw : Prop) (EL : List (String × Nat)) (hEL : EW Z a0 EL) (h : Heap) (b : Addr) (n : Nat) (f : Nat → Value) (A : AR Z h b .byte (2 * n) f) :
    Met l Z nw EL ⟨UTF, "length", "([B)I"⟩ jdk_52_method_6_code 1 (some .int) ⟨0, 0, 0, 0⟩ #[.ref b] h [] (fun v h' => v = some (.int n.toInt32) ∧ h' = h) := by
  refine Met.mk (a0 := a0) hEL pn_utf ?_
  intro p e s m below meth c C hE hS
  rw [efu1]
  refine R_aload_n C ul_0 rfl rfl ?_
  refine R_arraylength C ul_1 (A) rfl ?_
  refine R_iconst C ul_2 (v := 1) rfl ?_
  refine R_ishr C ul_3 ?_
  refine R_retI C ul_4 rfl (Nat.le_refl _) (Nat.le_refl _) ⟨?_, rfl⟩
  rw [hlf A.small]
theorem met_nl (l : Launch) (Z : State) (a0 : Array Value) (hw : ∀ d ∈ tables_1, d.before a0 Z = true) (nw : Prop) (EL : List (String × Nat)) (hEL : EW Z a0 EL) (h : Heap) (x : Int32) (h0 : 0 ≤ x.toInt) (h1 : x.toInt < 1000000) :
    Met l Z nw EL ⟨UTF, "newBytesLength", "(I)I"⟩ jdk_52_method_3_code 1 (some .int) ⟨0, 0, 0, 0⟩ #[.int x] h [] (fun v h' => v = some (.int (x <<< ((1 : Int32) &&& 31))) ∧ h' = h) := by
  refine Met.mk (a0 := a0) hEL pn_utf ?_
  intro p e s m below meth c C hE hS
  rw [efI1]
  refine R_iload_n C nl_0 rfl ?_
  refine R_if C nl_1 (fun _ => ?_) (fun (hc : ¬ ¬ x < 0) => absurd (show ¬ x < 0 from ?_) hc)
  · refine R_iload_n C nl_12 rfl ?_
    refine R_ldcInt C nl_13 (hw _ (List.mem_of_getElem? (i := 116) rfl)) ?_
    refine R_icmp C nl_15 (fun _ => ?_) (fun (hc : ¬ x < 1073741823) => absurd (Int32.lt_iff_toInt_lt.mpr (by rw [show (1073741823 : Int32).toInt = 1073741823 from rfl]; omega)) hc)
    refine R_iload_n C nl_55 rfl ?_
    refine R_iconst C nl_56 (v := 1) rfl ?_
    refine R_ishl C nl_57 ?_
    exact R_retI C nl_58 rfl (Nat.le_refl _) (Nat.le_refl _) ⟨rfl, rfl⟩
  · rw [Int32.lt_iff_toInt_lt, Int32.toInt_zero]; omega
theorem met_nf (l : Launch) (Z : State) (a0 : Array Value) (hw : ∀ d ∈ tables_1, d.before a0 Z = true) (nw : Prop) (EL : List (String × Nat)) (hEL : EW Z a0 EL) (h : Heap) (x : Int32) (n cap : Nat) (hx : x.toInt = n) (hn : n < 1000000) (hcap : 2 * n ≤ cap) (hc8 : cap * 8 ≤ 536870912) :
    Met l Z nw EL ⟨UTF, "newBytesFor", "(I)[B"⟩ jdk_52_method_2_code 1 (some (.array .byte)) ⟨1, 1, cap, 12⟩ #[.int x] h [] (fun v h' => v = some (.ref h.size) ∧ Ext h h' ∧ AR Z h' h.size .byte (2 * n) (fun _ => .int 0)) := by
  have hd := dbl (x := x) (by omega) (by omega)
  refine Met.mk (a0 := a0) hEL pn_utf ?_
  intro p e s m below meth c C hE hS
  rw [efI1]
  refine R_iload_n C nf_0 rfl ?_
  refine R_static C [.int x] nf_1 (met_nl l Z a0 hw nw EL hEL h x (by omega) (by omega)) (by first | exact fun z => z | exact fun _ => trivial) (hw _ (List.mem_of_getElem? (i := 113) rfl)) (hw _ (List.mem_of_getElem? (i := 114) rfl)) (hw _ (List.mem_of_getElem? (i := 79) rfl)) (hw _ (List.mem_of_getElem? (i := 115) rfl)) (by decide) pd_8 rfl rfl rfl (Nat.le_of_ble_eq_true rfl) (Nat.le_of_ble_eq_true rfl) (Nat.zero_le _) (Nat.zero_le _) (fun _ q => nomatch q) ?_
  intro v vm2 h2 hQ hsz2 hSf2 hFr
  obtain ⟨rfl, rfl⟩ := hQ
  simp only [Option.toList_some, List.cons_append, List.nil_append]
  refine R_newarray C cap nf_4 (hw _ (List.mem_of_getElem? (i := 45) rfl)) (N := 2 * n) (by omega) hcap hc8 (Nat.le_refl _) (Nat.le_of_eq (by simp)) rfl ?_
  intro h1 E1 D1 S1 Sf1
  exact R_areturn C nf_6 rfl rfl rfl (Nat.le_refl _) (Nat.le_of_eq (by simp)) ⟨rfl, E1, D1⟩
theorem met_pu (l : Launch) (Z : State) (a0 : Array Value) (hw : ∀ d ∈ tables_1, d.before a0 Z = true) (nw : Prop) (EL : List (String × Nat)) (hEL : EW Z a0 EL) (SX : SU Z) (h : Heap) (b : Addr) (N i : Nat) (f : Nat → Value) (A : AR Z h b .byte N f) (hb : Z.heap.size ≤ b) (iI c : Int32) (hi : iI.toInt = i) (hi2 : 2 * i + 1 < N) (hN : N < 1000000) :
    Met l Z nw EL ⟨UTF, "putChar", "([BII)V"⟩ jdk_52_method_4_code 3 none ⟨0, 0, 0, 0⟩ #[.ref b, .int iI, .int c] h [b] (fun v h' => v = none ∧ Keep h h' [b] ∧ AR Z h' b .byte N (upd (upd f (2 * i) (by8 c)) (2 * i + 1) (by8 (c >>> ((8 : Int32) &&& 31))))) := by
  have hd := dbl (x := iI) (by omega) (by omega)
  have one : (1 : Int32).toInt = 1 := rfl
  have hd1 := Jvm.Kit.i32_add (p := iI <<< ((1 : Int32) &&& 31)) (q := 1) (by omega) (by omega)
  refine Met.mk (a0 := a0) hEL pn_utf ?_
  intro p e s m below meth cc C hE hS
  rw [efRII3]
  refine R_getstatic C pu_0 (hw _ (List.mem_of_getElem? (i := 120) rfl)) Via.refl (SX.1.ext hE) ?_
  refine R_if C pu_3 (fun _ => ?_) (fun (hc : ¬ ¬ (1 : Int32) = 0) => absurd (by decide) hc)
  refine R_iload_n C pu_28 rfl ?_
  refine R_iconst C pu_29 (v := 1) rfl ?_
  refine R_ishl C pu_30 ?_
  refine R_istore_n C pu_31 rfl ?_
  simp only [fv0, fv1, fv2, fv3, List.set_cons_zero, List.set_cons_succ]
  refine R_aload_n C pu_32 rfl rfl ?_
  refine R_iload_n C pu_33 rfl ?_
  refine R_iinc C pu_34 rfl rfl (dI := 1) rfl rfl ?_
  simp only [fv0, fv1, fv2, fv3, List.set_cons_zero, List.set_cons_succ]
  refine R_iload_n C pu_37 rfl ?_
  refine R_getstatic C pu_38 (hw _ (List.mem_of_getElem? (i := 121) rfl)) Via.refl (SX.2.1.ext hE) ?_
  refine R_ishr C pu_41 ?_
  refine R_i2b C pu_42 ?_
  refine R_bastore C (2 * i) pu_43 A (by omega) (by omega) hb (hS b (List.mem_singleton.mpr rfl)) ?_
  intro h1 W1 A1 Sf1
  refine Run.know fun hE1 _ _ => ?_
  refine R_aload_n C pu_44 rfl rfl ?_
  refine R_iload_n C pu_45 rfl ?_
  refine R_iload_n C pu_46 rfl ?_
  refine R_getstatic C pu_47 (hw _ (List.mem_of_getElem? (i := 122) rfl)) Via.refl (SX.2.2.ext hE1) ?_
  refine R_ishr C pu_50 ?_
  refine R_i2b C pu_51 ?_
  refine R_bastore C (2 * i + 1) pu_52 A1 (by omega) (by omega) hb (Sf1 _ (hS b (List.mem_singleton.mpr rfl))) ?_
  intro h2 W2 A2 Sf2
  refine R_return C pu_53 rfl (Nat.le_refl _) (Nat.le_refl _) ⟨rfl, (Keep.of_wr W1).wr W2 (Or.inl (List.mem_singleton.mpr rfl)), ?_⟩
  rw [nar_byte_byte, nar_byte_byte, shr0] at A2
  exact A2
theorem met_gu (l : Launch) (Z : State) (a0 : Array Value) (hw : ∀ d ∈ tables_1, d.before a0 Z = true) (nw : Prop) (EL : List (String × Nat)) (hEL : EW Z a0 EL) (SX : SU Z) (h : Heap) (b : Addr) (n i : Nat) (g : Nat → Int32) (A : AR Z h b .byte (2 * n) (ub g)) (iI : Int32) (hi : iI.toInt = i) (hin : i < n) (hN : n < 400000) (hg : 0 ≤ (g i).toInt ∧ (g i).toInt ≤ 65535) :
    Met l Z nw EL ⟨UTF, "getChar", "([BI)C"⟩ jdk_52_method_5_code 2 (some .char) ⟨0, 0, 0, 0⟩ #[.ref b, .int iI] h [] (fun v h' => v = some (.int (g i)) ∧ h' = h) := by
  have hd := dbl (x := iI) (by omega) (by omega)
  have one : (1 : Int32).toInt = 1 := rfl
  have hd1 := Jvm.Kit.i32_add (p := iI <<< ((1 : Int32) &&& 31)) (q := 1) (by omega) (by omega)
  have e1 : ub g (2 * i) = by8 (g i) := by
    unfold ub
    rw [if_pos (by omega), show 2 * i / 2 = i by omega]
  have e2 : ub g (2 * i + 1) = by8 (g i >>> ((8 : Int32) &&& 31)) := by
    unfold ub
    rw [if_neg (by omega), show (2 * i + 1) / 2 = i by omega]
  refine Met.mk (a0 := a0) hEL pn_utf ?_
  intro p e s m below meth cc C hE hS
  rw [efRI2]
  refine R_getstatic C gu_0 (hw _ (List.mem_of_getElem? (i := 120) rfl)) Via.refl (SX.1.ext hE) ?_
  refine R_if C gu_3 (fun _ => ?_) (fun (hc : ¬ ¬ (1 : Int32) = 0) => absurd (by decide) hc)
  refine R_iload_n C gu_28 rfl ?_
  refine R_iconst C gu_29 (v := 1) rfl ?_
  refine R_ishl C gu_30 ?_
  refine R_istore_n C gu_31 rfl ?_
  simp only [fv0, fv1, fv2, fv3, List.set_cons_zero, List.set_cons_succ]
  refine R_aload_n C gu_32 rfl rfl ?_
  refine R_iload_n C gu_33 rfl ?_
  refine R_iinc C gu_34 rfl rfl (dI := 1) rfl rfl ?_
  simp only [fv0, fv1, fv2, fv3, List.set_cons_zero, List.set_cons_succ]
  refine R_baload C (2 * i) gu_37 A (by omega) (by omega) e1 ?_
  refine R_sipush C gu_38 (v := 255) rfl ?_
  refine R_iand C gu_41 ?_
  refine R_getstatic C gu_42 (hw _ (List.mem_of_getElem? (i := 121) rfl)) Via.refl (SX.2.1.ext hE) ?_
  refine R_ishl C gu_45 ?_
  refine R_aload_n C gu_46 rfl rfl ?_
  refine R_iload_n C gu_47 rfl ?_
  refine R_baload C (2 * i + 1) gu_48 A (by omega) (by omega) e2 ?_
  refine R_sipush C gu_49 (v := 255) rfl ?_
  refine R_iand C gu_52 ?_
  refine R_getstatic C gu_53 (hw _ (List.mem_of_getElem? (i := 122) rfl)) Via.refl (SX.2.2.ext hE) ?_
  refine R_ishl C gu_56 ?_
  refine R_ior C gu_57 ?_
  refine R_i2c C gu_58 ?_
  refine R_retN C gu_59 rfl (Or.inr (Or.inr (Or.inl rfl))) (Nat.le_refl _) (Nat.le_refl _) ⟨?_, rfl⟩
  rw [nar_nar_char, chr_back hg.1 hg.2]
theorem met_tb (l : Launch) (Z : State) (a0 : Array Value) (hw : ∀ d ∈ tables_1, d.before a0 Z = true) (nw : Prop) (EL : List (String × Nat)) (hEL : EW Z a0 EL) (SX : SU Z) (h : Heap) (val : Addr) (Nc off len cap : Nat) (g : Nat → Int32) (A : AR Z h val .char Nc (fun i => .int (g i))) (hb : off + len ≤ Nc) (hlen : len < 100000) (hcap : 2 * len ≤ cap) (hc8 : cap * 8 ≤ 536870912) (offI lenI : Int32) (ho : offI.toInt = off) (hl : lenI.toInt = len) :
    Met l Z nw EL ⟨UTF, "toBytes", "([CII)[B"⟩ jdk_52_method_14_code 5 (some (.array .byte)) ⟨2, 1, cap, 24⟩ #[.ref val, .int offI, .int lenI] h [] (fun v h' => v = some (.ref h.size) ∧ Ext h h' ∧ AR Z h' h.size .byte (2 * len) (ub fun i => g (off + i))) := by
  have h31 := A.small
  refine Met.mk (a0 := a0) hEL pn_utf ?_
  intro p e s m below meth c C hE hS
  rw [eftb]
  have one : (1 : Int32).toInt = 1 := rfl
  have loop : ∀ (t i : Nat) (vm : Vm) (h1 : Heap) (oI iI : Int32), i + t = len → oI.toInt = (off + i : Nat) → iI.toInt = i → Ext h h1 → AR Z h1 h.size .byte (2 * len) (fun j => if j < 2 * i then ub (fun k => g (off + k)) j else .int 0) → Safe Z EL vm h1 h.size →
      Run p l e ⟨2, 1, cap, 24⟩ s m #[.ref val, .int offI, .int lenI] below meth c Z nw EL (Kf s Z nw EL ⟨2, 1, cap, 24⟩ (fun v h' => v = some (.ref h.size) ∧ Ext h h' ∧ AR Z h' h.size .byte (2 * len) (ub fun i => g (off + i)))) vm h1 (0 + 1) (0 + cap) (fr m 8 [.val (.ref val), .val (.int oI), .val (.int lenI), .val (.ref h.size), .val (.int iI)] []) := by
    intro t
    induction t with
    | zero =>
      intro i vm h1 oI iI ht q1 q2 E1 D1 S1
      have hi' : i = len := by omega
      subst hi'
      refine R_iload C tb_8 rfl ?_
      refine R_iload_n C tb_10 rfl ?_
      refine R_icmp C tb_11 (fun _ => ?_) (fun (hc : ¬ ¬ iI < lenI) => absurd (show ¬ iI < lenI from ?_) hc)
      · refine R_aload_n C tb_32 rfl rfl ?_
        exact R_areturn C tb_33 rfl rfl rfl (Nat.le_refl _) (Nat.le_of_eq (Nat.zero_add _)) ⟨rfl, E1, D1.cg fun j hj => by rw [if_pos hj]⟩
      · rw [Int32.lt_iff_toInt_lt]; omega
    | succ t ih =>
      intro i vm h1 oI iI ht q1 q2 E1 D1 S1
      have r1 := Jvm.Kit.i32_add (p := oI) (q := 1) (by omega) (by omega)
      have r2 := Jvm.Kit.i32_add (p := iI) (q := 1) (by omega) (by omega)
      refine R_iload C tb_8 rfl ?_
      refine R_iload_n C tb_10 rfl ?_
      refine R_icmp C tb_11 (fun (hc : ¬ iI < lenI) => absurd (Int32.lt_iff_toInt_lt.mpr (by omega)) hc) (fun _ => ?_)
      refine R_aload_n C tb_14 rfl rfl ?_
      refine R_iload C tb_15 rfl ?_
      refine R_aload_n C tb_17 rfl rfl ?_
      refine R_iload_n C tb_18 rfl ?_
      refine R_caload C (off + i) tb_19 (A.ext E1) q1 (by omega) rfl ?_
      refine R_static C [.ref h.size, .int iI, .int (g (off + i))] tb_20 (met_pu l Z a0 hw nw EL hEL SX h1 h.size (2 * len) i _ D1 hE.1 iI (g (off + i)) q2 (by omega) (by omega)) (by first | exact fun z => z | exact fun _ => trivial) (hw _ (List.mem_of_getElem? (i := 117) rfl)) (hw _ (List.mem_of_getElem? (i := 118) rfl)) (hw _ (List.mem_of_getElem? (i := 79) rfl)) (hw _ (List.mem_of_getElem? (i := 119) rfl)) (by decide) pd_9 rfl rfl rfl (Nat.le_of_ble_eq_true rfl) (Nat.le_of_ble_eq_true rfl) (Nat.le_refl _) (Nat.le_of_eq (by simp)) (fun x hx => by cases List.mem_singleton.mp hx; exact S1) ?_
      intro v vm2 h2 hQ hsz2 hSf2 hFr
      obtain ⟨rfl, K2, D2⟩ := hQ
      simp only [Option.toList_none, List.nil_append]
      refine R_iinc C tb_23 rfl rfl (dI := 1) rfl rfl ?_
      simp only [fv0, fv1, fv2, fv3, List.set_cons_zero, List.set_cons_succ]
      refine R_iinc C tb_26 rfl rfl (dI := 1) rfl rfl ?_
      simp only [fv0, fv1, fv2, fv3, List.set_cons_zero, List.set_cons_succ]
      refine R_goto C tb_29 ?_
      refine ih (i + 1) vm2 h2 _ _ (by omega) (by omega) (by omega) (E1.keep' K2 fun x hx => by cases List.mem_singleton.mp hx; exact Nat.le_refl _) (D2.cg fun j hj => ?_) (hSf2 _ D1.lt S1)
      unfold Own.upd
      by_cases z1 : j = 2 * i + 1
      · subst z1
        rw [if_pos rfl, if_pos (by omega)]
        unfold ub
        rw [if_neg (by omega), show (2 * i + 1) / 2 = i by omega]
      · rw [if_neg z1]
        by_cases z2 : j = 2 * i
        · subst z2
          rw [if_pos rfl, if_pos (by omega)]
          unfold ub
          rw [if_pos (by omega), show 2 * i / 2 = i by omega]
        · rw [if_neg z2]
          by_cases z3 : j < 2 * i
          · simp only [if_pos z3, if_pos (show j < 2 * (i + 1) by omega)]
          · simp only [if_neg z3, if_neg (show ¬ j < 2 * (i + 1) by omega)]
  refine R_iload_n C tb_0 rfl ?_
  refine R_static C [.int lenI] tb_1 (met_nf l Z a0 hw True EL hEL h lenI len cap hl (by omega) hcap hc8) (by first | exact fun z => z | exact fun _ => trivial) (hw _ (List.mem_of_getElem? (i := 110) rfl)) (hw _ (List.mem_of_getElem? (i := 111) rfl)) (hw _ (List.mem_of_getElem? (i := 79) rfl)) (hw _ (List.mem_of_getElem? (i := 112) rfl)) (by decide) pd_10 rfl rfl rfl (Nat.le_of_ble_eq_true rfl) (Nat.le_of_ble_eq_true rfl) (Nat.le_refl _) (Nat.le_of_eq (Nat.zero_add _)) (fun _ q => nomatch q) ?_
  intro v vm1 h1 hQ hsz1 hSf1 hFr
  obtain ⟨rfl, E1, D1⟩ := hQ
  simp only [Option.toList_some, List.cons_append, List.nil_append]
  have S1 : Safe Z EL vm1 h1 h.size := hFr trivial _ (Nat.le_refl _)
  refine R_astore_n C tb_4 rfl rfl rfl ?_
  simp only [fv0, fv1, fv2, fv3, List.set_cons_zero, List.set_cons_succ]
  refine R_iconst C tb_5 (v := 0) rfl ?_
  refine R_istore C tb_6 rfl ?_
  simp only [fv0, fv1, fv2, fv3, List.set_cons_zero, List.set_cons_succ]
  exact loop len 0 vm1 h1 _ _ (by omega) (by omega) rfl E1 (D1.cg fun j hj => by rw [if_neg (by omega)]) S1
theorem met_cpU (l : Launch) (Z : State) (a0 : Array Value) (hw : ∀ d ∈ tables_1, d.before a0 Z = true) (nw : Prop) (EL : List (String × Nat)) (hEL : EW Z a0 EL) (SX : SU Z) (h : Heap) (val : Addr) (Nc off len cap : Nat) (g : Nat → Int32) (A : AR Z h val .char Nc (fun i => .int (g i))) (hb : off + len ≤ Nc) (hlen : len < 100000) (hcap : 2 * len ≤ cap) (hc8 : cap * 8 ≤ 536870912) (offI lenI : Int32) (ho : offI.toInt = off) (hl : lenI.toInt = len) (hg : ∀ i, i < len → 0 ≤ (g (off + i)).toInt ∧ (g (off + i)).toInt ≤ 65535) (hwide : ¬ ∀ i, i < len → (g (off + i)).toInt ≤ 255) :
    Met l Z nw EL ⟨UTF, "compress", "([CII)[B"⟩ jdk_52_method_16_code 6 (some (.array .byte)) ⟨3, 2, cap + cap, 40⟩ #[.ref val, .int offI, .int lenI] h [] (fun v h' => ∃ b, v = some (.ref b) ∧ h.size ≤ b ∧ Ext h h' ∧ AR Z h' b .byte (2 * len) (ub fun i => g (off + i))) := by
  refine Met.mk (a0 := a0) hEL pn_utf ?_
  intro p e s m below meth c C hE hS
  rw [efc6]
  refine R_iload_n C cp_0 rfl ?_
  refine R_newarray C cap cp_1 (hw _ (List.mem_of_getElem? (i := 45) rfl)) hl (by omega) hc8 (Nat.le_of_ble_eq_true rfl) (by show 0 + cap ≤ cap + cap; omega) rfl ?_
  intro h1 E1 D1 S1 Sf1
  refine R_astore_n C cp_3 rfl rfl rfl ?_
  simp only [fv0, fv1, fv2, fv3, List.set_cons_zero, List.set_cons_succ]
  refine R_aload_n C cp_4 rfl rfl ?_
  refine R_iload_n C cp_5 rfl ?_
  refine R_aload_n C cp_6 rfl rfl ?_
  refine R_iconst C cp_7 (v := 0) rfl ?_
  refine R_iload_n C cp_8 rfl ?_
  refine R_static C [.ref val, .int offI, .ref h.size, .int 0, .int lenI] cp_9 (met_cl l Z a0 hw True EL hEL h1 val h.size Nc off len g _ (A.ext E1) D1 (Nat.ne_of_lt A.lt) hb hE.1 offI lenI ho hl) (by first | exact fun z => z | exact fun _ => trivial) (hw _ (List.mem_of_getElem? (i := 81) rfl)) (hw _ (List.mem_of_getElem? (i := 82) rfl)) (hw _ (List.mem_of_getElem? (i := 79) rfl)) (hw _ (List.mem_of_getElem? (i := 83) rfl)) (by decide) pd_1 rfl rfl rfl (Nat.le_of_ble_eq_true rfl) (Nat.le_of_ble_eq_true rfl) (Nat.le_of_ble_eq_true rfl) (by show 0 + cap + 0 ≤ cap + cap; omega) (fun x hx => by cases List.mem_singleton.mp hx; exact S1) ?_
  intro v vm2 h2 hQ hsz2 hSf2 hFr
  obtain ⟨r, rI, rfl, hr1, hr2, hr3, hr4, K2, D2⟩ := hQ
  have hrl : r < len := by
    rcases Nat.lt_or_ge r len with z | z
    · exact z
    · exact absurd (fun i hi => hr3 i (by omega)) hwide
  have E2 : Ext h h2 := E1.keep' K2 fun x hx => by cases List.mem_singleton.mp hx; exact Nat.le_refl _
  simp only [Option.toList_some, List.cons_append, List.nil_append]
  refine R_istore C cp_12 rfl ?_
  simp only [fv0, fv1, fv2, fv3, List.set_cons_zero, List.set_cons_succ]
  refine R_iload C cp_14 rfl ?_
  refine R_iload_n C cp_16 rfl ?_
  refine R_icmp C cp_17 (fun (hc : rI = lenI) => absurd (congrArg Int32.toInt hc) (by omega)) (fun _ => ?_)
  refine R_aload_n C cp_20 rfl rfl ?_
  refine R_iload_n C cp_21 rfl ?_
  refine R_iload_n C cp_22 rfl ?_
  refine R_static C [.ref val, .int offI, .int lenI] cp_23 (met_tb l Z a0 hw True EL hEL SX h2 val Nc off len cap g (A.ext E2) hb hlen hcap hc8 offI lenI ho hl) (by first | exact fun z => z | exact fun _ => trivial) (hw _ (List.mem_of_getElem? (i := 107) rfl)) (hw _ (List.mem_of_getElem? (i := 108) rfl)) (hw _ (List.mem_of_getElem? (i := 79) rfl)) (hw _ (List.mem_of_getElem? (i := 109) rfl)) (by decide) pd_2 rfl rfl rfl (Nat.le_of_ble_eq_true rfl) (Nat.le_of_ble_eq_true rfl) (Nat.le_of_ble_eq_true rfl) (by show 0 + cap + 0 + cap ≤ cap + cap; omega) (fun _ q => nomatch q) ?_
  intro v vm3 h3 hQ hsz3 hSf3 hFr
  obtain ⟨rfl, E3, D3⟩ := hQ
  simp only [Option.toList_some, List.cons_append, List.nil_append]
  refine R_astore C cp_26 rfl rfl rfl ?_
  simp only [fv0, fv1, fv2, fv3, List.set_cons_zero, List.set_cons_succ]
  refine R_aload C cp_28 rfl rfl ?_
  refine R_iload C cp_30 rfl ?_
  refine R_static C [.ref h2.size, .int rI] cp_32 (met_gu l Z a0 hw True EL hEL SX h3 h2.size len r _ D3 rI hr1 hrl (by omega) (hg r hrl)) (by first | exact fun z => z | exact fun _ => trivial) (hw _ (List.mem_of_getElem? (i := 123) rfl)) (hw _ (List.mem_of_getElem? (i := 124) rfl)) (hw _ (List.mem_of_getElem? (i := 79) rfl)) (hw _ (List.mem_of_getElem? (i := 125) rfl)) (by decide) pd_7 rfl rfl rfl (Nat.le_of_ble_eq_true rfl) (Nat.le_of_ble_eq_true rfl) (Nat.le_of_ble_eq_true rfl) (by show 0 + cap + 0 + cap + 0 ≤ cap + cap; omega) (fun _ q => nomatch q) ?_
  intro v vm4 h4 hQ hsz4 hSf4 hFr
  obtain ⟨rfl, rfl⟩ := hQ
  simp only [Option.toList_some, List.cons_append, List.nil_append]
  refine R_sipush C cp_35 (v := 255) rfl ?_
  refine R_icmp C cp_38 (fun _ => ?_) (fun (hc : ¬ (255 : Int32) < g (off + r)) => absurd (Int32.lt_iff_toInt_lt.mpr (by rw [show (255 : Int32).toInt = 255 from rfl]; exact hr4 hrl)) hc)
  refine R_aload C cp_54 rfl rfl ?_
  exact R_areturn C cp_56 rfl rfl rfl (Nat.le_of_ble_eq_true rfl) (by show 0 + cap + 0 + cap + 0 ≤ cap + cap; omega) ⟨_, rfl, Nat.le_trans E1.1 hsz2, E2.tr E3, D3⟩
theorem cfu : ∀ k : Fin 100, 0 < k.val → (XT.ushr (Int32.ofNat k.val - Int32.ofNat (2 * k.val)) 31).toInt8.toInt32 = 1 := by decide +kernel
theorem met_cfU (l : Launch) (Z : State) (a0 : Array Value) (hw : ∀ d ∈ tables_1, d.before a0 Z = true) (nw : Prop) (EL : List (String × Nat)) (hEL : EW Z a0 EL) (h : Heap) (b : Addr) (len : Nat) (f : Nat → Value) (A : AR Z h b .byte (2 * len) f) (lenI : Int32) (hl : lenI.toInt = len) (h0 : 0 < len) (h1 : len < 100) :
    Met l Z nw EL ⟨UTF, "coderFromArrayLen", "([BI)B"⟩ jdk_52_method_15_code 2 (some .byte) ⟨0, 0, 0, 0⟩ #[.ref b, .int lenI] h [] (fun v h' => v = some (.int 1) ∧ h' = h) := by
  refine Met.mk (a0 := a0) hEL pn_utf ?_
  intro p e s m below meth c C hE hS
  rw [efRI2]
  have hll : lenI = Int32.ofNat len := Int32.toInt_inj.mp (by rw [Int32.toInt_ofNat_small (by omega)]; omega)
  subst hll
  refine R_iload_n C cf_0 rfl ?_
  refine R_aload_n C cf_1 rfl rfl ?_
  refine R_arraylength C cf_2 (A) rfl ?_
  refine R_isub C cf_3 ?_
  refine R_bipush C cf_4 (v := 31) rfl ?_
  refine R_iushr C cf_6 ?_
  refine R_i2b C cf_7 ?_
  refine R_retN C cf_8 rfl (Or.inr (Or.inl rfl)) (Nat.le_refl _) (Nat.le_refl _) ⟨?_, rfl⟩
  have z := cfu ⟨len, h1⟩ h0
  dsimp only at z
  rw [show (2 * len).toInt32 = Int32.ofNat (2 * len) from rfl, z]
  rfl
def InU (Z : State) (h : Heap) (a : Addr) (len : Nat) (g : Nat → Int32) (v : Option Value) (h' : Heap) : Prop := v = none ∧ Keep h h' [a] ∧ ∃ b, StrU Z h' a b len g
theorem met_i6U (l : Launch) (Z : State) (a0 : Array Value) (hw : ∀ d ∈ tables_1, d.before a0 Z = true) (nw : Prop) (EL : List (String × Nat)) (hEL : EW Z a0 EL) (cs : Int32) (fm : Value) (S : SS Z cs fm) (SX : SU Z) (h : Heap) (a val : Addr) (Nc off len cap : Nat) (g : Nat → Int32) (A : AR Z h val .char Nc (fun i => .int (g i))) (hb : off + len ≤ Nc) (hlen : len < 100) (hcap : 2 * len ≤ cap) (hc8 : cap * 8 ≤ 536870912) (offI lenI : Int32) (ho : offI.toInt = off) (hl : lenI.toInt = len) (hg : ∀ i, i < len → 0 ≤ (g (off + i)).toInt ∧ (g (off + i)).toInt ≤ 65535) (hwide : ¬ ∀ i, i < len → (g (off + i)).toInt ≤ 255) (vo : Value) (hvo : vo.category = 1)
    (E : Exa Z h a STR) (F1 : Fld Z h a STR "value" "[B" .null) (F2 : Fld Z h a STR "coder" "B" (.int 0)) (ha : Z.heap.size ≤ a) :
    Met l Z nw EL ⟨STR, "<init>", "([CIILjava/lang/Void;)V"⟩ jdk_42_method_149_code 6 none ⟨4, 2, cap + cap, 57⟩ #[.ref a, .ref val, .int offI, .int lenI, vo] h [a] (InU Z h a len (fun i => g (off + i))) := by
  have Lv : Laid Z a0 STR STR "value" "[B" := Or.inr (hw _ (List.mem_of_getElem? (i := 46) rfl))
  have Lc : Laid Z a0 STR STR "coder" "B" := Or.inr (hw _ (List.mem_of_getElem? (i := 47) rfl))
  have nvc := slot_ne Lv Lc (by decide) (t := .array .byte) (t' := .byte) (by decide) (by decide)
  have ncv := slot_ne Lc Lv (by decide) (t := .byte) (t' := .array .byte) (by decide) (by decide)
  have hpos : 0 < len := by
    rcases Nat.eq_zero_or_pos len with z | z
    · exact absurd (fun i hi => by omega) hwide
    · exact z
  refine Met.mk (a0 := a0) hEL pn_str ?_
  intro p e s m below meth c C hE hS
  rw [efi6 m _ _ _ _ _ hvo]
  refine R_aload_n C i6_0 rfl rfl ?_
  refine R_initO C i6_1 (hw _ (List.mem_of_getElem? (i := 43) rfl)) (hw _ (List.mem_of_getElem? (i := 8) rfl)) (hw _ (List.mem_of_getElem? (i := 9) rfl)) rfl (Nat.le_of_ble_eq_true rfl) (Nat.le_of_ble_eq_true rfl) ?_
  refine R_iload_n C i6_4 rfl ?_
  refine R_if C i6_5 (fun _ => ?_) (fun (hc : ¬ ¬ lenI = 0) => absurd (show ¬ lenI = 0 from fun z => ?_) hc)
  · refine R_getstatic C i6_27 (hw _ (List.mem_of_getElem? (i := 62) rfl)) Via.refl (S.2.1.ext hE) ?_
    refine R_if C i6_30 (fun hc => absurd hc S.1) (fun _ => ?_)
    refine R_aload_n C i6_33 rfl rfl ?_
    refine R_iload_n C i6_34 rfl ?_
    refine R_iload_n C i6_35 rfl ?_
    refine R_static C [.ref val, .int offI, .int lenI] i6_36 (met_cpU l Z a0 hw nw EL hEL SX h val Nc off len cap g A hb (by omega) hcap hc8 offI lenI ho hl hg hwide) (by first | exact fun z => z | exact fun _ => trivial) (hw _ (List.mem_of_getElem? (i := 77) rfl)) (hw _ (List.mem_of_getElem? (i := 78) rfl)) (hw _ (List.mem_of_getElem? (i := 79) rfl)) (hw _ (List.mem_of_getElem? (i := 80) rfl)) (by decide) pd_2 rfl rfl rfl (Nat.le_of_ble_eq_true rfl) (Nat.le_of_ble_eq_true rfl) (Nat.le_refl _) (Nat.le_of_eq (Nat.zero_add _)) (fun _ q => nomatch q) ?_
    intro v vm2 h2 hQ hsz2 hSf2 hFr
    obtain ⟨b, rfl, hbn, E2, D2⟩ := hQ
    simp only [Option.toList_some, List.cons_append, List.nil_append]
    refine R_astore C i6_39 rfl rfl rfl ?_
    simp only [fv0, fv1, fv2, fv3, List.set_cons_zero, List.set_cons_succ]
    refine R_aload_n C i6_41 rfl rfl ?_
    refine R_aload C i6_42 rfl rfl ?_
    refine R_iload_n C i6_44 rfl ?_
    refine R_static C [.ref b, .int lenI] i6_45 (met_cfU l Z a0 hw nw EL hEL h2 b len _ D2 lenI hl hpos hlen) (by first | exact fun z => z | exact fun _ => trivial) (hw _ (List.mem_of_getElem? (i := 84) rfl)) (hw _ (List.mem_of_getElem? (i := 85) rfl)) (hw _ (List.mem_of_getElem? (i := 79) rfl)) (hw _ (List.mem_of_getElem? (i := 86) rfl)) (by decide) pd_3 rfl rfl rfl (Nat.le_of_ble_eq_true rfl) (Nat.le_of_ble_eq_true rfl) (Nat.le_refl _) (Nat.le_of_eq (by simp)) (fun _ q => nomatch q) ?_
    intro v vm3 h3 hQ hsz3 hSf3 hFr
    obtain ⟨rfl, rfl⟩ := hQ
    have Sa : Safe Z EL vm3 h3 a := hSf3 a (E.ext E2).lt (hSf2 a E.lt (hS a (List.mem_singleton.mpr rfl)))
    refine R_putfield C i6_48 (hw _ (List.mem_of_getElem? (i := 51) rfl)) Via.refl (F2.ext E2) (E.ext E2) (Or.inr ⟨(hw _ (List.mem_of_getElem? (i := 47) rfl)), rfl, rfl⟩) (hw _ (List.mem_of_getElem? (i := 21) rfl)) (ty := .byte) (by decide) rfl rfl ha Sa ?_
    intro h4 W4 Sf4
    refine R_aload_n C i6_51 rfl rfl ?_
    refine R_aload C i6_52 rfl rfl ?_
    refine R_putfield C i6_54 (hw _ (List.mem_of_getElem? (i := 50) rfl)) Via.refl ((F1.ext E2).other W4 (Or.inr nvc)) ((E.ext E2).wr W4) (Or.inr ⟨(hw _ (List.mem_of_getElem? (i := 46) rfl)), rfl, rfl⟩) (hw _ (List.mem_of_getElem? (i := 21) rfl)) (ty := .array .byte) (by decide) rfl rfl ha (Sf4 _ Sa) ?_
    intro h5 W5 Sf5
    have ne : b ≠ a := Nat.ne_of_gt (Nat.lt_of_lt_of_le E.lt hbn)
    refine R_return C i6_57 rfl (Nat.le_refl _) (Nat.le_of_eq (by simp)) ⟨rfl, ?_, b, ((E.ext E2).wr W4).wr W5, ((F1.ext E2).other W4 (Or.inr nvc)).same W5, ((F2.ext E2).same W4).other W5 (Or.inr ncv), (D2.other W4 ne).other W5 ne, hg⟩
    exact ((Keep.ofExt E2).wr W4 (Or.inl (List.mem_singleton.mpr rfl))).wr W5 (Or.inl (List.mem_singleton.mpr rfl))
  · rw [z] at hl
    rw [Int32.toInt_zero] at hl
    omega
theorem uk_0 : Dc jdk_52_method_91_code 0 (.iload_n 0) 1 1 := ⟨by decide +kernel, rfl⟩
theorem uk_1 : Dc jdk_52_method_91_code 1 (.aload_n 1) 1 2 := ⟨by decide +kernel, rfl⟩
theorem uk_2 : Dc jdk_52_method_91_code 2 (.invokestatic 48) 3 5 := ⟨by decide +kernel, rfl⟩
theorem uk_5 : Dc jdk_52_method_91_code 5 (.invokestatic 414) 3 8 := ⟨by decide +kernel, rfl⟩
theorem uk_8 : Dc jdk_52_method_91_code 8 (.return_) 1 9 := ⟨by decide +kernel, rfl⟩
theorem uc_0 : Dc jdk_52_method_83_code 0 (.iload_n 1) 1 1 := ⟨by decide +kernel, rfl⟩
theorem uc_1 : Dc jdk_52_method_83_code 1 (.aload_n 0) 1 2 := ⟨by decide +kernel, rfl⟩
theorem uc_2 : Dc jdk_52_method_83_code 2 (.invokestatic 67) 3 5 := ⟨by decide +kernel, rfl⟩
theorem uc_5 : Dc jdk_52_method_83_code 5 (.aload_n 0) 1 6 := ⟨by decide +kernel, rfl⟩
theorem uc_6 : Dc jdk_52_method_83_code 6 (.iload_n 1) 1 7 := ⟨by decide +kernel, rfl⟩
theorem uc_7 : Dc jdk_52_method_83_code 7 (.invokestatic 71) 3 10 := ⟨by decide +kernel, rfl⟩
theorem uc_10 : Dc jdk_52_method_83_code 10 (.ireturn) 1 11 := ⟨by decide +kernel, rfl⟩
theorem efIR2 (m : MethodId) (x0 : Int32) (x1 : Addr) : entryFrame m #[(.int x0), (.ref x1)] 2 = fr m 0 [.val (.int x0), .val (.ref x1)] [] := by first | (simp [entryFrame, mkF, argsToLocals, Value.category]; done) | rfl
theorem met_uk (l : Launch) (Z : State) (a0 : Array Value) (hw : ∀ d ∈ tables_1, d.before a0 Z = true) (nw : Prop) (EL : List (String × Nat)) (hEL : EW Z a0 EL) (cs : Int32) (fm : Value) (S : SS Z cs fm) (h : Heap) (b : Addr) (n i : Nat) (f : Nat → Value) (A : AR Z h b .byte (2 * n) f) (iI : Int32) (hi : iI.toInt = i) (hin : i < n) :
    Met l Z nw EL ⟨UTF, "checkIndex", "(I[B)V"⟩ jdk_52_method_91_code 2 none ⟨2, 0, 0, 27⟩ #[.int iI, .ref b] h [] (fun v h' => v = none ∧ h' = h) := by
  have h31 := A.small
  refine Met.mk (a0 := a0) hEL pn_utf ?_
  intro p e s m below meth c C hE hS
  rw [efIR2]
  refine R_iload_n C uk_0 rfl ?_
  refine R_aload_n C uk_1 rfl rfl ?_
  refine R_static C [.ref b] uk_2 (met_ul l Z a0 hw nw EL hEL h b n f A) (by first | exact fun z => z | exact fun _ => trivial) (hw _ (List.mem_of_getElem? (i := 132) rfl)) (hw _ (List.mem_of_getElem? (i := 133) rfl)) (hw _ (List.mem_of_getElem? (i := 79) rfl)) (hw _ (List.mem_of_getElem? (i := 134) rfl)) (by decide) pd_11 rfl rfl rfl (Nat.le_of_ble_eq_true rfl) (Nat.le_of_ble_eq_true rfl) (Nat.le_of_ble_eq_true rfl) (Nat.le_of_ble_eq_true rfl) (fun _ q => nomatch q) ?_
  intro v vm2 h2 hQ hsz2 hSf2 hFr
  obtain ⟨rfl, rfl⟩ := hQ
  simp only [Option.toList_some, List.cons_append, List.nil_append]
  refine R_static C [.int iI, .int n.toInt32] uk_5 (met_ck l Z a0 hw nw EL hEL cs fm S h2 iI n.toInt32 (nn_of hi) (by rw [Int32.lt_iff_toInt_lt, len_toInt (by omega)]; omega)) (by first | exact fun z => z | exact fun _ => trivial) (hw _ (List.mem_of_getElem? (i := 135) rfl)) (hw _ (List.mem_of_getElem? (i := 102) rfl)) (hw _ (List.mem_of_getElem? (i := 22) rfl)) (hw _ (List.mem_of_getElem? (i := 103) rfl)) (by decide) pd_5 rfl rfl rfl (Nat.le_of_ble_eq_true rfl) (Nat.le_of_ble_eq_true rfl) (Nat.le_of_ble_eq_true rfl) (Nat.le_of_ble_eq_true rfl) (fun _ q => nomatch q) ?_
  intro v vm3 h3 hQ hsz3 hSf3 hFr
  obtain ⟨rfl, rfl⟩ := hQ
  exact R_return C uk_8 rfl (Nat.le_refl _) (Nat.le_refl _) ⟨rfl, rfl⟩
theorem met_uc (l : Launch) (Z : State) (a0 : Array Value) (hw : ∀ d ∈ tables_1, d.before a0 Z = true) (nw : Prop) (EL : List (String × Nat)) (hEL : EW Z a0 EL) (cs : Int32) (fm : Value) (S : SS Z cs fm) (SX : SU Z) (h : Heap) (b : Addr) (n i : Nat) (g : Nat → Int32) (A : AR Z h b .byte (2 * n) (ub g)) (iI : Int32) (hi : iI.toInt = i) (hin : i < n) (hN : n < 400000) (hg : 0 ≤ (g i).toInt ∧ (g i).toInt ≤ 65535) :
    Met l Z nw EL ⟨UTF, "charAt", "([BI)C"⟩ jdk_52_method_83_code 2 (some .char) ⟨3, 0, 0, 40⟩ #[.ref b, .int iI] h [] (fun v h' => v = some (.int (g i)) ∧ h' = h) := by
  refine Met.mk (a0 := a0) hEL pn_utf ?_
  intro p e s m below meth c C hE hS
  rw [efRI2]
  refine R_iload_n C uc_0 rfl ?_
  refine R_aload_n C uc_1 rfl rfl ?_
  refine R_static C [.int iI, .ref b] uc_2 (met_uk l Z a0 hw nw EL hEL cs fm S h b n i _ A iI hi hin) (by first | exact fun z => z | exact fun _ => trivial) (hw _ (List.mem_of_getElem? (i := 129) rfl)) (hw _ (List.mem_of_getElem? (i := 130) rfl)) (hw _ (List.mem_of_getElem? (i := 79) rfl)) (hw _ (List.mem_of_getElem? (i := 131) rfl)) (by decide) pd_12 rfl rfl rfl (Nat.le_of_ble_eq_true rfl) (Nat.le_of_ble_eq_true rfl) (Nat.le_of_ble_eq_true rfl) (Nat.le_of_ble_eq_true rfl) (fun _ q => nomatch q) ?_
  intro v vm2 h2 hQ hsz2 hSf2 hFr
  obtain ⟨rfl, rfl⟩ := hQ
  simp only [Option.toList_none, List.nil_append]
  refine R_aload_n C uc_5 rfl rfl ?_
  refine R_iload_n C uc_6 rfl ?_
  refine R_static C [.ref b, .int iI] uc_7 (met_gu l Z a0 hw nw EL hEL SX h2 b n i g A iI hi hin hN hg) (by first | exact fun z => z | exact fun _ => trivial) (hw _ (List.mem_of_getElem? (i := 123) rfl)) (hw _ (List.mem_of_getElem? (i := 124) rfl)) (hw _ (List.mem_of_getElem? (i := 79) rfl)) (hw _ (List.mem_of_getElem? (i := 125) rfl)) (by decide) pd_7 rfl rfl rfl (Nat.le_of_ble_eq_true rfl) (Nat.le_of_ble_eq_true rfl) (Nat.le_of_ble_eq_true rfl) (Nat.le_of_ble_eq_true rfl) (fun _ q => nomatch q) ?_
  intro v vm3 h3 hQ hsz3 hSf3 hFr
  obtain ⟨rfl, rfl⟩ := hQ
  simp only [Option.toList_some, List.cons_append, List.nil_append]
  exact R_retN C uc_10 rfl (Or.inr (Or.inr (Or.inl rfl))) (Nat.le_refl _) (Nat.le_refl _) ⟨by rw [nar_char_id hg.1 hg.2], rfl⟩
theorem met_charAtU (l : Launch) (Z : State) (a0 : Array Value) (hw : ∀ d ∈ tables_1, d.before a0 Z = true) (nw : Prop) (EL : List (String × Nat)) (hEL : EW Z a0 EL) (cs : Int32) (fm : Value) (S : SS Z cs fm) (SX : SU Z) (h : Heap) (a b : Addr) (n : Nat) (g : Nat → Int32) (X : StrU Z h a b n g) (iI : Int32) (i : Nat) (hi : iI.toInt = i) (hin : i < n) (hN : n < 400000) :
    Met l Z nw EL ⟨STR, "charAt", "(I)C"⟩ jdk_42_method_56_code 2 (some .char) ⟨4, 0, 0, 53⟩ #[.ref a, .int iI] h [] (fun v h' => v = some (.int (g i)) ∧ h' = h) := by
  obtain ⟨E, V, F, A, hg⟩ := X
  refine Met.mk (a0 := a0) hEL pn_str ?_
  intro p e s m below meth c C hE hS
  rw [efRI2]
  refine R_aload_n C ca_0 rfl rfl ?_
  refine R_virtual C [] ca_1 (met_isLat l Z a0 hw nw EL hEL cs fm S h a 1 F) (by first | exact fun z => z | exact fun _ => trivial) (E) (hw _ (List.mem_of_getElem? (i := 92) rfl)) (hw _ (List.mem_of_getElem? (i := 93) rfl)) (hw _ (List.mem_of_getElem? (i := 95) rfl)) (hw _ (List.mem_of_getElem? (i := 94) rfl)) (hw _ (List.mem_of_getElem? (i := 22) rfl)) (hw _ (List.mem_of_getElem? (i := 96) rfl)) (by decide) pd_6 rfl rfl rfl (Nat.le_of_ble_eq_true rfl) (Nat.le_of_ble_eq_true rfl) (Nat.le_of_ble_eq_true rfl) (Nat.le_of_ble_eq_true rfl) (fun _ q => nomatch q) ?_
  intro v vm' h' hQ hsz hSf hFr
  obtain ⟨rfl, rfl⟩ := hQ
  rw [if_neg (by decide)]
  simp only [Option.toList_some, List.cons_append, List.nil_append]
  refine R_if C ca_4 (fun _ => ?_) (fun (hc : ¬ (0 : Int32) = 0) => absurd rfl hc)
  refine R_aload_n C ca_16 rfl rfl ?_
  refine R_getfield C ca_17 (hw _ (List.mem_of_getElem? (i := 50) rfl)) Via.refl (V) ?_
  refine R_iload_n C ca_20 rfl ?_
  refine R_static C [.ref b, .int iI] ca_21 (met_uc l Z a0 hw nw EL hEL cs fm S SX h' b n i g A iI hi hin hN (hg i hin)) (by first | exact fun z => z | exact fun _ => trivial) (hw _ (List.mem_of_getElem? (i := 126) rfl)) (hw _ (List.mem_of_getElem? (i := 127) rfl)) (hw _ (List.mem_of_getElem? (i := 79) rfl)) (hw _ (List.mem_of_getElem? (i := 128) rfl)) (by decide) pd_7 rfl rfl rfl (Nat.le_of_ble_eq_true rfl) (Nat.le_of_ble_eq_true rfl) (Nat.le_of_ble_eq_true rfl) (Nat.le_of_ble_eq_true rfl) (fun _ q => nomatch q) ?_
  intro v vm2 h2 hQ hsz2 hSf2 hFr
  obtain ⟨rfl, rfl⟩ := hQ
  simp only [Option.toList_some, List.cons_append, List.nil_append]
  exact R_retN C ca_24 rfl (Or.inr (Or.inr (Or.inl rfl))) (Nat.le_refl _) (Nat.le_refl _) ⟨by rw [nar_char_id (hg i hin).1 (hg i hin).2], rfl⟩
theorem met_lengthU (l : Launch) (Z : State) (a0 : Array Value) (hw : ∀ d ∈ tables_1, d.before a0 Z = true) (nw : Prop) (EL : List (String × Nat)) (hEL : EW Z a0 EL) (cs : Int32) (fm : Value) (S : SS Z cs fm) (h : Heap) (a b : Addr) (n : Nat) (g : Nat → Int32) (X : StrU Z h a b n g) :
    Met l Z nw EL ⟨STR, "length", "()I"⟩ jdk_42_method_54_code 1 (some .int) ⟨1, 0, 0, 13⟩ #[.ref a] h [] (fun v h' => v = some (.int n.toInt32) ∧ h' = h) := by
  have q := met_length l Z a0 hw nw EL hEL cs fm S h a b (2 * n) _ 1 rfl X.1 X.2.2.1 X.2.1 X.2.2.2.1
  rw [hlf X.2.2.2.1.small] at q
  exact q
/-- the String at a spells g 0 .. g (n - 1) -/
def Str (Z : State) (h : Heap) (a : Addr) (n : Nat) (g : Nat → Int32) : Prop := ∃ b, StrL Z h a b n g ∨ StrU Z h a b n g
theorem Str.exa {Z : State} {h : Heap} {a : Addr} {n : Nat} {g : Nat → Int32} (X : Str Z h a n g) : Exa Z h a STR := by
  obtain ⟨b, X | X⟩ := X
  · exact X.1
  · exact X.1
theorem met_lengthS (l : Launch) (Z : State) (a0 : Array Value) (hw : ∀ d ∈ tables_1, d.before a0 Z = true) (nw : Prop) (EL : List (String × Nat)) (hEL : EW Z a0 EL) (cs : Int32) (fm : Value) (S : SS Z cs fm) (h : Heap) (a : Addr) (n : Nat) (g : Nat → Int32) (X : Str Z h a n g) :
    Met l Z nw EL ⟨STR, "length", "()I"⟩ jdk_42_method_54_code 1 (some .int) ⟨1, 0, 0, 13⟩ #[.ref a] h [] (fun v h' => v = some (.int n.toInt32) ∧ h' = h) := by
  obtain ⟨b, X | X⟩ := X
  · exact met_lengthL l Z a0 hw nw EL hEL cs fm S h a b n g X
  · exact met_lengthU l Z a0 hw nw EL hEL cs fm S h a b n g X
abbrev XML : String := "com/example/ruth/ruth/protocol/XmlText"
theorem pn_xml : plainName XML = true := by first | (simp [plainName, overriddenIn]; done) | decide +kernel
theorem pn_law : plainName "com/example/ruth/ruth/protocol/XmlTextToStringPinLaw" = true := by first | (simp [plainName, overriddenIn]; done) | decide +kernel
theorem xi_0 : Dc prog_41_method_1_code 0 (.aload_n 0) 1 1 := ⟨by decide +kernel, rfl⟩
theorem xi_1 : Dc prog_41_method_1_code 1 (.invokespecial 1) 3 4 := ⟨by decide +kernel, rfl⟩
theorem xi_4 : Dc prog_41_method_1_code 4 (.aload_n 0) 1 5 := ⟨by decide +kernel, rfl⟩
theorem xi_5 : Dc prog_41_method_1_code 5 (.sipush 8192) 3 8 := ⟨by decide +kernel, rfl⟩
theorem xi_8 : Dc prog_41_method_1_code 8 (.newarray .char) 2 10 := ⟨by decide +kernel, rfl⟩
theorem xi_10 : Dc prog_41_method_1_code 10 (.putfield 9) 3 13 := ⟨by decide +kernel, rfl⟩
theorem xi_13 : Dc prog_41_method_1_code 13 (.aload_n 0) 1 14 := ⟨by decide +kernel, rfl⟩
theorem xi_14 : Dc prog_41_method_1_code 14 (.ldc 15) 2 16 := ⟨by decide +kernel, rfl⟩
theorem xi_16 : Dc prog_41_method_1_code 16 (.putfield 16) 3 19 := ⟨by decide +kernel, rfl⟩
theorem xi_19 : Dc prog_41_method_1_code 19 (.return_) 1 20 := ⟨by decide +kernel, rfl⟩
theorem xr_0 : Dc prog_41_method_16_code 0 (.iload_n 1) 1 1 := ⟨by decide +kernel, rfl⟩
theorem xr_1 : Dc prog_41_method_16_code 1 (.aload_n 0) 1 2 := ⟨by decide +kernel, rfl⟩
theorem xr_2 : Dc prog_41_method_16_code 2 (.getfield 16) 3 5 := ⟨by decide +kernel, rfl⟩
theorem xr_5 : Dc prog_41_method_16_code 5 (.aload_n 0) 1 6 := ⟨by decide +kernel, rfl⟩
theorem xr_6 : Dc prog_41_method_16_code 6 (.getfield 20) 3 9 := ⟨by decide +kernel, rfl⟩
theorem xr_9 : Dc prog_41_method_16_code 9 (.isub) 1 10 := ⟨by decide +kernel, rfl⟩
theorem xr_10 : Jp prog_41_method_16_code 10 (.if_icmp .le 11) (11) 13 21 := ⟨by decide +kernel, rfl, by decide, by decide⟩
theorem xr_13 : Dc prog_41_method_16_code 13 (.new 101) 3 16 := ⟨by decide +kernel, rfl⟩
theorem xr_16 : Dc prog_41_method_16_code 16 (.dup) 1 17 := ⟨by decide +kernel, rfl⟩
theorem xr_17 : Dc prog_41_method_16_code 17 (.invokespecial 103) 3 20 := ⟨by decide +kernel, rfl⟩
theorem xr_20 : Dc prog_41_method_16_code 20 (.athrow) 1 21 := ⟨by decide +kernel, rfl⟩
theorem xr_21 : Dc prog_41_method_16_code 21 (.aload_n 0) 1 22 := ⟨by decide +kernel, rfl⟩
theorem xr_22 : Dc prog_41_method_16_code 22 (.getfield 20) 3 25 := ⟨by decide +kernel, rfl⟩
theorem xr_25 : Dc prog_41_method_16_code 25 (.iload_n 1) 1 26 := ⟨by decide +kernel, rfl⟩
theorem xr_26 : Dc prog_41_method_16_code 26 (.iadd) 1 27 := ⟨by decide +kernel, rfl⟩
theorem xr_27 : Dc prog_41_method_16_code 27 (.aload_n 0) 1 28 := ⟨by decide +kernel, rfl⟩
theorem xr_28 : Dc prog_41_method_16_code 28 (.getfield 9) 3 31 := ⟨by decide +kernel, rfl⟩
theorem xr_31 : Dc prog_41_method_16_code 31 (.arraylength) 1 32 := ⟨by decide +kernel, rfl⟩
theorem xr_32 : Jp prog_41_method_16_code 32 (.if_icmp .le 45) (45) 35 77 := ⟨by decide +kernel, rfl, by decide, by decide⟩
theorem xr_35 : Dc prog_41_method_16_code 35 (.ldc2_w 104) 3 38 := ⟨by decide +kernel, rfl⟩
theorem xr_38 : Dc prog_41_method_16_code 38 (.aload_n 0) 1 39 := ⟨by decide +kernel, rfl⟩
theorem xr_39 : Dc prog_41_method_16_code 39 (.getfield 9) 3 42 := ⟨by decide +kernel, rfl⟩
theorem xr_42 : Dc prog_41_method_16_code 42 (.arraylength) 1 43 := ⟨by decide +kernel, rfl⟩
theorem xr_43 : Dc prog_41_method_16_code 43 (.i2l) 1 44 := ⟨by decide +kernel, rfl⟩
theorem xr_44 : Dc prog_41_method_16_code 44 (.lmul) 1 45 := ⟨by decide +kernel, rfl⟩
theorem xr_45 : Dc prog_41_method_16_code 45 (.aload_n 0) 1 46 := ⟨by decide +kernel, rfl⟩
theorem xr_46 : Dc prog_41_method_16_code 46 (.getfield 20) 3 49 := ⟨by decide +kernel, rfl⟩
theorem xr_49 : Dc prog_41_method_16_code 49 (.iload_n 1) 1 50 := ⟨by decide +kernel, rfl⟩
theorem xr_50 : Dc prog_41_method_16_code 50 (.iadd) 1 51 := ⟨by decide +kernel, rfl⟩
theorem xr_51 : Dc prog_41_method_16_code 51 (.i2l) 1 52 := ⟨by decide +kernel, rfl⟩
theorem xr_52 : Dc prog_41_method_16_code 52 (.invokestatic 106) 3 55 := ⟨by decide +kernel, rfl⟩
theorem xr_55 : Dc prog_41_method_16_code 55 (.aload_n 0) 1 56 := ⟨by decide +kernel, rfl⟩
theorem xr_56 : Dc prog_41_method_16_code 56 (.getfield 16) 3 59 := ⟨by decide +kernel, rfl⟩
theorem xr_59 : Dc prog_41_method_16_code 59 (.i2l) 1 60 := ⟨by decide +kernel, rfl⟩
theorem xr_60 : Dc prog_41_method_16_code 60 (.invokestatic 111) 3 63 := ⟨by decide +kernel, rfl⟩
theorem xr_63 : Dc prog_41_method_16_code 63 (.l2i) 1 64 := ⟨by decide +kernel, rfl⟩
theorem xr_64 : Dc prog_41_method_16_code 64 (.istore_n 2) 1 65 := ⟨by decide +kernel, rfl⟩
theorem xr_65 : Dc prog_41_method_16_code 65 (.aload_n 0) 1 66 := ⟨by decide +kernel, rfl⟩
theorem xr_66 : Dc prog_41_method_16_code 66 (.aload_n 0) 1 67 := ⟨by decide +kernel, rfl⟩
theorem xr_67 : Dc prog_41_method_16_code 67 (.getfield 9) 3 70 := ⟨by decide +kernel, rfl⟩
theorem xr_70 : Dc prog_41_method_16_code 70 (.iload_n 2) 1 71 := ⟨by decide +kernel, rfl⟩
theorem xr_71 : Dc prog_41_method_16_code 71 (.invokestatic 114) 3 74 := ⟨by decide +kernel, rfl⟩
theorem xr_74 : Dc prog_41_method_16_code 74 (.putfield 9) 3 77 := ⟨by decide +kernel, rfl⟩
theorem xr_77 : Dc prog_41_method_16_code 77 (.return_) 1 78 := ⟨by decide +kernel, rfl⟩
theorem xa_0 : Dc prog_41_method_5_code 0 (.aload_n 0) 1 1 := ⟨by decide +kernel, rfl⟩
theorem xa_1 : Dc prog_41_method_5_code 1 (.iconst 1) 1 2 := ⟨by decide +kernel, rfl⟩
theorem xa_2 : Dc prog_41_method_5_code 2 (.invokevirtual 24) 3 5 := ⟨by decide +kernel, rfl⟩
theorem xa_5 : Dc prog_41_method_5_code 5 (.aload_n 0) 1 6 := ⟨by decide +kernel, rfl⟩
theorem xa_6 : Dc prog_41_method_5_code 6 (.getfield 9) 3 9 := ⟨by decide +kernel, rfl⟩
theorem xa_9 : Dc prog_41_method_5_code 9 (.aload_n 0) 1 10 := ⟨by decide +kernel, rfl⟩
theorem xa_10 : Dc prog_41_method_5_code 10 (.dup) 1 11 := ⟨by decide +kernel, rfl⟩
theorem xa_11 : Dc prog_41_method_5_code 11 (.getfield 20) 3 14 := ⟨by decide +kernel, rfl⟩
theorem xa_14 : Dc prog_41_method_5_code 14 (.dup_x1) 1 15 := ⟨by decide +kernel, rfl⟩
theorem xa_15 : Dc prog_41_method_5_code 15 (.iconst 1) 1 16 := ⟨by decide +kernel, rfl⟩
theorem xa_16 : Dc prog_41_method_5_code 16 (.iadd) 1 17 := ⟨by decide +kernel, rfl⟩
theorem xa_17 : Dc prog_41_method_5_code 17 (.putfield 20) 3 20 := ⟨by decide +kernel, rfl⟩
theorem xa_20 : Dc prog_41_method_5_code 20 (.iload_n 1) 1 21 := ⟨by decide +kernel, rfl⟩
theorem xa_21 : Dc prog_41_method_5_code 21 (.castore) 1 22 := ⟨by decide +kernel, rfl⟩
theorem xa_22 : Dc prog_41_method_5_code 22 (.aload_n 0) 1 23 := ⟨by decide +kernel, rfl⟩
theorem xa_23 : Dc prog_41_method_5_code 23 (.areturn) 1 24 := ⟨by decide +kernel, rfl⟩
theorem xl_0 : Dc prog_41_method_2_code 0 (.aload_n 0) 1 1 := ⟨by decide +kernel, rfl⟩
theorem xl_1 : Dc prog_41_method_2_code 1 (.getfield 20) 3 4 := ⟨by decide +kernel, rfl⟩
theorem xl_4 : Dc prog_41_method_2_code 4 (.ireturn) 1 5 := ⟨by decide +kernel, rfl⟩
theorem xt_0 : Dc prog_41_method_13_code 0 (.new 29) 3 3 := ⟨by decide +kernel, rfl⟩
theorem xt_3 : Dc prog_41_method_13_code 3 (.dup) 1 4 := ⟨by decide +kernel, rfl⟩
theorem xt_4 : Dc prog_41_method_13_code 4 (.aload_n 0) 1 5 := ⟨by decide +kernel, rfl⟩
theorem xt_5 : Dc prog_41_method_13_code 5 (.getfield 9) 3 8 := ⟨by decide +kernel, rfl⟩
theorem xt_8 : Dc prog_41_method_13_code 8 (.iconst 0) 1 9 := ⟨by decide +kernel, rfl⟩
theorem xt_9 : Dc prog_41_method_13_code 9 (.aload_n 0) 1 10 := ⟨by decide +kernel, rfl⟩
theorem xt_10 : Dc prog_41_method_13_code 10 (.getfield 20) 3 13 := ⟨by decide +kernel, rfl⟩
theorem xt_13 : Dc prog_41_method_13_code 13 (.invokespecial 70) 3 16 := ⟨by decide +kernel, rfl⟩
theorem xt_16 : Dc prog_41_method_13_code 16 (.areturn) 1 17 := ⟨by decide +kernel, rfl⟩
theorem i4_0 : Dc jdk_42_method_4_code 0 (.aload_n 0) 1 1 := ⟨by decide +kernel, rfl⟩
theorem i4_1 : Dc jdk_42_method_4_code 1 (.aload_n 1) 1 2 := ⟨by decide +kernel, rfl⟩
theorem i4_2 : Dc jdk_42_method_4_code 2 (.iload_n 2) 1 3 := ⟨by decide +kernel, rfl⟩
theorem i4_3 : Dc jdk_42_method_4_code 3 (.iload_n 3) 1 4 := ⟨by decide +kernel, rfl⟩
theorem i4_4 : Dc jdk_42_method_4_code 4 (.aload_n 1) 1 5 := ⟨by decide +kernel, rfl⟩
theorem i4_5 : Dc jdk_42_method_4_code 5 (.iload_n 2) 1 6 := ⟨by decide +kernel, rfl⟩
theorem i4_6 : Dc jdk_42_method_4_code 6 (.iload_n 3) 1 7 := ⟨by decide +kernel, rfl⟩
theorem i4_7 : Dc jdk_42_method_4_code 7 (.invokestatic 30) 3 10 := ⟨by decide +kernel, rfl⟩
theorem i4_10 : Dc jdk_42_method_4_code 10 (.invokespecial 27) 3 13 := ⟨by decide +kernel, rfl⟩
theorem i4_13 : Dc jdk_42_method_4_code 13 (.return_) 1 14 := ⟨by decide +kernel, rfl⟩
theorem rk_0 : Dc jdk_42_method_5_code 0 (.iload_n 1) 1 1 := ⟨by decide +kernel, rfl⟩
theorem rk_1 : Dc jdk_42_method_5_code 1 (.iload_n 2) 1 2 := ⟨by decide +kernel, rfl⟩
theorem rk_2 : Dc jdk_42_method_5_code 2 (.aload_n 0) 1 3 := ⟨by decide +kernel, rfl⟩
theorem rk_3 : Dc jdk_42_method_5_code 3 (.arraylength) 1 4 := ⟨by decide +kernel, rfl⟩
theorem rk_4 : Dc jdk_42_method_5_code 4 (.invokestatic 34) 3 7 := ⟨by decide +kernel, rfl⟩
theorem rk_7 : Dc jdk_42_method_5_code 7 (.pop) 1 8 := ⟨by decide +kernel, rfl⟩
theorem rk_8 : Dc jdk_42_method_5_code 8 (.aconst_null) 1 9 := ⟨by decide +kernel, rfl⟩
theorem rk_9 : Dc jdk_42_method_5_code 9 (.areturn) 1 10 := ⟨by decide +kernel, rfl⟩
theorem bo_0 : Dc jdk_42_method_157_code 0 (.iload_n 0) 1 1 := ⟨by decide +kernel, rfl⟩
theorem bo_1 : Dc jdk_42_method_157_code 1 (.iload_n 1) 1 2 := ⟨by decide +kernel, rfl⟩
theorem bo_2 : Dc jdk_42_method_157_code 2 (.iload_n 2) 1 3 := ⟨by decide +kernel, rfl⟩
theorem bo_3 : Dc jdk_42_method_157_code 3 (.getstatic 1053) 3 6 := ⟨by decide +kernel, rfl⟩
theorem bo_6 : Dc jdk_42_method_157_code 6 (.invokestatic 1065) 3 9 := ⟨by decide +kernel, rfl⟩
theorem bo_9 : Dc jdk_42_method_157_code 9 (.ireturn) 1 10 := ⟨by decide +kernel, rfl⟩
theorem fx_0 : Dc jdk_41_method_13_code 0 (.iload_n 2) 1 1 := ⟨by decide +kernel, rfl⟩
theorem fx_1 : Dc jdk_41_method_13_code 1 (.iload_n 0) 1 2 := ⟨by decide +kernel, rfl⟩
theorem fx_2 : Dc jdk_41_method_13_code 2 (.ior) 1 3 := ⟨by decide +kernel, rfl⟩
theorem fx_3 : Dc jdk_41_method_13_code 3 (.iload_n 1) 1 4 := ⟨by decide +kernel, rfl⟩
theorem fx_4 : Dc jdk_41_method_13_code 4 (.ior) 1 5 := ⟨by decide +kernel, rfl⟩
theorem fx_5 : Jp jdk_41_method_13_code 5 (.ifCond .lt 10) (10) 8 15 := ⟨by decide +kernel, rfl, by decide, by decide⟩
theorem fx_8 : Dc jdk_41_method_13_code 8 (.iload_n 1) 1 9 := ⟨by decide +kernel, rfl⟩
theorem fx_9 : Dc jdk_41_method_13_code 9 (.iload_n 2) 1 10 := ⟨by decide +kernel, rfl⟩
theorem fx_10 : Dc jdk_41_method_13_code 10 (.iload_n 0) 1 11 := ⟨by decide +kernel, rfl⟩
theorem fx_11 : Dc jdk_41_method_13_code 11 (.isub) 1 12 := ⟨by decide +kernel, rfl⟩
theorem fx_12 : Jp jdk_41_method_13_code 12 (.if_icmp .le 11) (11) 15 23 := ⟨by decide +kernel, rfl, by decide, by decide⟩
theorem fx_15 : Dc jdk_41_method_13_code 15 (.aload_n 3) 1 16 := ⟨by decide +kernel, rfl⟩
theorem fx_16 : Dc jdk_41_method_13_code 16 (.iload_n 0) 1 17 := ⟨by decide +kernel, rfl⟩
theorem fx_17 : Dc jdk_41_method_13_code 17 (.iload_n 1) 1 18 := ⟨by decide +kernel, rfl⟩
theorem fx_18 : Dc jdk_41_method_13_code 18 (.iload_n 2) 1 19 := ⟨by decide +kernel, rfl⟩
theorem fx_19 : Dc jdk_41_method_13_code 19 (.invokestatic 103) 3 22 := ⟨by decide +kernel, rfl⟩
theorem fx_22 : Dc jdk_41_method_13_code 22 (.athrow) 1 23 := ⟨by decide +kernel, rfl⟩
theorem fx_23 : Dc jdk_41_method_13_code 23 (.iload_n 0) 1 24 := ⟨by decide +kernel, rfl⟩
theorem fx_24 : Dc jdk_41_method_13_code 24 (.ireturn) 1 25 := ⟨by decide +kernel, rfl⟩
theorem lw_0 : Dc code 0 (.bipush 6) 2 2 := ⟨by decide +kernel, rfl⟩
theorem lw_2 : Dc code 2 (.newarray .char) 2 4 := ⟨by decide +kernel, rfl⟩
theorem lw_4 : Dc code 4 (.astore 4) 2 6 := ⟨by decide +kernel, rfl⟩
theorem lw_6 : Dc code 6 (.aload 4) 2 8 := ⟨by decide +kernel, rfl⟩
theorem lw_8 : Dc code 8 (.iconst 0) 1 9 := ⟨by decide +kernel, rfl⟩
theorem lw_9 : Dc code 9 (.lload_n 1) 1 10 := ⟨by decide +kernel, rfl⟩
theorem lw_10 : Dc code 10 (.l2i) 1 11 := ⟨by decide +kernel, rfl⟩
theorem lw_11 : Dc code 11 (.i2c) 1 12 := ⟨by decide +kernel, rfl⟩
theorem lw_12 : Dc code 12 (.castore) 1 13 := ⟨by decide +kernel, rfl⟩
theorem lw_13 : Dc code 13 (.aload 4) 2 15 := ⟨by decide +kernel, rfl⟩
theorem lw_15 : Dc code 15 (.iconst 1) 1 16 := ⟨by decide +kernel, rfl⟩
theorem lw_16 : Dc code 16 (.lload_n 1) 1 17 := ⟨by decide +kernel, rfl⟩
theorem lw_17 : Dc code 17 (.bipush 16) 2 19 := ⟨by decide +kernel, rfl⟩
theorem lw_19 : Dc code 19 (.lushr) 1 20 := ⟨by decide +kernel, rfl⟩
theorem lw_20 : Dc code 20 (.l2i) 1 21 := ⟨by decide +kernel, rfl⟩
theorem lw_21 : Dc code 21 (.i2c) 1 22 := ⟨by decide +kernel, rfl⟩
theorem lw_22 : Dc code 22 (.castore) 1 23 := ⟨by decide +kernel, rfl⟩
theorem lw_23 : Dc code 23 (.aload 4) 2 25 := ⟨by decide +kernel, rfl⟩
theorem lw_25 : Dc code 25 (.iconst 2) 1 26 := ⟨by decide +kernel, rfl⟩
theorem lw_26 : Dc code 26 (.lload_n 1) 1 27 := ⟨by decide +kernel, rfl⟩
theorem lw_27 : Dc code 27 (.bipush 32) 2 29 := ⟨by decide +kernel, rfl⟩
theorem lw_29 : Dc code 29 (.lushr) 1 30 := ⟨by decide +kernel, rfl⟩
theorem lw_30 : Dc code 30 (.l2i) 1 31 := ⟨by decide +kernel, rfl⟩
theorem lw_31 : Dc code 31 (.i2c) 1 32 := ⟨by decide +kernel, rfl⟩
theorem lw_32 : Dc code 32 (.castore) 1 33 := ⟨by decide +kernel, rfl⟩
theorem lw_33 : Dc code 33 (.aload 4) 2 35 := ⟨by decide +kernel, rfl⟩
theorem lw_35 : Dc code 35 (.iconst 3) 1 36 := ⟨by decide +kernel, rfl⟩
theorem lw_36 : Dc code 36 (.lload_n 1) 1 37 := ⟨by decide +kernel, rfl⟩
theorem lw_37 : Dc code 37 (.bipush 48) 2 39 := ⟨by decide +kernel, rfl⟩
theorem lw_39 : Dc code 39 (.lushr) 1 40 := ⟨by decide +kernel, rfl⟩
theorem lw_40 : Dc code 40 (.l2i) 1 41 := ⟨by decide +kernel, rfl⟩
theorem lw_41 : Dc code 41 (.i2c) 1 42 := ⟨by decide +kernel, rfl⟩
theorem lw_42 : Dc code 42 (.castore) 1 43 := ⟨by decide +kernel, rfl⟩
theorem lw_43 : Dc code 43 (.aload 4) 2 45 := ⟨by decide +kernel, rfl⟩
theorem lw_45 : Dc code 45 (.iconst 4) 1 46 := ⟨by decide +kernel, rfl⟩
theorem lw_46 : Dc code 46 (.iload_n 3) 1 47 := ⟨by decide +kernel, rfl⟩
theorem lw_47 : Dc code 47 (.i2c) 1 48 := ⟨by decide +kernel, rfl⟩
theorem lw_48 : Dc code 48 (.castore) 1 49 := ⟨by decide +kernel, rfl⟩
theorem lw_49 : Dc code 49 (.aload 4) 2 51 := ⟨by decide +kernel, rfl⟩
theorem lw_51 : Dc code 51 (.iconst 5) 1 52 := ⟨by decide +kernel, rfl⟩
theorem lw_52 : Dc code 52 (.iload_n 3) 1 53 := ⟨by decide +kernel, rfl⟩
theorem lw_53 : Dc code 53 (.bipush 16) 2 55 := ⟨by decide +kernel, rfl⟩
theorem lw_55 : Dc code 55 (.iushr) 1 56 := ⟨by decide +kernel, rfl⟩
theorem lw_56 : Dc code 56 (.i2c) 1 57 := ⟨by decide +kernel, rfl⟩
theorem lw_57 : Dc code 57 (.castore) 1 58 := ⟨by decide +kernel, rfl⟩
theorem lw_58 : Dc code 58 (.iload_n 0) 1 59 := ⟨by decide +kernel, rfl⟩
theorem lw_59 : Dc code 59 (.bipush 7) 2 61 := ⟨by decide +kernel, rfl⟩
theorem lw_61 : Dc code 61 (.iand) 1 62 := ⟨by decide +kernel, rfl⟩
theorem lw_62 : Dc code 62 (.bipush 7) 2 64 := ⟨by decide +kernel, rfl⟩
theorem lw_64 : Dc code 64 (.irem) 1 65 := ⟨by decide +kernel, rfl⟩
theorem lw_65 : Dc code 65 (.istore 5) 2 67 := ⟨by decide +kernel, rfl⟩
theorem lw_67 : Dc code 67 (.new 7) 3 70 := ⟨by decide +kernel, rfl⟩
theorem lw_70 : Dc code 70 (.dup) 1 71 := ⟨by decide +kernel, rfl⟩
theorem lw_71 : Dc code 71 (.invokespecial 9) 3 74 := ⟨by decide +kernel, rfl⟩
theorem lw_74 : Dc code 74 (.astore 6) 2 76 := ⟨by decide +kernel, rfl⟩
theorem lw_76 : Dc code 76 (.iload 5) 2 78 := ⟨by decide +kernel, rfl⟩
theorem lw_78 : Jp code 78 (.ifCond .le 13) (13) 81 91 := ⟨by decide +kernel, rfl, by decide, by decide⟩
theorem lw_81 : Dc code 81 (.aload 6) 2 83 := ⟨by decide +kernel, rfl⟩
theorem lw_83 : Dc code 83 (.aload 4) 2 85 := ⟨by decide +kernel, rfl⟩
theorem lw_85 : Dc code 85 (.iconst 0) 1 86 := ⟨by decide +kernel, rfl⟩
theorem lw_86 : Dc code 86 (.caload) 1 87 := ⟨by decide +kernel, rfl⟩
theorem lw_87 : Dc code 87 (.invokevirtual 10) 3 90 := ⟨by decide +kernel, rfl⟩
theorem lw_90 : Dc code 90 (.pop) 1 91 := ⟨by decide +kernel, rfl⟩
theorem lw_91 : Dc code 91 (.iload 5) 2 93 := ⟨by decide +kernel, rfl⟩
theorem lw_93 : Dc code 93 (.iconst 1) 1 94 := ⟨by decide +kernel, rfl⟩
theorem lw_94 : Jp code 94 (.if_icmp .le 13) (13) 97 107 := ⟨by decide +kernel, rfl, by decide, by decide⟩
theorem lw_97 : Dc code 97 (.aload 6) 2 99 := ⟨by decide +kernel, rfl⟩
theorem lw_99 : Dc code 99 (.aload 4) 2 101 := ⟨by decide +kernel, rfl⟩
theorem lw_101 : Dc code 101 (.iconst 1) 1 102 := ⟨by decide +kernel, rfl⟩
theorem lw_102 : Dc code 102 (.caload) 1 103 := ⟨by decide +kernel, rfl⟩
theorem lw_103 : Dc code 103 (.invokevirtual 10) 3 106 := ⟨by decide +kernel, rfl⟩
theorem lw_106 : Dc code 106 (.pop) 1 107 := ⟨by decide +kernel, rfl⟩
theorem lw_107 : Dc code 107 (.iload 5) 2 109 := ⟨by decide +kernel, rfl⟩
theorem lw_109 : Dc code 109 (.iconst 2) 1 110 := ⟨by decide +kernel, rfl⟩
theorem lw_110 : Jp code 110 (.if_icmp .le 13) (13) 113 123 := ⟨by decide +kernel, rfl, by decide, by decide⟩
theorem lw_113 : Dc code 113 (.aload 6) 2 115 := ⟨by decide +kernel, rfl⟩
theorem lw_115 : Dc code 115 (.aload 4) 2 117 := ⟨by decide +kernel, rfl⟩
theorem lw_117 : Dc code 117 (.iconst 2) 1 118 := ⟨by decide +kernel, rfl⟩
theorem lw_118 : Dc code 118 (.caload) 1 119 := ⟨by decide +kernel, rfl⟩
theorem lw_119 : Dc code 119 (.invokevirtual 10) 3 122 := ⟨by decide +kernel, rfl⟩
theorem lw_122 : Dc code 122 (.pop) 1 123 := ⟨by decide +kernel, rfl⟩
theorem lw_123 : Dc code 123 (.iload 5) 2 125 := ⟨by decide +kernel, rfl⟩
theorem lw_125 : Dc code 125 (.iconst 3) 1 126 := ⟨by decide +kernel, rfl⟩
theorem lw_126 : Jp code 126 (.if_icmp .le 13) (13) 129 139 := ⟨by decide +kernel, rfl, by decide, by decide⟩
theorem lw_129 : Dc code 129 (.aload 6) 2 131 := ⟨by decide +kernel, rfl⟩
theorem lw_131 : Dc code 131 (.aload 4) 2 133 := ⟨by decide +kernel, rfl⟩
theorem lw_133 : Dc code 133 (.iconst 3) 1 134 := ⟨by decide +kernel, rfl⟩
theorem lw_134 : Dc code 134 (.caload) 1 135 := ⟨by decide +kernel, rfl⟩
theorem lw_135 : Dc code 135 (.invokevirtual 10) 3 138 := ⟨by decide +kernel, rfl⟩
theorem lw_138 : Dc code 138 (.pop) 1 139 := ⟨by decide +kernel, rfl⟩
theorem lw_139 : Dc code 139 (.iload 5) 2 141 := ⟨by decide +kernel, rfl⟩
theorem lw_141 : Dc code 141 (.iconst 4) 1 142 := ⟨by decide +kernel, rfl⟩
theorem lw_142 : Jp code 142 (.if_icmp .le 13) (13) 145 155 := ⟨by decide +kernel, rfl, by decide, by decide⟩
theorem lw_145 : Dc code 145 (.aload 6) 2 147 := ⟨by decide +kernel, rfl⟩
theorem lw_147 : Dc code 147 (.aload 4) 2 149 := ⟨by decide +kernel, rfl⟩
theorem lw_149 : Dc code 149 (.iconst 4) 1 150 := ⟨by decide +kernel, rfl⟩
theorem lw_150 : Dc code 150 (.caload) 1 151 := ⟨by decide +kernel, rfl⟩
theorem lw_151 : Dc code 151 (.invokevirtual 10) 3 154 := ⟨by decide +kernel, rfl⟩
theorem lw_154 : Dc code 154 (.pop) 1 155 := ⟨by decide +kernel, rfl⟩
theorem lw_155 : Dc code 155 (.iload 5) 2 157 := ⟨by decide +kernel, rfl⟩
theorem lw_157 : Dc code 157 (.iconst 5) 1 158 := ⟨by decide +kernel, rfl⟩
theorem lw_158 : Jp code 158 (.if_icmp .le 13) (13) 161 171 := ⟨by decide +kernel, rfl, by decide, by decide⟩
theorem lw_161 : Dc code 161 (.aload 6) 2 163 := ⟨by decide +kernel, rfl⟩
theorem lw_163 : Dc code 163 (.aload 4) 2 165 := ⟨by decide +kernel, rfl⟩
theorem lw_165 : Dc code 165 (.iconst 5) 1 166 := ⟨by decide +kernel, rfl⟩
theorem lw_166 : Dc code 166 (.caload) 1 167 := ⟨by decide +kernel, rfl⟩
theorem lw_167 : Dc code 167 (.invokevirtual 10) 3 170 := ⟨by decide +kernel, rfl⟩
theorem lw_170 : Dc code 170 (.pop) 1 171 := ⟨by decide +kernel, rfl⟩
theorem lw_171 : Dc code 171 (.aload 6) 2 173 := ⟨by decide +kernel, rfl⟩
theorem lw_173 : Dc code 173 (.invokevirtual 14) 3 176 := ⟨by decide +kernel, rfl⟩
theorem lw_176 : Dc code 176 (.astore 7) 2 178 := ⟨by decide +kernel, rfl⟩
theorem lw_178 : Dc code 178 (.aload 7) 2 180 := ⟨by decide +kernel, rfl⟩
theorem lw_180 : Jp code 180 (.ifnonnull 5) (5) 183 185 := ⟨by decide +kernel, rfl, by decide, by decide⟩
theorem lw_183 : Dc code 183 (.iconst 0) 1 184 := ⟨by decide +kernel, rfl⟩
theorem lw_184 : Dc code 184 (.ireturn) 1 185 := ⟨by decide +kernel, rfl⟩
theorem lw_185 : Dc code 185 (.aload 7) 2 187 := ⟨by decide +kernel, rfl⟩
theorem lw_187 : Dc code 187 (.invokevirtual 18) 3 190 := ⟨by decide +kernel, rfl⟩
theorem lw_190 : Dc code 190 (.iload 5) 2 192 := ⟨by decide +kernel, rfl⟩
theorem lw_192 : Jp code 192 (.if_icmp .eq 5) (5) 195 197 := ⟨by decide +kernel, rfl, by decide, by decide⟩
theorem lw_195 : Dc code 195 (.iconst 0) 1 196 := ⟨by decide +kernel, rfl⟩
theorem lw_196 : Dc code 196 (.ireturn) 1 197 := ⟨by decide +kernel, rfl⟩
theorem lw_197 : Dc code 197 (.aload 6) 2 199 := ⟨by decide +kernel, rfl⟩
theorem lw_199 : Dc code 199 (.invokevirtual 24) 3 202 := ⟨by decide +kernel, rfl⟩
theorem lw_202 : Dc code 202 (.iload 5) 2 204 := ⟨by decide +kernel, rfl⟩
theorem lw_204 : Jp code 204 (.if_icmp .eq 5) (5) 207 209 := ⟨by decide +kernel, rfl, by decide, by decide⟩
theorem lw_207 : Dc code 207 (.iconst 0) 1 208 := ⟨by decide +kernel, rfl⟩
theorem lw_208 : Dc code 208 (.ireturn) 1 209 := ⟨by decide +kernel, rfl⟩
theorem lw_209 : Dc code 209 (.iload 5) 2 211 := ⟨by decide +kernel, rfl⟩
theorem lw_211 : Jp code 211 (.ifCond .le 18) (18) 214 229 := ⟨by decide +kernel, rfl, by decide, by decide⟩
theorem lw_214 : Dc code 214 (.aload 7) 2 216 := ⟨by decide +kernel, rfl⟩
theorem lw_216 : Dc code 216 (.iconst 0) 1 217 := ⟨by decide +kernel, rfl⟩
theorem lw_217 : Dc code 217 (.invokevirtual 25) 3 220 := ⟨by decide +kernel, rfl⟩
theorem lw_220 : Dc code 220 (.aload 4) 2 222 := ⟨by decide +kernel, rfl⟩
theorem lw_222 : Dc code 222 (.iconst 0) 1 223 := ⟨by decide +kernel, rfl⟩
theorem lw_223 : Dc code 223 (.caload) 1 224 := ⟨by decide +kernel, rfl⟩
theorem lw_224 : Jp code 224 (.if_icmp .eq 5) (5) 227 229 := ⟨by decide +kernel, rfl, by decide, by decide⟩
theorem lw_227 : Dc code 227 (.iconst 0) 1 228 := ⟨by decide +kernel, rfl⟩
theorem lw_228 : Dc code 228 (.ireturn) 1 229 := ⟨by decide +kernel, rfl⟩
theorem lw_229 : Dc code 229 (.iload 5) 2 231 := ⟨by decide +kernel, rfl⟩
theorem lw_231 : Dc code 231 (.iconst 1) 1 232 := ⟨by decide +kernel, rfl⟩
theorem lw_232 : Jp code 232 (.if_icmp .le 18) (18) 235 250 := ⟨by decide +kernel, rfl, by decide, by decide⟩
theorem lw_235 : Dc code 235 (.aload 7) 2 237 := ⟨by decide +kernel, rfl⟩
theorem lw_237 : Dc code 237 (.iconst 1) 1 238 := ⟨by decide +kernel, rfl⟩
theorem lw_238 : Dc code 238 (.invokevirtual 25) 3 241 := ⟨by decide +kernel, rfl⟩
theorem lw_241 : Dc code 241 (.aload 4) 2 243 := ⟨by decide +kernel, rfl⟩
theorem lw_243 : Dc code 243 (.iconst 1) 1 244 := ⟨by decide +kernel, rfl⟩
theorem lw_244 : Dc code 244 (.caload) 1 245 := ⟨by decide +kernel, rfl⟩
theorem lw_245 : Jp code 245 (.if_icmp .eq 5) (5) 248 250 := ⟨by decide +kernel, rfl, by decide, by decide⟩
theorem lw_248 : Dc code 248 (.iconst 0) 1 249 := ⟨by decide +kernel, rfl⟩
theorem lw_249 : Dc code 249 (.ireturn) 1 250 := ⟨by decide +kernel, rfl⟩
theorem lw_250 : Dc code 250 (.iload 5) 2 252 := ⟨by decide +kernel, rfl⟩
theorem lw_252 : Dc code 252 (.iconst 2) 1 253 := ⟨by decide +kernel, rfl⟩
theorem lw_253 : Jp code 253 (.if_icmp .le 18) (18) 256 271 := ⟨by decide +kernel, rfl, by decide, by decide⟩
theorem lw_256 : Dc code 256 (.aload 7) 2 258 := ⟨by decide +kernel, rfl⟩
theorem lw_258 : Dc code 258 (.iconst 2) 1 259 := ⟨by decide +kernel, rfl⟩
theorem lw_259 : Dc code 259 (.invokevirtual 25) 3 262 := ⟨by decide +kernel, rfl⟩
theorem lw_262 : Dc code 262 (.aload 4) 2 264 := ⟨by decide +kernel, rfl⟩
theorem lw_264 : Dc code 264 (.iconst 2) 1 265 := ⟨by decide +kernel, rfl⟩
theorem lw_265 : Dc code 265 (.caload) 1 266 := ⟨by decide +kernel, rfl⟩
theorem lw_266 : Jp code 266 (.if_icmp .eq 5) (5) 269 271 := ⟨by decide +kernel, rfl, by decide, by decide⟩
theorem lw_269 : Dc code 269 (.iconst 0) 1 270 := ⟨by decide +kernel, rfl⟩
theorem lw_270 : Dc code 270 (.ireturn) 1 271 := ⟨by decide +kernel, rfl⟩
theorem lw_271 : Dc code 271 (.iload 5) 2 273 := ⟨by decide +kernel, rfl⟩
theorem lw_273 : Dc code 273 (.iconst 3) 1 274 := ⟨by decide +kernel, rfl⟩
theorem lw_274 : Jp code 274 (.if_icmp .le 18) (18) 277 292 := ⟨by decide +kernel, rfl, by decide, by decide⟩
theorem lw_277 : Dc code 277 (.aload 7) 2 279 := ⟨by decide +kernel, rfl⟩
theorem lw_279 : Dc code 279 (.iconst 3) 1 280 := ⟨by decide +kernel, rfl⟩
theorem lw_280 : Dc code 280 (.invokevirtual 25) 3 283 := ⟨by decide +kernel, rfl⟩
theorem lw_283 : Dc code 283 (.aload 4) 2 285 := ⟨by decide +kernel, rfl⟩
theorem lw_285 : Dc code 285 (.iconst 3) 1 286 := ⟨by decide +kernel, rfl⟩
theorem lw_286 : Dc code 286 (.caload) 1 287 := ⟨by decide +kernel, rfl⟩
theorem lw_287 : Jp code 287 (.if_icmp .eq 5) (5) 290 292 := ⟨by decide +kernel, rfl, by decide, by decide⟩
theorem lw_290 : Dc code 290 (.iconst 0) 1 291 := ⟨by decide +kernel, rfl⟩
theorem lw_291 : Dc code 291 (.ireturn) 1 292 := ⟨by decide +kernel, rfl⟩
theorem lw_292 : Dc code 292 (.iload 5) 2 294 := ⟨by decide +kernel, rfl⟩
theorem lw_294 : Dc code 294 (.iconst 4) 1 295 := ⟨by decide +kernel, rfl⟩
theorem lw_295 : Jp code 295 (.if_icmp .le 18) (18) 298 313 := ⟨by decide +kernel, rfl, by decide, by decide⟩
theorem lw_298 : Dc code 298 (.aload 7) 2 300 := ⟨by decide +kernel, rfl⟩
theorem lw_300 : Dc code 300 (.iconst 4) 1 301 := ⟨by decide +kernel, rfl⟩
theorem lw_301 : Dc code 301 (.invokevirtual 25) 3 304 := ⟨by decide +kernel, rfl⟩
theorem lw_304 : Dc code 304 (.aload 4) 2 306 := ⟨by decide +kernel, rfl⟩
theorem lw_306 : Dc code 306 (.iconst 4) 1 307 := ⟨by decide +kernel, rfl⟩
theorem lw_307 : Dc code 307 (.caload) 1 308 := ⟨by decide +kernel, rfl⟩
theorem lw_308 : Jp code 308 (.if_icmp .eq 5) (5) 311 313 := ⟨by decide +kernel, rfl, by decide, by decide⟩
theorem lw_311 : Dc code 311 (.iconst 0) 1 312 := ⟨by decide +kernel, rfl⟩
theorem lw_312 : Dc code 312 (.ireturn) 1 313 := ⟨by decide +kernel, rfl⟩
theorem lw_313 : Dc code 313 (.iload 5) 2 315 := ⟨by decide +kernel, rfl⟩
theorem lw_315 : Dc code 315 (.iconst 5) 1 316 := ⟨by decide +kernel, rfl⟩
theorem lw_316 : Jp code 316 (.if_icmp .le 18) (18) 319 334 := ⟨by decide +kernel, rfl, by decide, by decide⟩
theorem lw_319 : Dc code 319 (.aload 7) 2 321 := ⟨by decide +kernel, rfl⟩
theorem lw_321 : Dc code 321 (.iconst 5) 1 322 := ⟨by decide +kernel, rfl⟩
theorem lw_322 : Dc code 322 (.invokevirtual 25) 3 325 := ⟨by decide +kernel, rfl⟩
theorem lw_325 : Dc code 325 (.aload 4) 2 327 := ⟨by decide +kernel, rfl⟩
theorem lw_327 : Dc code 327 (.iconst 5) 1 328 := ⟨by decide +kernel, rfl⟩
theorem lw_328 : Dc code 328 (.caload) 1 329 := ⟨by decide +kernel, rfl⟩
theorem lw_329 : Jp code 329 (.if_icmp .eq 5) (5) 332 334 := ⟨by decide +kernel, rfl, by decide, by decide⟩
theorem lw_332 : Dc code 332 (.iconst 0) 1 333 := ⟨by decide +kernel, rfl⟩
theorem lw_333 : Dc code 333 (.ireturn) 1 334 := ⟨by decide +kernel, rfl⟩
theorem lw_334 : Dc code 334 (.iconst 1) 1 335 := ⟨by decide +kernel, rfl⟩
theorem lw_335 : Dc code 335 (.ireturn) 1 336 := ⟨by decide +kernel, rfl⟩
theorem efi4 (m : MethodId) (x0 : Addr) (x1 : Addr) (x2 : Int32) (x3 : Int32) : entryFrame m #[(.ref x0), (.ref x1), (.int x2), (.int x3)] 4 = fr m 0 [.val (.ref x0), .val (.ref x1), .val (.int x2), .val (.int x3)] [] := by first | (simp [entryFrame, mkF, argsToLocals, Value.category]; done) | rfl
theorem efrk (m : MethodId) (x0 : Addr) (x1 : Int32) (x2 : Int32) : entryFrame m #[(.ref x0), (.int x1), (.int x2)] 3 = fr m 0 [.val (.ref x0), .val (.int x1), .val (.int x2)] [] := by first | (simp [entryFrame, mkF, argsToLocals, Value.category]; done) | rfl
theorem efbo (m : MethodId) (x0 : Int32) (x1 : Int32) (x2 : Int32) : entryFrame m #[(.int x0), (.int x1), (.int x2)] 3 = fr m 0 [.val (.int x0), .val (.int x1), .val (.int x2)] [] := by first | (simp [entryFrame, mkF, argsToLocals, Value.category]; done) | rfl
theorem effx (m : MethodId) (x0 : Int32) (x1 : Int32) (x2 : Int32) (x3 : Value) (q3 : x3.category = 1) : entryFrame m #[(.int x0), (.int x1), (.int x2), (x3)] 4 = fr m 0 [.val (.int x0), .val (.int x1), .val (.int x2), .val (x3)] [] := by simp [entryFrame, mkF, argsToLocals, cat_int, cat_rf, cat_lng, q3]
theorem efxr (m : MethodId) (x0 : Addr) (x1 : Int32) : entryFrame m #[(.ref x0), (.int x1)] 3 = fr m 0 [.val (.ref x0), .val (.int x1), .unset] [] := by first | (simp [entryFrame, mkF, argsToLocals, Value.category]; done) | rfl
theorem eflw (m : MethodId) (x0 : Int32) (x1 : Int64) (x2 : Int32) : entryFrame m #[(.int x0), (.long x1), (.int x2)] 8 = fr m 0 [.val (.int x0), .val (.long x1), .second, .val (.int x2), .unset, .unset, .unset, .unset] [] := by first | (simp [entryFrame, mkF, argsToLocals, Value.category]; done) | rfl
abbrev EL1 : List (String × Nat) := [("java/lang/String", 7)]
theorem or_nn : ∀ k : Fin 7, ¬ ((8192 : Int32) ||| 0) ||| Int32.ofNat k.val < 0 := by decide +kernel
theorem met_fx (l : Launch) (Z : State) (a0 : Array Value) (hw : ∀ d ∈ tables_1, d.before a0 Z = true) (nw : Prop) (EL : List (String × Nat)) (hEL : EW Z a0 EL) (h : Heap) (x : Int32) (fm : Value) (hfm : fm.isRef = true) (h0 : 0 ≤ x.toInt) (h1 : x.toInt ≤ 6) :
    Met l Z nw EL ⟨PRE, "checkFromIndexSize", "(IIILjava/util/function/BiFunction;)I"⟩ jdk_41_method_13_code 4 (some .int) ⟨0, 0, 0, 0⟩ #[.int 0, .int x, .int 8192, fm] h [] (fun v h' => v = some (.int 0) ∧ h' = h) := by
  have z := or_nn ⟨x.toInt.toNat, by omega⟩
  dsimp only at z
  rw [← ofNat_toInt h0] at z
  refine Met.mk (a0 := a0) hEL pn_pre ?_
  intro p e s m below meth c C hE hS
  rw [effx m _ _ _ _ (cat_ref hfm)]
  refine R_iload_n C fx_0 rfl ?_
  refine R_iload_n C fx_1 rfl ?_
  refine R_ior C fx_2 ?_
  refine R_iload_n C fx_3 rfl ?_
  refine R_ior C fx_4 ?_
  refine R_if C fx_5 (fun hc => absurd hc z) (fun _ => ?_)
  refine R_iload_n C fx_8 rfl ?_
  refine R_iload_n C fx_9 rfl ?_
  refine R_iload_n C fx_10 rfl ?_
  refine R_isub C fx_11 ?_
  refine R_icmp C fx_12 (fun _ => ?_) (fun (hc : ¬ ¬ (8192 : Int32) - 0 < x) => absurd (show ¬ (8192 : Int32) - 0 < x from ?_) hc)
  · refine R_iload_n C fx_23 rfl ?_
    exact R_retI C fx_24 rfl (Nat.le_refl _) (Nat.le_refl _) ⟨rfl, rfl⟩
  · rw [Int32.lt_iff_toInt_lt, show ((8192 : Int32) - 0).toInt = 8192 from rfl]; omega
theorem met_bo (l : Launch) (Z : State) (a0 : Array Value) (hw : ∀ d ∈ tables_1, d.before a0 Z = true) (nw : Prop) (EL : List (String × Nat)) (hEL : EW Z a0 EL) (cs : Int32) (fm : Value) (S : SS Z cs fm) (h : Heap) (x : Int32) (h0 : 0 ≤ x.toInt) (h1 : x.toInt ≤ 6) :
    Met l Z nw EL ⟨STR, "checkBoundsOffCount", "(III)I"⟩ jdk_42_method_157_code 3 (some .int) ⟨1, 0, 0, 15⟩ #[.int 0, .int x, .int 8192] h [] (fun v h' => v = some (.int 0) ∧ h' = h) := by
  refine Met.mk (a0 := a0) hEL pn_str ?_
  intro p e s m below meth c C hE hS
  rw [efbo]
  refine R_iload_n C bo_0 rfl ?_
  refine R_iload_n C bo_1 rfl ?_
  refine R_iload_n C bo_2 rfl ?_
  refine R_getstatic C bo_3 (hw _ (List.mem_of_getElem? (i := 34) rfl)) Via.refl (S.2.2.2.ext hE) ?_
  refine R_static C [.int 0, .int x, .int 8192, fm] bo_6 (met_fx l Z a0 hw nw EL hEL h x fm S.2.2.1 h0 h1) (by first | exact fun z => z | exact fun _ => trivial) (hw _ (List.mem_of_getElem? (i := 36) rfl)) (hw _ (List.mem_of_getElem? (i := 37) rfl)) (hw _ (List.mem_of_getElem? (i := 35) rfl)) (hw _ (List.mem_of_getElem? (i := 38) rfl)) (by decide) pd_13 rfl rfl rfl (Nat.le_of_ble_eq_true rfl) (Nat.le_of_ble_eq_true rfl) (Nat.le_of_ble_eq_true rfl) (Nat.le_of_ble_eq_true rfl) (fun _ q => nomatch q) ?_
  intro v vm' h' hQ hsz hSf hFr
  obtain ⟨rfl, rfl⟩ := hQ
  exact R_retI C bo_9 rfl (Nat.le_refl _) (Nat.le_refl _) ⟨rfl, rfl⟩
theorem met_rk (l : Launch) (Z : State) (a0 : Array Value) (hw : ∀ d ∈ tables_1, d.before a0 Z = true) (nw : Prop) (EL : List (String × Nat)) (hEL : EW Z a0 EL) (cs : Int32) (fm : Value) (S : SS Z cs fm) (h : Heap) (val : Addr) (f : Nat → Value) (A : AR Z h val .char 8192 f) (x : Int32) (h0 : 0 ≤ x.toInt) (h1 : x.toInt ≤ 6) :
    Met l Z nw EL ⟨STR, "rangeCheck", "([CII)Ljava/lang/Void;"⟩ jdk_42_method_5_code 3 (some (.object "java/lang/Void")) ⟨2, 0, 0, 29⟩ #[.ref val, .int 0, .int x] h [] (fun v h' => v = some .null ∧ h' = h) := by
  refine Met.mk (a0 := a0) hEL pn_str ?_
  intro p e s m below meth c C hE hS
  rw [efrk]
  refine R_iload_n C rk_0 rfl ?_
  refine R_iload_n C rk_1 rfl ?_
  refine R_aload_n C rk_2 rfl rfl ?_
  refine R_arraylength C rk_3 (A) (w := 8192) rfl ?_
  refine R_static C [.int 0, .int x, .int 8192] rk_4 (met_bo l Z a0 hw nw EL hEL cs fm S h x h0 h1) (by first | exact fun z => z | exact fun _ => trivial) (hw _ (List.mem_of_getElem? (i := 31) rfl)) (hw _ (List.mem_of_getElem? (i := 32) rfl)) (hw _ (List.mem_of_getElem? (i := 22) rfl)) (hw _ (List.mem_of_getElem? (i := 33) rfl)) (by decide) pd_14 rfl rfl rfl (Nat.le_of_ble_eq_true rfl) (Nat.le_of_ble_eq_true rfl) (Nat.le_of_ble_eq_true rfl) (Nat.le_of_ble_eq_true rfl) (fun _ q => nomatch q) ?_
  intro v vm' h' hQ hsz hSf hFr
  obtain ⟨rfl, rfl⟩ := hQ
  simp only [Option.toList_some, List.cons_append, List.nil_append]
  refine R_pop C rk_7 rfl ?_
  refine R_aconst_null C rk_8 ?_
  exact R_areturn C rk_9 rfl rfl rfl (Nat.le_refl _) (Nat.le_refl _) ⟨rfl, rfl⟩
theorem met_i4 (l : Launch) (Z : State) (a0 : Array Value) (hw : ∀ d ∈ tables_1, d.before a0 Z = true) (hEL : EW Z a0 EL1) (cs : Int32) (fm : Value) (S : SS Z cs fm) (SX : SU Z) (h : Heap) (a val : Addr) (k : Nat) (f : Nat → Value) (g : Nat → Int32) (A : AR Z h val .char 8192 f) (hf : ∀ i, i < k → f i = .int (g i)) (x : Int32) (hx : x.toInt = k) (hk : k ≤ 6) (hg : ∀ i, i < k → 0 ≤ (g i).toInt ∧ (g i).toInt ≤ 65535)
    (E : Exa Z h a STR) (F1 : Fld Z h a STR "value" "[B" .null) (F2 : Fld Z h a STR "coder" "B" (.int 0)) (ha : Z.heap.size ≤ a) :
    Met l Z False EL1 ⟨STR, "<init>", "([CII)V"⟩ jdk_42_method_4_code 4 none ⟨5, 4, 24, 74⟩ #[.ref a, .ref val, .int 0, .int x] h [a] (fun v h' => v = none ∧ Keep h h' [a] ∧ Str Z h' a k g) := by
  obtain ⟨gg, hgg, hfit⟩ : ∃ gg : Nat → Int32, (∀ i, i < 8192 → f i = .int (gg i)) ∧ True := by
    refine ⟨fun i => match f i with | .int y => y | _ => 0, fun i hi => ?_, trivial⟩
    obtain ⟨y, hy⟩ := fit_I (A.fit hi) (Or.inr (Or.inr (Or.inr (Or.inl rfl))))
    show f i = .int (match f i with | .int y => y | _ => 0)
    rw [hy]
  have A' : AR Z h val .char 8192 (fun i => .int (gg i)) := A.cg hgg
  have hgk : ∀ i, i < k → gg (0 + i) = g i := fun i hi => by
    rw [Nat.zero_add]
    have z := (hgg i (by omega)).symm.trans (hf i hi)
    exact Value.int.inj z
  have M : Met l Z False EL1 ⟨STR, "<init>", "([CIILjava/lang/Void;)V"⟩ jdk_42_method_149_code 6 none ⟨4, 4, 24, 57⟩ #[.ref a, .ref val, .int 0, .int x, .null] h [a] (fun v h' => v = none ∧ Keep h h' [a] ∧ Str Z h' a k g) := by
    rcases Nat.eq_zero_or_pos k with z | z
    · subst z
      have hx0 : x = 0 := Int32.toInt_inj.mp (by rw [hx]; rfl)
      subst hx0
      refine ((met_i6E l Z a0 hw EL1 hEL (List.mem_singleton.mpr rfl) h a val g 0 .null rfl E F1 F2 ha).room (by decide) (by decide) (by decide) (by decide)).imp ?_
      intro v h' hq
      obtain ⟨q1, q2, b, q3⟩ := hq
      exact ⟨q1, q2, b, Or.inl q3⟩
    · by_cases hl : ∀ i, i < k → (gg (0 + i)).toInt ≤ 255
      · refine ((met_i6L l Z a0 hw False EL1 hEL cs fm S h a val 8192 0 k 12 gg A' (by omega) (by omega) (by decide) 0 x rfl hx z (fun i hi => ⟨by rw [hgk i hi]; exact (hg i hi).1, hl i hi⟩) .null rfl E F1 F2 ha).room (by decide) (by decide) (by decide) (by decide)).imp ?_
        intro v h' hq
        obtain ⟨q1, q2, b, q3, q4, q5, q6, q7⟩ := hq
        refine ⟨q1, q2, b, Or.inl ⟨q3, q4, q5, q6.cg fun i hi => by dsimp only; rw [hgk i hi], fun i hi => ?_⟩⟩
        have z2 := q7 i hi
        dsimp only at z2
        rw [hgk i hi] at z2
        exact z2
      · refine ((met_i6U l Z a0 hw False EL1 hEL cs fm S SX h a val 8192 0 k 12 gg A' (by omega) (by omega) (by omega) (by decide) 0 x rfl hx (fun i hi => by rw [hgk i hi]; exact hg i hi) hl .null rfl E F1 F2 ha).room (by decide) (by decide) (by decide) (by decide)).imp ?_
        intro v h' hq
        obtain ⟨q1, q2, b, q3, q4, q5, q6, q7⟩ := hq
        refine ⟨q1, q2, b, Or.inr ⟨q3, q4, q5, q6.cg fun i hi => ?_, hg⟩⟩
        unfold ub
        show (if i % 2 = 0 then by8 (gg (0 + i / 2)) else by8 (gg (0 + i / 2) >>> (8 &&& 31))) = _
        rw [hgk (i / 2) (by omega)]
  refine Met.mk (a0 := a0) hEL pn_str ?_
  intro p e s m below meth c C hE hS
  rw [efi4]
  refine R_aload_n C i4_0 rfl rfl ?_
  refine R_aload_n C i4_1 rfl rfl ?_
  refine R_iload_n C i4_2 rfl ?_
  refine R_iload_n C i4_3 rfl ?_
  refine R_aload_n C i4_4 rfl rfl ?_
  refine R_iload_n C i4_5 rfl ?_
  refine R_iload_n C i4_6 rfl ?_
  refine R_static C [.ref val, .int 0, .int x] i4_7 (met_rk l Z a0 hw True EL1 hEL cs fm S h val f A x (by omega) (by omega)) (by first | exact fun z => z | exact fun _ => trivial) (hw _ (List.mem_of_getElem? (i := 28) rfl)) (hw _ (List.mem_of_getElem? (i := 29) rfl)) (hw _ (List.mem_of_getElem? (i := 22) rfl)) (hw _ (List.mem_of_getElem? (i := 30) rfl)) (by decide) pd_15 rfl rfl rfl (Nat.le_of_ble_eq_true rfl) (Nat.le_of_ble_eq_true rfl) (Nat.le_of_ble_eq_true rfl) (Nat.le_of_ble_eq_true rfl) (fun _ q => nomatch q) ?_
  intro v vm1 h1 hQ hsz1 hSf1 hFr
  obtain ⟨rfl, rfl⟩ := hQ
  simp only [Option.toList_some, List.cons_append, List.nil_append]
  refine R_special C [.ref val, .int 0, .int x, .null] i4_10 (M) (by first | exact fun z => z | exact fun _ => trivial) rfl (hw _ (List.mem_of_getElem? (i := 39) rfl)) (hw _ (List.mem_of_getElem? (i := 40) rfl)) (hw _ (List.mem_of_getElem? (i := 22) rfl)) (hw _ (List.mem_of_getElem? (i := 42) rfl)) (by decide) pd_16 rfl rfl rfl (Nat.le_of_ble_eq_true rfl) (Nat.le_of_ble_eq_true rfl) (Nat.le_of_ble_eq_true rfl) (Nat.le_of_ble_eq_true rfl) (fun z hz => by cases List.mem_singleton.mp hz; exact hSf1 _ E.lt (hS _ (List.mem_singleton.mpr rfl))) ?_
  intro v vm2 h2 hQ hsz2 hSf2 hFr
  obtain ⟨rfl, hQ⟩ := hQ
  exact R_return C i4_13 rfl (Nat.le_of_ble_eq_true rfl) (Nat.le_of_ble_eq_true rfl) ⟨rfl, hQ⟩
/-- the text at t holds the k chars g 0 .. g (k - 1), in the array at arr -/
def Xm (Z : State) (h : Heap) (t arr : Addr) (k : Nat) (g : Nat → Int32) : Prop := Exa Z h t XML ∧ Fld Z h t XML "characters" "[C" (.ref arr) ∧ Fld Z h t XML "limit" "I" (.int 2147483647) ∧ (∃ kI : Int32, Fld Z h t XML "length" "I" (.int kI) ∧ kI.toInt = k) ∧ ∃ f, AR Z h arr .char 8192 f ∧ ∀ i, i < k → f i = .int (g i)
theorem met_xi (l : Launch) (Z : State) (a0 : Array Value) (hw : ∀ d ∈ tables_1, d.before a0 Z = true) (hEL : EW Z a0 EL1) (h : Heap) (t : Addr) (g : Nat → Int32) (E : Exa Z h t XML) (F1 : Fld Z h t XML "characters" "[C" .null) (F2 : Fld Z h t XML "limit" "I" (.int 0)) (F3 : Fld Z h t XML "length" "I" (.int 0)) (ht : Z.heap.size ≤ t) :
    Met l Z False EL1 ⟨XML, "<init>", "()V"⟩ prog_41_method_1_code 1 none ⟨1, 1, 8192, 12⟩ #[.ref t] h [] (fun v h' => v = none ∧ Keep h h' [t] ∧ Xm Z h' t h.size 0 g) := by
  have Lc : Laid Z a0 XML XML "characters" "[C" := Or.inl (hw _ (List.mem_of_getElem? (i := 11) rfl))
  have Ll : Laid Z a0 XML XML "limit" "I" := Or.inl (hw _ (List.mem_of_getElem? (i := 14) rfl))
  have Ln : Laid Z a0 XML XML "length" "I" := Or.inl (hw _ (List.mem_of_getElem? (i := 24) rfl))
  have nlc := slot_ne Ll Lc (by decide) (t := .int) (t' := .array .char) (by decide) (by decide)
  have nnc := slot_ne Ln Lc (by decide) (t := .int) (t' := .array .char) (by decide) (by decide)
  have ncl := slot_ne Lc Ll (by decide) (t := .array .char) (t' := .int) (by decide) (by decide)
  have nnl := slot_ne Ln Ll (by decide) (t := .int) (t' := .int) (by decide) (by decide)
  refine Met.mk (a0 := a0) hEL pn_xml ?_
  intro p e s m below meth c C hE hS
  rw [efs1]
  refine R_aload_n C xi_0 rfl rfl ?_
  refine R_initO C xi_1 (hw _ (List.mem_of_getElem? (i := 7) rfl)) (hw _ (List.mem_of_getElem? (i := 8) rfl)) (hw _ (List.mem_of_getElem? (i := 9) rfl)) rfl (Nat.le_of_ble_eq_true rfl) (Nat.le_of_ble_eq_true rfl) ?_
  refine R_aload_n C xi_4 rfl rfl ?_
  refine R_sipush C xi_5 (v := 8192) rfl ?_
  refine R_newarray C 8192 xi_8 (hw _ (List.mem_of_getElem? (i := 0) rfl)) (N := 8192) rfl (Nat.le_refl _) (by decide) (Nat.le_of_ble_eq_true rfl) (Nat.le_of_ble_eq_true rfl) rfl ?_
  intro h1 E1 D1 S1 Sf1
  refine Run.know fun hE1 hW1 _ => ?_
  refine R_putfield C xi_10 (hw _ (List.mem_of_getElem? (i := 10) rfl)) Via.refl (F1.ext E1) (E.ext E1) (Or.inl (hw _ (List.mem_of_getElem? (i := 11) rfl))) (hw _ (List.mem_of_getElem? (i := 2) rfl)) (ty := .array .char) (by decide) rfl rfl ht (Safe.exa hW1.alike (E.ext E1) (by decide) (by decide)) ?_
  intro h2 W2 Sf2
  have E2 := (E.ext E1).wr W2
  refine R_aload_n C xi_13 rfl rfl ?_
  refine R_ldcInt C xi_14 (hw _ (List.mem_of_getElem? (i := 12) rfl)) ?_
  refine R_putfield C xi_16 (hw _ (List.mem_of_getElem? (i := 13) rfl)) Via.refl ((F2.ext E1).other W2 (Or.inr nlc)) E2 (Or.inl (hw _ (List.mem_of_getElem? (i := 14) rfl))) (hw _ (List.mem_of_getElem? (i := 2) rfl)) (ty := .int) (by decide) rfl rfl ht (Safe.exa hW1.alike E2 (by decide) (by decide)) ?_
  intro h3 W3 Sf3
  have ne : h.size ≠ t := Nat.ne_of_gt E.lt
  refine R_return C xi_19 rfl (Nat.le_of_ble_eq_true rfl) (Nat.le_of_ble_eq_true rfl) ⟨rfl, ((Keep.ofExt E1).wr W2 (Or.inl (List.mem_singleton.mpr rfl))).wr W3 (Or.inl (List.mem_singleton.mpr rfl)), E2.wr W3, ((F1.ext E1).same W2).other W3 (Or.inr ncl), ((F2.ext E1).other W2 (Or.inr nlc)).same W3, ⟨0, ((F3.ext E1).other W2 (Or.inr nnc)).other W3 (Or.inr nnl), rfl⟩, _, (D1.other W2 ne).other W3 ne, fun i hi => absurd hi (Nat.not_lt_zero _)⟩
theorem met_xr (l : Launch) (Z : State) (a0 : Array Value) (hw : ∀ d ∈ tables_1, d.before a0 Z = true) (nw : Prop) (EL : List (String × Nat)) (hEL : EW Z a0 EL) (h : Heap) (t arr : Addr) (k : Nat) (g : Nat → Int32) (X : Xm Z h t arr k g) (hk : k ≤ 6) :
    Met l Z nw EL ⟨XML, "makeRoom", "(I)V"⟩ prog_41_method_16_code 3 none ⟨0, 0, 0, 0⟩ #[.ref t, .int 1] h [] (fun v h' => v = none ∧ h' = h) := by
  obtain ⟨E, F1, F2, ⟨kI, F3, hkI⟩, f, A, hf⟩ := X
  have one : (1 : Int32).toInt = 1 := rfl
  have big : (2147483647 : Int32).toInt = 2147483647 := rfl
  have q1 := i32_sub (p := 2147483647) (q := kI) (by omega) (by omega)
  have q2 := Jvm.Kit.i32_add (p := kI) (q := 1) (by omega) (by omega)
  refine Met.mk (a0 := a0) hEL pn_xml ?_
  intro p e s m below meth c C hE hS
  rw [efxr]
  refine R_iload_n C xr_0 rfl ?_
  refine R_aload_n C xr_1 rfl rfl ?_
  refine R_getfield C xr_2 (hw _ (List.mem_of_getElem? (i := 13) rfl)) Via.refl (F2) ?_
  refine R_aload_n C xr_5 rfl rfl ?_
  refine R_getfield C xr_6 (hw _ (List.mem_of_getElem? (i := 23) rfl)) Via.refl (F3) ?_
  refine R_isub C xr_9 ?_
  refine R_icmp C xr_10 (fun _ => ?_) (fun (hc : ¬ ¬ (2147483647 : Int32) - kI < 1) => absurd (show ¬ (2147483647 : Int32) - kI < 1 from ?_) hc)
  · refine R_aload_n C xr_21 rfl rfl ?_
    refine R_getfield C xr_22 (hw _ (List.mem_of_getElem? (i := 23) rfl)) Via.refl (F3) ?_
    refine R_iload_n C xr_25 rfl ?_
    refine R_iadd C xr_26 ?_
    refine R_aload_n C xr_27 rfl rfl ?_
    refine R_getfield C xr_28 (hw _ (List.mem_of_getElem? (i := 10) rfl)) Via.refl (F1) ?_
    refine R_arraylength C xr_31 (A) (w := 8192) rfl ?_
    refine R_icmp C xr_32 (fun _ => ?_) (fun (hc : ¬ ¬ (8192 : Int32) < kI + 1) => absurd (show ¬ (8192 : Int32) < kI + 1 from ?_) hc)
    · exact R_return C xr_77 rfl (Nat.le_refl _) (Nat.le_refl _) ⟨rfl, rfl⟩
    · rw [Int32.lt_iff_toInt_lt, show (8192 : Int32).toInt = 8192 from rfl]; omega
  · rw [Int32.lt_iff_toInt_lt]; omega
theorem met_xa (l : Launch) (Z : State) (a0 : Array Value) (hw : ∀ d ∈ tables_1, d.before a0 Z = true) (hEL : EW Z a0 EL1) (h : Heap) (t arr : Addr) (k : Nat) (g : Nat → Int32) (X : Xm Z h t arr k g) (hk : k ≤ 6) (ht : Z.heap.size ≤ t) (harr : Z.heap.size ≤ arr) (hgk : nar .char (g k) = g k) :
    Met l Z False EL1 ⟨XML, "append", "(C)Lcom/example/ruth/ruth/protocol/XmlText;"⟩ prog_41_method_5_code 2 (some (.object XML)) ⟨1, 0, 0, 14⟩ #[.ref t, .int (g k)] h [] (fun v h' => v = some (.ref t) ∧ Keep h h' [t, arr] ∧ Xm Z h' t arr (k + 1) g) := by
  have X0 := X
  obtain ⟨E, F1, F2, ⟨kI, F3, hkI⟩, f, A, hf⟩ := X
  have Lc : Laid Z a0 XML XML "characters" "[C" := Or.inl (hw _ (List.mem_of_getElem? (i := 11) rfl))
  have Ll : Laid Z a0 XML XML "limit" "I" := Or.inl (hw _ (List.mem_of_getElem? (i := 14) rfl))
  have Ln : Laid Z a0 XML XML "length" "I" := Or.inl (hw _ (List.mem_of_getElem? (i := 24) rfl))
  have ncn := slot_ne Lc Ln (by decide) (t := .array .char) (t' := .int) (by decide) (by decide)
  have nln := slot_ne Ll Ln (by decide) (t := .int) (t' := .int) (by decide) (by decide)
  have one : (1 : Int32).toInt = 1 := rfl
  have q2 := Jvm.Kit.i32_add (p := kI) (q := 1) (by omega) (by omega)
  refine Met.mk (a0 := a0) hEL pn_xml ?_
  intro p e s m below meth c C hE hS
  rw [efRI2]
  refine R_aload_n C xa_0 rfl rfl ?_
  refine R_iconst C xa_1 (v := 1) rfl ?_
  refine R_privateI C [.int 1] xa_2 (met_xr l Z a0 hw True EL1 hEL h t arr k g X0 hk) (by first | exact fun z => z | exact fun _ => trivial) (E) (hw _ (List.mem_of_getElem? (i := 73) rfl)) (hw _ (List.mem_of_getElem? (i := 75) rfl)) (hw _ (List.mem_of_getElem? (i := 2) rfl)) (hw _ (List.mem_of_getElem? (i := 74) rfl)) (hw _ (List.mem_of_getElem? (i := 3) rfl)) (hw _ (List.mem_of_getElem? (i := 76) rfl)) (by decide) pd_17 rfl rfl rfl (Nat.le_of_ble_eq_true rfl) (Nat.le_of_ble_eq_true rfl) (Nat.le_of_ble_eq_true rfl) (Nat.le_of_ble_eq_true rfl) (fun _ q => nomatch q) ?_
  intro v vm1 h1 hQ hsz1 hSf1 hFr
  obtain ⟨rfl, rfl⟩ := hQ
  simp only [Option.toList_none, List.nil_append]
  refine Run.know fun hE1 hW1 _ => ?_
  refine R_aload_n C xa_5 rfl rfl ?_
  refine R_getfield C xa_6 (hw _ (List.mem_of_getElem? (i := 10) rfl)) Via.refl (F1) ?_
  refine R_aload_n C xa_9 rfl rfl ?_
  refine R_dup C xa_10 rfl ?_
  refine R_getfield C xa_11 (hw _ (List.mem_of_getElem? (i := 23) rfl)) Via.refl (F3) ?_
  refine R_dup_x1 C xa_14 rfl rfl ?_
  refine R_iconst C xa_15 (v := 1) rfl ?_
  refine R_iadd C xa_16 ?_
  refine R_putfield C xa_17 (hw _ (List.mem_of_getElem? (i := 23) rfl)) Via.refl F3 E (Or.inl (hw _ (List.mem_of_getElem? (i := 24) rfl))) (hw _ (List.mem_of_getElem? (i := 2) rfl)) (ty := .int) (by decide) rfl rfl ht (Safe.exa hW1.alike E (by decide) (by decide)) ?_
  intro h2 W2 Sf2
  have ne : arr ≠ t := A.neExa E (hw _ (List.mem_of_getElem? (i := 2) rfl))
  have A2 := A.other W2 ne
  refine R_iload_n C xa_20 rfl ?_
  refine R_castore C k xa_21 A2 hkI (by omega) harr (A2.safe hW1 (by decide)) ?_
  intro h3 W3 A3 Sf3
  rw [hgk] at A3
  refine R_aload_n C xa_22 rfl rfl ?_
  refine R_areturn C xa_23 rfl rfl rfl (Nat.le_refl _) (Nat.le_refl _) ⟨rfl, ?_, (E.wr W2).wr W3, (F1.other W2 (Or.inr ncn)).other W3 (Or.inl ne.symm), (F2.other W2 (Or.inr nln)).other W3 (Or.inl ne.symm), ⟨_, (F3.same W2).other W3 (Or.inl ne.symm), by omega⟩, _, A3, fun i hi => ?_⟩
  · exact ((Keep.refl _ _).wr W2 (Or.inl (by simp))).wr W3 (Or.inl (by simp))
  · by_cases z : i = k
    · subst z; rw [upd_eq]
    · rw [upd_ne z]; exact hf i (by omega)
theorem met_xl (l : Launch) (Z : State) (a0 : Array Value) (hw : ∀ d ∈ tables_1, d.before a0 Z = true) (nw : Prop) (EL : List (String × Nat)) (hEL : EW Z a0 EL) (h : Heap) (t : Addr) (kI : Int32) (F : Fld Z h t XML "length" "I" (.int kI)) :
    Met l Z nw EL ⟨XML, "length", "()I"⟩ prog_41_method_2_code 1 (some .int) ⟨0, 0, 0, 0⟩ #[.ref t] h [] (fun v h' => v = some (.int kI) ∧ h' = h) := by
  refine Met.mk (a0 := a0) hEL pn_xml ?_
  intro p e s m below meth c C hE hS
  rw [efs1]
  refine R_aload_n C xl_0 rfl rfl ?_
  refine R_getfield C xl_1 (hw _ (List.mem_of_getElem? (i := 23) rfl)) Via.refl (F) ?_
  exact R_retI C xl_4 rfl (Nat.le_refl _) (Nat.le_refl _) ⟨rfl, rfl⟩
theorem met_xt (l : Launch) (Z : State) (a0 : Array Value) (hw : ∀ d ∈ tables_1, d.before a0 Z = true) (hEL : EW Z a0 EL1) (cs : Int32) (fm : Value) (S : SS Z cs fm) (SX : SU Z) (h : Heap) (t arr : Addr) (k : Nat) (g : Nat → Int32) (X : Xm Z h t arr k g) (hk : k ≤ 6) (hg : ∀ i, i < k → 0 ≤ (g i).toInt ∧ (g i).toInt ≤ 65535) :
    Met l Z False EL1 ⟨XML, "toString", "()Ljava/lang/String;"⟩ prog_41_method_13_code 1 (some (.object "java/lang/String")) ⟨6, 5, 28, 90⟩ #[.ref t] h [] (fun v h' => v = some (.ref h.size) ∧ Ext h h' ∧ Str Z h' h.size k g) := by
  obtain ⟨E, F1, F2, ⟨kI, F3, hkI⟩, f, A, hf⟩ := X
  refine Met.mk (a0 := a0) hEL pn_xml ?_
  intro p e s m below meth c C hE hS
  rw [efs1]
  refine R_new C xt_0 (hw _ (List.mem_of_getElem? (i := 20) rfl)) (hw _ (List.mem_of_getElem? (i := 21) rfl)) (hw _ (List.mem_of_getElem? (i := 22) rfl)) (Nat.le_of_ble_eq_true rfl) (Nat.le_of_ble_eq_true rfl) ?_
  intro h1 E1 X1 S1 _
  obtain ⟨X1, G1⟩ := X1
  refine R_dup C xt_3 rfl ?_
  refine R_aload_n C xt_4 rfl rfl ?_
  refine R_getfield C xt_5 (hw _ (List.mem_of_getElem? (i := 10) rfl)) Via.refl (F1.ext E1) ?_
  refine R_iconst C xt_8 (v := 0) rfl ?_
  refine R_aload_n C xt_9 rfl rfl ?_
  refine R_getfield C xt_10 (hw _ (List.mem_of_getElem? (i := 23) rfl)) Via.refl (F3.ext E1) ?_
  refine R_special C [.ref arr, .int 0, .int kI] xt_13 (met_i4 l Z a0 hw hEL cs fm S SX h1 h.size arr k f g (A.ext E1) hf kI hkI hk hg X1 (G1 (Or.inr (hw _ (List.mem_of_getElem? (i := 46) rfl))) (ty := .array .byte) (by decide)) (G1 (Or.inr (hw _ (List.mem_of_getElem? (i := 47) rfl))) (ty := .byte) (by decide)) hE.1) (by first | exact fun z => z | exact fun _ => trivial) rfl (hw _ (List.mem_of_getElem? (i := 25) rfl)) (hw _ (List.mem_of_getElem? (i := 26) rfl)) (hw _ (List.mem_of_getElem? (i := 22) rfl)) (hw _ (List.mem_of_getElem? (i := 27) rfl)) (by decide) pd_18 rfl rfl rfl (Nat.le_of_ble_eq_true rfl) (Nat.le_of_ble_eq_true rfl) (Nat.le_of_ble_eq_true rfl) (Nat.le_of_ble_eq_true rfl) (fun z hz => by cases List.mem_singleton.mp hz; exact S1) ?_
  intro v vm2 h2 hQ hsz2 hSf2 hFr
  obtain ⟨rfl, K2, X2⟩ := hQ
  simp only [Option.toList_none, List.nil_append]
  exact R_areturn C xt_16 rfl rfl rfl (Nat.le_of_ble_eq_true rfl) (Nat.le_of_ble_eq_true rfl) ⟨rfl, E1.keep' K2 (fun x hx => by cases List.mem_singleton.mp hx; exact Nat.le_refl _), X2⟩
theorem met_charAtS (l : Launch) (Z : State) (a0 : Array Value) (hw : ∀ d ∈ tables_1, d.before a0 Z = true) (nw : Prop) (EL : List (String × Nat)) (hEL : EW Z a0 EL) (cs : Int32) (fm : Value) (S : SS Z cs fm) (SX : SU Z) (h : Heap) (a : Addr) (n : Nat) (g : Nat → Int32) (X : Str Z h a n g) (iI : Int32) (i : Nat) (hi : iI.toInt = i) (hin : i < n) (hN : n < 400000) :
    Met l Z nw EL ⟨STR, "charAt", "(I)C"⟩ jdk_42_method_56_code 2 (some .char) ⟨4, 0, 0, 53⟩ #[.ref a, .int iI] h [] (fun v h' => v = some (.int (g i)) ∧ h' = h) := by
  obtain ⟨b, X | X⟩ := X
  · exact (met_charAtL l Z a0 hw nw EL hEL cs fm S h a b n g X iI i hi hin).room (by decide) (by decide) (by decide) (by decide)
  · exact met_charAtU l Z a0 hw nw EL hEL cs fm S SX h a b n g X iI i hi hin hN
/-- the i-th char that the law makes -/
def chv (y : Int64) (z : Int32) (i : Nat) : Int32 := if i = 5 then nar .char (nar .char (XT.ushr z 16)) else if i = 4 then nar .char (nar .char z) else if i = 3 then nar .char (nar .char (XT.ushrL y 48).toInt32) else if i = 2 then nar .char (nar .char (XT.ushrL y 32).toInt32) else if i = 1 then nar .char (nar .char (XT.ushrL y 16).toInt32) else if i = 0 then nar .char (nar .char y.toInt32) else 0
theorem chv_ok (y : Int64) (z : Int32) (i : Nat) : nar .char (chv y z i) = chv y z i ∧ 0 ≤ (chv y z i).toInt ∧ (chv y z i).toInt ≤ 65535 := by
  have key : ∀ w : Int32, nar .char (nar .char w) = nar .char w ∧ 0 ≤ (nar .char w).toInt ∧ (nar .char w).toInt ≤ 65535 := fun w => ⟨nar_nar_char w, char_bound w⟩
  unfold chv
  repeat' split
  all_goals first | exact key _ | decide
theorem met_law (l : Launch) (Z : State) (a0 : Array Value) (hw : ∀ d ∈ tables_1, d.before a0 Z = true) (hEL : EW Z a0 EL1) (cs : Int32) (fm : Value) (SC : SS Z cs fm) (SX : SU Z) (x0 : Int32) (x1 : Int64) (x2 : Int32) :
    Met l Z False EL1 x code 8 (some .boolean) room_1 #[.int x0, .long x1, .int x2] Z.heap [] (fun v h' => v = some (.int 1)) := by
  refine Met.mk (a0 := a0) hEL pn_law ?_
  intro p e s m below meth c C hE hS
  rw [eflw]
  have hk : ((x0 &&& 7) % 7).toInt = x0.toInt % 8 % 7 := by
    have z1 := i32_mask x0 7 (k := 3) (by decide) (by decide)
    have z2 := i32_rem_nonneg (x := x0 &&& 7) (y := 7) (by omega)
    rw [z2, z1]; rfl
  obtain ⟨kI, hkI⟩ : ∃ z, z = (x0 &&& 7) % 7 := ⟨_, rfl⟩
  rw [← hkI] at hk
  obtain ⟨k, hkn⟩ : ∃ k : Nat, kI.toInt = k := ⟨kI.toInt.toNat, by omega⟩
  have hk6 : k ≤ 6 := by omega
  obtain ⟨cA, hcA⟩ : ∃ z, z = Z.heap.size := ⟨_, rfl⟩
  have hcL : cA ≤ Z.heap.size := Nat.le_of_eq hcA
  have n1 : (1 : Int32).toInt = 1 := rfl
  have n2 : (2 : Int32).toInt = 2 := rfl
  have n3 : (3 : Int32).toInt = 3 := rfl
  have n4 : (4 : Int32).toInt = 4 := rfl
  have n5 : (5 : Int32).toInt = 5 := rfl
  have fin : ∀ (vm : Vm) (h : Heap) (cells slots : Nat) (t sa : Addr), cells ≤ 8 → slots ≤ 8229 →
      Run p l e room_1 s m #[.int x0, .long x1, .int x2] below meth c Z False EL1 (Kf s Z False EL1 room_1 (fun v h' => v = some (.int 1))) vm h cells slots (fr m 334 [.val (.int x0), .val (.long x1), .second, .val (.int x2), .val (.ref cA), .val (.int kI), .val (.ref t), .val (.ref sa)] []) := by
    intro vm h cells slots t sa hc hs
    refine R_iconst C lw_334 (v := 1) rfl ?_
    exact R_retN C lw_335 rfl (Or.inl rfl) (Nat.le_trans hc (by decide)) (Nat.le_trans hs (by decide)) rfl
  have ck5 : ∀ (vm : Vm) (h : Heap) (cells slots : Nat) (t sa : Addr), cells ≤ 8 → slots ≤ 8229 → Str Z h sa k (chv x1 x2) → AR Z h cA .char 6 (fun i => .int (chv x1 x2 i)) →
      Run p l e room_1 s m #[.int x0, .long x1, .int x2] below meth c Z False EL1 (Kf s Z False EL1 room_1 (fun v h' => v = some (.int 1))) vm h cells slots (fr m 313 [.val (.int x0), .val (.long x1), .second, .val (.int x2), .val (.ref cA), .val (.int kI), .val (.ref t), .val (.ref sa)] []) := by
    intro vm h cells slots t sa hc hs X A
    refine Run.more hc hs ?_
    refine R_iload C lw_313 rfl ?_
    refine R_iconst C lw_315 (v := 5) rfl ?_
    refine R_icmp C lw_316 (fun _ => ?_) (fun (hc2 : ¬ ¬ (5 : Int32) < kI) => ?_)
    · exact fin _ _ _ _ _ _ (Nat.le_refl _) (Nat.le_refl _)
    · have hjk := Int32.lt_iff_toInt_lt.mp (Decidable.not_not.mp hc2)
      rw [n5] at hjk
      refine R_aload C lw_319 rfl rfl ?_
      refine R_iconst C lw_321 (v := 5) rfl ?_
      refine R_virtual C [.int 5] lw_322 (met_charAtS l Z a0 hw True EL1 hEL cs fm SC SX h sa k (chv x1 x2) X 5 5 rfl (by omega) (by omega)) (by first | exact fun z => z | exact fun _ => trivial) (X.exa) (hw _ (List.mem_of_getElem? (i := 87) rfl)) (hw _ (List.mem_of_getElem? (i := 88) rfl)) (hw _ (List.mem_of_getElem? (i := 90) rfl)) (hw _ (List.mem_of_getElem? (i := 89) rfl)) (hw _ (List.mem_of_getElem? (i := 22) rfl)) (hw _ (List.mem_of_getElem? (i := 91) rfl)) (by decide) pd_19 rfl rfl rfl (Nat.le_of_ble_eq_true rfl) (Nat.le_of_ble_eq_true rfl) (Nat.le_of_ble_eq_true rfl) (Nat.le_of_ble_eq_true rfl) (fun _ q => nomatch q) ?_
      intro v vm2 h2 hQ hsz2 hSf2 hFr
      obtain ⟨rfl, rfl⟩ := hQ
      simp only [Option.toList_some, List.cons_append, List.nil_append]
      refine R_aload C lw_325 rfl rfl ?_
      refine R_iconst C lw_327 (v := 5) rfl ?_
      refine R_caload C 5 lw_328 A rfl (by decide) rfl ?_
      refine R_icmp C lw_329 (fun _ => ?_) (fun hc3 => absurd rfl hc3)
      exact fin _ _ _ _ _ _ (Nat.le_refl _) (Nat.le_refl _)
  have ck4 : ∀ (vm : Vm) (h : Heap) (cells slots : Nat) (t sa : Addr), cells ≤ 8 → slots ≤ 8229 → Str Z h sa k (chv x1 x2) → AR Z h cA .char 6 (fun i => .int (chv x1 x2 i)) →
      Run p l e room_1 s m #[.int x0, .long x1, .int x2] below meth c Z False EL1 (Kf s Z False EL1 room_1 (fun v h' => v = some (.int 1))) vm h cells slots (fr m 292 [.val (.int x0), .val (.long x1), .second, .val (.int x2), .val (.ref cA), .val (.int kI), .val (.ref t), .val (.ref sa)] []) := by
    intro vm h cells slots t sa hc hs X A
    refine Run.more hc hs ?_
    refine R_iload C lw_292 rfl ?_
    refine R_iconst C lw_294 (v := 4) rfl ?_
    refine R_icmp C lw_295 (fun _ => ?_) (fun (hc2 : ¬ ¬ (4 : Int32) < kI) => ?_)
    · exact ck5 _ _ _ _ _ _ (Nat.le_refl _) (Nat.le_refl _) X A
    · have hjk := Int32.lt_iff_toInt_lt.mp (Decidable.not_not.mp hc2)
      rw [n4] at hjk
      refine R_aload C lw_298 rfl rfl ?_
      refine R_iconst C lw_300 (v := 4) rfl ?_
      refine R_virtual C [.int 4] lw_301 (met_charAtS l Z a0 hw True EL1 hEL cs fm SC SX h sa k (chv x1 x2) X 4 4 rfl (by omega) (by omega)) (by first | exact fun z => z | exact fun _ => trivial) (X.exa) (hw _ (List.mem_of_getElem? (i := 87) rfl)) (hw _ (List.mem_of_getElem? (i := 88) rfl)) (hw _ (List.mem_of_getElem? (i := 90) rfl)) (hw _ (List.mem_of_getElem? (i := 89) rfl)) (hw _ (List.mem_of_getElem? (i := 22) rfl)) (hw _ (List.mem_of_getElem? (i := 91) rfl)) (by decide) pd_19 rfl rfl rfl (Nat.le_of_ble_eq_true rfl) (Nat.le_of_ble_eq_true rfl) (Nat.le_of_ble_eq_true rfl) (Nat.le_of_ble_eq_true rfl) (fun _ q => nomatch q) ?_
      intro v vm2 h2 hQ hsz2 hSf2 hFr
      obtain ⟨rfl, rfl⟩ := hQ
      simp only [Option.toList_some, List.cons_append, List.nil_append]
      refine R_aload C lw_304 rfl rfl ?_
      refine R_iconst C lw_306 (v := 4) rfl ?_
      refine R_caload C 4 lw_307 A rfl (by decide) rfl ?_
      refine R_icmp C lw_308 (fun _ => ?_) (fun hc3 => absurd rfl hc3)
      exact ck5 _ _ _ _ _ _ (Nat.le_refl _) (Nat.le_refl _) X A
  have ck3 : ∀ (vm : Vm) (h : Heap) (cells slots : Nat) (t sa : Addr), cells ≤ 8 → slots ≤ 8229 → Str Z h sa k (chv x1 x2) → AR Z h cA .char 6 (fun i => .int (chv x1 x2 i)) →
      Run p l e room_1 s m #[.int x0, .long x1, .int x2] below meth c Z False EL1 (Kf s Z False EL1 room_1 (fun v h' => v = some (.int 1))) vm h cells slots (fr m 271 [.val (.int x0), .val (.long x1), .second, .val (.int x2), .val (.ref cA), .val (.int kI), .val (.ref t), .val (.ref sa)] []) := by
    intro vm h cells slots t sa hc hs X A
    refine Run.more hc hs ?_
    refine R_iload C lw_271 rfl ?_
    refine R_iconst C lw_273 (v := 3) rfl ?_
    refine R_icmp C lw_274 (fun _ => ?_) (fun (hc2 : ¬ ¬ (3 : Int32) < kI) => ?_)
    · exact ck4 _ _ _ _ _ _ (Nat.le_refl _) (Nat.le_refl _) X A
    · have hjk := Int32.lt_iff_toInt_lt.mp (Decidable.not_not.mp hc2)
      rw [n3] at hjk
      refine R_aload C lw_277 rfl rfl ?_
      refine R_iconst C lw_279 (v := 3) rfl ?_
      refine R_virtual C [.int 3] lw_280 (met_charAtS l Z a0 hw True EL1 hEL cs fm SC SX h sa k (chv x1 x2) X 3 3 rfl (by omega) (by omega)) (by first | exact fun z => z | exact fun _ => trivial) (X.exa) (hw _ (List.mem_of_getElem? (i := 87) rfl)) (hw _ (List.mem_of_getElem? (i := 88) rfl)) (hw _ (List.mem_of_getElem? (i := 90) rfl)) (hw _ (List.mem_of_getElem? (i := 89) rfl)) (hw _ (List.mem_of_getElem? (i := 22) rfl)) (hw _ (List.mem_of_getElem? (i := 91) rfl)) (by decide) pd_19 rfl rfl rfl (Nat.le_of_ble_eq_true rfl) (Nat.le_of_ble_eq_true rfl) (Nat.le_of_ble_eq_true rfl) (Nat.le_of_ble_eq_true rfl) (fun _ q => nomatch q) ?_
      intro v vm2 h2 hQ hsz2 hSf2 hFr
      obtain ⟨rfl, rfl⟩ := hQ
      simp only [Option.toList_some, List.cons_append, List.nil_append]
      refine R_aload C lw_283 rfl rfl ?_
      refine R_iconst C lw_285 (v := 3) rfl ?_
      refine R_caload C 3 lw_286 A rfl (by decide) rfl ?_
      refine R_icmp C lw_287 (fun _ => ?_) (fun hc3 => absurd rfl hc3)
      exact ck4 _ _ _ _ _ _ (Nat.le_refl _) (Nat.le_refl _) X A
  have ck2 : ∀ (vm : Vm) (h : Heap) (cells slots : Nat) (t sa : Addr), cells ≤ 8 → slots ≤ 8229 → Str Z h sa k (chv x1 x2) → AR Z h cA .char 6 (fun i => .int (chv x1 x2 i)) →
      Run p l e room_1 s m #[.int x0, .long x1, .int x2] below meth c Z False EL1 (Kf s Z False EL1 room_1 (fun v h' => v = some (.int 1))) vm h cells slots (fr m 250 [.val (.int x0), .val (.long x1), .second, .val (.int x2), .val (.ref cA), .val (.int kI), .val (.ref t), .val (.ref sa)] []) := by
    intro vm h cells slots t sa hc hs X A
    refine Run.more hc hs ?_
    refine R_iload C lw_250 rfl ?_
    refine R_iconst C lw_252 (v := 2) rfl ?_
    refine R_icmp C lw_253 (fun _ => ?_) (fun (hc2 : ¬ ¬ (2 : Int32) < kI) => ?_)
    · exact ck3 _ _ _ _ _ _ (Nat.le_refl _) (Nat.le_refl _) X A
    · have hjk := Int32.lt_iff_toInt_lt.mp (Decidable.not_not.mp hc2)
      rw [n2] at hjk
      refine R_aload C lw_256 rfl rfl ?_
      refine R_iconst C lw_258 (v := 2) rfl ?_
      refine R_virtual C [.int 2] lw_259 (met_charAtS l Z a0 hw True EL1 hEL cs fm SC SX h sa k (chv x1 x2) X 2 2 rfl (by omega) (by omega)) (by first | exact fun z => z | exact fun _ => trivial) (X.exa) (hw _ (List.mem_of_getElem? (i := 87) rfl)) (hw _ (List.mem_of_getElem? (i := 88) rfl)) (hw _ (List.mem_of_getElem? (i := 90) rfl)) (hw _ (List.mem_of_getElem? (i := 89) rfl)) (hw _ (List.mem_of_getElem? (i := 22) rfl)) (hw _ (List.mem_of_getElem? (i := 91) rfl)) (by decide) pd_19 rfl rfl rfl (Nat.le_of_ble_eq_true rfl) (Nat.le_of_ble_eq_true rfl) (Nat.le_of_ble_eq_true rfl) (Nat.le_of_ble_eq_true rfl) (fun _ q => nomatch q) ?_
      intro v vm2 h2 hQ hsz2 hSf2 hFr
      obtain ⟨rfl, rfl⟩ := hQ
      simp only [Option.toList_some, List.cons_append, List.nil_append]
      refine R_aload C lw_262 rfl rfl ?_
      refine R_iconst C lw_264 (v := 2) rfl ?_
      refine R_caload C 2 lw_265 A rfl (by decide) rfl ?_
      refine R_icmp C lw_266 (fun _ => ?_) (fun hc3 => absurd rfl hc3)
      exact ck3 _ _ _ _ _ _ (Nat.le_refl _) (Nat.le_refl _) X A
  have ck1 : ∀ (vm : Vm) (h : Heap) (cells slots : Nat) (t sa : Addr), cells ≤ 8 → slots ≤ 8229 → Str Z h sa k (chv x1 x2) → AR Z h cA .char 6 (fun i => .int (chv x1 x2 i)) →
      Run p l e room_1 s m #[.int x0, .long x1, .int x2] below meth c Z False EL1 (Kf s Z False EL1 room_1 (fun v h' => v = some (.int 1))) vm h cells slots (fr m 229 [.val (.int x0), .val (.long x1), .second, .val (.int x2), .val (.ref cA), .val (.int kI), .val (.ref t), .val (.ref sa)] []) := by
    intro vm h cells slots t sa hc hs X A
    refine Run.more hc hs ?_
    refine R_iload C lw_229 rfl ?_
    refine R_iconst C lw_231 (v := 1) rfl ?_
    refine R_icmp C lw_232 (fun _ => ?_) (fun (hc2 : ¬ ¬ (1 : Int32) < kI) => ?_)
    · exact ck2 _ _ _ _ _ _ (Nat.le_refl _) (Nat.le_refl _) X A
    · have hjk := Int32.lt_iff_toInt_lt.mp (Decidable.not_not.mp hc2)
      rw [n1] at hjk
      refine R_aload C lw_235 rfl rfl ?_
      refine R_iconst C lw_237 (v := 1) rfl ?_
      refine R_virtual C [.int 1] lw_238 (met_charAtS l Z a0 hw True EL1 hEL cs fm SC SX h sa k (chv x1 x2) X 1 1 rfl (by omega) (by omega)) (by first | exact fun z => z | exact fun _ => trivial) (X.exa) (hw _ (List.mem_of_getElem? (i := 87) rfl)) (hw _ (List.mem_of_getElem? (i := 88) rfl)) (hw _ (List.mem_of_getElem? (i := 90) rfl)) (hw _ (List.mem_of_getElem? (i := 89) rfl)) (hw _ (List.mem_of_getElem? (i := 22) rfl)) (hw _ (List.mem_of_getElem? (i := 91) rfl)) (by decide) pd_19 rfl rfl rfl (Nat.le_of_ble_eq_true rfl) (Nat.le_of_ble_eq_true rfl) (Nat.le_of_ble_eq_true rfl) (Nat.le_of_ble_eq_true rfl) (fun _ q => nomatch q) ?_
      intro v vm2 h2 hQ hsz2 hSf2 hFr
      obtain ⟨rfl, rfl⟩ := hQ
      simp only [Option.toList_some, List.cons_append, List.nil_append]
      refine R_aload C lw_241 rfl rfl ?_
      refine R_iconst C lw_243 (v := 1) rfl ?_
      refine R_caload C 1 lw_244 A rfl (by decide) rfl ?_
      refine R_icmp C lw_245 (fun _ => ?_) (fun hc3 => absurd rfl hc3)
      exact ck2 _ _ _ _ _ _ (Nat.le_refl _) (Nat.le_refl _) X A
  have ck0 : ∀ (vm : Vm) (h : Heap) (cells slots : Nat) (t sa : Addr), cells ≤ 8 → slots ≤ 8229 → Str Z h sa k (chv x1 x2) → AR Z h cA .char 6 (fun i => .int (chv x1 x2 i)) →
      Run p l e room_1 s m #[.int x0, .long x1, .int x2] below meth c Z False EL1 (Kf s Z False EL1 room_1 (fun v h' => v = some (.int 1))) vm h cells slots (fr m 209 [.val (.int x0), .val (.long x1), .second, .val (.int x2), .val (.ref cA), .val (.int kI), .val (.ref t), .val (.ref sa)] []) := by
    intro vm h cells slots t sa hc hs X A
    refine Run.more hc hs ?_
    refine R_iload C lw_209 rfl ?_
    refine R_if C lw_211 (fun _ => ?_) (fun (hc2 : ¬ ¬ (0 : Int32) < kI) => ?_)
    · exact ck1 _ _ _ _ _ _ (Nat.le_refl _) (Nat.le_refl _) X A
    · have hjk := Int32.lt_iff_toInt_lt.mp (Decidable.not_not.mp hc2)
      rw [Int32.toInt_zero] at hjk
      refine R_aload C lw_214 rfl rfl ?_
      refine R_iconst C lw_216 (v := 0) rfl ?_
      refine R_virtual C [.int 0] lw_217 (met_charAtS l Z a0 hw True EL1 hEL cs fm SC SX h sa k (chv x1 x2) X 0 0 rfl (by omega) (by omega)) (by first | exact fun z => z | exact fun _ => trivial) (X.exa) (hw _ (List.mem_of_getElem? (i := 87) rfl)) (hw _ (List.mem_of_getElem? (i := 88) rfl)) (hw _ (List.mem_of_getElem? (i := 90) rfl)) (hw _ (List.mem_of_getElem? (i := 89) rfl)) (hw _ (List.mem_of_getElem? (i := 22) rfl)) (hw _ (List.mem_of_getElem? (i := 91) rfl)) (by decide) pd_19 rfl rfl rfl (Nat.le_of_ble_eq_true rfl) (Nat.le_of_ble_eq_true rfl) (Nat.le_of_ble_eq_true rfl) (Nat.le_of_ble_eq_true rfl) (fun _ q => nomatch q) ?_
      intro v vm2 h2 hQ hsz2 hSf2 hFr
      obtain ⟨rfl, rfl⟩ := hQ
      simp only [Option.toList_some, List.cons_append, List.nil_append]
      refine R_aload C lw_220 rfl rfl ?_
      refine R_iconst C lw_222 (v := 0) rfl ?_
      refine R_caload C 0 lw_223 A rfl (by decide) rfl ?_
      refine R_icmp C lw_224 (fun _ => ?_) (fun hc3 => absurd rfl hc3)
      exact ck1 _ _ _ _ _ _ (Nat.le_refl _) (Nat.le_refl _) X A
  have st6 : ∀ (vm : Vm) (h : Heap) (t arr : Addr) (j : Nat), j = k → Xm Z h t arr j (chv x1 x2) → AR Z h cA .char 6 (fun i => .int (chv x1 x2 i)) →
      Run p l e room_1 s m #[.int x0, .long x1, .int x2] below meth c Z False EL1 (Kf s Z False EL1 room_1 (fun v h' => v = some (.int 1))) vm h 3 8201 (fr m 171 [.val (.int x0), .val (.long x1), .second, .val (.int x2), .val (.ref cA), .val (.int kI), .val (.ref t), .unset] []) := by
    intro vm h t arr j hj X A
    subst hj
    refine R_aload C lw_171 rfl rfl ?_
    refine R_virtual C [] lw_173 (met_xt l Z a0 hw hEL cs fm SC SX h t arr j (chv x1 x2) X hk6 (fun i _ => (chv_ok x1 x2 i).2)) (by first | exact fun z => z | exact fun _ => trivial) (X.1) (hw _ (List.mem_of_getElem? (i := 15) rfl)) (hw _ (List.mem_of_getElem? (i := 16) rfl)) (hw _ (List.mem_of_getElem? (i := 18) rfl)) (hw _ (List.mem_of_getElem? (i := 17) rfl)) (hw _ (List.mem_of_getElem? (i := 3) rfl)) (hw _ (List.mem_of_getElem? (i := 19) rfl)) (by decide) pd_20 rfl rfl rfl (Nat.le_of_ble_eq_true rfl) (Nat.le_of_ble_eq_true rfl) (Nat.le_of_ble_eq_true rfl) (Nat.le_of_ble_eq_true rfl) (fun _ q => nomatch q) ?_
    intro v vm2 h2 hQ hsz2 hSf2 hFr
    obtain ⟨rfl, E2, X2⟩ := hQ
    simp only [Option.toList_some, List.cons_append, List.nil_append]
    have A2 := A.ext E2
    obtain ⟨E, F1, F2, ⟨qI, F3, hqI⟩, -⟩ := X
    have hqk : qI = kI := Int32.toInt_inj.mp (by omega)
    subst hqk
    have hjI : j.toInt32 = qI := Int32.toInt_inj.mp (by rw [len_toInt (by omega)]; omega)
    refine R_astore C lw_176 rfl rfl rfl ?_
    simp only [fv0, fv1, fv2, fv3, List.set_cons_zero, List.set_cons_succ]
    refine R_aload C lw_178 rfl rfl ?_
    refine R_ifnonnull_y C lw_180 ?_
    refine R_aload C lw_185 rfl rfl ?_
    refine R_virtual C [] lw_187 (met_lengthS l Z a0 hw True EL1 hEL cs fm SC h2 h.size j (chv x1 x2) X2) (by first | exact fun z => z | exact fun _ => trivial) (X2.exa) (hw _ (List.mem_of_getElem? (i := 52) rfl)) (hw _ (List.mem_of_getElem? (i := 53) rfl)) (hw _ (List.mem_of_getElem? (i := 55) rfl)) (hw _ (List.mem_of_getElem? (i := 54) rfl)) (hw _ (List.mem_of_getElem? (i := 22) rfl)) (hw _ (List.mem_of_getElem? (i := 56) rfl)) (by decide) pd_21 rfl rfl rfl (Nat.le_of_ble_eq_true rfl) (Nat.le_of_ble_eq_true rfl) (Nat.le_of_ble_eq_true rfl) (Nat.le_of_ble_eq_true rfl) (fun _ q => nomatch q) ?_
    intro v vm3 h3 hQ hsz3 hSf3 hFr
    obtain ⟨rfl, rfl⟩ := hQ
    simp only [Option.toList_some, List.cons_append, List.nil_append]
    refine R_iload C lw_190 rfl ?_
    refine R_icmp C lw_192 (fun _ => ?_) (fun hc3 => absurd hjI hc3)
    refine R_aload C lw_197 rfl rfl ?_
    refine R_virtual C [] lw_199 (met_xl l Z a0 hw True EL1 hEL h3 t qI (F3.ext E2)) (by first | exact fun z => z | exact fun _ => trivial) (E.ext E2) (hw _ (List.mem_of_getElem? (i := 63) rfl)) (hw _ (List.mem_of_getElem? (i := 64) rfl)) (hw _ (List.mem_of_getElem? (i := 66) rfl)) (hw _ (List.mem_of_getElem? (i := 65) rfl)) (hw _ (List.mem_of_getElem? (i := 3) rfl)) (hw _ (List.mem_of_getElem? (i := 67) rfl)) (by decide) pd_21 rfl rfl rfl (Nat.le_of_ble_eq_true rfl) (Nat.le_of_ble_eq_true rfl) (Nat.le_of_ble_eq_true rfl) (Nat.le_of_ble_eq_true rfl) (fun _ q => nomatch q) ?_
    intro v vm4 h4 hQ hsz4 hSf4 hFr
    obtain ⟨rfl, rfl⟩ := hQ
    simp only [Option.toList_some, List.cons_append, List.nil_append]
    refine R_iload C lw_202 rfl ?_
    refine R_icmp C lw_204 (fun _ => ?_) (fun hc3 => absurd rfl hc3)
    exact ck0 _ _ _ _ _ _ (Nat.le_of_ble_eq_true rfl) (Nat.le_of_ble_eq_true rfl) X2 A2
  have st5 : ∀ (vm : Vm) (h : Heap) (t arr : Addr) (jj : Nat), jj = min k 5 → Z.heap.size < t → Z.heap.size < arr → Xm Z h t arr jj (chv x1 x2) → AR Z h cA .char 6 (fun i => .int (chv x1 x2 i)) →
      Run p l e room_1 s m #[.int x0, .long x1, .int x2] below meth c Z False EL1 (Kf s Z False EL1 room_1 (fun v h' => v = some (.int 1))) vm h 3 8201 (fr m 155 [.val (.int x0), .val (.long x1), .second, .val (.int x2), .val (.ref cA), .val (.int kI), .val (.ref t), .unset] []) := by
    intro vm h t arr jj hj ht harr X A
    refine R_iload C lw_155 rfl ?_
    refine R_iconst C lw_157 (v := 5) rfl ?_
    refine R_icmp C lw_158 (fun (hc2 : ¬ (5 : Int32) < kI) => ?_) (fun (hc2 : ¬ ¬ (5 : Int32) < kI) => ?_)
    · rw [Int32.lt_iff_toInt_lt, n5] at hc2
      exact st6 _ _ _ arr jj (by omega) X A
    · have hjk := Int32.lt_iff_toInt_lt.mp (Decidable.not_not.mp hc2)
      rw [n5] at hjk
      have hjj : jj = 5 := by omega
      subst hjj
      refine R_aload C lw_161 rfl rfl ?_
      refine R_aload C lw_163 rfl rfl ?_
      refine R_iconst C lw_165 (v := 5) rfl ?_
      refine R_caload C 5 lw_166 A rfl (by decide) rfl ?_
      refine R_virtual C [.int (chv x1 x2 5)] lw_167 (met_xa l Z a0 hw hEL h t arr 5 (chv x1 x2) X (by decide) (Nat.le_of_lt ht) (Nat.le_of_lt harr) (chv_ok x1 x2 5).1) (by first | exact fun z => z | exact fun _ => trivial) (X.1) (hw _ (List.mem_of_getElem? (i := 68) rfl)) (hw _ (List.mem_of_getElem? (i := 69) rfl)) (hw _ (List.mem_of_getElem? (i := 71) rfl)) (hw _ (List.mem_of_getElem? (i := 70) rfl)) (hw _ (List.mem_of_getElem? (i := 3) rfl)) (hw _ (List.mem_of_getElem? (i := 72) rfl)) (by decide) pd_22 rfl rfl rfl (Nat.le_of_ble_eq_true rfl) (Nat.le_of_ble_eq_true rfl) (Nat.le_of_ble_eq_true rfl) (Nat.le_of_ble_eq_true rfl) (fun _ q => nomatch q) ?_
      intro v vm2 h2 hQ hsz2 hSf2 hFr
      obtain ⟨rfl, K2, X2⟩ := hQ
      simp only [Option.toList_some, List.cons_append, List.nil_append]
      refine R_pop C lw_170 rfl ?_
      exact st6 _ _ _ arr 6 (by omega) X2 (A.keep K2 (notin2 (by omega) (by omega)))
  have st4 : ∀ (vm : Vm) (h : Heap) (t arr : Addr) (jj : Nat), jj = min k 4 → Z.heap.size < t → Z.heap.size < arr → Xm Z h t arr jj (chv x1 x2) → AR Z h cA .char 6 (fun i => .int (chv x1 x2 i)) →
      Run p l e room_1 s m #[.int x0, .long x1, .int x2] below meth c Z False EL1 (Kf s Z False EL1 room_1 (fun v h' => v = some (.int 1))) vm h 3 8201 (fr m 139 [.val (.int x0), .val (.long x1), .second, .val (.int x2), .val (.ref cA), .val (.int kI), .val (.ref t), .unset] []) := by
    intro vm h t arr jj hj ht harr X A
    refine R_iload C lw_139 rfl ?_
    refine R_iconst C lw_141 (v := 4) rfl ?_
    refine R_icmp C lw_142 (fun (hc2 : ¬ (4 : Int32) < kI) => ?_) (fun (hc2 : ¬ ¬ (4 : Int32) < kI) => ?_)
    · rw [Int32.lt_iff_toInt_lt, n4] at hc2
      exact st5 _ _ _ arr jj (by omega) ht harr X A
    · have hjk := Int32.lt_iff_toInt_lt.mp (Decidable.not_not.mp hc2)
      rw [n4] at hjk
      have hjj : jj = 4 := by omega
      subst hjj
      refine R_aload C lw_145 rfl rfl ?_
      refine R_aload C lw_147 rfl rfl ?_
      refine R_iconst C lw_149 (v := 4) rfl ?_
      refine R_caload C 4 lw_150 A rfl (by decide) rfl ?_
      refine R_virtual C [.int (chv x1 x2 4)] lw_151 (met_xa l Z a0 hw hEL h t arr 4 (chv x1 x2) X (by decide) (Nat.le_of_lt ht) (Nat.le_of_lt harr) (chv_ok x1 x2 4).1) (by first | exact fun z => z | exact fun _ => trivial) (X.1) (hw _ (List.mem_of_getElem? (i := 68) rfl)) (hw _ (List.mem_of_getElem? (i := 69) rfl)) (hw _ (List.mem_of_getElem? (i := 71) rfl)) (hw _ (List.mem_of_getElem? (i := 70) rfl)) (hw _ (List.mem_of_getElem? (i := 3) rfl)) (hw _ (List.mem_of_getElem? (i := 72) rfl)) (by decide) pd_22 rfl rfl rfl (Nat.le_of_ble_eq_true rfl) (Nat.le_of_ble_eq_true rfl) (Nat.le_of_ble_eq_true rfl) (Nat.le_of_ble_eq_true rfl) (fun _ q => nomatch q) ?_
      intro v vm2 h2 hQ hsz2 hSf2 hFr
      obtain ⟨rfl, K2, X2⟩ := hQ
      simp only [Option.toList_some, List.cons_append, List.nil_append]
      refine R_pop C lw_154 rfl ?_
      exact st5 _ _ _ arr 5 (by omega) ht harr X2 (A.keep K2 (notin2 (by omega) (by omega)))
  have st3 : ∀ (vm : Vm) (h : Heap) (t arr : Addr) (jj : Nat), jj = min k 3 → Z.heap.size < t → Z.heap.size < arr → Xm Z h t arr jj (chv x1 x2) → AR Z h cA .char 6 (fun i => .int (chv x1 x2 i)) →
      Run p l e room_1 s m #[.int x0, .long x1, .int x2] below meth c Z False EL1 (Kf s Z False EL1 room_1 (fun v h' => v = some (.int 1))) vm h 3 8201 (fr m 123 [.val (.int x0), .val (.long x1), .second, .val (.int x2), .val (.ref cA), .val (.int kI), .val (.ref t), .unset] []) := by
    intro vm h t arr jj hj ht harr X A
    refine R_iload C lw_123 rfl ?_
    refine R_iconst C lw_125 (v := 3) rfl ?_
    refine R_icmp C lw_126 (fun (hc2 : ¬ (3 : Int32) < kI) => ?_) (fun (hc2 : ¬ ¬ (3 : Int32) < kI) => ?_)
    · rw [Int32.lt_iff_toInt_lt, n3] at hc2
      exact st4 _ _ _ arr jj (by omega) ht harr X A
    · have hjk := Int32.lt_iff_toInt_lt.mp (Decidable.not_not.mp hc2)
      rw [n3] at hjk
      have hjj : jj = 3 := by omega
      subst hjj
      refine R_aload C lw_129 rfl rfl ?_
      refine R_aload C lw_131 rfl rfl ?_
      refine R_iconst C lw_133 (v := 3) rfl ?_
      refine R_caload C 3 lw_134 A rfl (by decide) rfl ?_
      refine R_virtual C [.int (chv x1 x2 3)] lw_135 (met_xa l Z a0 hw hEL h t arr 3 (chv x1 x2) X (by decide) (Nat.le_of_lt ht) (Nat.le_of_lt harr) (chv_ok x1 x2 3).1) (by first | exact fun z => z | exact fun _ => trivial) (X.1) (hw _ (List.mem_of_getElem? (i := 68) rfl)) (hw _ (List.mem_of_getElem? (i := 69) rfl)) (hw _ (List.mem_of_getElem? (i := 71) rfl)) (hw _ (List.mem_of_getElem? (i := 70) rfl)) (hw _ (List.mem_of_getElem? (i := 3) rfl)) (hw _ (List.mem_of_getElem? (i := 72) rfl)) (by decide) pd_22 rfl rfl rfl (Nat.le_of_ble_eq_true rfl) (Nat.le_of_ble_eq_true rfl) (Nat.le_of_ble_eq_true rfl) (Nat.le_of_ble_eq_true rfl) (fun _ q => nomatch q) ?_
      intro v vm2 h2 hQ hsz2 hSf2 hFr
      obtain ⟨rfl, K2, X2⟩ := hQ
      simp only [Option.toList_some, List.cons_append, List.nil_append]
      refine R_pop C lw_138 rfl ?_
      exact st4 _ _ _ arr 4 (by omega) ht harr X2 (A.keep K2 (notin2 (by omega) (by omega)))
  have st2 : ∀ (vm : Vm) (h : Heap) (t arr : Addr) (jj : Nat), jj = min k 2 → Z.heap.size < t → Z.heap.size < arr → Xm Z h t arr jj (chv x1 x2) → AR Z h cA .char 6 (fun i => .int (chv x1 x2 i)) →
      Run p l e room_1 s m #[.int x0, .long x1, .int x2] below meth c Z False EL1 (Kf s Z False EL1 room_1 (fun v h' => v = some (.int 1))) vm h 3 8201 (fr m 107 [.val (.int x0), .val (.long x1), .second, .val (.int x2), .val (.ref cA), .val (.int kI), .val (.ref t), .unset] []) := by
    intro vm h t arr jj hj ht harr X A
    refine R_iload C lw_107 rfl ?_
    refine R_iconst C lw_109 (v := 2) rfl ?_
    refine R_icmp C lw_110 (fun (hc2 : ¬ (2 : Int32) < kI) => ?_) (fun (hc2 : ¬ ¬ (2 : Int32) < kI) => ?_)
    · rw [Int32.lt_iff_toInt_lt, n2] at hc2
      exact st3 _ _ _ arr jj (by omega) ht harr X A
    · have hjk := Int32.lt_iff_toInt_lt.mp (Decidable.not_not.mp hc2)
      rw [n2] at hjk
      have hjj : jj = 2 := by omega
      subst hjj
      refine R_aload C lw_113 rfl rfl ?_
      refine R_aload C lw_115 rfl rfl ?_
      refine R_iconst C lw_117 (v := 2) rfl ?_
      refine R_caload C 2 lw_118 A rfl (by decide) rfl ?_
      refine R_virtual C [.int (chv x1 x2 2)] lw_119 (met_xa l Z a0 hw hEL h t arr 2 (chv x1 x2) X (by decide) (Nat.le_of_lt ht) (Nat.le_of_lt harr) (chv_ok x1 x2 2).1) (by first | exact fun z => z | exact fun _ => trivial) (X.1) (hw _ (List.mem_of_getElem? (i := 68) rfl)) (hw _ (List.mem_of_getElem? (i := 69) rfl)) (hw _ (List.mem_of_getElem? (i := 71) rfl)) (hw _ (List.mem_of_getElem? (i := 70) rfl)) (hw _ (List.mem_of_getElem? (i := 3) rfl)) (hw _ (List.mem_of_getElem? (i := 72) rfl)) (by decide) pd_22 rfl rfl rfl (Nat.le_of_ble_eq_true rfl) (Nat.le_of_ble_eq_true rfl) (Nat.le_of_ble_eq_true rfl) (Nat.le_of_ble_eq_true rfl) (fun _ q => nomatch q) ?_
      intro v vm2 h2 hQ hsz2 hSf2 hFr
      obtain ⟨rfl, K2, X2⟩ := hQ
      simp only [Option.toList_some, List.cons_append, List.nil_append]
      refine R_pop C lw_122 rfl ?_
      exact st3 _ _ _ arr 3 (by omega) ht harr X2 (A.keep K2 (notin2 (by omega) (by omega)))
  have st1 : ∀ (vm : Vm) (h : Heap) (t arr : Addr) (jj : Nat), jj = min k 1 → Z.heap.size < t → Z.heap.size < arr → Xm Z h t arr jj (chv x1 x2) → AR Z h cA .char 6 (fun i => .int (chv x1 x2 i)) →
      Run p l e room_1 s m #[.int x0, .long x1, .int x2] below meth c Z False EL1 (Kf s Z False EL1 room_1 (fun v h' => v = some (.int 1))) vm h 3 8201 (fr m 91 [.val (.int x0), .val (.long x1), .second, .val (.int x2), .val (.ref cA), .val (.int kI), .val (.ref t), .unset] []) := by
    intro vm h t arr jj hj ht harr X A
    refine R_iload C lw_91 rfl ?_
    refine R_iconst C lw_93 (v := 1) rfl ?_
    refine R_icmp C lw_94 (fun (hc2 : ¬ (1 : Int32) < kI) => ?_) (fun (hc2 : ¬ ¬ (1 : Int32) < kI) => ?_)
    · rw [Int32.lt_iff_toInt_lt, n1] at hc2
      exact st2 _ _ _ arr jj (by omega) ht harr X A
    · have hjk := Int32.lt_iff_toInt_lt.mp (Decidable.not_not.mp hc2)
      rw [n1] at hjk
      have hjj : jj = 1 := by omega
      subst hjj
      refine R_aload C lw_97 rfl rfl ?_
      refine R_aload C lw_99 rfl rfl ?_
      refine R_iconst C lw_101 (v := 1) rfl ?_
      refine R_caload C 1 lw_102 A rfl (by decide) rfl ?_
      refine R_virtual C [.int (chv x1 x2 1)] lw_103 (met_xa l Z a0 hw hEL h t arr 1 (chv x1 x2) X (by decide) (Nat.le_of_lt ht) (Nat.le_of_lt harr) (chv_ok x1 x2 1).1) (by first | exact fun z => z | exact fun _ => trivial) (X.1) (hw _ (List.mem_of_getElem? (i := 68) rfl)) (hw _ (List.mem_of_getElem? (i := 69) rfl)) (hw _ (List.mem_of_getElem? (i := 71) rfl)) (hw _ (List.mem_of_getElem? (i := 70) rfl)) (hw _ (List.mem_of_getElem? (i := 3) rfl)) (hw _ (List.mem_of_getElem? (i := 72) rfl)) (by decide) pd_22 rfl rfl rfl (Nat.le_of_ble_eq_true rfl) (Nat.le_of_ble_eq_true rfl) (Nat.le_of_ble_eq_true rfl) (Nat.le_of_ble_eq_true rfl) (fun _ q => nomatch q) ?_
      intro v vm2 h2 hQ hsz2 hSf2 hFr
      obtain ⟨rfl, K2, X2⟩ := hQ
      simp only [Option.toList_some, List.cons_append, List.nil_append]
      refine R_pop C lw_106 rfl ?_
      exact st2 _ _ _ arr 2 (by omega) ht harr X2 (A.keep K2 (notin2 (by omega) (by omega)))
  have st0 : ∀ (vm : Vm) (h : Heap) (t arr : Addr) (jj : Nat), jj = min k 0 → Z.heap.size < t → Z.heap.size < arr → Xm Z h t arr jj (chv x1 x2) → AR Z h cA .char 6 (fun i => .int (chv x1 x2 i)) →
      Run p l e room_1 s m #[.int x0, .long x1, .int x2] below meth c Z False EL1 (Kf s Z False EL1 room_1 (fun v h' => v = some (.int 1))) vm h 3 8201 (fr m 76 [.val (.int x0), .val (.long x1), .second, .val (.int x2), .val (.ref cA), .val (.int kI), .val (.ref t), .unset] []) := by
    intro vm h t arr jj hj ht harr X A
    refine R_iload C lw_76 rfl ?_
    refine R_if C lw_78 (fun (hc2 : ¬ (0 : Int32) < kI) => ?_) (fun (hc2 : ¬ ¬ (0 : Int32) < kI) => ?_)
    · rw [Int32.lt_iff_toInt_lt, Int32.toInt_zero] at hc2
      exact st1 _ _ _ arr jj (by omega) ht harr X A
    · have hjk := Int32.lt_iff_toInt_lt.mp (Decidable.not_not.mp hc2)
      rw [Int32.toInt_zero] at hjk
      have hjj : jj = 0 := by omega
      subst hjj
      refine R_aload C lw_81 rfl rfl ?_
      refine R_aload C lw_83 rfl rfl ?_
      refine R_iconst C lw_85 (v := 0) rfl ?_
      refine R_caload C 0 lw_86 A rfl (by decide) rfl ?_
      refine R_virtual C [.int (chv x1 x2 0)] lw_87 (met_xa l Z a0 hw hEL h t arr 0 (chv x1 x2) X (by decide) (Nat.le_of_lt ht) (Nat.le_of_lt harr) (chv_ok x1 x2 0).1) (by first | exact fun z => z | exact fun _ => trivial) (X.1) (hw _ (List.mem_of_getElem? (i := 68) rfl)) (hw _ (List.mem_of_getElem? (i := 69) rfl)) (hw _ (List.mem_of_getElem? (i := 71) rfl)) (hw _ (List.mem_of_getElem? (i := 70) rfl)) (hw _ (List.mem_of_getElem? (i := 3) rfl)) (hw _ (List.mem_of_getElem? (i := 72) rfl)) (by decide) pd_22 rfl rfl rfl (Nat.le_of_ble_eq_true rfl) (Nat.le_of_ble_eq_true rfl) (Nat.le_of_ble_eq_true rfl) (Nat.le_of_ble_eq_true rfl) (fun _ q => nomatch q) ?_
      intro v vm2 h2 hQ hsz2 hSf2 hFr
      obtain ⟨rfl, K2, X2⟩ := hQ
      simp only [Option.toList_some, List.cons_append, List.nil_append]
      refine R_pop C lw_90 rfl ?_
      exact st1 _ _ _ arr 1 (by omega) ht harr X2 (A.keep K2 (notin2 (by omega) (by omega)))
  refine R_bipush C lw_0 (v := 6) rfl ?_
  refine R_newarray C 6 lw_2 (hw _ (List.mem_of_getElem? (i := 0) rfl)) (N := 6) rfl (Nat.le_refl _) (by decide) (Nat.le_of_ble_eq_true rfl) (Nat.le_of_ble_eq_true rfl) rfl ?_
  intro h1 E1 D1 S1 Sf1
  refine Run.know fun hE1 hW1 _ => ?_
  refine R_astore C lw_4 rfl rfl rfl ?_
  simp only [fv0, fv1, fv2, fv3, List.set_cons_zero, List.set_cons_succ]
  refine R_aload C lw_6 rfl rfl ?_
  refine R_iconst C lw_8 (v := 0) rfl ?_
  refine R_lload_n C lw_9 rfl ?_
  refine R_l2i C lw_10 ?_
  refine R_i2c C lw_11 ?_
  refine R_castore C 0 lw_12 D1 rfl (by decide) (Nat.le_refl _) (D1.safe hW1 (by decide)) ?_
  intro h2 W2 D2 _
  refine R_aload C lw_13 rfl rfl ?_
  refine R_iconst C lw_15 (v := 1) rfl ?_
  refine R_lload_n C lw_16 rfl ?_
  refine R_bipush C lw_17 (v := 16) rfl ?_
  refine R_lushr C lw_19 ?_
  refine R_l2i C lw_20 ?_
  refine R_i2c C lw_21 ?_
  refine R_castore C 1 lw_22 D2 rfl (by decide) (Nat.le_refl _) (D2.safe hW1 (by decide)) ?_
  intro h3 W3 D3 _
  refine R_aload C lw_23 rfl rfl ?_
  refine R_iconst C lw_25 (v := 2) rfl ?_
  refine R_lload_n C lw_26 rfl ?_
  refine R_bipush C lw_27 (v := 32) rfl ?_
  refine R_lushr C lw_29 ?_
  refine R_l2i C lw_30 ?_
  refine R_i2c C lw_31 ?_
  refine R_castore C 2 lw_32 D3 rfl (by decide) (Nat.le_refl _) (D3.safe hW1 (by decide)) ?_
  intro h4 W4 D4 _
  refine R_aload C lw_33 rfl rfl ?_
  refine R_iconst C lw_35 (v := 3) rfl ?_
  refine R_lload_n C lw_36 rfl ?_
  refine R_bipush C lw_37 (v := 48) rfl ?_
  refine R_lushr C lw_39 ?_
  refine R_l2i C lw_40 ?_
  refine R_i2c C lw_41 ?_
  refine R_castore C 3 lw_42 D4 rfl (by decide) (Nat.le_refl _) (D4.safe hW1 (by decide)) ?_
  intro h5 W5 D5 _
  refine R_aload C lw_43 rfl rfl ?_
  refine R_iconst C lw_45 (v := 4) rfl ?_
  refine R_iload_n C lw_46 rfl ?_
  refine R_i2c C lw_47 ?_
  refine R_castore C 4 lw_48 D5 rfl (by decide) (Nat.le_refl _) (D5.safe hW1 (by decide)) ?_
  intro h6 W6 D6 _
  refine R_aload C lw_49 rfl rfl ?_
  refine R_iconst C lw_51 (v := 5) rfl ?_
  refine R_iload_n C lw_52 rfl ?_
  refine R_bipush C lw_53 (v := 16) rfl ?_
  refine R_iushr C lw_55 ?_
  refine R_i2c C lw_56 ?_
  refine R_castore C 5 lw_57 D6 rfl (by decide) (Nat.le_refl _) (D6.safe hW1 (by decide)) ?_
  intro h7 W7 D7 _
  have A7 : AR Z h7 Z.heap.size .char 6 (fun i => .int (chv x1 x2 i)) := D7.cg fun i hi => by
    unfold Own.upd chv
    repeat' split
    all_goals first | rfl | omega
  refine R_iload_n C lw_58 rfl ?_
  refine R_bipush C lw_59 (v := 7) rfl ?_
  refine R_iand C lw_61 ?_
  refine R_bipush C lw_62 (v := 7) rfl ?_
  refine R_irem C lw_64 (by decide) ?_
  rw [← hkI]
  refine R_istore C lw_65 rfl ?_
  simp only [fv0, fv1, fv2, fv3, List.set_cons_zero, List.set_cons_succ]
  refine R_new C lw_67 (hw _ (List.mem_of_getElem? (i := 1) rfl)) (hw _ (List.mem_of_getElem? (i := 2) rfl)) (hw _ (List.mem_of_getElem? (i := 3) rfl)) (Nat.le_of_ble_eq_true rfl) (Nat.le_of_ble_eq_true rfl) ?_
  intro h8 E8 X8 S8 _
  obtain ⟨X8, G8⟩ := X8
  have hlt : Z.heap.size < h7.size := A7.lt
  refine R_dup C lw_70 rfl ?_
  refine R_special C [] lw_71 (met_xi l Z a0 hw hEL h8 h7.size (chv x1 x2) X8 (G8 (Or.inl (hw _ (List.mem_of_getElem? (i := 11) rfl))) (ty := .array .char) (by decide)) (G8 (Or.inl (hw _ (List.mem_of_getElem? (i := 14) rfl))) (ty := .int) (by decide)) (G8 (Or.inl (hw _ (List.mem_of_getElem? (i := 24) rfl))) (ty := .int) (by decide)) (Nat.le_of_lt hlt)) (by first | exact fun z => z | exact fun _ => trivial) rfl (hw _ (List.mem_of_getElem? (i := 4) rfl)) (hw _ (List.mem_of_getElem? (i := 5) rfl)) (hw _ (List.mem_of_getElem? (i := 3) rfl)) (hw _ (List.mem_of_getElem? (i := 6) rfl)) (by decide) pd_23 rfl rfl rfl (Nat.le_of_ble_eq_true rfl) (Nat.le_of_ble_eq_true rfl) (Nat.le_of_ble_eq_true rfl) (Nat.le_of_ble_eq_true rfl) (fun _ q => nomatch q) ?_
  intro v vm9 h9 hQ hsz9 hSf9 hFr
  obtain ⟨rfl, K9, X9⟩ := hQ
  simp only [Option.toList_none, List.nil_append]
  refine R_astore C lw_74 rfl rfl rfl ?_
  simp only [fv0, fv1, fv2, fv3, List.set_cons_zero, List.set_cons_succ]
  have h89 := E8.1
  subst hcA
  exact st0 _ _ _ h8.size 0 (by omega) hlt (by omega) X9 ((A7.ext E8).keep K9 (notin1 (by omega)))
set_option maxRecDepth 65536 in
theorem comes_1 {Post : Tables → Env → Array Value → State → Outcome → State → Prop} (hpost : ∀ tb e args s v u, (limb_1_1.after args s (.returned v) u = true ∧ limb_1_2.after args s (.returned v) u = true ∧ True) → ReturnedEndW s (.returned v) u (Jvm.fieldLocs frame_1_writes args s ++ Jvm.arrayLocs frame_1_arrays args s ++ Jvm.staticLocs frame_1_statics s) 24 17600 → Post tb e args s (.returned v) u) :
    ArmFor flags0 classFile x code maxLocals ret World_1 tables_1 room_1 Calls_1 rest_1 Pre_1 Post := by
  intro l hfl _ _ p e ha hc hk s m args below hf hA hF happ hP
  obtain ⟨hcalls, hrest, hpre⟩ := hP
  obtain ⟨-, -, -, hnamed, -, -, -, hat⟩ := (Spec.applies_iff hf).mp happ
  obtain ⟨hg, hn⟩ := and_e (Cond.before_iff.mp (show (Jvm.Cond.and given_1 narrow_1).before args s = true from hpre))
  obtain ⟨h1, h2⟩ := and_e hg
  obtain ⟨g0, h2⟩ := and_e h2
  obtain ⟨g1, g2⟩ := and_e h2
  obtain ⟨w0, w1, w2, rfl⟩ : ∃ w0 w1 w2 : Value, args = #[w0, w1, w2] := by
    have hs : args.size = 3 := by simpa [Cond.value, given_1] using h1
    obtain ⟨L⟩ := args
    match L, hs with
    | [w0, w1, w2], _ => exact ⟨w0, w1, w2, rfl⟩
  have hw := fun d (hd : d ∈ tables_1) => atoms_spec (ws := Jvm.Cond.code x code maxLocals ret :: tables_1) hat d (List.mem_cons_of_mem _ hd)
  have hfit : Fit s := fun {y c} hc i hi => by
    obtain ⟨ha, rfl⟩ := Array.getElem?_eq_some_iff.mp hc
    have q := List.all_eq_true.mp ((Array.all_eq_true_iff_forall_mem.mp hF) _ (Array.getElem_mem ha)) i (List.mem_range.mpr hi)
    simpa [Array.getElem?_eq_getElem hi] using q
  obtain ⟨i0, e0⟩ := is_v g0
  obtain rfl : w0 = (.int i0) := Option.some.inj e0
  obtain ⟨i1, e1⟩ := isL_v g1
  obtain rfl : w1 = (.long i1) := Option.some.inj e1
  obtain ⟨i2, e2⟩ := is_v g2
  obtain rfl : w2 = (.int i2) := Option.some.inj e2
  obtain ⟨hsets, hown0⟩ := atoms_of _ (rest_1_c_eq ▸ (show rest_1_c.before _ s = true from hrest))
  have m3 := not_v (Cond.before_iff.mp (hsets _ (List.mem_of_getElem? (i := 2) rfl)))
  obtain ⟨cs, c1⟩ := is_v (Cond.before_iff.mp (hsets _ (List.mem_of_getElem? (i := 1) rfl)))
  have S8 : Sta s s.heap STR "COMPACT_STRINGS" "Z" (.int cs) := Sta.start c1 (Or.inl (hsets _ (List.mem_of_getElem? (i := 0) rfl)))
  obtain ⟨fm, c2, c3⟩ := isR_v (Cond.before_iff.mp (hsets _ (List.mem_of_getElem? (i := 8) rfl)))
  have S12 : Sta s s.heap PRE "SIOOBE_FORMATTER" BIF fm := Sta.start c2 (Or.inl (hsets _ (List.mem_of_getElem? (i := 7) rfl)))
  have SC : SS s cs fm := ⟨gotF (Cond.eq_ints c1 (Term.int_eval (0))) m3, S8, c3, S12⟩
  have hEL : EW s _ EL1 := EW.cons (hw _ (List.mem_of_getElem? (i := 44) rfl)) (by intro c hc; simp at hc) EW.nil
  have hCH : CHv s EL1 s.vm s.heap := CHv.start hEL (fun p hp => hcalls.1 p hp) (hsets _ (List.mem_of_getElem? (i := 2) rfl)) (hw _ (List.mem_of_getElem? (i := 45) rfl)) (hw _ (List.mem_of_getElem? (i := 21) rfl))
  have SX : SU s := by
    refine ⟨?_, ?_, ?_⟩
    · exact Sta.start (int_lit (Cond.before_iff.mp (hsets _ (List.mem_of_getElem? (i := 12) rfl)))) (Or.inl (hsets _ (List.mem_of_getElem? (i := 11) rfl)))
    · exact Sta.start (int_lit (Cond.before_iff.mp (hsets _ (List.mem_of_getElem? (i := 15) rfl)))) (Or.inl (hsets _ (List.mem_of_getElem? (i := 14) rfl)))
    · exact Sta.start (int_lit (Cond.before_iff.mp (hsets _ (List.mem_of_getElem? (i := 18) rfl)))) (Or.inl (hsets _ (List.mem_of_getElem? (i := 17) rfl)))
  obtain ⟨n, o, h1, h2, h3, v, L, rfl, hv, N, -, -, hR, hWm⟩ := met_law l s _ hw hEL cs fm SC SX i0 i1 i2 tables_1 p e ha hc hk s m _ below hf ((Spec.applies_iff_loose hf).mp happ).1 ⟨rfl, State.Warmed39.refl s, rfl, hCH, Ext.rfl', fun _ q => nomatch q⟩ trivial
  subst hv
  refine ⟨n, _, h1, h2, h3, hpost _ _ _ _ _ _ ⟨Cond.after_iff.mpr rfl, Cond.after_iff.mpr (eq_i res_at (Term.int_eval (1)) rfl), trivial⟩ ⟨hR.1, hR.2.1, hR.2.2.1, (hR.2.2.2.sift fun y hy => Or.inr (N y hy)).mono (by decide) (by decide)⟩⟩
theorem main_1_1 : Claimed_1_1 := comes_1 fun _ _ _ _ _ _ h hF => ⟨h.1, hF⟩
theorem main_1_2 : Claimed_1_2 := comes_1 fun _ _ _ _ _ _ h hF => ⟨h.2.1, hF⟩
end Jvm.Pilot.@@N@@
namespace Jvm.Pilot.@@N@@
open Jvm Jvm.ClassFile Sem Op Lib Jvm.Free Jvm.Stand Jvm.Pilot.@@N@@.Jvm.D
/-! MADE BY PROGRAM (witnessworld.py) out of the Statement's table words and the real class files: 20 classes; the members and pool entries that the words name. The judged class is class 1, her method 1. -/
namespace start1
open Jvm.ClassFile
def u (s : String) : CpInfo := .utf8 (stringToUtf16 s)
/-- a pool by its gaps: so many unusable entries, then the entry; so many at the end -/
def gap : Nat → List CpInfo → List CpInfo
  | 0, r => r
  | n + 1, r => .unusable :: gap n r
def poolList (es : List (Nat × CpInfo)) (last : Nat) : List CpInfo := es.foldr (fun e r => gap e.1 (e.2 :: r)) (gap last [])
def pool (es : List (Nat × CpInfo)) (last : Nat) : Array CpInfo := ⟨poolList es last⟩
def fileOf (pool : Array CpInfo) (this : Nat) (attrs : Array Attribute := #[]) (ms : Array MethodInfo := #[]) (fl : Nat := 33) (sup : Nat := 0) (ifs : Array Nat := #[]) (fds : Array FieldInfo := #[]) : ClassFile where
  minorVersion := 0
  majorVersion := 65
  constantPool := pool
  accessFlags := fl
  thisClass := this
  superClass := sup
  interfaces := ifs
  fields := fds
  methods := ms
  attributes := attrs
def plain (name : String) (sup : Option ClassId) : Class where
  name := name
  kind := .ordinary
  loader := none
  accessFlags := 33
  super := sup
  interfaces := #[]
  cf := none
  fields := #[]
  methods := #[]
  instanceTypes := #[]
  staticTypes := #[]
  resolved := #[]
  callSites := []
  init := .initialized
  statics := none
  mirror := none

def pool0 : Array CpInfo := pool [(5, u "<init>"), (0, u "()V"), (1, .class_ 10), (1, u "java/lang/Object")] 113

def k0c0 : Code := { maxStack := 0, maxLocals := 1, code := object_method_1_code, exceptionTable := #[], attributes := #[] }
def k0m0 : Method := { name := "<init>", desc := "()V", sig := { parameters := [], returnType := none }, accessFlags := 1, code := some k0c0 }
/-- java/lang/Object -/
def k0 : Class := { plain "java/lang/Object" none with
  accessFlags := 33
  interfaces := #[]
  cf := some (fileOf pool0 8 #[] #[{ accessFlags := 1, nameIndex := 5, descriptorIndex := 6, attributes := #[] }] 33 0 #[] #[])
  fields := #[]
  methods := #[k0m0]
  instanceTypes := #[]
  staticTypes := #[]
  resolved := Array.replicate 124 none
  statics := none }

def pool1 : Array CpInfo := pool [(2, .class_ 4), (0, .nameAndType 5 6), (0, u "java/lang/Object"), (0, u "<init>"), (0, u "()V"), (0, .class_ 8), (0, u "com/example/ruth/ruth/protocol/XmlText"), (0, .methodref 7 3), (0, .methodref 7 11), (0, .nameAndType 12 13), (0, u "append"), (0, u "(C)Lcom/example/ruth/ruth/protocol/XmlText;"), (0, .methodref 7 15), (0, .nameAndType 16 17), (0, u "toString"), (0, u "()Ljava/lang/String;"), (0, .methodref 19 20), (0, .class_ 21), (0, .nameAndType 22 23), (0, u "java/lang/String"), (0, u "length"), (0, u "()I"), (0, .methodref 7 20), (0, .methodref 19 26), (0, .nameAndType 27 28), (0, u "charAt"), (0, u "(I)C"), (0, .class_ 30), (0, u "com/example/ruth/ruth/protocol/XmlTextToStringPinLaw"), (2, u "law"), (0, u "(IJI)Z")] 5

def k1m0 : Method := { name := "<init>", desc := "()V", sig := { parameters := [], returnType := none }, accessFlags := 2, code := none }
def k1c1 : Code := { maxStack := 5, maxLocals := 8, code := code, exceptionTable := #[], attributes := #[] }
def k1m1 : Method := { name := "law", desc := "(IJI)Z", sig := { parameters := [.int, .long, .int], returnType := some .boolean }, accessFlags := 9, code := some k1c1 }
/-- com/example/ruth/ruth/protocol/XmlTextToStringPinLaw -/
def k1 : Class := { plain "com/example/ruth/ruth/protocol/XmlTextToStringPinLaw" (some 0) with
  accessFlags := 49
  interfaces := #[]
  cf := some (fileOf pool1 29 #[] #[{ accessFlags := 2, nameIndex := 5, descriptorIndex := 6, attributes := #[] }, { accessFlags := 9, nameIndex := 33, descriptorIndex := 34, attributes := #[] }] 49 2 #[] #[])
  fields := #[]
  methods := #[k1m0, k1m1]
  instanceTypes := #[]
  staticTypes := #[]
  resolved := Array.replicate 40 none
  statics := none }

def pool2 : Array CpInfo := pool [(1, .methodref 2 3), (0, .class_ 4), (0, .nameAndType 5 6), (0, u "java/lang/Object"), (0, u "<init>"), (0, u "()V"), (0, .class_ 8), (0, u "com/example/ruth/ruth/protocol/XmlText"), (0, .fieldref 7 10), (0, .nameAndType 11 12), (0, u "characters"), (0, u "[C"), (2, .integer 2147483647), (0, .fieldref 7 17), (0, .nameAndType 18 19), (0, u "limit"), (0, u "I"), (0, .fieldref 7 21), (0, .nameAndType 22 19), (0, u "length"), (1, .methodref 7 25), (0, .nameAndType 26 27), (0, u "makeRoom"), (0, u "(I)V"), (1, .class_ 31), (1, u "java/lang/String"), (0, u "()I"), (16, u "IN_TEXT"), (0, u "[Ljava/lang/String;"), (6, u "IN_ATTRIBUTE_VALUE"), (11, u "([CII)V"), (0, .methodref 29 71), (0, .nameAndType 5 69), (5, u "append"), (26, .long 2), (35, u "REPLACEMENT"), (0, u "Ljava/lang/String;"), (1, u "FIRST_ROOM"), (1, u "KEPT_ROOM"), (4, u "(C)Lcom/example/ruth/ruth/protocol/XmlText;"), (9, u "toString"), (0, u "()Ljava/lang/String;")] 4

def k2c0 : Code := { maxStack := 2, maxLocals := 1, code := prog_41_method_1_code, exceptionTable := #[], attributes := #[] }
def k2m0 : Method := { name := "<init>", desc := "()V", sig := { parameters := [], returnType := none }, accessFlags := 0, code := some k2c0 }
def k2c1 : Code := { maxStack := 1, maxLocals := 1, code := prog_41_method_2_code, exceptionTable := #[], attributes := #[] }
def k2m1 : Method := { name := "length", desc := "()I", sig := { parameters := [], returnType := some .int }, accessFlags := 0, code := some k2c1 }
def k2c2 : Code := { maxStack := 5, maxLocals := 2, code := prog_41_method_5_code, exceptionTable := #[], attributes := #[] }
def k2m2 : Method := { name := "append", desc := "(C)Lcom/example/ruth/ruth/protocol/XmlText;", sig := { parameters := [.char], returnType := some (.object "com/example/ruth/ruth/protocol/XmlText") }, accessFlags := 0, code := some k2c2 }
def k2c3 : Code := { maxStack := 5, maxLocals := 1, code := prog_41_method_13_code, exceptionTable := #[], attributes := #[] }
def k2m3 : Method := { name := "toString", desc := "()Ljava/lang/String;", sig := { parameters := [], returnType := some (.object "java/lang/String") }, accessFlags := 1, code := some k2c3 }
def k2c4 : Code := { maxStack := 4, maxLocals := 3, code := prog_41_method_16_code, exceptionTable := #[], attributes := #[] }
def k2m4 : Method := { name := "makeRoom", desc := "(I)V", sig := { parameters := [.int], returnType := none }, accessFlags := 2, code := some k2c4 }
/-- com/example/ruth/ruth/protocol/XmlText -/
def k2 : Class := { plain "com/example/ruth/ruth/protocol/XmlText" (some 0) with
  accessFlags := 32
  interfaces := #[]
  cf := some (fileOf pool2 7 #[] #[{ accessFlags := 0, nameIndex := 5, descriptorIndex := 6, attributes := #[] }, { accessFlags := 0, nameIndex := 22, descriptorIndex := 32, attributes := #[] }, { accessFlags := 0, nameIndex := 77, descriptorIndex := 150, attributes := #[] }, { accessFlags := 1, nameIndex := 160, descriptorIndex := 161, attributes := #[] }, { accessFlags := 2, nameIndex := 26, descriptorIndex := 27, attributes := #[] }] 32 2 #[] #[{ accessFlags := 26, nameIndex := 140, descriptorIndex := 141, attributes := #[] }, { accessFlags := 26, nameIndex := 49, descriptorIndex := 50, attributes := #[] }, { accessFlags := 26, nameIndex := 57, descriptorIndex := 50, attributes := #[] }, { accessFlags := 26, nameIndex := 143, descriptorIndex := 19, attributes := #[] }, { accessFlags := 26, nameIndex := 145, descriptorIndex := 19, attributes := #[] }, { accessFlags := 2, nameIndex := 11, descriptorIndex := 12, attributes := #[] }, { accessFlags := 2, nameIndex := 22, descriptorIndex := 19, attributes := #[] }, { accessFlags := 2, nameIndex := 18, descriptorIndex := 19, attributes := #[] }])
  fields := #[{ name := "REPLACEMENT", type := (.object "java/lang/String"), accessFlags := 26, slot := 0, constantValue := 0 }, { name := "IN_TEXT", type := (.array (.object "java/lang/String")), accessFlags := 26, slot := 1, constantValue := 0 }, { name := "IN_ATTRIBUTE_VALUE", type := (.array (.object "java/lang/String")), accessFlags := 26, slot := 2, constantValue := 0 }, { name := "FIRST_ROOM", type := .int, accessFlags := 26, slot := 3, constantValue := 0 }, { name := "KEPT_ROOM", type := .int, accessFlags := 26, slot := 4, constantValue := 0 }, { name := "characters", type := (.array .char), accessFlags := 2, slot := 0, constantValue := 0 }, { name := "length", type := .int, accessFlags := 2, slot := 1, constantValue := 0 }, { name := "limit", type := .int, accessFlags := 2, slot := 2, constantValue := 0 }]
  methods := #[k2m0, k2m1, k2m2, k2m3, k2m4]
  instanceTypes := #[(.array .char), .int, .int]
  staticTypes := #[(.object "java/lang/String"), (.array (.object "java/lang/String")), (.array (.object "java/lang/String")), .int, .int]
  resolved := Array.replicate 166 none
  statics := none }

def pool3 : Array CpInfo := pool [(1, .class_ 2), (0, u "java/io/Serializable"), (0, .class_ 4), (0, u "java/lang/Object")] 2

/-- java/io/Serializable -/
def k3 : Class := { plain "java/io/Serializable" (some 0) with
  accessFlags := 1537
  interfaces := #[]
  cf := some (fileOf pool3 1 #[] #[] 1537 3 #[] #[])
  fields := #[]
  methods := #[]
  instanceTypes := #[]
  staticTypes := #[]
  resolved := Array.replicate 7 none
  statics := none }

def pool4 : Array CpInfo := pool [(1, .class_ 2), (0, u "java/lang/Comparable"), (0, .class_ 4), (0, u "java/lang/Object")] 7

/-- java/lang/Comparable -/
def k4 : Class := { plain "java/lang/Comparable" (some 0) with
  accessFlags := 1537
  interfaces := #[]
  cf := some (fileOf pool4 1 #[] #[] 1537 3 #[] #[])
  fields := #[]
  methods := #[]
  instanceTypes := #[]
  staticTypes := #[]
  resolved := Array.replicate 12 none
  statics := none }

def pool5 : Array CpInfo := pool [(2, .class_ 4), (1, u "java/lang/CharSequence"), (42, .class_ 48), (0, u "java/lang/CharSequence$1CodePointIterator"), (10, .class_ 60), (0, u "java/lang/CharSequence$1CharIterator"), (5, .class_ 67), (0, u "java/lang/Object")] 63

/-- java/lang/CharSequence -/
def k5 : Class := { plain "java/lang/CharSequence" (some 0) with
  accessFlags := 1537
  interfaces := #[]
  cf := some (fileOf pool5 2 #[.nestMembers #[47, 59]] #[] 1537 66 #[] #[])
  fields := #[]
  methods := #[]
  instanceTypes := #[]
  staticTypes := #[]
  resolved := Array.replicate 131 none
  statics := none }

def pool6 : Array CpInfo := pool [(1, .class_ 2), (0, u "java/lang/constant/Constable"), (0, .class_ 4), (0, u "java/lang/Object")] 6

/-- java/lang/constant/Constable -/
def k6 : Class := { plain "java/lang/constant/Constable" (some 0) with
  accessFlags := 1537
  interfaces := #[]
  cf := some (fileOf pool6 1 #[] #[] 1537 3 #[] #[])
  fields := #[]
  methods := #[]
  instanceTypes := #[]
  staticTypes := #[]
  resolved := Array.replicate 11 none
  statics := none }

def pool7 : Array CpInfo := pool [(1, .class_ 2), (0, u "java/lang/constant/ConstantDesc"), (0, .class_ 4), (0, u "java/lang/Object")] 32

/-- java/lang/constant/ConstantDesc -/
def k7 : Class := { plain "java/lang/constant/ConstantDesc" (some 0) with
  accessFlags := 1537
  interfaces := #[]
  cf := some (fileOf pool7 1 #[] #[] 1537 3 #[] #[])
  fields := #[]
  methods := #[]
  instanceTypes := #[]
  staticTypes := #[]
  resolved := Array.replicate 37 none
  statics := none }

def pool8 : Array CpInfo := pool [(1, .methodref 2 3), (0, .class_ 4), (0, .nameAndType 5 6), (0, u "java/lang/Object"), (0, u "<init>"), (0, u "()V"), (0, .string 8), (0, u ""), (0, .fieldref 10 11), (0, .class_ 12), (0, .nameAndType 13 14), (0, u "java/lang/String"), (0, u "value"), (0, u "[B"), (0, .fieldref 10 16), (0, .nameAndType 17 18), (0, u "coder"), (0, u "B"), (2, u "hash"), (0, u "I"), (2, u "hashIsZero"), (0, u "Z"), (0, .methodref 10 28), (0, .nameAndType 5 29), (0, u "([CIILjava/lang/Void;)V"), (0, .methodref 10 31), (0, .nameAndType 32 33), (0, u "rangeCheck"), (0, u "([CII)Ljava/lang/Void;"), (0, .methodref 10 35), (0, .nameAndType 36 37), (0, u "checkBoundsOffCount"), (0, u "(III)I"), (0, .fieldref 10 39), (0, .nameAndType 40 26), (0, u "COMPACT_STRINGS"), (1, .class_ 44), (1, u "java/lang/StringUTF16"), (0, u "compress"), (1, .methodref 42 48), (0, .nameAndType 49 50), (0, u "coderFromArrayLen"), (0, u "([BI)B"), (56, .class_ 109), (1, u "java/lang/StringLatin1"), (32, u "()Z"), (34, .methodref 42 178), (0, .nameAndType 45 179), (0, u "([CII)[B"), (154, u "()I"), (0, .methodref 10 336), (0, .nameAndType 17 337), (0, u "()B"), (25, u "([BI)C"), (27, u "(II)V"), (35, u "(I)C"), (64, .methodref 10 493), (0, .nameAndType 494 142), (0, u "isLatin1"), (0, .methodref 107 496), (0, .nameAndType 497 363), (0, u "charAt"), (0, .methodref 42 496), (2, u "checkIndex"), (5, u "length"), (67, .class_ 576), (0, u "java/lang/CharSequence"), (22, u "CASE_INSENSITIVE_ORDER"), (0, u "Ljava/util/Comparator;"), (371, u "([CII)V"), (80, .fieldref 1054 1055), (0, .class_ 1056), (0, .nameAndType 1057 1058), (0, u "jdk/internal/util/Preconditions"), (0, u "SIOOBE_FORMATTER"), (0, u "Ljava/util/function/BiFunction;"), (0, .methodref 1054 1060), (0, .nameAndType 501 1061), (0, u "(IILjava/util/function/BiFunction;)I"), (2, u "(IIILjava/util/function/BiFunction;)I"), (0, .methodref 1054 1066), (0, .nameAndType 1067 1064), (0, u "checkFromIndexSize"), (33, u "serialPersistentFields"), (0, u "[Ljava/io/ObjectStreamField;"), (0, .class_ 1104), (0, u "java/lang/String$CaseInsensitiveComparator"), (1, .class_ 1107), (0, u "java/io/Serializable"), (0, .class_ 1109), (0, u "java/lang/Comparable"), (0, .class_ 1111), (0, u "java/lang/constant/Constable"), (0, .class_ 1113), (0, u "java/lang/constant/ConstantDesc"), (2, u "serialVersionUID"), (0, u "J"), (3, u "REPL"), (0, u "C"), (2, u "LATIN1"), (1, u "UTF16")] 323

def k8m0 : Method := { name := "<init>", desc := "()V", sig := { parameters := [], returnType := none }, accessFlags := 1, code := none }
def k8c1 : Code := { maxStack := 7, maxLocals := 4, code := jdk_42_method_4_code, exceptionTable := #[], attributes := #[] }
def k8m1 : Method := { name := "<init>", desc := "([CII)V", sig := { parameters := [(.array .char), .int, .int], returnType := none }, accessFlags := 1, code := some k8c1 }
def k8c2 : Code := { maxStack := 3, maxLocals := 3, code := jdk_42_method_5_code, exceptionTable := #[], attributes := #[] }
def k8m2 : Method := { name := "rangeCheck", desc := "([CII)Ljava/lang/Void;", sig := { parameters := [(.array .char), .int, .int], returnType := some (.object "java/lang/Void") }, accessFlags := 10, code := some k8c2 }
def k8c3 : Code := { maxStack := 2, maxLocals := 1, code := jdk_42_method_54_code, exceptionTable := #[], attributes := #[] }
def k8m3 : Method := { name := "length", desc := "()I", sig := { parameters := [], returnType := some .int }, accessFlags := 1, code := some k8c3 }
def k8c4 : Code := { maxStack := 2, maxLocals := 2, code := jdk_42_method_56_code, exceptionTable := #[], attributes := #[] }
def k8m4 : Method := { name := "charAt", desc := "(I)C", sig := { parameters := [.int], returnType := some .char }, accessFlags := 1, code := some k8c4 }
def k8c5 : Code := { maxStack := 4, maxLocals := 6, code := jdk_42_method_149_code, exceptionTable := #[], attributes := #[] }
def k8m5 : Method := { name := "<init>", desc := "([CIILjava/lang/Void;)V", sig := { parameters := [(.array .char), .int, .int, (.object "java/lang/Void")], returnType := none }, accessFlags := 2, code := some k8c5 }
def k8c6 : Code := { maxStack := 1, maxLocals := 1, code := jdk_42_method_152_code, exceptionTable := #[], attributes := #[] }
def k8m6 : Method := { name := "coder", desc := "()B", sig := { parameters := [], returnType := some .byte }, accessFlags := 0, code := some k8c6 }
def k8c7 : Code := { maxStack := 1, maxLocals := 1, code := jdk_42_method_154_code, exceptionTable := #[], attributes := #[] }
def k8m7 : Method := { name := "isLatin1", desc := "()Z", sig := { parameters := [], returnType := some .boolean }, accessFlags := 0, code := some k8c7 }
def k8c8 : Code := { maxStack := 3, maxLocals := 2, code := jdk_42_method_155_code, exceptionTable := #[], attributes := #[] }
def k8m8 : Method := { name := "checkIndex", desc := "(II)V", sig := { parameters := [.int, .int], returnType := none }, accessFlags := 8, code := some k8c8 }
def k8c9 : Code := { maxStack := 4, maxLocals := 3, code := jdk_42_method_157_code, exceptionTable := #[], attributes := #[] }
def k8m9 : Method := { name := "checkBoundsOffCount", desc := "(III)I", sig := { parameters := [.int, .int, .int], returnType := some .int }, accessFlags := 8, code := some k8c9 }
/-- java/lang/String -/
def k8 : Class := { plain "java/lang/String" (some 0) with
  accessFlags := 49
  interfaces := #[3, 4, 5, 6, 7]
  cf := some (fileOf pool8 10 #[.nestMembers #[1103]] #[{ accessFlags := 1, nameIndex := 5, descriptorIndex := 6, attributes := #[] }, { accessFlags := 1, nameIndex := 5, descriptorIndex := 972, attributes := #[] }, { accessFlags := 10, nameIndex := 32, descriptorIndex := 33, attributes := #[] }, { accessFlags := 1, nameIndex := 507, descriptorIndex := 334, attributes := #[] }, { accessFlags := 1, nameIndex := 497, descriptorIndex := 427, attributes := #[] }, { accessFlags := 2, nameIndex := 5, descriptorIndex := 29, attributes := #[] }, { accessFlags := 0, nameIndex := 17, descriptorIndex := 337, attributes := #[] }, { accessFlags := 0, nameIndex := 494, descriptorIndex := 142, attributes := #[] }, { accessFlags := 8, nameIndex := 501, descriptorIndex := 391, attributes := #[] }, { accessFlags := 8, nameIndex := 36, descriptorIndex := 37, attributes := #[] }] 49 2 #[1106, 1108, 575, 1110, 1112] #[{ accessFlags := 18, nameIndex := 13, descriptorIndex := 14, attributes := #[] }, { accessFlags := 18, nameIndex := 17, descriptorIndex := 18, attributes := #[] }, { accessFlags := 2, nameIndex := 21, descriptorIndex := 22, attributes := #[] }, { accessFlags := 2, nameIndex := 25, descriptorIndex := 26, attributes := #[] }, { accessFlags := 26, nameIndex := 1116, descriptorIndex := 1117, attributes := #[] }, { accessFlags := 24, nameIndex := 40, descriptorIndex := 26, attributes := #[] }, { accessFlags := 26, nameIndex := 1101, descriptorIndex := 1102, attributes := #[] }, { accessFlags := 26, nameIndex := 1121, descriptorIndex := 1122, attributes := #[] }, { accessFlags := 25, nameIndex := 599, descriptorIndex := 600, attributes := #[] }, { accessFlags := 24, nameIndex := 1125, descriptorIndex := 18, attributes := #[] }, { accessFlags := 24, nameIndex := 1127, descriptorIndex := 18, attributes := #[] }])
  fields := #[{ name := "value", type := (.array .byte), accessFlags := 18, slot := 0, constantValue := 0 }, { name := "coder", type := .byte, accessFlags := 18, slot := 1, constantValue := 0 }, { name := "hash", type := .int, accessFlags := 2, slot := 2, constantValue := 0 }, { name := "hashIsZero", type := .boolean, accessFlags := 2, slot := 3, constantValue := 0 }, { name := "serialVersionUID", type := .long, accessFlags := 26, slot := 0, constantValue := 0 }, { name := "COMPACT_STRINGS", type := .boolean, accessFlags := 24, slot := 1, constantValue := 0 }, { name := "serialPersistentFields", type := (.array (.object "java/io/ObjectStreamField")), accessFlags := 26, slot := 2, constantValue := 0 }, { name := "REPL", type := .char, accessFlags := 26, slot := 3, constantValue := 0 }, { name := "CASE_INSENSITIVE_ORDER", type := (.object "java/util/Comparator"), accessFlags := 25, slot := 4, constantValue := 0 }, { name := "LATIN1", type := .byte, accessFlags := 24, slot := 5, constantValue := 0 }, { name := "UTF16", type := .byte, accessFlags := 24, slot := 6, constantValue := 0 }]
  methods := #[k8m0, k8m1, k8m2, k8m3, k8m4, k8m5, k8m6, k8m7, k8m8, k8m9]
  instanceTypes := #[(.array .byte), .byte, .int, .boolean]
  staticTypes := #[.long, .boolean, (.array (.object "java/io/ObjectStreamField")), .char, (.object "java/util/Comparator"), .byte, .byte]
  resolved := Array.replicate 1451 none
  statics := some 0 }

def pool9 : Array CpInfo := pool [(2, .class_ 4), (1, u "java/lang/Object"), (0, u "<init>"), (0, u "()V"), (17, .class_ 26), (1, u "jdk/internal/util/Preconditions"), (6, u "checkIndex"), (15, u "checkFromIndexSize"), (5, .class_ 56), (0, u "jdk/internal/util/Preconditions$4"), (57, .class_ 115), (0, u "jdk/internal/util/Preconditions$1"), (7, u "SIOOBE_FORMATTER"), (0, u "Ljava/util/function/BiFunction;"), (0, .class_ 126), (0, u "jdk/internal/util/Preconditions$2"), (3, u "AIOOBE_FORMATTER"), (0, .class_ 132), (0, u "jdk/internal/util/Preconditions$3"), (3, u "IOOBE_FORMATTER"), (41, u "(IILjava/util/function/BiFunction;)I"), (4, u "(IIILjava/util/function/BiFunction;)I")] 10

def k9m0 : Method := { name := "<init>", desc := "()V", sig := { parameters := [], returnType := none }, accessFlags := 1, code := none }
def k9c1 : Code := { maxStack := 3, maxLocals := 3, code := jdk_41_method_11_code, exceptionTable := #[], attributes := #[] }
def k9m1 : Method := { name := "checkIndex", desc := "(IILjava/util/function/BiFunction;)I", sig := { parameters := [.int, .int, (.object "java/util/function/BiFunction")], returnType := some .int }, accessFlags := 9, code := some k9c1 }
def k9c2 : Code := { maxStack := 4, maxLocals := 4, code := jdk_41_method_13_code, exceptionTable := #[], attributes := #[] }
def k9m2 : Method := { name := "checkFromIndexSize", desc := "(IIILjava/util/function/BiFunction;)I", sig := { parameters := [.int, .int, .int, (.object "java/util/function/BiFunction")], returnType := some .int }, accessFlags := 9, code := some k9c2 }
/-- jdk/internal/util/Preconditions -/
def k9 : Class := { plain "jdk/internal/util/Preconditions" (some 0) with
  accessFlags := 33
  interfaces := #[]
  cf := some (fileOf pool9 24 #[.nestMembers #[55, 131, 125, 114]] #[{ accessFlags := 1, nameIndex := 5, descriptorIndex := 6, attributes := #[] }, { accessFlags := 9, nameIndex := 33, descriptorIndex := 178, attributes := #[] }, { accessFlags := 9, nameIndex := 49, descriptorIndex := 183, attributes := #[] }] 33 2 #[] #[{ accessFlags := 25, nameIndex := 123, descriptorIndex := 124, attributes := #[] }, { accessFlags := 25, nameIndex := 130, descriptorIndex := 124, attributes := #[] }, { accessFlags := 25, nameIndex := 136, descriptorIndex := 124, attributes := #[] }])
  fields := #[{ name := "SIOOBE_FORMATTER", type := (.object "java/util/function/BiFunction"), accessFlags := 25, slot := 0, constantValue := 0 }, { name := "AIOOBE_FORMATTER", type := (.object "java/util/function/BiFunction"), accessFlags := 25, slot := 1, constantValue := 0 }, { name := "IOOBE_FORMATTER", type := (.object "java/util/function/BiFunction"), accessFlags := 25, slot := 2, constantValue := 0 }]
  methods := #[k9m0, k9m1, k9m2]
  instanceTypes := #[]
  staticTypes := #[(.object "java/util/function/BiFunction"), (.object "java/util/function/BiFunction"), (.object "java/util/function/BiFunction")]
  resolved := Array.replicate 194 none
  statics := some 1 }

def pool10 : Array CpInfo := pool [(3, .class_ 4), (0, u "java/lang/String"), (1, .class_ 8), (1, u "java/lang/Object"), (0, u "<init>"), (0, u "()V"), (0, .methodref 12 13), (0, .class_ 14), (0, .nameAndType 15 16), (0, u "java/lang/StringUTF16"), (0, u "newBytesLength"), (0, u "(I)I"), (3, .integer 1073741823), (23, .fieldref 12 45), (0, .nameAndType 46 47), (0, u "$assertionsDisabled"), (0, u "Z"), (0, .methodref 12 49), (0, .nameAndType 50 51), (0, u "length"), (0, u "([B)I"), (7, .fieldref 12 60), (0, .nameAndType 61 62), (0, u "HI_BYTE_SHIFT"), (0, u "I"), (0, .fieldref 12 64), (0, .nameAndType 65 62), (0, u "LO_BYTE_SHIFT"), (1, .methodref 12 68), (0, .nameAndType 69 70), (0, u "checkIndex"), (0, u "(I[B)V"), (0, .methodref 12 72), (0, .nameAndType 73 74), (0, u "getChar"), (0, u "([BI)C"), (32, .methodref 12 108), (0, .nameAndType 109 110), (0, u "newBytesFor"), (0, u "(I)[B"), (0, .methodref 12 112), (0, .nameAndType 113 114), (0, u "putChar"), (0, u "([BII)V"), (0, .methodref 12 116), (0, .nameAndType 117 118), (0, u "compress"), (0, u "([CI[BII)I"), (0, .methodref 12 120), (0, .nameAndType 121 122), (0, u "toBytes"), (0, u "([CII)[B"), (138, u "coderFromArrayLen"), (0, u "([BI)B"), (106, .class_ 371), (1, u "java/lang/StringUTF16$LinesSpliterator"), (20, u "charAt"), (21, .methodref 3 415), (0, .nameAndType 69 416), (0, u "(II)V"), (13, u "MAX_LENGTH"), (196, .class_ 628), (0, u "java/lang/StringUTF16$CodePointsSpliterator"), (0, .class_ 630), (0, u "java/lang/StringUTF16$CharsSpliterator")] 4

def k10m0 : Method := { name := "<init>", desc := "()V", sig := { parameters := [], returnType := none }, accessFlags := 0, code := none }
def k10c1 : Code := { maxStack := 1, maxLocals := 1, code := jdk_52_method_2_code, exceptionTable := #[], attributes := #[] }
def k10m1 : Method := { name := "newBytesFor", desc := "(I)[B", sig := { parameters := [.int], returnType := some (.array .byte) }, accessFlags := 9, code := some k10c1 }
def k10c2 : Code := { maxStack := 4, maxLocals := 1, code := jdk_52_method_3_code, exceptionTable := #[], attributes := #[] }
def k10m2 : Method := { name := "newBytesLength", desc := "(I)I", sig := { parameters := [.int], returnType := some .int }, accessFlags := 9, code := some k10c2 }
def k10c3 : Code := { maxStack := 4, maxLocals := 3, code := jdk_52_method_4_code, exceptionTable := #[], attributes := #[] }
def k10m3 : Method := { name := "putChar", desc := "([BII)V", sig := { parameters := [(.array .byte), .int, .int], returnType := none }, accessFlags := 8, code := some k10c3 }
def k10c4 : Code := { maxStack := 3, maxLocals := 2, code := jdk_52_method_5_code, exceptionTable := #[], attributes := #[] }
def k10m4 : Method := { name := "getChar", desc := "([BI)C", sig := { parameters := [(.array .byte), .int], returnType := some .char }, accessFlags := 8, code := some k10c4 }
def k10c5 : Code := { maxStack := 2, maxLocals := 1, code := jdk_52_method_6_code, exceptionTable := #[], attributes := #[] }
def k10m5 : Method := { name := "length", desc := "([B)I", sig := { parameters := [(.array .byte)], returnType := some .int }, accessFlags := 9, code := some k10c5 }
def k10c6 : Code := { maxStack := 4, maxLocals := 5, code := jdk_52_method_14_code, exceptionTable := #[], attributes := #[] }
def k10m6 : Method := { name := "toBytes", desc := "([CII)[B", sig := { parameters := [(.array .char), .int, .int], returnType := some (.array .byte) }, accessFlags := 9, code := some k10c6 }
def k10c7 : Code := { maxStack := 2, maxLocals := 2, code := jdk_52_method_15_code, exceptionTable := #[], attributes := #[] }
def k10m7 : Method := { name := "coderFromArrayLen", desc := "([BI)B", sig := { parameters := [(.array .byte), .int], returnType := some .byte }, accessFlags := 8, code := some k10c7 }
def k10c8 : Code := { maxStack := 5, maxLocals := 6, code := jdk_52_method_16_code, exceptionTable := #[], attributes := #[] }
def k10m8 : Method := { name := "compress", desc := "([CII)[B", sig := { parameters := [(.array .char), .int, .int], returnType := some (.array .byte) }, accessFlags := 9, code := some k10c8 }
def k10c9 : Code := { maxStack := 3, maxLocals := 7, code := jdk_52_method_21_code, exceptionTable := #[], attributes := #[] }
def k10m9 : Method := { name := "compress", desc := "([CI[BII)I", sig := { parameters := [(.array .char), .int, (.array .byte), .int, .int], returnType := some .int }, accessFlags := 9, code := some k10c9 }
def k10c10 : Code := { maxStack := 2, maxLocals := 2, code := jdk_52_method_83_code, exceptionTable := #[], attributes := #[] }
def k10m10 : Method := { name := "charAt", desc := "([BI)C", sig := { parameters := [(.array .byte), .int], returnType := some .char }, accessFlags := 9, code := some k10c10 }
def k10c11 : Code := { maxStack := 2, maxLocals := 2, code := jdk_52_method_91_code, exceptionTable := #[], attributes := #[] }
def k10m11 : Method := { name := "checkIndex", desc := "(I[B)V", sig := { parameters := [.int, (.array .byte)], returnType := none }, accessFlags := 9, code := some k10c11 }
/-- java/lang/StringUTF16 -/
def k10 : Class := { plain "java/lang/StringUTF16" (some 0) with
  accessFlags := 48
  interfaces := #[]
  cf := some (fileOf pool10 12 #[.nestMembers #[627, 629, 369]] #[{ accessFlags := 0, nameIndex := 9, descriptorIndex := 10, attributes := #[] }, { accessFlags := 9, nameIndex := 109, descriptorIndex := 110, attributes := #[] }, { accessFlags := 9, nameIndex := 15, descriptorIndex := 16, attributes := #[] }, { accessFlags := 8, nameIndex := 113, descriptorIndex := 114, attributes := #[] }, { accessFlags := 8, nameIndex := 73, descriptorIndex := 74, attributes := #[] }, { accessFlags := 9, nameIndex := 50, descriptorIndex := 51, attributes := #[] }, { accessFlags := 9, nameIndex := 121, descriptorIndex := 122, attributes := #[] }, { accessFlags := 8, nameIndex := 261, descriptorIndex := 262, attributes := #[] }, { accessFlags := 9, nameIndex := 117, descriptorIndex := 122, attributes := #[] }, { accessFlags := 9, nameIndex := 117, descriptorIndex := 118, attributes := #[] }, { accessFlags := 9, nameIndex := 392, descriptorIndex := 74, attributes := #[] }, { accessFlags := 9, nameIndex := 69, descriptorIndex := 70, attributes := #[] }] 48 6 #[] #[{ accessFlags := 26, nameIndex := 61, descriptorIndex := 62, attributes := #[] }, { accessFlags := 26, nameIndex := 65, descriptorIndex := 62, attributes := #[] }, { accessFlags := 24, nameIndex := 430, descriptorIndex := 62, attributes := #[] }, { accessFlags := 4120, nameIndex := 46, descriptorIndex := 47, attributes := #[] }])
  fields := #[{ name := "HI_BYTE_SHIFT", type := .int, accessFlags := 26, slot := 0, constantValue := 0 }, { name := "LO_BYTE_SHIFT", type := .int, accessFlags := 26, slot := 1, constantValue := 0 }, { name := "MAX_LENGTH", type := .int, accessFlags := 24, slot := 2, constantValue := 0 }, { name := "$assertionsDisabled", type := .boolean, accessFlags := 4120, slot := 3, constantValue := 0 }]
  methods := #[k10m0, k10m1, k10m2, k10m3, k10m4, k10m5, k10m6, k10m7, k10m8, k10m9, k10m10, k10m11]
  instanceTypes := #[]
  staticTypes := #[.int, .int, .int, .boolean]
  resolved := Array.replicate 635 none
  statics := some 2 }

def pool11 : Array CpInfo := pool [(1, .class_ 2), (0, u "java/lang/String"), (1, .class_ 6), (1, u "java/lang/Object"), (0, u "<init>"), (0, u "()V"), (0, .methodref 1 10), (0, .nameAndType 11 12), (0, u "checkIndex"), (0, u "(II)V"), (1, .class_ 16), (1, u "java/lang/StringLatin1"), (36, u "([BI)C"), (67, u "$assertionsDisabled"), (0, u "Z"), (98, .class_ 223), (1, u "java/lang/StringLatin1$LinesSpliterator"), (28, u "charAt"), (137, .class_ 391), (0, u "java/lang/StringLatin1$CharsSpliterator")] 3

def k11m0 : Method := { name := "<init>", desc := "()V", sig := { parameters := [], returnType := none }, accessFlags := 0, code := none }
def k11c1 : Code := { maxStack := 2, maxLocals := 2, code := jdk_43_method_2_code, exceptionTable := #[], attributes := #[] }
def k11m1 : Method := { name := "charAt", desc := "([BI)C", sig := { parameters := [(.array .byte), .int], returnType := some .char }, accessFlags := 9, code := some k11c1 }
/-- java/lang/StringLatin1 -/
def k11 : Class := { plain "java/lang/StringLatin1" (some 0) with
  accessFlags := 48
  interfaces := #[]
  cf := some (fileOf pool11 14 #[.nestMembers #[390, 221]] #[{ accessFlags := 0, nameIndex := 7, descriptorIndex := 8, attributes := #[] }, { accessFlags := 9, nameIndex := 252, descriptorIndex := 53, attributes := #[] }] 48 4 #[] #[{ accessFlags := 4120, nameIndex := 121, descriptorIndex := 122, attributes := #[] }])
  fields := #[{ name := "$assertionsDisabled", type := .boolean, accessFlags := 4120, slot := 0, constantValue := 0 }]
  methods := #[k11m0, k11m1]
  instanceTypes := #[]
  staticTypes := #[.boolean]
  resolved := Array.replicate 395 none
  statics := none }

def pool12 : Array CpInfo := pool [(9, u "<init>"), (6, .class_ 18), (1, u "java/lang/Object"), (0, u "()V"), (1, .class_ 23), (1, u "jdk/internal/util/ArraysSupport"), (0, u "LOG2_ARRAY_LONG_INDEX_SCALE"), (0, u "I"), (2, u "U"), (0, u "Ljdk/internal/misc/Unsafe;"), (8, u "BIG_ENDIAN"), (0, u "Z"), (8, u "LOG2_BYTE_BIT_SIZE"), (4, u "LOG2_ARRAY_INT_INDEX_SCALE"), (54, u "JLA"), (0, u "Ljdk/internal/access/JavaLangAccess;"), (11, u "LOG2_ARRAY_BOOLEAN_INDEX_SCALE"), (9, u "LOG2_ARRAY_BYTE_INDEX_SCALE"), (5, u "LOG2_ARRAY_CHAR_INDEX_SCALE"), (5, u "LOG2_ARRAY_SHORT_INDEX_SCALE"), (18, u "LOG2_ARRAY_FLOAT_INDEX_SCALE"), (24, u "LOG2_ARRAY_DOUBLE_INDEX_SCALE"), (89, u "T_BOOLEAN"), (2, u "T_CHAR"), (1, u "T_FLOAT"), (1, u "T_DOUBLE"), (1, u "T_BYTE"), (1, u "T_SHORT"), (1, u "T_INT"), (1, u "T_LONG"), (1, u "SOFT_MAX_ARRAY_LENGTH")] 83

def k12m0 : Method := { name := "<init>", desc := "()V", sig := { parameters := [], returnType := none }, accessFlags := 2, code := none }
/-- jdk/internal/util/ArraysSupport -/
def k12 : Class := { plain "jdk/internal/util/ArraysSupport" (some 0) with
  accessFlags := 33
  interfaces := #[]
  cf := some (fileOf pool12 21 #[] #[{ accessFlags := 2, nameIndex := 9, descriptorIndex := 19, attributes := #[] }] 33 16 #[] #[{ accessFlags := 24, nameIndex := 28, descriptorIndex := 29, attributes := #[] }, { accessFlags := 26, nameIndex := 38, descriptorIndex := 39, attributes := #[] }, { accessFlags := 25, nameIndex := 121, descriptorIndex := 25, attributes := #[] }, { accessFlags := 25, nameIndex := 131, descriptorIndex := 25, attributes := #[] }, { accessFlags := 25, nameIndex := 137, descriptorIndex := 25, attributes := #[] }, { accessFlags := 25, nameIndex := 143, descriptorIndex := 25, attributes := #[] }, { accessFlags := 25, nameIndex := 53, descriptorIndex := 25, attributes := #[] }, { accessFlags := 25, nameIndex := 24, descriptorIndex := 25, attributes := #[] }, { accessFlags := 25, nameIndex := 162, descriptorIndex := 25, attributes := #[] }, { accessFlags := 25, nameIndex := 187, descriptorIndex := 25, attributes := #[] }, { accessFlags := 26, nameIndex := 48, descriptorIndex := 25, attributes := #[] }, { accessFlags := 25, nameIndex := 277, descriptorIndex := 25, attributes := #[] }, { accessFlags := 25, nameIndex := 280, descriptorIndex := 25, attributes := #[] }, { accessFlags := 25, nameIndex := 282, descriptorIndex := 25, attributes := #[] }, { accessFlags := 25, nameIndex := 284, descriptorIndex := 25, attributes := #[] }, { accessFlags := 25, nameIndex := 286, descriptorIndex := 25, attributes := #[] }, { accessFlags := 25, nameIndex := 288, descriptorIndex := 25, attributes := #[] }, { accessFlags := 25, nameIndex := 290, descriptorIndex := 25, attributes := #[] }, { accessFlags := 25, nameIndex := 292, descriptorIndex := 25, attributes := #[] }, { accessFlags := 26, nameIndex := 108, descriptorIndex := 109, attributes := #[] }, { accessFlags := 25, nameIndex := 294, descriptorIndex := 25, attributes := #[] }])
  fields := #[{ name := "U", type := (.object "jdk/internal/misc/Unsafe"), accessFlags := 24, slot := 0, constantValue := 0 }, { name := "BIG_ENDIAN", type := .boolean, accessFlags := 26, slot := 1, constantValue := 0 }, { name := "LOG2_ARRAY_BOOLEAN_INDEX_SCALE", type := .int, accessFlags := 25, slot := 2, constantValue := 0 }, { name := "LOG2_ARRAY_BYTE_INDEX_SCALE", type := .int, accessFlags := 25, slot := 3, constantValue := 0 }, { name := "LOG2_ARRAY_CHAR_INDEX_SCALE", type := .int, accessFlags := 25, slot := 4, constantValue := 0 }, { name := "LOG2_ARRAY_SHORT_INDEX_SCALE", type := .int, accessFlags := 25, slot := 5, constantValue := 0 }, { name := "LOG2_ARRAY_INT_INDEX_SCALE", type := .int, accessFlags := 25, slot := 6, constantValue := 0 }, { name := "LOG2_ARRAY_LONG_INDEX_SCALE", type := .int, accessFlags := 25, slot := 7, constantValue := 0 }, { name := "LOG2_ARRAY_FLOAT_INDEX_SCALE", type := .int, accessFlags := 25, slot := 8, constantValue := 0 }, { name := "LOG2_ARRAY_DOUBLE_INDEX_SCALE", type := .int, accessFlags := 25, slot := 9, constantValue := 0 }, { name := "LOG2_BYTE_BIT_SIZE", type := .int, accessFlags := 26, slot := 10, constantValue := 0 }, { name := "T_BOOLEAN", type := .int, accessFlags := 25, slot := 11, constantValue := 0 }, { name := "T_CHAR", type := .int, accessFlags := 25, slot := 12, constantValue := 0 }, { name := "T_FLOAT", type := .int, accessFlags := 25, slot := 13, constantValue := 0 }, { name := "T_DOUBLE", type := .int, accessFlags := 25, slot := 14, constantValue := 0 }, { name := "T_BYTE", type := .int, accessFlags := 25, slot := 15, constantValue := 0 }, { name := "T_SHORT", type := .int, accessFlags := 25, slot := 16, constantValue := 0 }, { name := "T_INT", type := .int, accessFlags := 25, slot := 17, constantValue := 0 }, { name := "T_LONG", type := .int, accessFlags := 25, slot := 18, constantValue := 0 }, { name := "JLA", type := (.object "jdk/internal/access/JavaLangAccess"), accessFlags := 26, slot := 19, constantValue := 0 }, { name := "SOFT_MAX_ARRAY_LENGTH", type := .int, accessFlags := 25, slot := 20, constantValue := 0 }]
  methods := #[k12m0]
  instanceTypes := #[]
  staticTypes := #[(.object "jdk/internal/misc/Unsafe"), .boolean, .int, .int, .int, .int, .int, .int, .int, .int, .int, .int, .int, .int, .int, .int, .int, .int, .int, (.object "jdk/internal/access/JavaLangAccess"), .int]
  resolved := Array.replicate 378 none
  statics := none }

def pool13 : Array CpInfo := pool [(1, u "java/lang/Cloneable"), (0, .class_ 1), (0, u "java/lang/Object"), (0, .class_ 3)] 3

/-- java/lang/Cloneable -/
def k13 : Class := { plain "java/lang/Cloneable" (some 0) with
  accessFlags := 1537
  interfaces := #[]
  cf := some (fileOf pool13 2 #[] #[] 1537 4 #[] #[])
  fields := #[]
  methods := #[]
  instanceTypes := #[]
  staticTypes := #[]
  resolved := Array.replicate 8 none
  statics := none }

/-- the primitive byte -/
def k14 : Class := { plain "byte" none with kind := .primitive 'B', accessFlags := 0x411 }
/-- [B -/
def k15 : Class := { plain "[B" (some 0) with kind := .array 14 .byte, interfaces := #[13, 3], accessFlags := 1041 }

/-- the primitive char -/
def k16 : Class := { plain "char" none with kind := .primitive 'C', accessFlags := 0x411 }
/-- [C -/
def k17 : Class := { plain "[C" (some 0) with kind := .array 16 .char, interfaces := #[13, 3], accessFlags := 1041 }

/-- the primitive int -/
def k18 : Class := { plain "int" none with kind := .primitive 'I', accessFlags := 0x411 }
/-- [I -/
def k19 : Class := { plain "[I" (some 0) with kind := .array 18 .int, interfaces := #[13, 3], accessFlags := 1041 }

def heap : Heap := #[{ cls := 8, slots := #[.long 0, .int 1, .null, .int 0, .null, .int 0, .int 0], vm := .statics 8 },
  { cls := 9, slots := #[.null, .null, .null], vm := .statics 9 },
  { cls := 10, slots := #[.int 0, .int 8, .int 0, .int 1], vm := .statics 10 }]
def classes : Array Class := #[k0, k1, k2, k3, k4, k5, k6, k7, k8, k9, k10, k11, k12, k13, k14, k15, k16, k17, k18, k19]
def interned : List (Array UInt16 × Addr) := []
def slotsUsed : Nat := 14
def theMethod : MethodId := ⟨1, 1⟩
def args0 : Array Value := #[.int 3, .long 5, .int 6]
def aboutOver (below : List Frame) : State where
  vm := { classes := classes, interned := interned.toArray }
  heap := heap
  slotsUsed := slotsUsed
  threads := #[{ frames := .invoking theMethod args0 :: below }]
def below0 : List Frame := [.native { method := ⟨0, 0⟩, args := #[] }]
def about1 : State := aboutOver below0
def p0 : Program := .bare "" "" ""
def e0 : Env := launch0.env 0 0 0
theorem w_frames : about1.frames = Frame.invoking theMethod args0 :: below0 := rfl
set_option maxRecDepth 65536 in
theorem w_args : argsFit about1.vm theMethod args0 = true := by decide +kernel
set_option maxRecDepth 65536 in
theorem w_heap : heapFits about1 = true := by decide +kernel
set_option maxRecDepth 65536 in
theorem w_runnable : about1.curStatus? = some .runnable := by decide +kernel
set_option maxRecDepth 65536 in
theorem w_alone : about1.alone = true := by decide +kernel
set_option maxRecDepth 65536 in
theorem w_named : about1.methodNamed? x = some theMethod := by decide +kernel
set_option maxRecDepth 65536 in
theorem w_hears : about1.hears theMethod below0 = true := by decide +kernel
set_option maxRecDepth 65536 in
theorem w_ripe : about1.ripe theMethod args0 below0 = true := by decide +kernel
theorem w_running : about1.status = .running := rfl
set_option maxRecDepth 65536 in
theorem w_room : about1.hasRoom e0.platform room_1 = true :=
  launch0.hasRoom_least _ room_1 (by decide +kernel) (by decide +kernel) (by decide +kernel) (by decide +kernel) (by decide +kernel) (by decide +kernel)
theorem allAtoms_all (ts : List Jvm.Cond) (a : Array Jvm.Value) (st : Jvm.State) : (allAtoms ts).before a st = ts.all (fun c => c.before a st) := by
  induction ts with
  | nil => rfl
  | cons c t ih =>
    show (Jvm.Cond.and c (allAtoms t)).before a st = _
    rw [Jvm.Cond.before_and, ih, List.all_cons]
def words1 : List Jvm.Cond := Jvm.Cond.code x code maxLocals ret :: tables_1
/-- a 'code' word, met by the world's own term for the bytes: nothing is compared byte by byte -/
theorem code_word {y : MethodName} {bytes : ByteArray} {mx : Nat} {rt : Option FieldType} {a : Array Value} {s : State} {m : MethodId} {meth : Method} {c : Code} (h1 : s.methodNamed? y = some m) (h2 : s.vm.method? m = some meth) (h3 : meth.code = some c) (h4 : c.code = bytes)
    (h5 : (c.maxLocals == mx && c.exceptionTable.isEmpty && decide (c.maxStack ≤ mostOperands) && decide (meth.sig.returnType = rt) && !meth.locks && decide (parseMethodDescriptor y.desc = some meth.sig)) = true) : (Jvm.Cond.code y bytes mx rt).before a s = true := by
  simp only [Bool.and_eq_true, beq_iff_eq, Bool.not_eq_true', decide_eq_true_eq] at h5
  obtain ⟨⟨⟨⟨⟨g1, g2⟩, g3⟩, g4⟩, g5⟩, g6⟩ := h5
  simp [Cond.before, Cond.holds, Cond.value, h1, h2, h3, h4, g1, g2, g3, g4, g5, g6]
def isCode : Jvm.Cond → Bool
  | .code _ _ _ _ => true
  | _ => false
theorem all_split {L : List Jvm.Cond} {P : Jvm.Cond → Bool} (h1 : L.all (fun c => isCode c || P c) = true) (h2 : ∀ c ∈ L.filter isCode, P c = true) : L.all P = true := by
  refine List.all_eq_true.mpr fun c hc => ?_
  have h := List.all_eq_true.mp h1 c hc
  rcases Bool.eq_false_or_eq_true (isCode c) with hi | hi
  · exact h2 c (List.mem_filter.mpr ⟨hc, hi⟩)
  · simpa [hi] using h
set_option maxRecDepth 65536 in
theorem w_c0 : (Jvm.Cond.code x code maxLocals ret).before args0 about1 = true := code_word (m := ⟨1, 1⟩) (meth := k1m1) (c := k1c1) (by decide +kernel) rfl rfl rfl (by decide +kernel)
set_option maxRecDepth 65536 in
theorem w_c1 : (Jvm.Cond.code ({ cls := "com/example/ruth/ruth/protocol/XmlText", name := "<init>", desc := "()V" } : Jvm.MethodName) prog_41_method_1_code (1 : Nat) (Option.none : Option Jvm.ClassFile.FieldType)).before args0 about1 = true := code_word (m := ⟨2, 0⟩) (meth := k2m0) (c := k2c0) (by decide +kernel) rfl rfl rfl (by decide +kernel)
set_option maxRecDepth 65536 in
theorem w_c2 : (Jvm.Cond.code ({ cls := "java/lang/Object", name := "<init>", desc := "()V" } : Jvm.MethodName) object_method_1_code (1 : Nat) (Option.none : Option Jvm.ClassFile.FieldType)).before args0 about1 = true := code_word (m := ⟨0, 0⟩) (meth := k0m0) (c := k0c0) (by decide +kernel) rfl rfl rfl (by decide +kernel)
set_option maxRecDepth 65536 in
theorem w_c3 : (Jvm.Cond.code ({ cls := "com/example/ruth/ruth/protocol/XmlText", name := "toString", desc := "()Ljava/lang/String;" } : Jvm.MethodName) prog_41_method_13_code (1 : Nat) (Option.some (Jvm.ClassFile.FieldType.object "java/lang/String"))).before args0 about1 = true := code_word (m := ⟨2, 3⟩) (meth := k2m3) (c := k2c3) (by decide +kernel) rfl rfl rfl (by decide +kernel)
set_option maxRecDepth 65536 in
theorem w_c4 : (Jvm.Cond.code ({ cls := "java/lang/String", name := "<init>", desc := "([CII)V" } : Jvm.MethodName) jdk_42_method_4_code (4 : Nat) (Option.none : Option Jvm.ClassFile.FieldType)).before args0 about1 = true := code_word (m := ⟨8, 1⟩) (meth := k8m1) (c := k8c1) (by decide +kernel) rfl rfl rfl (by decide +kernel)
set_option maxRecDepth 65536 in
theorem w_c5 : (Jvm.Cond.code ({ cls := "java/lang/String", name := "rangeCheck", desc := "([CII)Ljava/lang/Void;" } : Jvm.MethodName) jdk_42_method_5_code (3 : Nat) (Option.some (Jvm.ClassFile.FieldType.object "java/lang/Void"))).before args0 about1 = true := code_word (m := ⟨8, 2⟩) (meth := k8m2) (c := k8c2) (by decide +kernel) rfl rfl rfl (by decide +kernel)
set_option maxRecDepth 65536 in
theorem w_c6 : (Jvm.Cond.code ({ cls := "java/lang/String", name := "checkBoundsOffCount", desc := "(III)I" } : Jvm.MethodName) jdk_42_method_157_code (3 : Nat) (Option.some Jvm.ClassFile.FieldType.int)).before args0 about1 = true := code_word (m := ⟨8, 9⟩) (meth := k8m9) (c := k8c9) (by decide +kernel) rfl rfl rfl (by decide +kernel)
set_option maxRecDepth 65536 in
theorem w_c7 : (Jvm.Cond.code ({ cls := "jdk/internal/util/Preconditions", name := "checkFromIndexSize", desc := "(IIILjava/util/function/BiFunction;)I" } : Jvm.MethodName) jdk_41_method_13_code (4 : Nat) (Option.some Jvm.ClassFile.FieldType.int)).before args0 about1 = true := code_word (m := ⟨9, 2⟩) (meth := k9m2) (c := k9c2) (by decide +kernel) rfl rfl rfl (by decide +kernel)
set_option maxRecDepth 65536 in
theorem w_c8 : (Jvm.Cond.code ({ cls := "java/lang/String", name := "<init>", desc := "([CIILjava/lang/Void;)V" } : Jvm.MethodName) jdk_42_method_149_code (6 : Nat) (Option.none : Option Jvm.ClassFile.FieldType)).before args0 about1 = true := code_word (m := ⟨8, 5⟩) (meth := k8m5) (c := k8c5) (by decide +kernel) rfl rfl rfl (by decide +kernel)
set_option maxRecDepth 65536 in
theorem w_c9 : (Jvm.Cond.code ({ cls := "java/lang/String", name := "length", desc := "()I" } : Jvm.MethodName) jdk_42_method_54_code (1 : Nat) (Option.some Jvm.ClassFile.FieldType.int)).before args0 about1 = true := code_word (m := ⟨8, 3⟩) (meth := k8m3) (c := k8c3) (by decide +kernel) rfl rfl rfl (by decide +kernel)
set_option maxRecDepth 65536 in
theorem w_c10 : (Jvm.Cond.code ({ cls := "java/lang/String", name := "coder", desc := "()B" } : Jvm.MethodName) jdk_42_method_152_code (1 : Nat) (Option.some Jvm.ClassFile.FieldType.byte)).before args0 about1 = true := code_word (m := ⟨8, 6⟩) (meth := k8m6) (c := k8c6) (by decide +kernel) rfl rfl rfl (by decide +kernel)
set_option maxRecDepth 65536 in
theorem w_c11 : (Jvm.Cond.code ({ cls := "com/example/ruth/ruth/protocol/XmlText", name := "length", desc := "()I" } : Jvm.MethodName) prog_41_method_2_code (1 : Nat) (Option.some Jvm.ClassFile.FieldType.int)).before args0 about1 = true := code_word (m := ⟨2, 1⟩) (meth := k2m1) (c := k2c1) (by decide +kernel) rfl rfl rfl (by decide +kernel)
set_option maxRecDepth 65536 in
theorem w_c12 : (Jvm.Cond.code ({ cls := "com/example/ruth/ruth/protocol/XmlText", name := "append", desc := "(C)Lcom/example/ruth/ruth/protocol/XmlText;" } : Jvm.MethodName) prog_41_method_5_code (2 : Nat) (Option.some (Jvm.ClassFile.FieldType.object "com/example/ruth/ruth/protocol/XmlText"))).before args0 about1 = true := code_word (m := ⟨2, 2⟩) (meth := k2m2) (c := k2c2) (by decide +kernel) rfl rfl rfl (by decide +kernel)
set_option maxRecDepth 65536 in
theorem w_c13 : (Jvm.Cond.code ({ cls := "com/example/ruth/ruth/protocol/XmlText", name := "makeRoom", desc := "(I)V" } : Jvm.MethodName) prog_41_method_16_code (3 : Nat) (Option.none : Option Jvm.ClassFile.FieldType)).before args0 about1 = true := code_word (m := ⟨2, 4⟩) (meth := k2m4) (c := k2c4) (by decide +kernel) rfl rfl rfl (by decide +kernel)
set_option maxRecDepth 65536 in
theorem w_c14 : (Jvm.Cond.code ({ cls := "java/lang/StringUTF16", name := "compress", desc := "([CII)[B" } : Jvm.MethodName) jdk_52_method_16_code (6 : Nat) (Option.some (Jvm.ClassFile.FieldType.array Jvm.ClassFile.FieldType.byte))).before args0 about1 = true := code_word (m := ⟨10, 8⟩) (meth := k10m8) (c := k10c8) (by decide +kernel) rfl rfl rfl (by decide +kernel)
set_option maxRecDepth 65536 in
theorem w_c15 : (Jvm.Cond.code ({ cls := "java/lang/StringUTF16", name := "compress", desc := "([CI[BII)I" } : Jvm.MethodName) jdk_52_method_21_code (7 : Nat) (Option.some Jvm.ClassFile.FieldType.int)).before args0 about1 = true := code_word (m := ⟨10, 9⟩) (meth := k10m9) (c := k10c9) (by decide +kernel) rfl rfl rfl (by decide +kernel)
set_option maxRecDepth 65536 in
theorem w_c16 : (Jvm.Cond.code ({ cls := "java/lang/StringUTF16", name := "coderFromArrayLen", desc := "([BI)B" } : Jvm.MethodName) jdk_52_method_15_code (2 : Nat) (Option.some Jvm.ClassFile.FieldType.byte)).before args0 about1 = true := code_word (m := ⟨10, 7⟩) (meth := k10m7) (c := k10c7) (by decide +kernel) rfl rfl rfl (by decide +kernel)
set_option maxRecDepth 65536 in
theorem w_c17 : (Jvm.Cond.code ({ cls := "java/lang/String", name := "charAt", desc := "(I)C" } : Jvm.MethodName) jdk_42_method_56_code (2 : Nat) (Option.some Jvm.ClassFile.FieldType.char)).before args0 about1 = true := code_word (m := ⟨8, 4⟩) (meth := k8m4) (c := k8c4) (by decide +kernel) rfl rfl rfl (by decide +kernel)
set_option maxRecDepth 65536 in
theorem w_c18 : (Jvm.Cond.code ({ cls := "java/lang/String", name := "isLatin1", desc := "()Z" } : Jvm.MethodName) jdk_42_method_154_code (1 : Nat) (Option.some Jvm.ClassFile.FieldType.boolean)).before args0 about1 = true := code_word (m := ⟨8, 7⟩) (meth := k8m7) (c := k8c7) (by decide +kernel) rfl rfl rfl (by decide +kernel)
set_option maxRecDepth 65536 in
theorem w_c19 : (Jvm.Cond.code ({ cls := "java/lang/StringLatin1", name := "charAt", desc := "([BI)C" } : Jvm.MethodName) jdk_43_method_2_code (2 : Nat) (Option.some Jvm.ClassFile.FieldType.char)).before args0 about1 = true := code_word (m := ⟨11, 1⟩) (meth := k11m1) (c := k11c1) (by decide +kernel) rfl rfl rfl (by decide +kernel)
set_option maxRecDepth 65536 in
theorem w_c20 : (Jvm.Cond.code ({ cls := "java/lang/String", name := "checkIndex", desc := "(II)V" } : Jvm.MethodName) jdk_42_method_155_code (2 : Nat) (Option.none : Option Jvm.ClassFile.FieldType)).before args0 about1 = true := code_word (m := ⟨8, 8⟩) (meth := k8m8) (c := k8c8) (by decide +kernel) rfl rfl rfl (by decide +kernel)
set_option maxRecDepth 65536 in
theorem w_c21 : (Jvm.Cond.code ({ cls := "jdk/internal/util/Preconditions", name := "checkIndex", desc := "(IILjava/util/function/BiFunction;)I" } : Jvm.MethodName) jdk_41_method_11_code (3 : Nat) (Option.some Jvm.ClassFile.FieldType.int)).before args0 about1 = true := code_word (m := ⟨9, 1⟩) (meth := k9m1) (c := k9c1) (by decide +kernel) rfl rfl rfl (by decide +kernel)
set_option maxRecDepth 65536 in
theorem w_c22 : (Jvm.Cond.code ({ cls := "java/lang/StringUTF16", name := "toBytes", desc := "([CII)[B" } : Jvm.MethodName) jdk_52_method_14_code (5 : Nat) (Option.some (Jvm.ClassFile.FieldType.array Jvm.ClassFile.FieldType.byte))).before args0 about1 = true := code_word (m := ⟨10, 6⟩) (meth := k10m6) (c := k10c6) (by decide +kernel) rfl rfl rfl (by decide +kernel)
set_option maxRecDepth 65536 in
theorem w_c23 : (Jvm.Cond.code ({ cls := "java/lang/StringUTF16", name := "newBytesFor", desc := "(I)[B" } : Jvm.MethodName) jdk_52_method_2_code (1 : Nat) (Option.some (Jvm.ClassFile.FieldType.array Jvm.ClassFile.FieldType.byte))).before args0 about1 = true := code_word (m := ⟨10, 1⟩) (meth := k10m1) (c := k10c1) (by decide +kernel) rfl rfl rfl (by decide +kernel)
set_option maxRecDepth 65536 in
theorem w_c24 : (Jvm.Cond.code ({ cls := "java/lang/StringUTF16", name := "newBytesLength", desc := "(I)I" } : Jvm.MethodName) jdk_52_method_3_code (1 : Nat) (Option.some Jvm.ClassFile.FieldType.int)).before args0 about1 = true := code_word (m := ⟨10, 2⟩) (meth := k10m2) (c := k10c2) (by decide +kernel) rfl rfl rfl (by decide +kernel)
set_option maxRecDepth 65536 in
theorem w_c25 : (Jvm.Cond.code ({ cls := "java/lang/StringUTF16", name := "putChar", desc := "([BII)V" } : Jvm.MethodName) jdk_52_method_4_code (3 : Nat) (Option.none : Option Jvm.ClassFile.FieldType)).before args0 about1 = true := code_word (m := ⟨10, 3⟩) (meth := k10m3) (c := k10c3) (by decide +kernel) rfl rfl rfl (by decide +kernel)
set_option maxRecDepth 65536 in
theorem w_c26 : (Jvm.Cond.code ({ cls := "java/lang/StringUTF16", name := "getChar", desc := "([BI)C" } : Jvm.MethodName) jdk_52_method_5_code (2 : Nat) (Option.some Jvm.ClassFile.FieldType.char)).before args0 about1 = true := code_word (m := ⟨10, 4⟩) (meth := k10m4) (c := k10c4) (by decide +kernel) rfl rfl rfl (by decide +kernel)
set_option maxRecDepth 65536 in
theorem w_c27 : (Jvm.Cond.code ({ cls := "java/lang/StringUTF16", name := "charAt", desc := "([BI)C" } : Jvm.MethodName) jdk_52_method_83_code (2 : Nat) (Option.some Jvm.ClassFile.FieldType.char)).before args0 about1 = true := code_word (m := ⟨10, 10⟩) (meth := k10m10) (c := k10c10) (by decide +kernel) rfl rfl rfl (by decide +kernel)
set_option maxRecDepth 65536 in
theorem w_c28 : (Jvm.Cond.code ({ cls := "java/lang/StringUTF16", name := "checkIndex", desc := "(I[B)V" } : Jvm.MethodName) jdk_52_method_91_code (2 : Nat) (Option.none : Option Jvm.ClassFile.FieldType)).before args0 about1 = true := code_word (m := ⟨10, 11⟩) (meth := k10m11) (c := k10c11) (by decide +kernel) rfl rfl rfl (by decide +kernel)
set_option maxRecDepth 65536 in
theorem w_c29 : (Jvm.Cond.code ({ cls := "java/lang/StringUTF16", name := "length", desc := "([B)I" } : Jvm.MethodName) jdk_52_method_6_code (1 : Nat) (Option.some Jvm.ClassFile.FieldType.int)).before args0 about1 = true := code_word (m := ⟨10, 5⟩) (meth := k10m5) (c := k10c5) (by decide +kernel) rfl rfl rfl (by decide +kernel)
def codes1 : List Jvm.Cond := [Jvm.Cond.code x code maxLocals ret, Jvm.Cond.code ({ cls := "com/example/ruth/ruth/protocol/XmlText", name := "<init>", desc := "()V" } : Jvm.MethodName) prog_41_method_1_code (1 : Nat) (Option.none : Option Jvm.ClassFile.FieldType), Jvm.Cond.code ({ cls := "java/lang/Object", name := "<init>", desc := "()V" } : Jvm.MethodName) object_method_1_code (1 : Nat) (Option.none : Option Jvm.ClassFile.FieldType), Jvm.Cond.code ({ cls := "com/example/ruth/ruth/protocol/XmlText", name := "toString", desc := "()Ljava/lang/String;" } : Jvm.MethodName) prog_41_method_13_code (1 : Nat) (Option.some (Jvm.ClassFile.FieldType.object "java/lang/String")), Jvm.Cond.code ({ cls := "java/lang/String", name := "<init>", desc := "([CII)V" } : Jvm.MethodName) jdk_42_method_4_code (4 : Nat) (Option.none : Option Jvm.ClassFile.FieldType), Jvm.Cond.code ({ cls := "java/lang/String", name := "rangeCheck", desc := "([CII)Ljava/lang/Void;" } : Jvm.MethodName) jdk_42_method_5_code (3 : Nat) (Option.some (Jvm.ClassFile.FieldType.object "java/lang/Void")), Jvm.Cond.code ({ cls := "java/lang/String", name := "checkBoundsOffCount", desc := "(III)I" } : Jvm.MethodName) jdk_42_method_157_code (3 : Nat) (Option.some Jvm.ClassFile.FieldType.int), Jvm.Cond.code ({ cls := "jdk/internal/util/Preconditions", name := "checkFromIndexSize", desc := "(IIILjava/util/function/BiFunction;)I" } : Jvm.MethodName) jdk_41_method_13_code (4 : Nat) (Option.some Jvm.ClassFile.FieldType.int), Jvm.Cond.code ({ cls := "java/lang/String", name := "<init>", desc := "([CIILjava/lang/Void;)V" } : Jvm.MethodName) jdk_42_method_149_code (6 : Nat) (Option.none : Option Jvm.ClassFile.FieldType), Jvm.Cond.code ({ cls := "java/lang/String", name := "length", desc := "()I" } : Jvm.MethodName) jdk_42_method_54_code (1 : Nat) (Option.some Jvm.ClassFile.FieldType.int), Jvm.Cond.code ({ cls := "java/lang/String", name := "coder", desc := "()B" } : Jvm.MethodName) jdk_42_method_152_code (1 : Nat) (Option.some Jvm.ClassFile.FieldType.byte), Jvm.Cond.code ({ cls := "com/example/ruth/ruth/protocol/XmlText", name := "length", desc := "()I" } : Jvm.MethodName) prog_41_method_2_code (1 : Nat) (Option.some Jvm.ClassFile.FieldType.int), Jvm.Cond.code ({ cls := "com/example/ruth/ruth/protocol/XmlText", name := "append", desc := "(C)Lcom/example/ruth/ruth/protocol/XmlText;" } : Jvm.MethodName) prog_41_method_5_code (2 : Nat) (Option.some (Jvm.ClassFile.FieldType.object "com/example/ruth/ruth/protocol/XmlText")), Jvm.Cond.code ({ cls := "com/example/ruth/ruth/protocol/XmlText", name := "makeRoom", desc := "(I)V" } : Jvm.MethodName) prog_41_method_16_code (3 : Nat) (Option.none : Option Jvm.ClassFile.FieldType), Jvm.Cond.code ({ cls := "java/lang/StringUTF16", name := "compress", desc := "([CII)[B" } : Jvm.MethodName) jdk_52_method_16_code (6 : Nat) (Option.some (Jvm.ClassFile.FieldType.array Jvm.ClassFile.FieldType.byte)), Jvm.Cond.code ({ cls := "java/lang/StringUTF16", name := "compress", desc := "([CI[BII)I" } : Jvm.MethodName) jdk_52_method_21_code (7 : Nat) (Option.some Jvm.ClassFile.FieldType.int), Jvm.Cond.code ({ cls := "java/lang/StringUTF16", name := "coderFromArrayLen", desc := "([BI)B" } : Jvm.MethodName) jdk_52_method_15_code (2 : Nat) (Option.some Jvm.ClassFile.FieldType.byte), Jvm.Cond.code ({ cls := "java/lang/String", name := "charAt", desc := "(I)C" } : Jvm.MethodName) jdk_42_method_56_code (2 : Nat) (Option.some Jvm.ClassFile.FieldType.char), Jvm.Cond.code ({ cls := "java/lang/String", name := "isLatin1", desc := "()Z" } : Jvm.MethodName) jdk_42_method_154_code (1 : Nat) (Option.some Jvm.ClassFile.FieldType.boolean), Jvm.Cond.code ({ cls := "java/lang/StringLatin1", name := "charAt", desc := "([BI)C" } : Jvm.MethodName) jdk_43_method_2_code (2 : Nat) (Option.some Jvm.ClassFile.FieldType.char), Jvm.Cond.code ({ cls := "java/lang/String", name := "checkIndex", desc := "(II)V" } : Jvm.MethodName) jdk_42_method_155_code (2 : Nat) (Option.none : Option Jvm.ClassFile.FieldType), Jvm.Cond.code ({ cls := "jdk/internal/util/Preconditions", name := "checkIndex", desc := "(IILjava/util/function/BiFunction;)I" } : Jvm.MethodName) jdk_41_method_11_code (3 : Nat) (Option.some Jvm.ClassFile.FieldType.int), Jvm.Cond.code ({ cls := "java/lang/StringUTF16", name := "toBytes", desc := "([CII)[B" } : Jvm.MethodName) jdk_52_method_14_code (5 : Nat) (Option.some (Jvm.ClassFile.FieldType.array Jvm.ClassFile.FieldType.byte)), Jvm.Cond.code ({ cls := "java/lang/StringUTF16", name := "newBytesFor", desc := "(I)[B" } : Jvm.MethodName) jdk_52_method_2_code (1 : Nat) (Option.some (Jvm.ClassFile.FieldType.array Jvm.ClassFile.FieldType.byte)), Jvm.Cond.code ({ cls := "java/lang/StringUTF16", name := "newBytesLength", desc := "(I)I" } : Jvm.MethodName) jdk_52_method_3_code (1 : Nat) (Option.some Jvm.ClassFile.FieldType.int), Jvm.Cond.code ({ cls := "java/lang/StringUTF16", name := "putChar", desc := "([BII)V" } : Jvm.MethodName) jdk_52_method_4_code (3 : Nat) (Option.none : Option Jvm.ClassFile.FieldType), Jvm.Cond.code ({ cls := "java/lang/StringUTF16", name := "getChar", desc := "([BI)C" } : Jvm.MethodName) jdk_52_method_5_code (2 : Nat) (Option.some Jvm.ClassFile.FieldType.char), Jvm.Cond.code ({ cls := "java/lang/StringUTF16", name := "charAt", desc := "([BI)C" } : Jvm.MethodName) jdk_52_method_83_code (2 : Nat) (Option.some Jvm.ClassFile.FieldType.char), Jvm.Cond.code ({ cls := "java/lang/StringUTF16", name := "checkIndex", desc := "(I[B)V" } : Jvm.MethodName) jdk_52_method_91_code (2 : Nat) (Option.none : Option Jvm.ClassFile.FieldType), Jvm.Cond.code ({ cls := "java/lang/StringUTF16", name := "length", desc := "([B)I" } : Jvm.MethodName) jdk_52_method_6_code (1 : Nat) (Option.some Jvm.ClassFile.FieldType.int)]
set_option maxRecDepth 65536 in
theorem codes_eq : words1.filter isCode = codes1 := rfl
theorem w_codes : ∀ c ∈ words1.filter isCode, c.before args0 about1 = true := by
  rw [codes_eq]
  intro c hc
  simp only [codes1, List.mem_cons, List.not_mem_nil, or_false] at hc
  rcases hc with rfl | rfl | rfl | rfl | rfl | rfl | rfl | rfl | rfl | rfl | rfl | rfl | rfl | rfl | rfl | rfl | rfl | rfl | rfl | rfl | rfl | rfl | rfl | rfl | rfl | rfl | rfl | rfl | rfl | rfl
  · exact w_c0
  · exact w_c1
  · exact w_c2
  · exact w_c3
  · exact w_c4
  · exact w_c5
  · exact w_c6
  · exact w_c7
  · exact w_c8
  · exact w_c9
  · exact w_c10
  · exact w_c11
  · exact w_c12
  · exact w_c13
  · exact w_c14
  · exact w_c15
  · exact w_c16
  · exact w_c17
  · exact w_c18
  · exact w_c19
  · exact w_c20
  · exact w_c21
  · exact w_c22
  · exact w_c23
  · exact w_c24
  · exact w_c25
  · exact w_c26
  · exact w_c27
  · exact w_c28
  · exact w_c29
set_option maxRecDepth 65536 in
theorem w_t1 : (words1.take 24).all (fun c => isCode c || c.before args0 about1) = true := by decide +kernel
set_option maxRecDepth 65536 in
theorem w_t2 : ((words1.drop 24).take 24).all (fun c => isCode c || c.before args0 about1) = true := by decide +kernel
set_option maxRecDepth 65536 in
theorem w_t3 : (((words1.drop 24).drop 24).take 24).all (fun c => isCode c || c.before args0 about1) = true := by decide +kernel
set_option maxRecDepth 65536 in
theorem w_t4 : ((((words1.drop 24).drop 24).drop 24).take 24).all (fun c => isCode c || c.before args0 about1) = true := by decide +kernel
set_option maxRecDepth 65536 in
theorem w_t5 : (((((words1.drop 24).drop 24).drop 24).drop 24).take 24).all (fun c => isCode c || c.before args0 about1) = true := by decide +kernel
set_option maxRecDepth 65536 in
theorem w_t6 : (((((words1.drop 24).drop 24).drop 24).drop 24).drop 24).all (fun c => isCode c || c.before args0 about1) = true := by decide +kernel
theorem w_tables : (allAtoms (Jvm.Cond.code x code maxLocals ret :: tables_1)).before args0 about1 = true := by
  rw [allAtoms_all]
  show words1.all (fun c => c.before args0 about1) = true
  refine all_split ?_ w_codes
  rw [← List.take_append_drop 24 words1, List.all_append, w_t1, ← List.take_append_drop 24 (words1.drop 24), List.all_append, w_t2, ← List.take_append_drop 24 ((words1.drop 24).drop 24), List.all_append, w_t3, ← List.take_append_drop 24 (((words1.drop 24).drop 24).drop 24), List.all_append, w_t4, ← List.take_append_drop 24 ((((words1.drop 24).drop 24).drop 24).drop 24), List.all_append, w_t5, w_t6]
  rfl
set_option maxRecDepth 65536 in
theorem w_rest : rest_1_c.before args0 about1 = true := by decide +kernel
set_option maxRecDepth 65536 in
theorem w_case : (Jvm.Cond.and given_1 narrow_1).before args0 about1 = true := by decide +kernel
set_option maxRecDepth 65536 in
theorem w_consts : constsHeld consts_1 about1 := Jvm.Lit.constsHeldB_iff.mp (by decide +kernel)
theorem w_applies : (headSpec (Jvm.Cond.code x code maxLocals ret :: tables_1) room_1).applies x e0.platform about1 = true :=
  (Spec.applies_iff w_frames).mpr ⟨w_running, w_runnable, w_alone, w_named, w_hears, w_ripe, w_room, w_tables⟩
theorem atStart : AtStart classFile x code maxLocals ret World_1 tables_1 room_1 Calls_1 rest_1 Pre_1 launch0 p0 e0 about1 theMethod args0 below0 :=
  ⟨lists_1, trivial, launch0.admits_env _ _ _, launch0.least_env, fairChoices_fair.cas, fairChoices_fair.clock, w_frames, w_args, w_heap, w_applies, ⟨w_consts, trivial⟩, w_rest, w_case⟩
end start1
theorem witness_1 : WitnessClaimed_1 := ⟨start1.p0, start1.e0, start1.about1, start1.theMethod, start1.args0, start1.below0, start1.atStart⟩
end Jvm.Pilot.@@N@@
