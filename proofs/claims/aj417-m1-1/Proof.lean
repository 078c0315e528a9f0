import JvmDerived
import JvmDerived.Pilot.@@N@@Statement
import JvmDerived.Pilot.@@N@@Code
set_option linter.unusedVariables false
set_option linter.unusedSimpArgs false
@@BLOCK:NumsL.lean.txt@@
namespace Jvm.RoadKit
open Sem ClassFile Op Lib Bundle Jvm.Stand Jvm.Free Jvm.LawKit
theorem Ext.rfl' {h : Heap} : Ext h h := ⟨Nat.le_refl _, fun _ _ q => q⟩
theorem Ext.tr {h h1 h2 : Heap} (A : Ext h h1) (B : Ext h1 h2) : Ext h h2 := ⟨Nat.le_trans A.1 B.1, fun a c q => B.2 a c (A.2 a c q)⟩
theorem Ext.wr' {h0 h h' : Heap} {a : Addr} {sl : Nat} {v : Value} (A : Ext h0 h) (W : Wr h h' a sl v) (ha : h0.size ≤ a) : Ext h0 h' := by
  obtain ⟨cl, -, -, -, rfl⟩ := W
  refine ⟨by simpa using A.1, fun b c q => ?_⟩
  have hb : b < h0.size := (Array.getElem?_eq_some_iff.mp q).1
  rw [Array.getElem?_setIfInBounds_ne (show a ≠ b from fun z => Nat.not_lt.mpr ha (z ▸ hb))]
  exact A.2 b c q
theorem Ext.keep' {h0 h h' : Heap} {ws : List Addr} (A : Ext h0 h) (K : Keep h h' ws) (q : ∀ x ∈ ws, h0.size ≤ x) : Ext h0 h' :=
  ⟨Nat.le_trans A.1 K.1, fun x c r => K.2.1 x c (A.2 x c r) fun z => absurd (Array.getElem?_eq_some_iff.mp r).1 (Nat.not_lt.mpr (q x z))⟩
end Jvm.RoadKit
namespace Jvm.Own
open Sem ClassFile Op Lib Bundle Jvm.Stand Jvm.Free Jvm.LawKit Jvm.RoadKit
/-! The own layer: a walk is a goal `Run .. vm h cells slots (fr m pc L st)`; each instruction is one lemma that turns the goal behind it into the goal ahead of it. -/
abbrev fr (m : MethodId) (pc : Nat) (L : List Slot) (st : List Value) : JFrame := mkF m pc ⟨L⟩ st
def Ends (tb : Tables) (e : Env) (below : List Frame) (K : State → Outcome → Prop) (T : State) (g : JFrame) : Prop :=
  ∃ s₂ o, Steps tb e below (T.setTop g) s₂ ∧ s₂.status = .running ∧ Ended s₂ below o ∧ K s₂ o
theorem Ends.go {tb : Tables} {e : Env} {below : List Frame} {K : State → Outcome → Prop} {T T' : State} {g g' : JFrame} (st : ∀ t, Steps tb e below (T'.setTop g') t → Steps tb e below (T.setTop g) t) (k : Ends tb e below K T' g') : Ends tb e below K T g := by
  obtain ⟨s₂, o, h1, h2⟩ := k
  exact ⟨s₂, o, st _ h1, h2⟩
/-- one decoded instruction and the pc behind it -/
def Dc (B : ByteArray) (pc : Nat) (i : Instr) (len q : Nat) : Prop := decode B pc = .ok (i, len) ∧ pc + len = q
/-- one decoded branch, the pc behind it and its target -/
def Jp (B : ByteArray) (pc : Nat) (i : Instr) (o : Int) (q t : Nat) : Prop := decode B pc = .ok (i, 3) ∧ pc + 3 = q ∧ 0 ≤ (pc : Int) + o ∧ ((pc : Int) + o).toNat = t
/-- CHr, and in a walk that interns nothing no cell more is a constant's -/
def CHs (nw : Prop) (Z : State) (EL : List (String × Nat)) (vm : Vm) (h : Heap) (vm' : Vm) (h' : Heap) : Prop := CHr Z EL vm h vm' h' ∧ (nw → ∀ y, Bk Z EL vm' h' y → Bk Z EL vm h y)
/-- where the walk stands -/
def Pnt (p : Program) (l : Launch) (e : Env) (R : Room) (s : State) (m : MethodId) (args : Array Value) (below : List Frame) (meth : Method) (c : Code) (Z : State) (nw : Prop) (EL : List (String × Nat)) (vm : Vm) (h : Heap) (cells slots : Nat) (T : State) : Prop :=
  ∃ (k : Nat) (locs : List Loc), Stand p l e R (s.setVm vm) m args below meth c T locs cells slots ∧ T.heap = h ∧ Fr Z.heap.size locs ∧ Ext Z.heap h ∧ s.Since vm k ∧ k ≤ h.size ∧ Z.Warmed39 vm ∧ CHs nw Z EL s.vm s.heap vm h ∧ (nw → s.WarmedH vm)
def Run (p : Program) (l : Launch) (e : Env) (R : Room) (s : State) (m : MethodId) (args : Array Value) (below : List Frame) (meth : Method) (c : Code) (Z : State) (nw : Prop) (EL : List (String × Nat)) (K : State → Outcome → Prop) (vm : Vm) (h : Heap) (cells slots : Nat) (g : JFrame) : Prop :=
  ∀ T, Pnt p l e R s m args below meth c Z nw EL vm h cells slots T → Ends p.tables e below K T g
/-- what never changes in a body's walk -/
def Cx (p : Program) (s : State) (m : MethodId) (meth : Method) (c : Code) (Z : State) (a0 : Array Value) (EL : List (String × Nat)) (own : String) (B : ByteArray) (n : Nat) (nm : String) (ret : Option FieldType) : Prop :=
  p.tables.exec = Jvm.exec ∧ c.code = B ∧ s.vm.findClass own = some m.cls ∧ c.maxLocals = n ∧ meth.locks = false ∧ meth.name = nm ∧ meth.sig.returnType = ret ∧ EW Z a0 EL
/-- how a body ends -/
def Kf (s Z : State) (nw : Prop) (EL : List (String × Nat)) (rm : Room) (Q : Option Value → Heap → Prop) (s₂ : State) (o : Outcome) : Prop :=
  ∃ v L, o = .returned v ∧ Q v s₂.heap ∧ Fr Z.heap.size L ∧ Ext Z.heap s₂.heap ∧ CHs nw Z EL s.vm s.heap s₂.vm s₂.heap ∧ ReturnedEndW s o s₂ L rm.cells rm.slots ∧ (nw → s.WarmedH s₂.vm)
/-- a body's contract -/
def Met (l : Launch) (Z : State) (nw : Prop) (EL : List (String × Nat)) (y : MethodName) (B : ByteArray) (n : Nat) (ret : Option FieldType) (rm : Room) (as : Array Value) (h : Heap) (sf : List Addr) (Q : Option Value → Heap → Prop) : Prop :=
  ∀ ws : List Jvm.Cond, MetFree l y (head1 (Cond.code y B n ret :: ws) rm) (fun a U => a = as ∧ Z.Warmed39 U.vm ∧ U.heap = h ∧ CHv Z EL U.vm h ∧ Ext Z.heap h ∧ ∀ x ∈ sf, Safe Z EL U.vm h x) (fun _ _ _ _ _ => True)
    (fun _ U o U' => Kf U Z nw EL rm Q U' o)
theorem Safe.nil {Z : State} {vm : Vm} {h : Heap} {x : Addr} : Safe Z [] vm h x := fun B => by
  obtain ⟨p, hp, -⟩ := B
  cases hp
theorem CHr.keepSafe {Z : State} {EL : List (String × Nat)} {vm vm1 : Vm} {h h' : Heap} (A : CHr Z EL vm h vm1 h') {x : Addr} (hx : x < h.size) (S : Safe Z EL vm h x) : Safe Z EL vm1 h' x := CHr.safe A hx S
theorem rew_mono {s t : State} {o : Outcome} {L : List Loc} {k n k' n' : Nat} (h : ReturnedEndW s o t L k n) (hk : k ≤ k') (hn : n ≤ n') : ReturnedEndW s o t L k' n' := by
  obtain ⟨h1, h2, h3, h4⟩ := h
  exact ⟨h1, h2, h3, h4.mono hk hn⟩
theorem CHs.refl {nw : Prop} {Z : State} {EL : List (String × Nat)} {vm : Vm} {h : Heap} (H : CHv Z EL vm h) : CHs nw Z EL vm h vm h := ⟨CHr.refl H, fun _ _ q => q⟩
theorem CHs.trans {nw : Prop} {Z : State} {EL : List (String × Nat)} {vm vm1 vm2 : Vm} {h h1 h2 : Heap} (A : CHs nw Z EL vm h vm1 h1) (B : CHs nw Z EL vm1 h1 vm2 h2) : CHs nw Z EL vm h vm2 h2 := ⟨A.1.trans B.1, fun z y q => A.2 z y (B.2 z y q)⟩
theorem CHs.wr {nw : Prop} {Z : State} {EL : List (String × Nat)} {vm : Vm} {h h' : Heap} {a : Addr} {sl : Nat} {v : Value} (W : Wr h h' a sl v) (S : Safe Z EL vm h a) (H : CHv Z EL vm h) : CHs nw Z EL vm h vm h' := ⟨CHr.wr W S H, fun _ => (H.wrStep W S).2⟩
theorem CHs.ext {nw : Prop} {Z : State} {EL : List (String × Nat)} {vm : Vm} {h h' : Heap} (E : Ext h h') (H : CHv Z EL vm h) : CHs nw Z EL vm h vm h' := ⟨CHr.ext E H, fun _ => (H.step fun _ _ _ q => E.2 _ _ q).2⟩
theorem CHs.keep {nw : Prop} {Z : State} {EL : List (String × Nat)} {vm : Vm} {h h' : Heap} {ws : List Addr} (K : Keep h h' ws) (hs : ∀ x ∈ ws, Safe Z EL vm h x) (H : CHv Z EL vm h) : CHs nw Z EL vm h vm h' := ⟨CHr.keep K hs H, fun _ => (H.keepStep K hs).2⟩
theorem CHs.of {nw : Prop} {Z : State} {EL : List (String × Nat)} {vm vm1 : Vm} {h : Heap} (A : CHr Z EL vm h vm1 h) : CHs nw Z EL vm h vm1 h := ⟨A, fun _ y q => by
  rcases A.2.2 y q with z | z
  · exact z
  · obtain ⟨cell, z2⟩ := q.there
    exact absurd (Array.getElem?_eq_some_iff.mp z2).1 (Nat.not_lt.mpr z)⟩
theorem CHs.cold {nw : Prop} {Z : State} {EL : List (String × Nat)} {vm vm1 : Vm} {h h' : Heap} (A : CHr Z EL vm h vm1 h') (hn : ¬ nw) : CHs nw Z EL vm h vm1 h' := ⟨A, fun z => absurd z hn⟩
theorem CHs.mono {nw nw' : Prop} {Z : State} {EL : List (String × Nat)} {vm vm1 : Vm} {h h' : Heap} (A : CHs nw' Z EL vm h vm1 h') (hn : nw → nw') : CHs nw Z EL vm h vm1 h' := ⟨A.1, fun z => A.2 (hn z)⟩
theorem CHs.fresh {nw : Prop} {Z : State} {EL : List (String × Nat)} {vm vm1 : Vm} {h h' : Heap} (A : CHs nw Z EL vm h vm1 h') (z : nw) {x : Addr} (hx : h.size ≤ x) : Safe Z EL vm1 h' x := fun B => by
  obtain ⟨cell, z2⟩ := (A.2 z x B).there
  exact absurd (Array.getElem?_eq_some_iff.mp z2).1 (Nat.not_lt.mpr hx)
section Body
variable {p : Program} {l : Launch} {e : Env} {R : Room} {s : State} {m : MethodId} {args : Array Value} {below : List Frame} {meth : Method} {c : Code} {Z : State} {a0 : Array Value} {nw : Prop} {EL : List (String × Nat)} {K : State → Outcome → Prop} {vm : Vm} {h : Heap} {cells slots : Nat} {own nm : String} {B : ByteArray} {n : Nat} {ret : Option FieldType}
theorem Run.plain {g g' : JFrame} (st : ∀ T, At T m c below → ∀ t, Steps p.tables e below (T.setTop g') t → Steps p.tables e below (T.setTop g) t) (k : Run p l e R s m args below meth c Z nw EL K vm h cells slots g') : Run p l e R s m args below meth c Z nw EL K vm h cells slots g := by
  intro T P
  have P' := P
  obtain ⟨kk, locs, X, -⟩ := P'
  exact Ends.go (st T X.here) (k T P)
/-- what the walk knows at every point -/
theorem Run.know {g : JFrame} (k : Ext Z.heap h → Z.Warmed39 vm → CHv Z EL vm h → Run p l e R s m args below meth c Z nw EL K vm h cells slots g) : Run p l e R s m args below meth c Z nw EL K vm h cells slots g := by
  intro T P
  have P' := P
  obtain ⟨kk, locs, X, e1, e2, e3, e4, e5, e6, e7, e8⟩ := P'
  exact k e3 e6 e7.1.1 T P
theorem Run.warm (C : Cx p s m meth c Z a0 EL own B n nm ret) {g g' : JFrame}
    (st : ∀ T locs, Stand p l e R (s.setVm vm) m args below meth c T locs cells slots → T.heap = h → Z.Warmed39 (s.setVm vm).vm → (s.setVm vm).vm.findClass own = some m.cls → ∃ T', Stand p l e R (s.setVm vm) m args below meth c T' locs cells slots ∧ T'.heap = h ∧ ∀ t, Steps p.tables e below (T'.setTop g') t → Steps p.tables e below (T.setTop g) t)
    (k : Run p l e R s m args below meth c Z nw EL K vm h cells slots g') : Run p l e R s m args below meth c Z nw EL K vm h cells slots g := by
  intro T P
  obtain ⟨kk, locs, X, e1, e2, e3, e4, e5, e6, e7, e8⟩ := P
  obtain ⟨T', X', e1', hst⟩ := st T locs X e1 e6 ((e4.1.alike.findClass _ _).trans C.2.2.1)
  exact Ends.go hst (k T' ⟨kk, locs, X', e1', e2, e3, e4, e5, e6, e7, e8⟩)
theorem Run.write (C : Cx p s m meth c Z a0 EL own B n nm ret) {g g' : JFrame} {a : Addr} {sl : Nat} {v : Value}
    (st : ∀ T locs, Stand p l e R (s.setVm vm) m args below meth c T locs cells slots → T.heap = h → Z.Warmed39 (s.setVm vm).vm → (s.setVm vm).vm.findClass own = some m.cls → ∃ T' h', Stand p l e R (s.setVm vm) m args below meth c T' (locs ++ [⟨a, sl⟩]) cells slots ∧ T'.heap = h' ∧ Wr h h' a sl v ∧ ∀ t, Steps p.tables e below (T'.setTop g') t → Steps p.tables e below (T.setTop g) t)
    (ha : Z.heap.size ≤ a) (hs : Safe Z EL vm h a)
    (k : ∀ h', Wr h h' a sl v → (∀ x, Safe Z EL vm h x → Safe Z EL vm h' x) → Run p l e R s m args below meth c Z nw EL K vm h' cells slots g') : Run p l e R s m args below meth c Z nw EL K vm h cells slots g := by
  intro T P
  obtain ⟨kk, locs, X, e1, e2, e3, e4, e5, e6, e7, e8⟩ := P
  obtain ⟨T', h', X', e1', W, hst⟩ := st T locs X e1 e6 ((e4.1.alike.findClass _ _).trans C.2.2.1)
  refine Ends.go hst (k h' W (fun x S => Safe.wr W hs e7.1.1 S) T' ⟨kk, _, X', e1', Fr.snoc X' e2 ha, Ext.wr' e3 W ha, e4, ?_, e6, e7.trans (CHs.wr W hs e7.1.1), e8⟩)
  rw [W.size]; exact e5
theorem Run.grow (C : Cx p s m meth c Z a0 EL own B n nm ret) {g g' : JFrame} {nn : Nat} {F : Heap → Prop}
    (st : ∀ T locs, Stand p l e R (s.setVm vm) m args below meth c T locs cells slots → T.heap = h → Z.Warmed39 (s.setVm vm).vm → (s.setVm vm).vm.findClass own = some m.cls → ∃ T' h', Stand p l e R (s.setVm vm) m args below meth c T' locs (cells + 1) (slots + nn) ∧ T'.heap = h' ∧ Ext h h' ∧ F h' ∧ ∀ t, Steps p.tables e below (T'.setTop g') t → Steps p.tables e below (T.setTop g) t)
    (k : ∀ h', Ext h h' → F h' → CHv Z EL vm h → (∀ x, Safe Z EL vm h x → Safe Z EL vm h' x) → Run p l e R s m args below meth c Z nw EL K vm h' (cells + 1) (slots + nn) g') : Run p l e R s m args below meth c Z nw EL K vm h cells slots g := by
  intro T P
  obtain ⟨kk, locs, X, e1, e2, e3, e4, e5, e6, e7, e8⟩ := P
  obtain ⟨T', h', X', e1', E, hF, hst⟩ := st T locs X e1 e6 ((e4.1.alike.findClass _ _).trans C.2.2.1)
  exact Ends.go hst (k h' E hF e7.1.1 (fun x S => Safe.ext E e7.1.1 S) T' ⟨kk, _, X', e1', e2, Ext.tr e3 E, e4, Nat.le_trans e5 E.1, e6, e7.trans (CHs.ext E e7.1.1), e8⟩)
/-- a bound on what was made may grow -/
theorem Run.more {g : JFrame} {cells' slots' : Nat} (hc : cells ≤ cells') (hs : slots ≤ slots') (k : Run p l e R s m args below meth c Z nw EL K vm h cells' slots' g) : Run p l e R s m args below meth c Z nw EL K vm h cells slots g := by
  intro T P
  obtain ⟨kk, locs, X, r⟩ := P
  exact k T ⟨kk, locs, X.more hc hs, r⟩
/-- the end of a body -/
theorem Run.out (C : Cx p s m meth c Z a0 EL own B n nm ret) {rm : Room} {Q : Option Value → Heap → Prop} {v : Option Value} {g : JFrame} (hv : ret = none → v = none) (hQ : Q v h) (hc : cells ≤ rm.cells) (hs : slots ≤ rm.slots)
    (st : ∀ T locs, Stand p l e R (s.setVm vm) m args below meth c T locs cells slots → ∀ fs : List Frame, (∀ (f : JFrame) (acts : List Action), f.method = m → f.locked = none → f.entered = [] → (doReturn e (T.setTop f) acts v).1 = T.setFrames fs) → Steps p.tables e below (T.setTop g) (T.setFrames fs)) :
    Run p l e R s m args below meth c Z nw EL (Kf s Z nw EL rm Q) vm h cells slots g := by
  intro T P
  obtain ⟨kk, locs, X, e1, e2, e3, e4, e5, e6, e7, e8⟩ := P
  obtain ⟨fs, hr, hrun, hended, hW⟩ := X.leaveW e4 (by rw [e1]; exact e5) (v := v) (fun q => hv (C.2.2.2.2.2.2.1.symm.trans q)) C.2.2.2.2.1
  refine ⟨_, _, st T locs X fs hr, hrun, hended, v, locs, rfl, ?_, e2, ?_, ?_, rew_mono hW hc hs, fun z => State.WarmedH.trans (t := s.setVm vm) (e8 z) X.warmed⟩
  · show Q v T.heap
    rw [e1]; exact hQ
  · show Ext Z.heap T.heap
    rw [e1]; exact e3
  · show CHs nw Z EL s.vm s.heap T.vm T.heap
    rw [e1]
    exact e7.trans (CHs.of (CHv.at X e6 C.2.2.2.2.2.2.2 e7.1.1))
/-- a body's walk gives its contract; the entry's heap named -/
theorem Met.mkH {y : MethodName} {rm : Room} {as : Array Value} {sf : List Addr} {Q : Option Value → Heap → Prop} (hw : EW Z a0 EL) (hpn : plainFor y = true)
    (body : ∀ (p : Program) (e : Env) (s : State) (m : MethodId) (below : List Frame) (meth : Method) (c : Code), Cx p s m meth c Z a0 EL y.cls B n y.name ret → s.heap = h → Ext Z.heap h → (∀ x ∈ sf, Safe Z EL s.vm h x) →
      Run p l e rm s m as below meth c Z nw EL (Kf s Z nw EL rm Q) s.vm h 0 0 (entryFrame m as n)) : Met l Z nw EL y B n ret rm as h sf Q := by
  intro ws
  refine MetFree.of_bodySF hpn hisR ?_
  intro p e s m args below meth c s₁ Bd hml0 hP hK
  obtain ⟨rfl, hZ, hh, hC, hE, hS⟩ := hP
  have X0 : Stand p l e rm s m args below meth c s₁ [] 0 0 := Stand.of_body Bd
  have e0 : s₁.heap = h := by rw [← hh, Bd.state]; rfl
  have hlk : meth.locks = false := BodyLoose.notSynchronized Bd
  have C : Cx p s m meth c Z a0 EL y.cls B n y.name ret := ⟨Bd.exec, Bd.bytes, findClass_of_methodNamed Bd.named, hml0, hlk, (name_of_methodNamed Bd.named Bd.method).1, Bd.returns, hw⟩
  exact body p e s m below meth c C hh hE hS s₁ ⟨h.size, [], X0, e0, Fr.nil _, hE, (State.WarmedH.refl s).since _, Nat.le_refl _, hZ, by rw [hh]; exact CHs.refl hC, fun _ => State.WarmedH.refl s⟩
/-- a body's walk gives its contract -/
theorem Met.mk {y : MethodName} {rm : Room} {as : Array Value} {sf : List Addr} {Q : Option Value → Heap → Prop} (hw : EW Z a0 EL) (hpn : plainName y.cls = true)
    (body : ∀ (p : Program) (e : Env) (s : State) (m : MethodId) (below : List Frame) (meth : Method) (c : Code), Cx p s m meth c Z a0 EL y.cls B n y.name ret → Ext Z.heap h → (∀ x ∈ sf, Safe Z EL s.vm h x) →
      Run p l e rm s m as below meth c Z nw EL (Kf s Z nw EL rm Q) s.vm h 0 0 (entryFrame m as n)) : Met l Z nw EL y B n ret rm as h sf Q :=
  Met.mkH hw (plainFor_of_name hpn) fun p e s m below meth c C _ hE hS => body p e s m below meth c C hE hS
theorem backM {y : MethodName} {B' : ByteArray} {n' : Nat} {ret' : Option FieldType} {rm : Room} {len W : Nat} {as : Array Value} {sf : List Addr} {Q : Option Value → Heap → Prop} (M : Met l Z nw EL y B' n' ret' rm as h sf Q)
    (hZ : Z.Warmed39 vm) (wc : (Cond.code y B' n' ret').before a0 Z = true) (wz : (Cond.initialized y.cls).before a0 Z = true) (hf : rm.frames + 1 ≤ R.frames) (hl : W + (n' + 11) + rm.locals ≤ R.locals) (hEL : EW Z a0 EL) (H : CHv Z EL vm h) (hE : Ext Z.heap h) (hsf : ∀ x ∈ sf, Safe Z EL vm h x) :
    BackS l R p e below (s.setVm vm) args y len W (fun A a => a = as ∧ A.U.heap = h ∧ A.cells + rm.cells ≤ R.cells ∧ A.slots + rm.slots ≤ R.slots)
      (fun A _ v Bp => ∃ L, Q v Bp.U.heap ∧ Fr Z.heap.size L ∧ Ext Z.heap Bp.U.heap ∧ Bp.locs = A.locs ++ L ∧ Bp.cells = A.cells + rm.cells ∧ Bp.slots = A.slots + rm.slots ∧ CHs nw Z EL vm h Bp.U.vm Bp.U.heap ∧ (nw → (s.setVm vm).WarmedH Bp.U.vm)) :=
  BackS.of_freeW (bytes := B') (maxL := n') (ret := ret') (E := fun _ first o t L k n => k = rm.cells ∧ n = rm.slots ∧ (∃ v, o = .returned v ∧ Q v t.heap) ∧ Fr Z.heap.size L ∧ Ext Z.heap t.heap ∧ CHs nw Z EL first.vm first.heap t.vm t.heap ∧ (nw → first.WarmedH t.vm)) (M []) hf hl
    (fun m meth c A a Y hp => have hU : Z.Warmed39 A.U.vm := wtrans (s := s.setVm vm) hZ Y.warmed
      ⟨by show (Cond.and _ .tt).before a A.U = true; rw [Cond.before_and, mv hU wc]; rfl, mv hU wc, mv hU wz, hp.2.2.1, hp.2.2.2⟩)
    (fun m meth c A a g mk Y hp => by
      have q := CHv.at Y hZ hEL H
      exact ⟨hp.1, wtrans (s := s.setVm vm) hZ Y.warmed, hp.2.1, q.1, hE, fun x hx => (Nat.lt_or_ge x h.size).elim (fun z => CHr.safe q z (hsf x hx)) (fun z => Safe.new z)⟩) (fun _ _ _ _ _ _ _ _ _ => trivial)
    (fun _ _ _ _ ⟨v, L, h1, h2, h3, h4, h5, h6, h7⟩ => ⟨L, _, _, h6, rfl, rfl, ⟨v, h1, h2⟩, h3, h4, h5, h7⟩)
    (fun m meth c A a g mk v t L k n Y hp _ _ ⟨e1, e2, ⟨v', e3, e4⟩, e5, e6, e7, e8⟩ => by
      cases e3; subst e1 e2
      refine ⟨L, e4, e5, e6, rfl, rfl, rfl, (CHs.of (CHv.at Y hZ hEL H)).trans ?_, fun z => State.WarmedH.trans (t := A.U.calling g mk a) Y.warmed (e8 z)⟩
      rw [← hp.2.1]; exact e7)
/-- behind any call of a contract -/
theorem Run.back (C : Cx p s m meth c Z a0 EL own B n nm ret) {nw' : Prop} (hnn : nw → nw') {g : JFrame} {q : Nat} {rm : Room} {Q : Option Value → Heap → Prop} {g' : Option Value → JFrame}
    (st : ∀ k T locs, Stand p l e R (s.setVm vm) m args below meth c T locs cells slots → T.heap = h → Z.Warmed39 vm → (s.setVm vm).vm.findClass own = some m.cls → CHv Z EL vm h → Ext Z.heap h → s.Since vm k → k ≤ h.size →
      ∃ (v : Option Value) (Bp : Pt), Stand p l e R (s.setVm Bp.U.vm) m args below meth c Bp.U Bp.locs Bp.cells Bp.slots ∧ (s.setVm vm).Since Bp.U.vm Bp.U.heap.size ∧ T.heap.size ≤ Bp.U.heap.size ∧ (∃ L, Q v Bp.U.heap ∧ Fr Z.heap.size L ∧ Ext Z.heap Bp.U.heap ∧ Bp.locs = locs ++ L ∧ Bp.cells = cells + rm.cells ∧ Bp.slots = slots + rm.slots ∧ CHs nw' Z EL vm h Bp.U.vm Bp.U.heap ∧ (nw' → (s.setVm vm).WarmedH Bp.U.vm)) ∧
        Steps p.tables e below (T.setTop g) (Bp.U.setTop (g' v)))
    (k : ∀ v vm' h', Q v h' → h.size ≤ h'.size → (∀ x, x < h.size → Safe Z EL vm h x → Safe Z EL vm' h' x) → (nw' → ∀ x, h.size ≤ x → Safe Z EL vm' h' x) → Run p l e R s m args below meth c Z nw EL K vm' h' (cells + rm.cells) (slots + rm.slots) (g' v)) :
    Run p l e R s m args below meth c Z nw EL K vm h cells slots g := by
  intro T P
  obtain ⟨kk, locs, X, e1, e2, e3, e4, e5, e6, e7, e8⟩ := P
  obtain ⟨v, Bp, X', hS, hg, ⟨L, hQ, hFr, hE, l1, l2, l3, hC, hN⟩, hst⟩ := st kk T locs X e1 e6 ((e4.1.alike.findClass _ _).trans C.2.2.1) e7.1.1 e3 e4 e5
  obtain ⟨U, ls, c1, s1⟩ := Bp
  dsimp only [Pt.U, Pt.locs, Pt.cells, Pt.slots] at X' hS hg hQ hE l1 l2 l3 hC hN hst
  subst l1 l2 l3
  have hk : kk ≤ T.heap.size := by rw [e1]; exact e5
  refine Ends.go (fun t z => hst.trans z) (k v U.vm U.heap hQ (by rw [← e1]; exact hg) (fun x hx S => CHr.safe hC.1 hx S) (fun z x hx => hC.fresh z hx) U ⟨U.heap.size, _, X', rfl, Fr.app e2 hFr, hE, e4.trans hS (Nat.le_trans hk hg), Nat.le_refl _, State.Warmed39.trans (t := s.setVm vm) e6 hS.1, e7.trans (hC.mono hnn), fun z => State.WarmedH.trans (t := s.setVm vm) (e8 z) (hN (hnn z))⟩)
end Body
theorem Met.room {l : Launch} {Z : State} {nw : Prop} {EL : List (String × Nat)} {y : MethodName} {B : ByteArray} {n : Nat} {ret : Option FieldType} {rm rm' : Room} {as : Array Value} {h : Heap} {sf : List Addr} {Q : Option Value → Heap → Prop} (M : Met l Z nw EL y B n ret rm as h sf Q) (h1 : rm.frames ≤ rm'.frames) (h2 : rm.cells ≤ rm'.cells) (h3 : rm.slots ≤ rm'.slots) (h4 : rm.locals ≤ rm'.locals) : Met l Z nw EL y B n ret rm' as h sf Q := by
  intro ws p e ha hc hk s m args below hf happ hP hK
  obtain ⟨a1, a2, a3, a4, a5, a6, a7, a8⟩ := (Spec.appliesLoose_iff hf).mp happ
  obtain ⟨k, o, b1, b2, b3, v, L, b4, b5, b6, b7, b8, b9, b10⟩ := M ws p e ha hc hk s m args below hf ((Spec.appliesLoose_iff hf).mpr ⟨a1, a2, a3, a4, a5, a6, hasRoom_mono h1 h4 h2 h3 a7, a8⟩) hP hK
  exact ⟨k, o, b1, b2, b3, v, L, b4, b5, b6, b7, b8, rew_mono b9 h2 h3, b10⟩
/-- what is promised may be weakened -/
theorem Met.imp {l : Launch} {Z : State} {nw : Prop} {EL : List (String × Nat)} {y : MethodName} {B : ByteArray} {n : Nat} {ret : Option FieldType} {rm : Room} {as : Array Value} {h : Heap} {sf : List Addr} {Q Q' : Option Value → Heap → Prop} (M : Met l Z nw EL y B n ret rm as h sf Q) (hq : ∀ v h', Q v h' → Q' v h') : Met l Z nw EL y B n ret rm as h sf Q' := by
  intro ws p e ha hc hk s m args below hf happ hP hK
  obtain ⟨k, o, b1, b2, b3, v, L, b4, b5, b6, b7, b8, b9, b10⟩ := M ws p e ha hc hk s m args below hf happ hP hK
  exact ⟨k, o, b1, b2, b3, v, L, b4, hq _ _ b5, b6, b7, b8, b9, b10⟩
section Steps
variable {p : Program} {l : Launch} {e : Env} {R : Room} {s : State} {m : MethodId} {args : Array Value} {below : List Frame} {meth : Method} {c : Code} {Z : State} {a0 : Array Value} {nw : Prop} {EL : List (String × Nat)} {K : State → Outcome → Prop} {vm : Vm} {h : Heap} {cells slots : Nat} {own nm : String} {B : ByteArray} {n : Nat} {ret : Option FieldType} {pc q tq : Nat} {L : List Slot} {r : List Value} {a : Addr}
theorem R_iadd (C : Cx p s m meth c Z a0 EL own B n nm ret) {x y : Int32} (hd : Dc B pc (.iadd) 1 q) 
    (k : Run p l e R s m args below meth c Z nw EL K vm h cells slots (fr m q L (.int (x + y) :: r))) : Run p l e R s m args below meth c Z nw EL K vm h cells slots (fr m pc L (.int y :: .int x :: r)) := by
  obtain ⟨hd, rfl⟩ := hd
  exact Run.plain (fun T A t st => XS.iadd A C.1 rfl (hb C.2.1 hd) rfl st) k
theorem R_isub (C : Cx p s m meth c Z a0 EL own B n nm ret) {x y : Int32} (hd : Dc B pc (.isub) 1 q) 
    (k : Run p l e R s m args below meth c Z nw EL K vm h cells slots (fr m q L (.int (x - y) :: r))) : Run p l e R s m args below meth c Z nw EL K vm h cells slots (fr m pc L (.int y :: .int x :: r)) := by
  obtain ⟨hd, rfl⟩ := hd
  exact Run.plain (fun T A t st => XS.isub A C.1 rfl (hb C.2.1 hd) rfl st) k
theorem R_imul (C : Cx p s m meth c Z a0 EL own B n nm ret) {x y : Int32} (hd : Dc B pc (.imul) 1 q) 
    (k : Run p l e R s m args below meth c Z nw EL K vm h cells slots (fr m q L (.int (x * y) :: r))) : Run p l e R s m args below meth c Z nw EL K vm h cells slots (fr m pc L (.int y :: .int x :: r)) := by
  obtain ⟨hd, rfl⟩ := hd
  exact Run.plain (fun T A t st => XS.imul A C.1 rfl (hb C.2.1 hd) rfl st) k
theorem R_iand (C : Cx p s m meth c Z a0 EL own B n nm ret) {x y : Int32} (hd : Dc B pc (.iand) 1 q) 
    (k : Run p l e R s m args below meth c Z nw EL K vm h cells slots (fr m q L (.int (x &&& y) :: r))) : Run p l e R s m args below meth c Z nw EL K vm h cells slots (fr m pc L (.int y :: .int x :: r)) := by
  obtain ⟨hd, rfl⟩ := hd
  exact Run.plain (fun T A t st => XS.iand A C.1 rfl (hb C.2.1 hd) rfl st) k
theorem R_ior (C : Cx p s m meth c Z a0 EL own B n nm ret) {x y : Int32} (hd : Dc B pc (.ior) 1 q) 
    (k : Run p l e R s m args below meth c Z nw EL K vm h cells slots (fr m q L (.int (x ||| y) :: r))) : Run p l e R s m args below meth c Z nw EL K vm h cells slots (fr m pc L (.int y :: .int x :: r)) := by
  obtain ⟨hd, rfl⟩ := hd
  exact Run.plain (fun T A t st => XT.ior A C.1 rfl (hb C.2.1 hd) rfl st) k
theorem R_ixor (C : Cx p s m meth c Z a0 EL own B n nm ret) {x y : Int32} (hd : Dc B pc (.ixor) 1 q) 
    (k : Run p l e R s m args below meth c Z nw EL K vm h cells slots (fr m q L (.int (x ^^^ y) :: r))) : Run p l e R s m args below meth c Z nw EL K vm h cells slots (fr m pc L (.int y :: .int x :: r)) := by
  obtain ⟨hd, rfl⟩ := hd
  exact Run.plain (fun T A t st => XT.ixor A C.1 rfl (hb C.2.1 hd) rfl st) k
theorem R_ishl (C : Cx p s m meth c Z a0 EL own B n nm ret) {x y : Int32} (hd : Dc B pc (.ishl) 1 q) 
    (k : Run p l e R s m args below meth c Z nw EL K vm h cells slots (fr m q L (.int (x <<< (y &&& 31)) :: r))) : Run p l e R s m args below meth c Z nw EL K vm h cells slots (fr m pc L (.int y :: .int x :: r)) := by
  obtain ⟨hd, rfl⟩ := hd
  exact Run.plain (fun T A t st => XT.ishl A C.1 rfl (hb C.2.1 hd) rfl st) k
theorem R_ishr (C : Cx p s m meth c Z a0 EL own B n nm ret) {x y : Int32} (hd : Dc B pc (.ishr) 1 q) 
    (k : Run p l e R s m args below meth c Z nw EL K vm h cells slots (fr m q L (.int (x >>> (y &&& 31)) :: r))) : Run p l e R s m args below meth c Z nw EL K vm h cells slots (fr m pc L (.int y :: .int x :: r)) := by
  obtain ⟨hd, rfl⟩ := hd
  exact Run.plain (fun T A t st => XT.ishr A C.1 rfl (hb C.2.1 hd) rfl st) k
theorem R_iushr (C : Cx p s m meth c Z a0 EL own B n nm ret) {x y : Int32} (hd : Dc B pc (.iushr) 1 q) 
    (k : Run p l e R s m args below meth c Z nw EL K vm h cells slots (fr m q L (.int (XT.ushr x y) :: r))) : Run p l e R s m args below meth c Z nw EL K vm h cells slots (fr m pc L (.int y :: .int x :: r)) := by
  obtain ⟨hd, rfl⟩ := hd
  exact Run.plain (fun T A t st => XT.iushr A C.1 rfl (hb C.2.1 hd) rfl st) k
theorem R_ineg (C : Cx p s m meth c Z a0 EL own B n nm ret) {x : Int32} (hd : Dc B pc (.ineg) 1 q) 
    (k : Run p l e R s m args below meth c Z nw EL K vm h cells slots (fr m q L (.int (-x) :: r))) : Run p l e R s m args below meth c Z nw EL K vm h cells slots (fr m pc L (.int x :: r)) := by
  obtain ⟨hd, rfl⟩ := hd
  exact Run.plain (fun T A t st => XS.ineg A C.1 rfl (hb C.2.1 hd) rfl st) k
theorem R_idiv (C : Cx p s m meth c Z a0 EL own B n nm ret) {x y : Int32} (hd : Dc B pc (.idiv) 1 q) (hy : y ≠ 0)
    (k : Run p l e R s m args below meth c Z nw EL K vm h cells slots (fr m q L (.int (x / y) :: r))) : Run p l e R s m args below meth c Z nw EL K vm h cells slots (fr m pc L (.int y :: .int x :: r)) := by
  obtain ⟨hd, rfl⟩ := hd
  exact Run.plain (fun T A t st => XS.idiv A C.1 rfl (hb C.2.1 hd) rfl hy st) k
theorem R_irem (C : Cx p s m meth c Z a0 EL own B n nm ret) {x y : Int32} (hd : Dc B pc (.irem) 1 q) (hy : y ≠ 0)
    (k : Run p l e R s m args below meth c Z nw EL K vm h cells slots (fr m q L (.int (x % y) :: r))) : Run p l e R s m args below meth c Z nw EL K vm h cells slots (fr m pc L (.int y :: .int x :: r)) := by
  obtain ⟨hd, rfl⟩ := hd
  refine Run.plain (fun T A t st => XS.irem A C.1 rfl (hb C.2.1 hd) rfl hy ?_) k
  have q : x - x / y * y = x % y := irem_eq_mod x y
  rw [q]; exact st
theorem R_ladd (C : Cx p s m meth c Z a0 EL own B n nm ret) {x y : Int64} (hd : Dc B pc (.ladd) 1 q) 
    (k : Run p l e R s m args below meth c Z nw EL K vm h cells slots (fr m q L (.long (x + y) :: r))) : Run p l e R s m args below meth c Z nw EL K vm h cells slots (fr m pc L (.long y :: .long x :: r)) := by
  obtain ⟨hd, rfl⟩ := hd
  exact Run.plain (fun T A t st => XT.ladd A C.1 rfl (hb C.2.1 hd) rfl st) k
theorem R_lsub (C : Cx p s m meth c Z a0 EL own B n nm ret) {x y : Int64} (hd : Dc B pc (.lsub) 1 q) 
    (k : Run p l e R s m args below meth c Z nw EL K vm h cells slots (fr m q L (.long (x - y) :: r))) : Run p l e R s m args below meth c Z nw EL K vm h cells slots (fr m pc L (.long y :: .long x :: r)) := by
  obtain ⟨hd, rfl⟩ := hd
  exact Run.plain (fun T A t st => XT.lsub A C.1 rfl (hb C.2.1 hd) rfl st) k
theorem R_lmul (C : Cx p s m meth c Z a0 EL own B n nm ret) {x y : Int64} (hd : Dc B pc (.lmul) 1 q) 
    (k : Run p l e R s m args below meth c Z nw EL K vm h cells slots (fr m q L (.long (x * y) :: r))) : Run p l e R s m args below meth c Z nw EL K vm h cells slots (fr m pc L (.long y :: .long x :: r)) := by
  obtain ⟨hd, rfl⟩ := hd
  exact Run.plain (fun T A t st => XT.lmul A C.1 rfl (hb C.2.1 hd) rfl st) k
theorem R_land (C : Cx p s m meth c Z a0 EL own B n nm ret) {x y : Int64} (hd : Dc B pc (.land) 1 q) 
    (k : Run p l e R s m args below meth c Z nw EL K vm h cells slots (fr m q L (.long (x &&& y) :: r))) : Run p l e R s m args below meth c Z nw EL K vm h cells slots (fr m pc L (.long y :: .long x :: r)) := by
  obtain ⟨hd, rfl⟩ := hd
  exact Run.plain (fun T A t st => XT.land A C.1 rfl (hb C.2.1 hd) rfl st) k
theorem R_lor (C : Cx p s m meth c Z a0 EL own B n nm ret) {x y : Int64} (hd : Dc B pc (.lor) 1 q) 
    (k : Run p l e R s m args below meth c Z nw EL K vm h cells slots (fr m q L (.long (x ||| y) :: r))) : Run p l e R s m args below meth c Z nw EL K vm h cells slots (fr m pc L (.long y :: .long x :: r)) := by
  obtain ⟨hd, rfl⟩ := hd
  exact Run.plain (fun T A t st => XT.lor A C.1 rfl (hb C.2.1 hd) rfl st) k
theorem R_lxor (C : Cx p s m meth c Z a0 EL own B n nm ret) {x y : Int64} (hd : Dc B pc (.lxor) 1 q) 
    (k : Run p l e R s m args below meth c Z nw EL K vm h cells slots (fr m q L (.long (x ^^^ y) :: r))) : Run p l e R s m args below meth c Z nw EL K vm h cells slots (fr m pc L (.long y :: .long x :: r)) := by
  obtain ⟨hd, rfl⟩ := hd
  exact Run.plain (fun T A t st => XT.lxor A C.1 rfl (hb C.2.1 hd) rfl st) k
theorem R_lushr (C : Cx p s m meth c Z a0 EL own B n nm ret) {x : Int64} {y : Int32} (hd : Dc B pc (.lushr) 1 q) 
    (k : Run p l e R s m args below meth c Z nw EL K vm h cells slots (fr m q L (.long (XT.ushrL x y) :: r))) : Run p l e R s m args below meth c Z nw EL K vm h cells slots (fr m pc L (.int y :: .long x :: r)) := by
  obtain ⟨hd, rfl⟩ := hd
  exact Run.plain (fun T A t st => XT.lushr A C.1 rfl (hb C.2.1 hd) rfl st) k
theorem R_lcmp (C : Cx p s m meth c Z a0 EL own B n nm ret) {x y : Int64} (hd : Dc B pc (.lcmp) 1 q) 
    (k : Run p l e R s m args below meth c Z nw EL K vm h cells slots (fr m q L (.int (XT.cmpL x y) :: r))) : Run p l e R s m args below meth c Z nw EL K vm h cells slots (fr m pc L (.long y :: .long x :: r)) := by
  obtain ⟨hd, rfl⟩ := hd
  exact Run.plain (fun T A t st => XT.lcmp A C.1 rfl (hb C.2.1 hd) rfl st) k
theorem R_i2l (C : Cx p s m meth c Z a0 EL own B n nm ret) {x : Int32} (hd : Dc B pc (.i2l) 1 q) 
    (k : Run p l e R s m args below meth c Z nw EL K vm h cells slots (fr m q L (.long x.toInt64 :: r))) : Run p l e R s m args below meth c Z nw EL K vm h cells slots (fr m pc L (.int x :: r)) := by
  obtain ⟨hd, rfl⟩ := hd
  exact Run.plain (fun T A t st => XT.i2l A C.1 rfl (hb C.2.1 hd) rfl st) k
theorem R_l2i (C : Cx p s m meth c Z a0 EL own B n nm ret) {x : Int64} (hd : Dc B pc (.l2i) 1 q) 
    (k : Run p l e R s m args below meth c Z nw EL K vm h cells slots (fr m q L (.int x.toInt32 :: r))) : Run p l e R s m args below meth c Z nw EL K vm h cells slots (fr m pc L (.long x :: r)) := by
  obtain ⟨hd, rfl⟩ := hd
  exact Run.plain (fun T A t st => XT.l2i A C.1 rfl (hb C.2.1 hd) rfl st) k
theorem R_i2b (C : Cx p s m meth c Z a0 EL own B n nm ret) {x : Int32} (hd : Dc B pc (.i2b) 1 q) 
    (k : Run p l e R s m args below meth c Z nw EL K vm h cells slots (fr m q L (.int x.toInt8.toInt32 :: r))) : Run p l e R s m args below meth c Z nw EL K vm h cells slots (fr m pc L (.int x :: r)) := by
  obtain ⟨hd, rfl⟩ := hd
  exact Run.plain (fun T A t st => XT.i2b A C.1 rfl (hb C.2.1 hd) rfl st) k
theorem R_i2c (C : Cx p s m meth c Z a0 EL own B n nm ret) {x : Int32} (hd : Dc B pc (.i2c) 1 q) 
    (k : Run p l e R s m args below meth c Z nw EL K vm h cells slots (fr m q L (.int (nar .char x) :: r))) : Run p l e R s m args below meth c Z nw EL K vm h cells slots (fr m pc L (.int x :: r)) := by
  obtain ⟨hd, rfl⟩ := hd
  exact Run.plain (fun T A t st => XT.i2c A C.1 rfl (hb C.2.1 hd) rfl st) k
theorem R_dup (C : Cx p s m meth c Z a0 EL own B n nm ret) {v : Value} (hd : Dc B pc (.dup) 1 q) (hc : v.category = 1)
    (k : Run p l e R s m args below meth c Z nw EL K vm h cells slots (fr m q L (v :: v :: r))) : Run p l e R s m args below meth c Z nw EL K vm h cells slots (fr m pc L (v :: r)) := by
  obtain ⟨hd, rfl⟩ := hd
  exact Run.plain (fun T A t st => XS.dup A C.1 rfl (hb C.2.1 hd) rfl hc st) k
theorem R_pop (C : Cx p s m meth c Z a0 EL own B n nm ret) {v : Value} (hd : Dc B pc (.pop) 1 q) (hc : v.category = 1)
    (k : Run p l e R s m args below meth c Z nw EL K vm h cells slots (fr m q L (r))) : Run p l e R s m args below meth c Z nw EL K vm h cells slots (fr m pc L (v :: r)) := by
  obtain ⟨hd, rfl⟩ := hd
  exact Run.plain (fun T A t st => XT.pop A C.1 rfl (hb C.2.1 hd) rfl hc st) k
theorem R_dup_x1 (C : Cx p s m meth c Z a0 EL own B n nm ret) {v w : Value} (hd : Dc B pc (.dup_x1) 1 q) (hc : v.category = 1) (hc' : w.category = 1)
    (k : Run p l e R s m args below meth c Z nw EL K vm h cells slots (fr m q L (v :: w :: v :: r))) : Run p l e R s m args below meth c Z nw EL K vm h cells slots (fr m pc L (v :: w :: r)) := by
  obtain ⟨hd, rfl⟩ := hd
  exact Run.plain (fun T A t st => XT.dupX1 A C.1 rfl (hb C.2.1 hd) rfl hc hc' st) k
theorem R_dup2 (C : Cx p s m meth c Z a0 EL own B n nm ret) {v w : Value} (hd : Dc B pc (.dup2) 1 q) (hc : v.category = 1) (hc' : w.category = 1)
    (k : Run p l e R s m args below meth c Z nw EL K vm h cells slots (fr m q L (v :: w :: v :: w :: r))) : Run p l e R s m args below meth c Z nw EL K vm h cells slots (fr m pc L (v :: w :: r)) := by
  obtain ⟨hd, rfl⟩ := hd
  exact Run.plain (fun T A t st => XT.dup2 A C.1 rfl (hb C.2.1 hd) rfl hc hc' st) k
theorem R_aconst_null (C : Cx p s m meth c Z a0 EL own B n nm ret)  (hd : Dc B pc (.aconst_null) 1 q) 
    (k : Run p l e R s m args below meth c Z nw EL K vm h cells slots (fr m q L (.null :: r))) : Run p l e R s m args below meth c Z nw EL K vm h cells slots (fr m pc L (r)) := by
  obtain ⟨hd, rfl⟩ := hd
  exact Run.plain (fun T A t st => XS.aconstNull A C.1 rfl (hb C.2.1 hd)  st) k
theorem R_iconst (C : Cx p s m meth c Z a0 EL own B n nm ret) {i : Int} {v : Int32} (hd : Dc B pc (.iconst i) 1 q) (hv : Int32.ofInt i = v)
    (k : Run p l e R s m args below meth c Z nw EL K vm h cells slots (fr m q L (.int v :: r))) : Run p l e R s m args below meth c Z nw EL K vm h cells slots (fr m pc L r) := by
  obtain ⟨hd, rfl⟩ := hd
  subst hv
  exact Run.plain (fun T A t st => XS.iconst A C.1 rfl (hb C.2.1 hd) st) k
theorem R_bipush (C : Cx p s m meth c Z a0 EL own B n nm ret) {i : Int} {v : Int32} (hd : Dc B pc (.bipush i) 2 q) (hv : (Int8.ofInt i).toInt32 = v)
    (k : Run p l e R s m args below meth c Z nw EL K vm h cells slots (fr m q L (.int v :: r))) : Run p l e R s m args below meth c Z nw EL K vm h cells slots (fr m pc L r) := by
  obtain ⟨hd, rfl⟩ := hd
  subst hv
  exact Run.plain (fun T A t st => XS.bipush A C.1 rfl (hb C.2.1 hd) st) k
theorem R_sipush (C : Cx p s m meth c Z a0 EL own B n nm ret) {i : Int} {v : Int32} (hd : Dc B pc (.sipush i) 3 q) (hv : (Int16.ofInt i).toInt32 = v)
    (k : Run p l e R s m args below meth c Z nw EL K vm h cells slots (fr m q L (.int v :: r))) : Run p l e R s m args below meth c Z nw EL K vm h cells slots (fr m pc L r) := by
  obtain ⟨hd, rfl⟩ := hd
  subst hv
  exact Run.plain (fun T A t st => XS.sipush A C.1 rfl (hb C.2.1 hd) st) k
theorem R_lconst (C : Cx p s m meth c Z a0 EL own B n nm ret) {i : Fin 2} {v : Int64} (hd : Dc B pc (.lconst i) 1 q) (hv : Int64.ofNat i = v)
    (k : Run p l e R s m args below meth c Z nw EL K vm h cells slots (fr m q L (.long v :: r))) : Run p l e R s m args below meth c Z nw EL K vm h cells slots (fr m pc L r) := by
  obtain ⟨hd, rfl⟩ := hd
  subst hv
  exact Run.plain (fun T A t st => XT.lconst A C.1 rfl (hb C.2.1 hd) st) k
theorem lget {L : List Slot} {k : Nat} {x : Slot} (h : L[k]? = some x) : (⟨L⟩ : Array Slot)[k]? = some x := by simpa using h
theorem R_iload (C : Cx p s m meth c Z a0 EL own B n nm ret) {j : Nat} {v : Int32} (hd : Dc B pc (.iload j) 2 q) (hl : L[j]? = some (.val (.int v)))
    (k : Run p l e R s m args below meth c Z nw EL K vm h cells slots (fr m q L (.int v :: r))) : Run p l e R s m args below meth c Z nw EL K vm h cells slots (fr m pc L r) := by
  obtain ⟨hd, rfl⟩ := hd
  exact Run.plain (fun T A t st => XS.iload A C.1 rfl (hb C.2.1 hd) (lget hl) st) k
theorem R_iload_n (C : Cx p s m meth c Z a0 EL own B n nm ret) {j : Fin 4} {v : Int32} (hd : Dc B pc (.iload_n j) 1 q) (hl : L[j.val]? = some (.val (.int v)))
    (k : Run p l e R s m args below meth c Z nw EL K vm h cells slots (fr m q L (.int v :: r))) : Run p l e R s m args below meth c Z nw EL K vm h cells slots (fr m pc L r) := by
  obtain ⟨hd, rfl⟩ := hd
  exact Run.plain (fun T A t st => XS.iloadN A C.1 rfl (hb C.2.1 hd) (lget hl) st) k
theorem R_lload (C : Cx p s m meth c Z a0 EL own B n nm ret) {j : Nat} {v : Int64} (hd : Dc B pc (.lload j) 2 q) (hl : L[j]? = some (.val (.long v)))
    (k : Run p l e R s m args below meth c Z nw EL K vm h cells slots (fr m q L (.long v :: r))) : Run p l e R s m args below meth c Z nw EL K vm h cells slots (fr m pc L r) := by
  obtain ⟨hd, rfl⟩ := hd
  exact Run.plain (fun T A t st => XT.lload A C.1 rfl (hb C.2.1 hd) (lget hl) st) k
theorem R_lload_n (C : Cx p s m meth c Z a0 EL own B n nm ret) {j : Fin 4} {v : Int64} (hd : Dc B pc (.lload_n j) 1 q) (hl : L[j.val]? = some (.val (.long v)))
    (k : Run p l e R s m args below meth c Z nw EL K vm h cells slots (fr m q L (.long v :: r))) : Run p l e R s m args below meth c Z nw EL K vm h cells slots (fr m pc L r) := by
  obtain ⟨hd, rfl⟩ := hd
  exact Run.plain (fun T A t st => XT.lloadN A C.1 rfl (hb C.2.1 hd) (lget hl) st) k
theorem R_aload (C : Cx p s m meth c Z a0 EL own B n nm ret) {j : Nat} {v : Value} (hd : Dc B pc (.aload j) 2 q) (hl : L[j]? = some (.val v)) (hv : v.isRef = true)
    (k : Run p l e R s m args below meth c Z nw EL K vm h cells slots (fr m q L (v :: r))) : Run p l e R s m args below meth c Z nw EL K vm h cells slots (fr m pc L r) := by
  obtain ⟨hd, rfl⟩ := hd
  exact Run.plain (fun T A t st => XS.aload A C.1 rfl (hb C.2.1 hd) (lget hl) hv st) k
theorem R_aload_n (C : Cx p s m meth c Z a0 EL own B n nm ret) {j : Fin 4} {v : Value} (hd : Dc B pc (.aload_n j) 1 q) (hl : L[j.val]? = some (.val v)) (hv : v.isRef = true)
    (k : Run p l e R s m args below meth c Z nw EL K vm h cells slots (fr m q L (v :: r))) : Run p l e R s m args below meth c Z nw EL K vm h cells slots (fr m pc L r) := by
  obtain ⟨hd, rfl⟩ := hd
  exact Run.plain (fun T A t st => XS.aloadN A C.1 rfl (hb C.2.1 hd) (lget hl) hv st) k
theorem notin1 {x a : Nat} (h : x < a) : x ∉ [a] := fun z => Nat.lt_irrefl _ ((List.mem_singleton.mp z) ▸ h)
theorem notin2 {x a b : Nat} (h1 : x < a) (h2 : x < b) : x ∉ [a, b] := fun z => by
  rcases List.mem_cons.mp z with z | z
  · rw [z] at h1; exact Nat.lt_irrefl _ h1
  · exact notin1 h2 z
theorem cat_int (x : Int32) : (Value.int x).category = 1 := rfl
theorem cat_rf (x : Addr) : (Value.ref x).category = 1 := rfl
theorem cat_lng (x : Int64) : (Value.long x).category = 2 := rfl
theorem fv0 : ((0 : Fin 4) : Nat) = 0 := rfl
theorem fv1 : ((1 : Fin 4) : Nat) = 1 := rfl
theorem fv2 : ((2 : Fin 4) : Nat) = 2 := rfl
theorem fv3 : ((3 : Fin 4) : Nat) = 3 := rfl
def okSlot (x : Slot) : Bool := match x with | .unset => true | .val v => v.category == 1 | .second => false
def okS (L : List Slot) (k : Nat) : Bool := match L[k]? with | some x => okSlot x | none => false
theorem okS_store {L : List Slot} {k : Nat} {v : Value} (h : okS L k = true) (hv : v.category = 1) : storeLocals ⟨L⟩ k v = some ⟨L.set k (.val v)⟩ := by
  have q : (⟨L⟩ : Array Slot).setIfInBounds k (.val v) = ⟨L.set k (.val v)⟩ := by simp
  rw [← q]
  unfold okS at h
  cases e : L[k]? with
  | none => rw [e] at h; cases h
  | some x =>
    rw [e] at h
    cases x with
    | unset => exact XS.store1 (lget e) (Or.inl rfl) hv
    | second => cases h
    | val w => exact XS.store1 (lget e) (Or.inr ⟨w, rfl, by simpa [okSlot] using h⟩) hv
theorem R_istore (C : Cx p s m meth c Z a0 EL own B n nm ret) {j : Nat} {v : Int32} (hd : Dc B pc (.istore j) 2 q) (hl : okS L j = true)
    (k : Run p l e R s m args below meth c Z nw EL K vm h cells slots (fr m q (L.set j (.val (.int v))) r)) : Run p l e R s m args below meth c Z nw EL K vm h cells slots (fr m pc L (.int v :: r)) := by
  obtain ⟨hd, rfl⟩ := hd
  exact Run.plain (fun T A t st => XS.istore A C.1 rfl (hb C.2.1 hd) rfl (okS_store hl rfl) st) k
theorem R_istore_n (C : Cx p s m meth c Z a0 EL own B n nm ret) {j : Fin 4} {v : Int32} (hd : Dc B pc (.istore_n j) 1 q) (hl : okS L j.val = true)
    (k : Run p l e R s m args below meth c Z nw EL K vm h cells slots (fr m q (L.set j.val (.val (.int v))) r)) : Run p l e R s m args below meth c Z nw EL K vm h cells slots (fr m pc L (.int v :: r)) := by
  obtain ⟨hd, rfl⟩ := hd
  exact Run.plain (fun T A t st => XS.istoreN A C.1 rfl (hb C.2.1 hd) rfl (okS_store hl rfl) st) k
theorem R_astore (C : Cx p s m meth c Z a0 EL own B n nm ret) {j : Nat} {v : Value} (hd : Dc B pc (.astore j) 2 q) (hv : v.isRef = true) (hc : v.category = 1) (hl : okS L j = true)
    (k : Run p l e R s m args below meth c Z nw EL K vm h cells slots (fr m q (L.set j (.val v)) r)) : Run p l e R s m args below meth c Z nw EL K vm h cells slots (fr m pc L (v :: r)) := by
  obtain ⟨hd, rfl⟩ := hd
  exact Run.plain (fun T A t st => XS.astore A C.1 rfl (hb C.2.1 hd) rfl hv (okS_store hl hc) st) k
theorem R_astore_n (C : Cx p s m meth c Z a0 EL own B n nm ret) {j : Fin 4} {v : Value} (hd : Dc B pc (.astore_n j) 1 q) (hv : v.isRef = true) (hc : v.category = 1) (hl : okS L j.val = true)
    (k : Run p l e R s m args below meth c Z nw EL K vm h cells slots (fr m q (L.set j.val (.val v)) r)) : Run p l e R s m args below meth c Z nw EL K vm h cells slots (fr m pc L (v :: r)) := by
  obtain ⟨hd, rfl⟩ := hd
  exact Run.plain (fun T A t st => XS.astoreN A C.1 rfl (hb C.2.1 hd) rfl hv (okS_store hl hc) st) k
theorem R_lstore (C : Cx p s m meth c Z a0 EL own B n nm ret) {j : Nat} {v : Int64} {L' : List Slot} (hd : Dc B pc (.lstore j) 2 q) (hl : storeLocals ⟨L⟩ j (.long v) = some ⟨L'⟩)
    (k : Run p l e R s m args below meth c Z nw EL K vm h cells slots (fr m q L' r)) : Run p l e R s m args below meth c Z nw EL K vm h cells slots (fr m pc L (.long v :: r)) := by
  obtain ⟨hd, rfl⟩ := hd
  exact Run.plain (fun T A t st => XT.lstore A C.1 rfl (hb C.2.1 hd) rfl hl st) k
theorem R_iinc (C : Cx p s m meth c Z a0 EL own B n nm ret) {j : Nat} {d : Int} {v w dI : Int32} (hd : Dc B pc (.iinc j d) 3 q) (hl : L[j]? = some (.val (.int v))) (ho : okS L j = true) (hdI : Int32.ofInt d = dI) (hw : v + dI = w)
    (k : Run p l e R s m args below meth c Z nw EL K vm h cells slots (fr m q (L.set j (.val (.int w))) r)) : Run p l e R s m args below meth c Z nw EL K vm h cells slots (fr m pc L r) := by
  obtain ⟨hd, rfl⟩ := hd
  subst hdI hw
  exact Run.plain (fun T A t st => XS.iinc A C.1 rfl (hb C.2.1 hd) (lget hl) (okS_store ho rfl) st) k
theorem R_goto (C : Cx p s m meth c Z a0 EL own B n nm ret) {o : Int} (hd : Jp B pc (.goto o) o q tq)
    (k : Run p l e R s m args below meth c Z nw EL K vm h cells slots (fr m tq L r)) : Run p l e R s m args below meth c Z nw EL K vm h cells slots (fr m pc L r) := by
  obtain ⟨hd, -, h1, h2⟩ := hd
  exact Run.plain (fun T A t st => XS.goto A C.1 rfl rfl (hb C.2.1 hd) h1 h2 st) k
abbrev cpr (cd : ClassFile.Cond) (x y : Int32) : Prop := match cd with | .eq => x = y | .ne => ¬ x = y | .lt => x < y | .ge => ¬ x < y | .gt => y < x | .le => ¬ y < x
theorem cpr_t {cd : ClassFile.Cond} {x y : Int32} (h : cpr cd x y) : if_icmp.holds cd x y = true := by
  cases cd
  · exact (teq h).1
  · exact (feq h).2
  · exact (tlt h).1
  · exact (flt h).2.1
  · exact (tlt h).2.2.1
  · exact (flt h).2.2.2
theorem cpr_f {cd : ClassFile.Cond} {x y : Int32} (h : ¬ cpr cd x y) : if_icmp.holds cd x y = false := by
  cases cd
  · exact (feq h).1
  · exact (teq (Decidable.not_not.mp h)).2
  · exact (flt h).1
  · exact (tlt (Decidable.not_not.mp h)).2.1
  · exact (flt h).2.2.1
  · exact (tlt (Decidable.not_not.mp h)).2.2.2
theorem R_icmp (C : Cx p s m meth c Z a0 EL own B n nm ret) {cd : ClassFile.Cond} {o : Int} {x y : Int32} (hd : Jp B pc (.if_icmp cd o) o q tq)
    (k1 : cpr cd x y → Run p l e R s m args below meth c Z nw EL K vm h cells slots (fr m tq L r)) (k2 : ¬ cpr cd x y → Run p l e R s m args below meth c Z nw EL K vm h cells slots (fr m q L r)) : Run p l e R s m args below meth c Z nw EL K vm h cells slots (fr m pc L (.int y :: .int x :: r)) := by
  obtain ⟨hd, rfl, h1, h2⟩ := hd
  by_cases hc : cpr cd x y
  · exact Run.plain (fun T A t st => XS.icmpYes A C.1 rfl rfl (hb C.2.1 hd) rfl (cpr_t hc) h1 h2 st) (k1 hc)
  · exact Run.plain (fun T A t st => XS.icmpNo A C.1 rfl (hb C.2.1 hd) rfl (cpr_f hc) st) (k2 hc)
theorem R_if (C : Cx p s m meth c Z a0 EL own B n nm ret) {cd : ClassFile.Cond} {o : Int} {x : Int32} (hd : Jp B pc (.ifCond cd o) o q tq)
    (k1 : cpr cd x 0 → Run p l e R s m args below meth c Z nw EL K vm h cells slots (fr m tq L r)) (k2 : ¬ cpr cd x 0 → Run p l e R s m args below meth c Z nw EL K vm h cells slots (fr m q L r)) : Run p l e R s m args below meth c Z nw EL K vm h cells slots (fr m pc L (.int x :: r)) := by
  obtain ⟨hd, rfl, h1, h2⟩ := hd
  by_cases hc : cpr cd x 0
  · exact Run.plain (fun T A t st => XS.ifYes A C.1 rfl rfl (hb C.2.1 hd) rfl ((if0 _ _).trans (cpr_t hc)) h1 h2 st) (k1 hc)
  · exact Run.plain (fun T A t st => XS.ifNo A C.1 rfl (hb C.2.1 hd) rfl ((if0 _ _).trans (cpr_f hc)) st) (k2 hc)
theorem R_ifnull_y (C : Cx p s m meth c Z a0 EL own B n nm ret) {o : Int} (hd : Jp B pc (.ifnull o) o q tq)
    (k : Run p l e R s m args below meth c Z nw EL K vm h cells slots (fr m tq L r)) : Run p l e R s m args below meth c Z nw EL K vm h cells slots (fr m pc L (.null :: r)) := by
  obtain ⟨hd, rfl, h1, h2⟩ := hd
  exact Run.plain (fun T A t st => XS.ifnullYes A C.1 rfl rfl (hb C.2.1 hd) rfl h1 h2 st) k
theorem R_ifnull_n (C : Cx p s m meth c Z a0 EL own B n nm ret) {o : Int} (hd : Jp B pc (.ifnull o) o q tq)
    (k : Run p l e R s m args below meth c Z nw EL K vm h cells slots (fr m q L r)) : Run p l e R s m args below meth c Z nw EL K vm h cells slots (fr m pc L (.ref a :: r)) := by
  obtain ⟨hd, rfl, h1, h2⟩ := hd
  exact Run.plain (fun T A t st => XS.ifnullNo A C.1 rfl (hb C.2.1 hd) rfl st) k
theorem R_ifnonnull_y (C : Cx p s m meth c Z a0 EL own B n nm ret) {o : Int} (hd : Jp B pc (.ifnonnull o) o q tq)
    (k : Run p l e R s m args below meth c Z nw EL K vm h cells slots (fr m tq L r)) : Run p l e R s m args below meth c Z nw EL K vm h cells slots (fr m pc L (.ref a :: r)) := by
  obtain ⟨hd, rfl, h1, h2⟩ := hd
  exact Run.plain (fun T A t st => XT.ifnonnullYes A C.1 rfl rfl (hb C.2.1 hd) rfl h1 h2 st) k
theorem R_ifnonnull_n (C : Cx p s m meth c Z a0 EL own B n nm ret) {o : Int} (hd : Jp B pc (.ifnonnull o) o q tq)
    (k : Run p l e R s m args below meth c Z nw EL K vm h cells slots (fr m q L r)) : Run p l e R s m args below meth c Z nw EL K vm h cells slots (fr m pc L (.null :: r)) := by
  obtain ⟨hd, rfl, h1, h2⟩ := hd
  exact Run.plain (fun T A t st => XT.ifnonnullNo A C.1 rfl (hb C.2.1 hd) rfl st) k
theorem R_acmp_ne (C : Cx p s m meth c Z a0 EL own B n nm ret) {o : Int} {v w : Value} (hd : Jp B pc (.if_acmp .ne o) o q tq) (hv : v.isRef = true) (hw : w.isRef = true)
    (k1 : v ≠ w → Run p l e R s m args below meth c Z nw EL K vm h cells slots (fr m tq L r)) (k2 : v = w → Run p l e R s m args below meth c Z nw EL K vm h cells slots (fr m q L r)) : Run p l e R s m args below meth c Z nw EL K vm h cells slots (fr m pc L (w :: v :: r)) := by
  obtain ⟨hd, rfl, h1, h2⟩ := hd
  by_cases hc : v = w
  · exact Run.plain (fun T A t st => XT.acmpNo A C.1 rfl (hb C.2.1 hd) rfl hv hw (by simp [XT.acmp, hc]) st) (k2 hc)
  · exact Run.plain (fun T A t st => XT.acmpYes A C.1 rfl rfl (hb C.2.1 hd) rfl hv hw (by simp [XT.acmp, hc]) h1 h2 st) (k1 hc)
theorem R_acmp_eq (C : Cx p s m meth c Z a0 EL own B n nm ret) {o : Int} {v w : Value} (hd : Jp B pc (.if_acmp .eq o) o q tq) (hv : v.isRef = true) (hw : w.isRef = true)
    (k1 : v = w → Run p l e R s m args below meth c Z nw EL K vm h cells slots (fr m tq L r)) (k2 : v ≠ w → Run p l e R s m args below meth c Z nw EL K vm h cells slots (fr m q L r)) : Run p l e R s m args below meth c Z nw EL K vm h cells slots (fr m pc L (w :: v :: r)) := by
  obtain ⟨hd, rfl, h1, h2⟩ := hd
  by_cases hc : v = w
  · exact Run.plain (fun T A t st => XT.acmpYes A C.1 rfl rfl (hb C.2.1 hd) rfl hv hw (by simp [XT.acmp, hc]) h1 h2 st) (k1 hc)
  · exact Run.plain (fun T A t st => XT.acmpNo A C.1 rfl (hb C.2.1 hd) rfl hv hw (by simp [XT.acmp, hc]) st) (k2 hc)
theorem R_getfield (C : Cx p s m meth c Z a0 EL own B n nm ret) {idx : Nat} {R0 O f d : String} {v : Value} (hd : Dc B pc (.getfield idx) 3 q) (w : (Cond.fieldLink own idx R0 f d).before a0 Z = true) (via : Via Z R0 O f d) (F : Fld Z h a O f d v)
    (k : Run p l e R s m args below meth c Z nw EL K vm h cells slots (fr m q L (v :: r))) : Run p l e R s m args below meth c Z nw EL K vm h cells slots (fr m pc L (.ref a :: r)) := by
  obtain ⟨hd, rfl⟩ := hd
  exact Run.warm C (fun T locs X e1 hZ hown => getF X C.1 hZ hown (host := "") (Or.inl w) via e1 F (g := fr m pc L (.ref a :: r)) rfl rfl (hb C.2.1 hd)) k
theorem R_getfieldN (C : Cx p s m meth c Z a0 EL own B n nm ret) {idx : Nat} {R0 O f d host : String} {v : Value} (hd : Dc B pc (.getfield idx) 3 q) (w : (Cond.fieldLinkNest own idx R0 f d host).before a0 Z = true) (via : Via Z R0 O f d) (F : Fld Z h a O f d v)
    (k : Run p l e R s m args below meth c Z nw EL K vm h cells slots (fr m q L (v :: r))) : Run p l e R s m args below meth c Z nw EL K vm h cells slots (fr m pc L (.ref a :: r)) := by
  obtain ⟨hd, rfl⟩ := hd
  exact Run.warm C (fun T locs X e1 hZ hown => getF X C.1 hZ hown (Or.inr w) via e1 F (g := fr m pc L (.ref a :: r)) rfl rfl (hb C.2.1 hd)) k
theorem R_putfield (C : Cx p s m meth c Z a0 EL own B n nm ret) {idx kk : Nat} {R0 O f d Cn : String} {ty : FieldType} {v old : Value} (hd : Dc B pc (.putfield idx) 3 q) (w : (Cond.fieldLink own idx R0 f d).before a0 Z = true) (via : Via Z R0 O f d)
    (F : Fld Z h a O f d old) (E : Exa Z h a Cn) (La : (Cond.lays Cn O f d).before a0 Z = true ∨ ((Cond.laysFinal Cn O f d).before a0 Z = true ∧ own = O ∧ nm = "<init>")) (wi : (Cond.instantiable Cn kk).before a0 Z = true)
    (hty : parseFieldDescriptor d = some ty) (hn : narrow ty v = v) (hf : fits ty v = true) (ha : Z.heap.size ≤ a) (hs : Safe Z EL vm h a)
    (k : ∀ h', Wr h h' a (RoadKit.slotOf Z O f d) v → (∀ x, Safe Z EL vm h x → Safe Z EL vm h' x) → Run p l e R s m args below meth c Z nw EL K vm h' cells slots (fr m q L r)) : Run p l e R s m args below meth c Z nw EL K vm h cells slots (fr m pc L (v :: .ref a :: r)) := by
  obtain ⟨hd, rfl⟩ := hd
  exact Run.write C (fun T locs X e1 hZ hown => putF X C.1 hZ hown (host := "") (Or.inl w) via e1 F E (La.imp id fun z => ⟨z.1, z.2.1, C.2.2.2.2.2.1.trans z.2.2⟩) wi hty hn hf (g := fr m pc L (v :: .ref a :: r)) rfl rfl (hb C.2.1 hd)) ha hs k
theorem R_getstatic (C : Cx p s m meth c Z a0 EL own B n nm ret) {idx : Nat} {R0 O f d : String} {v : Value} (hd : Dc B pc (.getstatic idx) 3 q) (w : (Cond.fieldLink own idx R0 f d).before a0 Z = true) (via : Via Z R0 O f d) (F : Sta Z h O f d v)
    (k : Run p l e R s m args below meth c Z nw EL K vm h cells slots (fr m q L (v :: r))) : Run p l e R s m args below meth c Z nw EL K vm h cells slots (fr m pc L r) := by
  obtain ⟨hd, rfl⟩ := hd
  exact Run.warm C (fun T locs X e1 hZ hown => getS X C.1 hZ hown (host := "") w via e1 F (g := fr m pc L r) rfl (hb C.2.1 hd)) k
theorem R_new (C : Cx p s m meth c Z a0 EL own B n nm ret) {idx nn : Nat} {Cn : String} (hd : Dc B pc (.new idx) 3 q) (w : (Cond.classLink own idx Cn).before a0 Z = true) (wi : (Cond.instantiable Cn nn).before a0 Z = true) (wz : (Cond.initialized Cn).before a0 Z = true) (hc : cells + 1 ≤ R.cells) (hl : slots + nn ≤ R.slots)
    (k : ∀ h', Ext h h' → (Exa Z h' h.size Cn ∧ (∀ {O f d : String} {ty : FieldType}, Laid Z a0 Cn O f d → parseFieldDescriptor d = some ty → Fld Z h' h.size O f d (defaultValue ty))) → Safe Z EL vm h' h.size → (∀ x, Safe Z EL vm h x → Safe Z EL vm h' x) → Run p l e R s m args below meth c Z nw EL K vm h' (cells + 1) (slots + nn) (fr m q L (.ref h.size :: r))) : Run p l e R s m args below meth c Z nw EL K vm h cells slots (fr m pc L r) := by
  obtain ⟨hd, rfl⟩ := hd
  refine Run.grow C (F := fun h' => Exa Z h' h.size Cn ∧ (∀ {O f d : String} {ty : FieldType}, Laid Z a0 Cn O f d → parseFieldDescriptor d = some ty → Fld Z h' h.size O f d (defaultValue ty))) (fun T locs X e1 hZ hown => ?_) (fun h' E F H Sf => k h' E F (Safe.ext E H (Safe.new (Nat.le_refl _))) Sf)
  obtain ⟨T', h', X', e2, E, A, D, -, st⟩ := newO X C.1 hZ hown w wi wz e1 (g := fr m pc L r) rfl (hb C.2.1 hd) hc hl
  exact ⟨T', h', X', e2, E, ⟨A, D⟩, st⟩
theorem R_initO (C : Cx p s m meth c Z a0 EL own B n nm ret) {idx : Nat} (hd : Dc B pc (.invokespecial idx) 3 q) (w1 : (Cond.methodLink own idx Lib.objectInit).before a0 Z = true) (w2 : (Cond.instanceMethod Lib.objectInit).before a0 Z = true) (w3 : (Cond.code Lib.objectInit Jvm.Pilot.@@N@@.object_method_1_code 1 none).before a0 Z = true)
    (hz : L.length = n) (hf : 1 ≤ R.frames) (hl : (r.map fun v => v.category).sum + 12 ≤ R.locals)
    (k : Run p l e R s m args below meth c Z nw EL K vm h cells slots (fr m q L r)) : Run p l e R s m args below meth c Z nw EL K vm h cells slots (fr m pc L (.ref a :: r)) := by
  obtain ⟨hd, rfl⟩ := hd
  exact Run.warm C (fun T locs X e1 hZ hown => initO X C.1 hZ hown w1 w2 w3 e1 (g := fr m pc L (.ref a :: r)) rfl (by rw [C.2.2.2.1]; exact hz) rfl (hb C.2.1 hd) hf (W := (r.map fun v => v.category).sum) (by show 2 * 0 + _ ≤ _; omega) hl) k
theorem R_checkcast (C : Cx p s m meth c Z a0 EL own B n nm ret) {idx : Nat} {Kn : String} (hd : Dc B pc (.checkcast idx) 3 q) (w : (Cond.classLink own idx Kn).before a0 Z = true) (F : RoadKit.Ins Z h a Kn true)
    (k : Run p l e R s m args below meth c Z nw EL K vm h cells slots (fr m q L (.ref a :: r))) : Run p l e R s m args below meth c Z nw EL K vm h cells slots (fr m pc L (.ref a :: r)) := by
  obtain ⟨hd, rfl⟩ := hd
  exact Run.warm C (fun T locs X e1 hZ hown => castY X C.1 hZ hown w e1 F (g := fr m pc L (.ref a :: r)) rfl rfl (hb C.2.1 hd)) k
theorem R_instanceof_y (C : Cx p s m meth c Z a0 EL own B n nm ret) {idx : Nat} {Kn : String} (hd : Dc B pc (.instanceof idx) 3 q) (w : (Cond.classLink own idx Kn).before a0 Z = true) (F : RoadKit.Ins Z h a Kn true)
    (k : Run p l e R s m args below meth c Z nw EL K vm h cells slots (fr m q L (.int 1 :: r))) : Run p l e R s m args below meth c Z nw EL K vm h cells slots (fr m pc L (.ref a :: r)) := by
  obtain ⟨hd, rfl⟩ := hd
  exact Run.warm C (fun T locs X e1 hZ hown => instY X C.1 hZ hown w e1 F (g := fr m pc L (.ref a :: r)) rfl rfl (hb C.2.1 hd)) k
theorem R_instanceof_n (C : Cx p s m meth c Z a0 EL own B n nm ret) {idx : Nat} {Kn Cn : String} (hd : Dc B pc (.instanceof idx) 3 q) (w : (Cond.classLink own idx Kn).before a0 Z = true) (F : RoadKit.Ins Z s.heap a Kn false) (E : RoadKit.Exa Z s.heap a Cn)
    (k : Run p l e R s m args below meth c Z nw EL K vm h cells slots (fr m q L (.int 0 :: r))) : Run p l e R s m args below meth c Z nw EL K vm h cells slots (fr m pc L (.ref a :: r)) := by
  obtain ⟨hd, rfl⟩ := hd
  exact Run.warm C (fun T locs X e1 hZ hown => instN X C.1 hZ hown w e1 F E (g := fr m pc L (.ref a :: r)) rfl rfl (hb C.2.1 hd)) k
theorem R_ldcInt (C : Cx p s m meth c Z a0 EL own B n nm ret) {idx : Nat} {v : Int32} (hd : Dc B pc (.ldc idx) 2 q) (w : (Cond.constant own idx v).before a0 Z = true)
    (k : Run p l e R s m args below meth c Z nw EL K vm h cells slots (fr m q L (.int v :: r))) : Run p l e R s m args below meth c Z nw EL K vm h cells slots (fr m pc L r) := by
  obtain ⟨hd, rfl⟩ := hd
  exact Run.warm C (fun T locs X e1 hZ hown => ⟨T, X, e1, X.ldcInt C.1 hown (mvT hZ w) (g := fr m pc L r) rfl (hb C.2.1 hd)⟩) k
theorem R_ldc2Long (C : Cx p s m meth c Z a0 EL own B n nm ret) {idx : Nat} {v : Int64} (hd : Dc B pc (.ldc2_w idx) 3 q) (w : (Cond.constantLong own idx v).before a0 Z = true)
    (k : Run p l e R s m args below meth c Z nw EL K vm h cells slots (fr m q L (.long v :: r))) : Run p l e R s m args below meth c Z nw EL K vm h cells slots (fr m pc L r) := by
  obtain ⟨hd, rfl⟩ := hd
  exact Run.warm C (fun T locs X e1 hZ hown => ⟨T, X, e1, X.ldc2Long C.1 hown (mvT hZ w) (g := fr m pc L r) rfl (hb C.2.1 hd)⟩) k
theorem R_return (C : Cx p s m meth c Z a0 EL own B n nm ret) {rm : Room} {Q : Option Value → Heap → Prop} (hd : Dc B pc (.return_) 1 q) (hr : ret = none) (hc : cells ≤ rm.cells) (hs : slots ≤ rm.slots) (hQ : Q none h) :
    Run p l e R s m args below meth c Z nw EL (Kf s Z nw EL rm Q) vm h cells slots (fr m pc L []) :=
  Run.out C (v := none) (fun _ => rfl) hQ hc hs (fun T locs X fs hl => X.returnOut C.1 (C.2.2.2.2.2.2.1.trans hr) (hb C.2.1 hd.1) hl)
theorem R_retI (C : Cx p s m meth c Z a0 EL own B n nm ret) {rm : Room} {Q : Option Value → Heap → Prop} {v : Int32} (hd : Dc B pc (.ireturn) 1 q) (hr : ret = some .int) (hc : cells ≤ rm.cells) (hs : slots ≤ rm.slots) (hQ : Q (some (.int v)) h) :
    Run p l e R s m args below meth c Z nw EL (Kf s Z nw EL rm Q) vm h cells slots (fr m pc L (.int v :: r)) :=
  Run.out C (v := some (.int v)) (fun z => by rw [hr] at z; cases z) hQ hc hs (fun T locs X fs hl => retOut X C.1 (C.2.2.2.2.2.2.1.trans hr) rfl (Or.inl ⟨rfl, Or.inl rfl, v, rfl⟩) (hb C.2.1 hd.1) hl)
theorem R_retN (C : Cx p s m meth c Z a0 EL own B n nm ret) {rm : Room} {Q : Option Value → Heap → Prop} {v : Int32} {t : FieldType} (hd : Dc B pc (.ireturn) 1 q) (hr : ret = some t) (ht : t = .boolean ∨ t = .byte ∨ t = .char ∨ t = .short) (hc : cells ≤ rm.cells) (hs : slots ≤ rm.slots) (hQ : Q (some (.int (nar t v))) h) :
    Run p l e R s m args below meth c Z nw EL (Kf s Z nw EL rm Q) vm h cells slots (fr m pc L (.int v :: r)) :=
  Run.out C (v := some (.int (nar t v))) (fun z => by rw [hr] at z; cases z) hQ hc hs (fun T locs X fs hl => retN X C.1 (C.2.2.2.2.2.2.1.trans hr) ht (hb C.2.1 hd.1) hl)
theorem R_retL (C : Cx p s m meth c Z a0 EL own B n nm ret) {rm : Room} {Q : Option Value → Heap → Prop} {v : Int64} (hd : Dc B pc (.lreturn) 1 q) (hr : ret = some .long) (hc : cells ≤ rm.cells) (hs : slots ≤ rm.slots) (hQ : Q (some (.long v)) h) :
    Run p l e R s m args below meth c Z nw EL (Kf s Z nw EL rm Q) vm h cells slots (fr m pc L (.long v :: r)) :=
  Run.out C (v := some (.long v)) (fun z => by rw [hr] at z; cases z) hQ hc hs (fun T locs X fs hl => retOut X C.1 (C.2.2.2.2.2.2.1.trans hr) rfl (Or.inr (Or.inl ⟨rfl, rfl, v, rfl⟩)) (hb C.2.1 hd.1) hl)
theorem nar_ref {t : FieldType} {v : Value} (hv : v.isRef = true) : narrow t v = v := by cases t <;> cases v <;> first | rfl | cases hv
theorem R_areturn (C : Cx p s m meth c Z a0 EL own B n nm ret) {rm : Room} {Q : Option Value → Heap → Prop} {v : Value} {t : FieldType} (hd : Dc B pc (.areturn) 1 q) (hr : ret = some t) (ht : t.isReference = true) (hv : v.isRef = true) (hc : cells ≤ rm.cells) (hs : slots ≤ rm.slots) (hQ : Q (some v) h) :
    Run p l e R s m args below meth c Z nw EL (Kf s Z nw EL rm Q) vm h cells slots (fr m pc L (v :: r)) :=
  Run.out C (v := some v) (fun z => by rw [hr] at z; cases z) hQ hc hs (fun T locs X fs hl => retOut X C.1 (C.2.2.2.2.2.2.1.trans hr) (nar_ref hv) (Or.inr (Or.inr (Or.inr (Or.inr ⟨rfl, ht, hv⟩)))) (hb C.2.1 hd.1) hl)
theorem R_static (C : Cx p s m meth c Z a0 EL own B n nm ret) {idx n' : Nat} {y : MethodName} {B' : ByteArray} {ret' : Option FieldType} {rm : Room} {sf : List Addr} {Q : Option Value → Heap → Prop} {ps : List FieldType} {rr : Option FieldType} {st : List Value} (argsL : List Value) (hd : Dc B pc (.invokestatic idx) 3 q)
    {nw' : Prop} (M : Met l Z nw' EL y B' n' ret' rm argsL.toArray h sf Q) (hnn : nw → nw') (w1 : (Cond.methodLink own idx y).before a0 Z = true) (w2 : (Cond.static y).before a0 Z = true) (w3 : (Cond.initialized y.cls).before a0 Z = true) (w4 : (Cond.code y B' n' ret').before a0 Z = true)
    (hy : y.cls ≠ "java/lang/invoke/MethodHandle" ∧ y.cls ≠ "java/lang/invoke/VarHandle") (pd : parseMethodDescriptor y.desc = some ⟨ps, rr⟩) (hlen : argsL.length = ps.length) (hst : st = argsL.reverse ++ r) (hz : L.length = n)
    (rf : rm.frames + 1 ≤ R.frames) (rl : (r.map fun v => v.category).sum + (n' + 11) + rm.locals ≤ R.locals) (rc : cells + rm.cells ≤ R.cells) (rs : slots + rm.slots ≤ R.slots) (hsf : ∀ x ∈ sf, Safe Z EL vm h x)
    (k : ∀ v vm' h', Q v h' → h.size ≤ h'.size → (∀ x, x < h.size → Safe Z EL vm h x → Safe Z EL vm' h' x) → (nw' → ∀ x, h.size ≤ x → Safe Z EL vm' h' x) → Run p l e R s m args below meth c Z nw EL K vm' h' (cells + rm.cells) (slots + rm.slots) (fr m q L (v.toList ++ r))) : Run p l e R s m args below meth c Z nw EL K vm h cells slots (fr m pc L st) := by
  obtain ⟨hd, rfl⟩ := hd
  refine Run.back C hnn (Q := Q) (g' := fun v => fr m (pc + 3) L (v.toList ++ r)) (q := 0) (fun kk T locs X e1 hZ hown H hE hS hk => ?_) k
  obtain ⟨v, vm1, Bp, -, X', hS', hg, hP, hst'⟩ := callSS X C.1 hown (mvT (s := s.setVm vm) hZ w1) (mvT (s := s.setVm vm) hZ w2) (mvT (s := s.setVm vm) hZ w3) (mvT (s := s.setVm vm) hZ w4) hy (backM (W := (r.map fun v => v.category).sum) M hZ w4 w3 rf rl C.2.2.2.2.2.2.2 H hE hsf) (g := fr m pc L st) rfl (by rw [C.2.2.2.1]; exact hz) (argsL := argsL) (rest := r) (lenOf pd hlen) hst (by show 2 * 0 + _ ≤ _; omega) (hb C.2.1 hd) (fun _ _ => ⟨rfl, e1, rc, rs⟩)
  exact ⟨v, Bp, X', hS', hg, hP, hst'⟩
theorem R_special (C : Cx p s m meth c Z a0 EL own B n nm ret) {idx n' : Nat} {y : MethodName} {B' : ByteArray} {rm : Room} {sf : List Addr} {Q : Option Value → Heap → Prop} {ps : List FieldType} {rr : Option FieldType} {st : List Value} (argsL : List Value) (hd : Dc B pc (.invokespecial idx) 3 q)
    {nw' : Prop} (M : Met l Z nw' EL y B' n' none rm (.ref a :: argsL).toArray h sf Q) (hnn : nw → nw') (hy1 : y.name = "<init>") (w1 : (Cond.methodLink own idx y).before a0 Z = true) (w2 : (Cond.instanceMethod y).before a0 Z = true) (w3 : (Cond.initialized y.cls).before a0 Z = true) (w4 : (Cond.code y B' n' none).before a0 Z = true)
    (hy : y.cls ≠ "java/lang/invoke/MethodHandle" ∧ y.cls ≠ "java/lang/invoke/VarHandle") (pd : parseMethodDescriptor y.desc = some ⟨ps, rr⟩) (hlen : argsL.length = ps.length) (hst : st = argsL.reverse ++ .ref a :: r) (hz : L.length = n)
    (rf : rm.frames + 1 ≤ R.frames) (rl : (r.map fun v => v.category).sum + (n' + 11) + rm.locals ≤ R.locals) (rc : cells + rm.cells ≤ R.cells) (rs : slots + rm.slots ≤ R.slots) (hsf : ∀ x ∈ sf, Safe Z EL vm h x)
    (k : ∀ v vm' h', Q v h' → h.size ≤ h'.size → (∀ x, x < h.size → Safe Z EL vm h x → Safe Z EL vm' h' x) → (nw' → ∀ x, h.size ≤ x → Safe Z EL vm' h' x) → Run p l e R s m args below meth c Z nw EL K vm' h' (cells + rm.cells) (slots + rm.slots) (fr m q L (v.toList ++ r))) : Run p l e R s m args below meth c Z nw EL K vm h cells slots (fr m pc L st) := by
  obtain ⟨hd, rfl⟩ := hd
  refine Run.back C hnn (Q := Q) (g' := fun v => fr m (pc + 3) L (v.toList ++ r)) (q := 0) (fun kk T locs X e1 hZ hown H hE hS hk => ?_) k
  obtain ⟨v, vm1, Bp, -, X', hS', hg, hP, hst'⟩ := X.specialBackS C.1 hy1 hown (mvT (s := s.setVm vm) hZ w1) (mvT (s := s.setVm vm) hZ w2) (mvT (s := s.setVm vm) hZ w4) hy (backM (W := (r.map fun v => v.category).sum) M hZ w4 w3 rf rl C.2.2.2.2.2.2.2 H hE hsf) (g := fr m pc L st) rfl (by rw [C.2.2.2.1]; exact hz) (Steps.refl _) (a := a) (argsL := argsL) (rest := r) (lenOf pd hlen) hst (by show 2 * 0 + _ ≤ _; omega) (hb C.2.1 hd) (fun _ _ => ⟨rfl, e1, rc, rs⟩)
  exact ⟨v, Bp, X', hS', hg, hP, hst'⟩
theorem R_virtual (C : Cx p s m meth c Z a0 EL own B n nm ret) {idx n' : Nat} {y : MethodName} {B' : ByteArray} {ret' : Option FieldType} {rm : Room} {sf : List Addr} {Q : Option Value → Heap → Prop} {ps : List FieldType} {rr : Option FieldType} {st : List Value} {Cn : String} (argsL : List Value) (hd : Dc B pc (.invokevirtual idx) 3 q)
    {nw' : Prop} (M : Met l Z nw' EL y B' n' ret' rm (.ref a :: argsL).toArray h sf Q) (hnn : nw → nw') (E : Exa Z h a Cn) (w1 : (Cond.methodLink own idx y).before a0 Z = true) (w2 : (Cond.declares y).before a0 Z = true) (w5 : (Cond.selects Cn y y).before a0 Z = true) (w6 : (Cond.instanceMethod y).before a0 Z = true) (w3 : (Cond.initialized y.cls).before a0 Z = true) (w4 : (Cond.code y B' n' ret').before a0 Z = true)
    (hy : y.cls ≠ "java/lang/invoke/MethodHandle" ∧ y.cls ≠ "java/lang/invoke/VarHandle") (pd : parseMethodDescriptor y.desc = some ⟨ps, rr⟩) (hlen : argsL.length = ps.length) (hst : st = argsL.reverse ++ .ref a :: r) (hz : L.length = n)
    (rf : rm.frames + 1 ≤ R.frames) (rl : (r.map fun v => v.category).sum + (n' + 11) + rm.locals ≤ R.locals) (rc : cells + rm.cells ≤ R.cells) (rs : slots + rm.slots ≤ R.slots) (hsf : ∀ x ∈ sf, Safe Z EL vm h x)
    (k : ∀ v vm' h', Q v h' → h.size ≤ h'.size → (∀ x, x < h.size → Safe Z EL vm h x → Safe Z EL vm' h' x) → (nw' → ∀ x, h.size ≤ x → Safe Z EL vm' h' x) → Run p l e R s m args below meth c Z nw EL K vm' h' (cells + rm.cells) (slots + rm.slots) (fr m q L (v.toList ++ r))) : Run p l e R s m args below meth c Z nw EL K vm h cells slots (fr m pc L st) := by
  obtain ⟨hd, rfl⟩ := hd
  refine Run.back C hnn (Q := Q) (g' := fun v => fr m (pc + 3) L (v.toList ++ r)) (q := 0) (fun kk T locs X e1 hZ hown H hE hS hk => ?_) k
  obtain ⟨cq, kq, qa, qb, qc⟩ := isOf (s := s.setVm vm) hZ e1 E
  obtain ⟨v, vm1, Bp, -, X', hS', hg, hP, hst'⟩ := X.virtualBackS C.1 hown (mvT (s := s.setVm vm) hZ w1) (mvT (s := s.setVm vm) hZ w2) (notFace_of_selects (args := #[]) (mvT (s := s.setVm vm) hZ w5)) (mvT (s := s.setVm vm) hZ w5) (mvT (s := s.setVm vm) hZ w6) hy (backM (W := (r.map fun v => v.category).sum) M hZ w4 w3 rf rl C.2.2.2.2.2.2.2 H hE hsf) qa qc (g := fr m pc L st) rfl (by rw [C.2.2.2.1]; exact hz) (Steps.refl _) (argsL := argsL) (rest := r) (lenOf pd hlen) hst (by show 2 * 0 + _ ≤ _; omega) (hb C.2.1 hd) (fun _ _ => ⟨rfl, e1, rc, rs⟩)
  exact ⟨v, Bp, X', hS', hg, hP, hst'⟩
theorem R_private (C : Cx p s m meth c Z a0 EL own B n nm ret) {idx n' : Nat} {y : MethodName} {B' : ByteArray} {ret' : Option FieldType} {rm : Room} {sf : List Addr} {Q : Option Value → Heap → Prop} {ps : List FieldType} {rr : Option FieldType} {st : List Value} {Cn : String} (argsL : List Value) (hd : Dc B pc (.invokevirtual idx) 3 q)
    {nw' : Prop} (M : Met l Z nw' EL y B' n' ret' rm (.ref a :: argsL).toArray h sf Q) (hnn : nw → nw') (E : Exa Z h a Cn) (w1 : (Cond.methodLink own idx y).before a0 Z = true) (w2 : (Cond.privateMethod y).before a0 Z = true) (w5 : (Cond.selects y.cls y y).before a0 Z = true) (w6 : (Cond.instanceMethod y).before a0 Z = true) (w3 : (Cond.initialized y.cls).before a0 Z = true) (w4 : (Cond.code y B' n' ret').before a0 Z = true)
    (hy : y.cls ≠ "java/lang/invoke/MethodHandle" ∧ y.cls ≠ "java/lang/invoke/VarHandle") (pd : parseMethodDescriptor y.desc = some ⟨ps, rr⟩) (hlen : argsL.length = ps.length) (hst : st = argsL.reverse ++ .ref a :: r) (hz : L.length = n)
    (rf : rm.frames + 1 ≤ R.frames) (rl : (r.map fun v => v.category).sum + (n' + 11) + rm.locals ≤ R.locals) (rc : cells + rm.cells ≤ R.cells) (rs : slots + rm.slots ≤ R.slots) (hsf : ∀ x ∈ sf, Safe Z EL vm h x)
    (k : ∀ v vm' h', Q v h' → h.size ≤ h'.size → (∀ x, x < h.size → Safe Z EL vm h x → Safe Z EL vm' h' x) → (nw' → ∀ x, h.size ≤ x → Safe Z EL vm' h' x) → Run p l e R s m args below meth c Z nw EL K vm' h' (cells + rm.cells) (slots + rm.slots) (fr m q L (v.toList ++ r))) : Run p l e R s m args below meth c Z nw EL K vm h cells slots (fr m pc L st) := by
  obtain ⟨hd, rfl⟩ := hd
  refine Run.back C hnn (Q := Q) (g' := fun v => fr m (pc + 3) L (v.toList ++ r)) (q := 0) (fun kk T locs X e1 hZ hown H hE hS hk => ?_) k
  obtain ⟨cell, hcell, hobj⟩ := E.cell
  obtain ⟨v, vm1, Bp, -, X', hS', hg, hP, hst'⟩ := X.privateBackS C.1 (y := y) hown (mvT (s := s.setVm vm) hZ w1) (mvT (s := s.setVm vm) hZ w6) (mvT (s := s.setVm vm) hZ w5) (Cond.privateMethod_at (mvP (s := s.setVm vm) hZ w2 (args := #[]))) (mvT (s := s.setVm vm) hZ w4) hy (backM (W := (r.map fun v => v.category).sum) M hZ w4 w3 rf rl C.2.2.2.2.2.2.2 H hE hsf) (g := fr m pc L st) rfl (by rw [C.2.2.2.1]; exact hz) (Steps.refl _) (a := a) (by rw [e1]; exact hcell) hobj (argsL := argsL) (rest := r) (lenOf pd hlen) hst (by show 2 * 0 + _ ≤ _; omega) (hb C.2.1 hd) (fun _ _ => ⟨rfl, e1, rc, rs⟩)
  exact ⟨v, Bp, X', hS', hg, hP, hst'⟩
theorem R_privateI (C : Cx p s m meth c Z a0 EL own B n nm ret) {idx n' ki : Nat} {y : MethodName} {B' : ByteArray} {ret' : Option FieldType} {rm : Room} {sf : List Addr} {Q : Option Value → Heap → Prop} {ps : List FieldType} {rr : Option FieldType} {st : List Value} {Cn : String} (argsL : List Value) (hd : Dc B pc (.invokevirtual idx) 3 q)
    {nw' : Prop} (M : Met l Z nw' EL y B' n' ret' rm (.ref a :: argsL).toArray h sf Q) (hnn : nw → nw') (E : Exa Z h a Cn) (w1 : (Cond.methodLink own idx y).before a0 Z = true) (w2 : (Cond.privateMethod y).before a0 Z = true) (w5 : (Cond.instantiable y.cls ki).before a0 Z = true) (w6 : (Cond.instanceMethod y).before a0 Z = true) (w3 : (Cond.initialized y.cls).before a0 Z = true) (w4 : (Cond.code y B' n' ret').before a0 Z = true)
    (hy : y.cls ≠ "java/lang/invoke/MethodHandle" ∧ y.cls ≠ "java/lang/invoke/VarHandle") (pd : parseMethodDescriptor y.desc = some ⟨ps, rr⟩) (hlen : argsL.length = ps.length) (hst : st = argsL.reverse ++ .ref a :: r) (hz : L.length = n)
    (rf : rm.frames + 1 ≤ R.frames) (rl : (r.map fun v => v.category).sum + (n' + 11) + rm.locals ≤ R.locals) (rc : cells + rm.cells ≤ R.cells) (rs : slots + rm.slots ≤ R.slots) (hsf : ∀ x ∈ sf, Safe Z EL vm h x)
    (k : ∀ v vm' h', Q v h' → h.size ≤ h'.size → (∀ x, x < h.size → Safe Z EL vm h x → Safe Z EL vm' h' x) → (nw' → ∀ x, h.size ≤ x → Safe Z EL vm' h' x) → Run p l e R s m args below meth c Z nw EL K vm' h' (cells + rm.cells) (slots + rm.slots) (fr m q L (v.toList ++ r))) : Run p l e R s m args below meth c Z nw EL K vm h cells slots (fr m pc L st) := by
  obtain ⟨hd, rfl⟩ := hd
  refine Run.back C hnn (Q := Q) (g' := fun v => fr m (pc + 3) L (v.toList ++ r)) (q := 0) (fun kk T locs X e1 hZ hown H hE hS hk => ?_) k
  obtain ⟨cell, hcell, hobj⟩ := E.cell
  have hK := backM (p := p) (e := e) (below := below) (s := s) (args := args) (R := R) (len := 3) (W := (r.map fun v => v.category).sum) M hZ w4 w3 rf rl C.2.2.2.2.2.2.2 H hE hsf
  obtain ⟨mk, methM, hnamed, hmethM, hstM, habM⟩ := Cond.instanceMethod_spec (mvT (s := s.setVm vm) (args := args) hZ w6)
  obtain ⟨methM', cM, hmethM', -, -, -, -, -, -, hsigM⟩ := Cond.code_spec hnamed (mvT (s := s.setVm vm) (args := args) hZ w4)
  cases hmethM.symm.trans hmethM'
  obtain ⟨ci, kP, i1, hkP, -, i4, -⟩ := Cond.instantiable_spec (mvT (s := s.setVm vm) (args := args) hZ w5)
  have hcls := findClass_of_methodNamed hnamed
  cases hcls.symm.trans i1
  have hkPi : kP.isInterface = false := (Bool.or_eq_false_iff.mp i4).1
  have hpriv := Cond.privateMethod_at (mvP (s := s.setVm vm) hZ w2 (args := #[]))
  have hselP : selectMethod e.platform (s.setVm vm).vm cell.cls mk = .method mk := selectMethod_private hmethM (hpriv mk methM hnamed hmethM)
  obtain ⟨vm₁, X₁, hstep₁⟩ := X.invokevirtual C.1 hown (mvT (s := s.setVm vm) hZ w1) hnamed hmethM hstM hkP hkPi hy (a := a) (cell := cell) (by rw [e1]; exact hcell) hobj hselP hmethM habM hkP hkPi (g := fr m pc L st) rfl (argsL := argsL) (rest := r) (lenOf pd hlen _ hsigM) hst (hb C.2.1 hd)
  obtain ⟨v, Bp, X', hS', hgr, hpost, hsteps⟩ := hK m meth c ⟨T.setVm vm₁, locs, cells, slots⟩ (fr m pc L r) (.invokevirtual idx) mk (.ref a :: argsL).toArray X₁ rfl (by rw [C.2.2.2.1]; exact hz) (hb C.2.1 hd) (by show 2 * 0 + (r.map fun v => v.category).sum ≤ (r.map fun v => v.category).sum; omega) (X₁.named hnamed) ⟨rfl, e1, rc, rs⟩
  exact ⟨v, Bp, X', hS', hgr, hpost, (hstep₁ _ fun acts => by rw [doInvoke_state]; exact Steps.refl _).trans hsteps⟩
theorem nf_of {Z : State} {a0 : Array Value} {C : String} {y y' : MethodName} (w : (Cond.selects C y' y').before a0 Z = true) (hc : y'.cls = y.cls) : NotFace Z y := fun r0 h0 => by
  obtain ⟨c2, r2, m2, q1, q2, q3, q4, kP, hkP, hkPi⟩ := Cond.selects_spec w
  have e1 := findClass_of_methodNamed q3
  have e2 := findClass_of_methodNamed h0
  rw [hc] at e1
  have e3 : m2.cls = r0.cls := Option.some.inj (e1.symm.trans e2)
  exact ⟨kP, by rw [← e3]; exact hkP, hkPi⟩
theorem same_of {Z : State} {a0 : Array Value} {C : String} {y y' : MethodName} (w : (Cond.selects C y' y').before a0 Z = true) (hc : y'.cls = y.cls) (w2 : (Cond.instanceMethod y).before a0 Z = true) (hy : y.cls ≠ "java/lang/invoke/MethodHandle" ∧ y.cls ≠ "java/lang/invoke/VarHandle") : (Cond.sameMethod y.cls y.cls y.name y.desc).before a0 Z = true := by
  obtain ⟨mk, methM, hnamed, -, -, -⟩ := Cond.instanceMethod_spec w2
  obtain ⟨kP, hkP, hkPi⟩ := nf_of w hc mk hnamed
  have e1 := findClass_of_methodNamed hnamed
  have e2 := State.methodFound?_of_named hnamed hy
  have e3 : Z.methodNamed? ⟨y.cls, y.name, y.desc⟩ = some mk := hnamed
  simp [Cond.before, Cond.holds, Cond.value, e1, e2, e3, hkP, hkPi]
theorem R_super (C : Cx p s m meth c Z a0 EL own B n nm ret) {idx n' : Nat} {y y' : MethodName} {B' : ByteArray} {ret' : Option FieldType} {rm : Room} {sf : List Addr} {Q : Option Value → Heap → Prop} {ps : List FieldType} {rr : Option FieldType} {st : List Value} {Cn Cs : String} (argsL : List Value) (hd : Dc B pc (.invokespecial idx) 3 q)
    {nw' : Prop} (M : Met l Z nw' EL y B' n' ret' rm (.ref a :: argsL).toArray h sf Q) (hnn : nw → nw') (E : Exa Z h a Cn) (w1 : (Cond.methodLink own idx y).before a0 Z = true) (w5 : (Cond.selects Cs y' y').before a0 Z = true) (hcc : y'.cls = y.cls) (w6 : (Cond.instanceMethod y).before a0 Z = true) (w7 : (Cond.superclass own y.cls).before a0 Z = true) (w3 : (Cond.initialized y.cls).before a0 Z = true) (w4 : (Cond.code y B' n' ret').before a0 Z = true) (hn1 : y.name ≠ "<init>")
    (hy : y.cls ≠ "java/lang/invoke/MethodHandle" ∧ y.cls ≠ "java/lang/invoke/VarHandle") (pd : parseMethodDescriptor y.desc = some ⟨ps, rr⟩) (hlen : argsL.length = ps.length) (hst : st = argsL.reverse ++ .ref a :: r) (hz : L.length = n)
    (rf : rm.frames + 1 ≤ R.frames) (rl : (r.map fun v => v.category).sum + (n' + 11) + rm.locals ≤ R.locals) (rc : cells + rm.cells ≤ R.cells) (rs : slots + rm.slots ≤ R.slots) (hsf : ∀ x ∈ sf, Safe Z EL vm h x)
    (k : ∀ v vm' h', Q v h' → h.size ≤ h'.size → (∀ x, x < h.size → Safe Z EL vm h x → Safe Z EL vm' h' x) → (nw' → ∀ x, h.size ≤ x → Safe Z EL vm' h' x) → Run p l e R s m args below meth c Z nw EL K vm' h' (cells + rm.cells) (slots + rm.slots) (fr m q L (v.toList ++ r))) : Run p l e R s m args below meth c Z nw EL K vm h cells slots (fr m pc L st) := by
  obtain ⟨hd, rfl⟩ := hd
  refine Run.back C hnn (Q := Q) (g' := fun v => fr m (pc + 3) L (v.toList ++ r)) (q := 0) (fun kk T locs X e1 hZ hown H hE hS hk => ?_) k
  obtain ⟨v, vm1, Bp, -, X', hS', hg, hP, hst'⟩ := superBackS X C.1 (s := s.setVm vm) hZ hown w1 (same_of w5 hcc w6 hy) w6 w7 hn1 (backM (W := (r.map fun v => v.category).sum) M hZ w4 w3 rf rl C.2.2.2.2.2.2.2 H hE hsf) e1 (RoadKit.Ins.self E) (g := fr m pc L st) rfl (by rw [C.2.2.2.1]; exact hz) w4 (argsL := argsL) (rest := r) (lenOf pd hlen) hst (by show 2 * 0 + _ ≤ _; omega) (hb C.2.1 hd) (fun _ _ => ⟨rfl, e1, rc, rs⟩)
  exact ⟨v, Bp, X', hS', hg, hP, hst'⟩
theorem R_virtual2 (C : Cx p s m meth c Z a0 EL own B n nm ret) {idx n' : Nat} {y z y' : MethodName} {B' : ByteArray} {ret' : Option FieldType} {rm : Room} {sf : List Addr} {Q : Option Value → Heap → Prop} {ps : List FieldType} {rr : Option FieldType} {st : List Value} {Cn : String} (argsL : List Value) (hd : Dc B pc (.invokevirtual idx) 3 q)
    {nw' : Prop} (M : Met l Z nw' EL z B' n' ret' rm (.ref a :: argsL).toArray h sf Q) (hnn : nw → nw') (E : Exa Z h a Cn) (w1 : (Cond.methodLink own idx y).before a0 Z = true) (w2 : (Cond.declares y).before a0 Z = true) (w5 : (Cond.selects Cn y z).before a0 Z = true) (w8 : (Cond.selects Cn y' y').before a0 Z = true) (hcc : y'.cls = y.cls) (w6 : (Cond.instanceMethod z).before a0 Z = true) (w3 : (Cond.initialized z.cls).before a0 Z = true) (w4 : (Cond.code z B' n' ret').before a0 Z = true)
    (hy : y.cls ≠ "java/lang/invoke/MethodHandle" ∧ y.cls ≠ "java/lang/invoke/VarHandle") (pd : parseMethodDescriptor y.desc = some ⟨ps, rr⟩) (hlen : argsL.length = ps.length) (hst : st = argsL.reverse ++ .ref a :: r) (hz : L.length = n)
    (rf : rm.frames + 1 ≤ R.frames) (rl : (r.map fun v => v.category).sum + (n' + 11) + rm.locals ≤ R.locals) (rc : cells + rm.cells ≤ R.cells) (rs : slots + rm.slots ≤ R.slots) (hsf : ∀ x ∈ sf, Safe Z EL vm h x)
    (k : ∀ v vm' h', Q v h' → h.size ≤ h'.size → (∀ x, x < h.size → Safe Z EL vm h x → Safe Z EL vm' h' x) → (nw' → ∀ x, h.size ≤ x → Safe Z EL vm' h' x) → Run p l e R s m args below meth c Z nw EL K vm' h' (cells + rm.cells) (slots + rm.slots) (fr m q L (v.toList ++ r))) : Run p l e R s m args below meth c Z nw EL K vm h cells slots (fr m pc L st) := by
  obtain ⟨hd, rfl⟩ := hd
  refine Run.back C hnn (Q := Q) (g' := fun v => fr m (pc + 3) L (v.toList ++ r)) (q := 0) (fun kk T locs X e1 hZ hown H hE hS hk => ?_) k
  obtain ⟨cq, kq, qa, qb, qc⟩ := isOf (s := s.setVm vm) hZ e1 E
  obtain ⟨v, vm1, Bp, -, X', hS', hg, hP, hst'⟩ := X.virtualBackS C.1 hown (mvT (s := s.setVm vm) hZ w1) (mvT (s := s.setVm vm) hZ w2) (nf_of (mvT (s := s.setVm vm) (args := #[]) hZ w8) hcc) (mvT (s := s.setVm vm) hZ w5) (mvT (s := s.setVm vm) hZ w6) hy (backM (W := (r.map fun v => v.category).sum) M hZ w4 w3 rf rl C.2.2.2.2.2.2.2 H hE hsf) qa qc (g := fr m pc L st) rfl (by rw [C.2.2.2.1]; exact hz) (Steps.refl _) (argsL := argsL) (rest := r) (lenOf pd hlen) hst (by show 2 * 0 + _ ≤ _; omega) (hb C.2.1 hd) (fun _ _ => ⟨rfl, e1, rc, rs⟩)
  exact ⟨v, Bp, X', hS', hg, hP, hst'⟩
theorem R_privateS (C : Cx p s m meth c Z a0 EL own B n nm ret) {idx n' : Nat} {y : MethodName} {B' : ByteArray} {ret' : Option FieldType} {rm : Room} {sf : List Addr} {Q : Option Value → Heap → Prop} {ps : List FieldType} {rr : Option FieldType} {st : List Value} {Cn Cs : String} (argsL : List Value) (hd : Dc B pc (.invokevirtual idx) 3 q)
    {nw' : Prop} (M : Met l Z nw' EL y B' n' ret' rm (.ref a :: argsL).toArray h sf Q) (hnn : nw → nw') (E : Exa Z h a Cn) (w1 : (Cond.methodLink own idx y).before a0 Z = true) (w2 : (Cond.privateMethod y).before a0 Z = true) (w5 : (Cond.selects Cs y y).before a0 Z = true) (w6 : (Cond.instanceMethod y).before a0 Z = true) (w3 : (Cond.initialized y.cls).before a0 Z = true) (w4 : (Cond.code y B' n' ret').before a0 Z = true)
    (hy : y.cls ≠ "java/lang/invoke/MethodHandle" ∧ y.cls ≠ "java/lang/invoke/VarHandle") (pd : parseMethodDescriptor y.desc = some ⟨ps, rr⟩) (hlen : argsL.length = ps.length) (hst : st = argsL.reverse ++ .ref a :: r) (hz : L.length = n)
    (rf : rm.frames + 1 ≤ R.frames) (rl : (r.map fun v => v.category).sum + (n' + 11) + rm.locals ≤ R.locals) (rc : cells + rm.cells ≤ R.cells) (rs : slots + rm.slots ≤ R.slots) (hsf : ∀ x ∈ sf, Safe Z EL vm h x)
    (k : ∀ v vm' h', Q v h' → h.size ≤ h'.size → (∀ x, x < h.size → Safe Z EL vm h x → Safe Z EL vm' h' x) → (nw' → ∀ x, h.size ≤ x → Safe Z EL vm' h' x) → Run p l e R s m args below meth c Z nw EL K vm' h' (cells + rm.cells) (slots + rm.slots) (fr m q L (v.toList ++ r))) : Run p l e R s m args below meth c Z nw EL K vm h cells slots (fr m pc L st) := by
  obtain ⟨hd, rfl⟩ := hd
  refine Run.back C hnn (Q := Q) (g' := fun v => fr m (pc + 3) L (v.toList ++ r)) (q := 0) (fun kk T locs X e1 hZ hown H hE hS hk => ?_) k
  obtain ⟨cell, hcell, hobj⟩ := E.cell
  have hK := backM (p := p) (e := e) (below := below) (s := s) (args := args) (R := R) (len := 3) (W := (r.map fun v => v.category).sum) M hZ w4 w3 rf rl C.2.2.2.2.2.2.2 H hE hsf
  obtain ⟨mk, methM, hnamed, hmethM, hstM, habM⟩ := Cond.instanceMethod_spec (mvT (s := s.setVm vm) (args := args) hZ w6)
  obtain ⟨methM', cM, hmethM', -, -, -, -, -, -, hsigM⟩ := Cond.code_spec hnamed (mvT (s := s.setVm vm) (args := args) hZ w4)
  cases hmethM.symm.trans hmethM'
  obtain ⟨kP, hkP, hkPi⟩ := notFace_of_selects (args := #[]) (mvT (s := s.setVm vm) hZ w5) mk hnamed
  have hpriv := Cond.privateMethod_at (mvP (s := s.setVm vm) hZ w2 (args := #[]))
  have hselP : selectMethod e.platform (s.setVm vm).vm cell.cls mk = .method mk := selectMethod_private hmethM (hpriv mk methM hnamed hmethM)
  obtain ⟨vm₁, X₁, hstep₁⟩ := X.invokevirtual C.1 hown (mvT (s := s.setVm vm) hZ w1) hnamed hmethM hstM hkP hkPi hy (a := a) (cell := cell) (by rw [e1]; exact hcell) hobj hselP hmethM habM hkP hkPi (g := fr m pc L st) rfl (argsL := argsL) (rest := r) (lenOf pd hlen _ hsigM) hst (hb C.2.1 hd)
  obtain ⟨v, Bp, X', hS', hgr, hpost, hsteps⟩ := hK m meth c ⟨T.setVm vm₁, locs, cells, slots⟩ (fr m pc L r) (.invokevirtual idx) mk (.ref a :: argsL).toArray X₁ rfl (by rw [C.2.2.2.1]; exact hz) (hb C.2.1 hd) (by show 2 * 0 + (r.map fun v => v.category).sum ≤ (r.map fun v => v.category).sum; omega) (X₁.named hnamed) ⟨rfl, e1, rc, rs⟩
  exact ⟨v, Bp, X', hS', hgr, hpost, (hstep₁ _ fun acts => by rw [doInvoke_state]; exact Steps.refl _).trans hsteps⟩
end Steps
end Jvm.Own
namespace Jvm.Own
open Sem ClassFile Op Lib Bundle Jvm.Stand Jvm.Free Jvm.LawKit Jvm.RoadKit
section Arrays
variable {p : Program} {l : Launch} {e : Env} {R : Room} {s : State} {m : MethodId} {args : Array Value} {below : List Frame} {meth : Method} {c : Code} {Z : State} {a0 : Array Value} {nw : Prop} {EL : List (String × Nat)} {K : State → Outcome → Prop} {vm : Vm} {h h' h0 : Heap} {cells slots : Nat} {own nm : String} {B : ByteArray} {n : Nat} {ret : Option FieldType} {pc q tq : Nat} {L : List Slot} {r : List Value} {a b : Addr} {ty : FieldType} {N sl : Nat} {f g : Nat → Value} {v : Value}
/-- the array at a: N places, place i holds f i -/
def AR (Z : State) (h : Heap) (a : Addr) (ty : FieldType) (N : Nat) (f : Nat → Value) : Prop :=
  ∃ cl : Cell, Arr Z h a cl ty ∧ cl.slots.size = N ∧ N < 2 ^ 31 ∧ ∀ i, i < N → cl.slots[i]? = some (f i) ∧ fits ty (f i) = true
def upd (f : Nat → Value) (j : Nat) (v : Value) : Nat → Value := fun i => if i = j then v else f i
theorem upd_eq {j : Nat} : upd f j v j = v := if_pos rfl
theorem upd_ne {i j : Nat} (q : i ≠ j) : upd f j v i = f i := if_neg q
theorem AR.lt (A : AR Z h a ty N f) : a < h.size := by obtain ⟨cl, A, -⟩ := A; exact A.lt
theorem AR.small (A : AR Z h a ty N f) : N < 2 ^ 31 := by obtain ⟨cl, A, -, q, -⟩ := A; exact q
theorem AR.ext (A : AR Z h a ty N f) (E : Ext h h') : AR Z h' a ty N f := by obtain ⟨cl, A, r⟩ := A; exact ⟨cl, A.ext E, r⟩
theorem AR.other (A : AR Z h a ty N f) (W : Wr h h' b sl v) (q : a ≠ b) : AR Z h' a ty N f := by obtain ⟨cl, A, r⟩ := A; exact ⟨cl, A.other W q, r⟩
theorem AR.keep {ws : List Addr} (A : AR Z h a ty N f) (K : Keep h h' ws) (q : a ∉ ws) : AR Z h' a ty N f := by obtain ⟨cl, A, r⟩ := A; exact ⟨cl, ⟨K.2.1 a cl A.1 q, A.2⟩, r⟩
theorem AR.cg (A : AR Z h a ty N f) (q : ∀ i, i < N → f i = g i) : AR Z h a ty N g := by
  obtain ⟨cl, A, h1, h2, H⟩ := A
  exact ⟨cl, A, h1, h2, fun i hi => by rw [← q i hi]; exact H i hi⟩
theorem AR.set (A : AR Z h a ty N f) {j : Nat} (W : Wr h h' a j v) (hv : fits ty v = true) : AR Z h' a ty N (upd f j v) := by
  obtain ⟨cl, A, hn, h31, H⟩ := A
  refine ⟨cl.setSlot j v, A.same W, by rw [sz_set]; exact hn, h31, fun i hi => ?_⟩
  unfold upd
  by_cases e : i = j
  · subst e
    rw [if_pos rfl]
    exact ⟨by simp [Cell.setSlot, hn, hi], hv⟩
  · rw [if_neg e]
    exact ⟨(Array.getElem?_setIfInBounds_ne (Ne.symm e)).trans (H i hi).1, (H i hi).2⟩
theorem AR.fit (A : AR Z h a ty N f) {i : Nat} (hi : i < N) : fits ty (f i) = true := by obtain ⟨cl, A, h1, h2, H⟩ := A; exact (H i hi).2
theorem AR.safe (A : AR Z h a ty N f) (hW : Z.Warmed39 vm) (ht : ty ≠ .byte) : Safe Z EL vm h a := by obtain ⟨cl, A, -⟩ := A; exact Safe.arr hW.alike A ht
theorem AR.neExa {C : String} {k : Nat} (A : AR Z h a ty N f) (E : Exa Z h b C) (w : (Cond.instantiable C k).before a0 Z = true) : a ≠ b := by obtain ⟨cl, A, -⟩ := A; exact (ne_arr E w A).symm
theorem AR.start (hf : Fit Z) {t : Term} (ev : t.eval args Z none [] Z = some (.ref a)) (hx : (Cond.arrayOf t ty).value args Z none Z [] = some true) {w : Int32} (hl : (Cond.eq (.length t) (.int w)).value args Z none Z [] = some true) (hw : w.toInt = N) : ∃ cl : Cell, Arr Z Z.heap a cl ty ∧ AR Z Z.heap a ty N (fun i => cl.slots.getD i .null) := by
  obtain ⟨cl, A⟩ := Arr.start ev hx
  have e1 : Z.arrayAt? a = some cl := A.fin (Vm.Alike.refl _)
  have hsz : cl.slots.size < 2 ^ 31 ∧ cl.slots.size.toInt32 = w := by
    by_cases z : cl.slots.size < 2 ^ 31
    · refine ⟨z, ?_⟩
      have z2 := len_f ev e1 z
      simp only [Cond.value, z2, Term.int_eval] at hl
      simpa using hl
    · have z2 : (Term.length t).eval args Z none [] Z = none := by simp only [Term.eval, ev, e1, Option.bind_eq_bind, Option.bind_some, if_neg z]
      simp [Cond.value, z2] at hl
  have hN : cl.slots.size = N := by
    have z := len_toInt hsz.1
    rw [hsz.2, hw] at z
    omega
  refine ⟨cl, A, cl, A, hN, by rw [← hN]; exact hsz.1, fun i hi => ?_⟩
  have hi' : i < cl.slots.size := by omega
  obtain ⟨v, v1, v2⟩ := elem_fit (j := i.toInt32) hf A (idx_in hi' hsz.1)
  have z3 : i.toInt32.toNatClampNeg = i := by simp [Int32.toNatClampNeg, len_toInt (show i < 2 ^ 31 by omega)]
  rw [z3] at v1
  have z4 : cl.slots.getD i .null = v := by simp [Array.getD_eq_getD_getElem?, v1]
  exact ⟨by show cl.slots[i]? = some (cl.slots.getD i .null); rw [z4]; exact v1, by show fits ty (cl.slots.getD i .null) = true; rw [z4]; exact v2⟩
theorem cl_of {j : Int32} {i : Nat} (hj : j.toInt = i) : j.toNatClampNeg = i := by simp [Int32.toNatClampNeg, hj]
theorem int_lit {t : Term} {w : Int32} (q : (Cond.eq t (.int w)).value args Z none Z [] = some true) : t.eval args Z none [] Z = some (.int w) := by
  obtain ⟨x, y, ex, ey, k1, k2⟩ := cmp_v (Or.inl q)
  have hy : y = .int w := (Option.some.inj ey).symm
  subst hy
  obtain ⟨x', rfl⟩ : ∃ x', x = .int x' := k2
  have z : x' = w := gotT (Cond.eq_ints ex (Term.int_eval w)) q
  rw [← z]; exact ex
theorem elem_lit {t : Term} {cl : Cell} (ev : t.eval args Z none [] Z = some (.ref a)) (A : Arr Z Z.heap a cl ty) {k w : Int32} {i : Nat} (hk : k.toInt = i) (q : (Cond.eq (.elem t (.int k)) (.int w)).value args Z none Z [] = some true) : cl.slots.getD i .null = .int w := by
  have z := elem_in (int_lit q) ev (Term.int_eval k) A.1
  rw [cl_of hk] at z
  simp [Array.getD_eq_getD_getElem?, z.2]
theorem Keep.ofExt (E : Ext h h') {ws : List Addr} : Keep h h' ws := (Keep.refl h ws).ext E
theorem nn_of {j : Int32} {i : Nat} (hj : j.toInt = i) : ¬ j < 0 := by
  rw [Int32.lt_iff_toInt_lt, hj, Int32.toInt_zero]; omega
theorem in_of {j : Int32} {i : Nat} {cl : Cell} (hj : j.toInt = i) (hi : i < N) (hn : cl.slots.size = N) : ¬ (j < 0 ∨ cl.slots.size ≤ j.toNatClampNeg) := by
  rw [cl_of hj, hn]
  intro z
  rcases z with z | z
  · exact nn_of hj z
  · omega
theorem R_arraylength (C : Cx p s m meth c Z a0 EL own B n nm ret) {w : Int32} (hd : Dc B pc (.arraylength) 1 q) (A : AR Z h a ty N f) (hv : N.toInt32 = w)
    (k : Run p l e R s m args below meth c Z nw EL K vm h cells slots (fr m q L (.int w :: r))) : Run p l e R s m args below meth c Z nw EL K vm h cells slots (fr m pc L (.ref a :: r)) := by
  obtain ⟨hd, rfl⟩ := hd
  obtain ⟨cl, A, hn, -⟩ := A
  subst hv hn
  exact Run.warm C (fun T locs X e1 hZ hown => ⟨T, X, e1, fun t st => X.arraylength C.1 (cell := cl) (by rw [e1]; exact A.1) (State.isArrayOf_alike hZ.alike A.2.1) (g := fr m pc L (.ref a :: r)) rfl rfl (hb C.2.1 hd) t st⟩) k
theorem R_iaload (C : Cx p s m meth c Z a0 EL own B n nm ret) {j : Int32} (i : Nat) (hd : Dc B pc (.iaload) 1 q) (A : AR Z h a .int N f) (hj : j.toInt = i) (hi : i < N) (hv : f i = v)
    (k : Run p l e R s m args below meth c Z nw EL K vm h cells slots (fr m q L (v :: r))) : Run p l e R s m args below meth c Z nw EL K vm h cells slots (fr m pc L (.int j :: .ref a :: r)) := by
  obtain ⟨hd, rfl⟩ := hd
  obtain ⟨cl, A, hn, h31, H⟩ := A
  subst hv
  exact Run.warm C (fun T locs X e1 hZ hown => ⟨T, X, e1, fun t st => X.iaload C.1 (cell := cl) (by rw [e1]; exact A.1) (State.isArrayOf_alike hZ.alike A.2.1) A.2.2 (in_of hj hi hn) (by rw [cl_of hj]; exact (H i hi).1) (g := fr m pc L (.int j :: .ref a :: r)) rfl rfl (hb C.2.1 hd) t st⟩) k
theorem R_caload (C : Cx p s m meth c Z a0 EL own B n nm ret) {j : Int32} (i : Nat) (hd : Dc B pc (.caload) 1 q) (A : AR Z h a .char N f) (hj : j.toInt = i) (hi : i < N) (hv : f i = v)
    (k : Run p l e R s m args below meth c Z nw EL K vm h cells slots (fr m q L (v :: r))) : Run p l e R s m args below meth c Z nw EL K vm h cells slots (fr m pc L (.int j :: .ref a :: r)) := by
  obtain ⟨hd, rfl⟩ := hd
  obtain ⟨cl, A, hn, h31, H⟩ := A
  subst hv
  exact Run.warm C (fun T locs X e1 hZ hown => ⟨T, X, e1, fun t st => X.caload C.1 (cell := cl) (by rw [e1]; exact A.1) (State.isArrayOf_alike hZ.alike A.2.1) A.2.2 (in_of hj hi hn) (by rw [cl_of hj]; exact (H i hi).1) (g := fr m pc L (.int j :: .ref a :: r)) rfl rfl (hb C.2.1 hd) t st⟩) k
theorem R_baload (C : Cx p s m meth c Z a0 EL own B n nm ret) {j : Int32} (i : Nat) (hd : Dc B pc (.baload) 1 q) (A : AR Z h a .byte N f) (hj : j.toInt = i) (hi : i < N) (hv : f i = v)
    (k : Run p l e R s m args below meth c Z nw EL K vm h cells slots (fr m q L (v :: r))) : Run p l e R s m args below meth c Z nw EL K vm h cells slots (fr m pc L (.int j :: .ref a :: r)) := by
  obtain ⟨hd, rfl⟩ := hd
  obtain ⟨cl, A, hn, h31, H⟩ := A
  subst hv
  exact Run.warm C (fun T locs X e1 hZ hown => ⟨T, X, e1, fun t st => X.baloadBytes C.1 (cell := cl) (by rw [e1]; exact A.1) (State.isArrayOf_alike hZ.alike A.2.1) A.2.2 (in_of hj hi hn) (by rw [cl_of hj]; exact (H i hi).1) (g := fr m pc L (.int j :: .ref a :: r)) rfl rfl (hb C.2.1 hd) t st⟩) k
theorem R_laload (C : Cx p s m meth c Z a0 EL own B n nm ret) {j : Int32} (i : Nat) (hd : Dc B pc (.laload) 1 q) (A : AR Z h a .long N f) (hj : j.toInt = i) (hi : i < N) (hv : f i = v)
    (k : Run p l e R s m args below meth c Z nw EL K vm h cells slots (fr m q L (v :: r))) : Run p l e R s m args below meth c Z nw EL K vm h cells slots (fr m pc L (.int j :: .ref a :: r)) := by
  obtain ⟨hd, rfl⟩ := hd
  obtain ⟨cl, A, hn, h31, H⟩ := A
  subst hv
  exact Run.warm C (fun T locs X e1 hZ hown => ⟨T, X, e1, fun t st => X.laload C.1 (cell := cl) (by rw [e1]; exact A.1) (State.isArrayOf_alike hZ.alike A.2.1) A.2.2 (in_of hj hi hn) (by rw [cl_of hj]; exact (H i hi).1) (g := fr m pc L (.int j :: .ref a :: r)) rfl rfl (hb C.2.1 hd) t st⟩) k
theorem R_aaload (C : Cx p s m meth c Z a0 EL own B n nm ret) {j : Int32} (i : Nat) (hd : Dc B pc (.aaload) 1 q) (A : AR Z h a ty N f) (ht : ty.isReference = true) (hj : j.toInt = i) (hi : i < N) (hv : f i = v)
    (k : Run p l e R s m args below meth c Z nw EL K vm h cells slots (fr m q L (v :: r))) : Run p l e R s m args below meth c Z nw EL K vm h cells slots (fr m pc L (.int j :: .ref a :: r)) := by
  obtain ⟨hd, rfl⟩ := hd
  obtain ⟨cl, A, hn, h31, H⟩ := A
  subst hv
  exact Run.warm C (fun T locs X e1 hZ hown => ⟨T, X, e1, fun t st => X.aaload C.1 (cell := cl) (by rw [e1]; exact A.1) (State.isArrayOf_alike hZ.alike A.2.1) ht A.2.2 (in_of hj hi hn) (by rw [cl_of hj]; exact (H i hi).1) (g := fr m pc L (.int j :: .ref a :: r)) rfl rfl (hb C.2.1 hd) t st⟩) k
theorem R_iastore (C : Cx p s m meth c Z a0 EL own B n nm ret) {j x : Int32} (i : Nat) (hd : Dc B pc (.iastore) 1 q) (A : AR Z h a .int N f) (hj : j.toInt = i) (hi : i < N) (ha : Z.heap.size ≤ a) (hs : Safe Z EL vm h a)
    (k : ∀ h', Wr h h' a i (.int x) → AR Z h' a .int N (upd f i (.int x)) → (∀ x, Safe Z EL vm h x → Safe Z EL vm h' x) → Run p l e R s m args below meth c Z nw EL K vm h' cells slots (fr m q L r)) : Run p l e R s m args below meth c Z nw EL K vm h cells slots (fr m pc L (.int x :: .int j :: .ref a :: r)) := by
  obtain ⟨hd, rfl⟩ := hd
  have A0 := A
  obtain ⟨cl, A, hn, h31, H⟩ := A
  refine Run.write C (a := a) (sl := i) (v := .int x) (fun T locs X e1 hZ hown => ?_) ha hs (fun h' W Sf => k h' W (A0.set W (rfl)) Sf)
  have z := stI X C.1 hZ e1 A (x := x) (in_of hj hi hn) (g := fr m pc L (.int x :: .int j :: .ref a :: r)) rfl rfl (hb C.2.1 hd)
  rw [cl_of hj] at z
  exact z
theorem R_castore (C : Cx p s m meth c Z a0 EL own B n nm ret) {j x : Int32} (i : Nat) (hd : Dc B pc (.castore) 1 q) (A : AR Z h a .char N f) (hj : j.toInt = i) (hi : i < N) (ha : Z.heap.size ≤ a) (hs : Safe Z EL vm h a)
    (k : ∀ h', Wr h h' a i (.int (nar .char x)) → AR Z h' a .char N (upd f i (.int (nar .char x))) → (∀ x, Safe Z EL vm h x → Safe Z EL vm h' x) → Run p l e R s m args below meth c Z nw EL K vm h' cells slots (fr m q L r)) : Run p l e R s m args below meth c Z nw EL K vm h cells slots (fr m pc L (.int x :: .int j :: .ref a :: r)) := by
  obtain ⟨hd, rfl⟩ := hd
  have A0 := A
  obtain ⟨cl, A, hn, h31, H⟩ := A
  refine Run.write C (a := a) (sl := i) (v := .int (nar .char x)) (fun T locs X e1 hZ hown => ?_) ha hs (fun h' W Sf => k h' W (A0.set W (fits_nar_char x)) Sf)
  have z := stC X C.1 hZ e1 A (x := x) (in_of hj hi hn) (g := fr m pc L (.int x :: .int j :: .ref a :: r)) rfl rfl (hb C.2.1 hd)
  rw [cl_of hj] at z
  exact z
theorem R_bastore (C : Cx p s m meth c Z a0 EL own B n nm ret) {j x : Int32} (i : Nat) (hd : Dc B pc (.bastore) 1 q) (A : AR Z h a .byte N f) (hj : j.toInt = i) (hi : i < N) (ha : Z.heap.size ≤ a) (hs : Safe Z EL vm h a)
    (k : ∀ h', Wr h h' a i (.int (nar .byte x)) → AR Z h' a .byte N (upd f i (.int (nar .byte x))) → (∀ x, Safe Z EL vm h x → Safe Z EL vm h' x) → Run p l e R s m args below meth c Z nw EL K vm h' cells slots (fr m q L r)) : Run p l e R s m args below meth c Z nw EL K vm h cells slots (fr m pc L (.int x :: .int j :: .ref a :: r)) := by
  obtain ⟨hd, rfl⟩ := hd
  have A0 := A
  obtain ⟨cl, A, hn, h31, H⟩ := A
  refine Run.write C (a := a) (sl := i) (v := .int (nar .byte x)) (fun T locs X e1 hZ hown => ?_) ha hs (fun h' W Sf => k h' W (A0.set W (fits_nar_byte x)) Sf)
  have z := stB X C.1 hZ e1 A (x := x) (in_of hj hi hn) (g := fr m pc L (.int x :: .int j :: .ref a :: r)) rfl rfl (hb C.2.1 hd)
  rw [cl_of hj] at z
  exact z
theorem nsz {x : Int32} (h : x.toInt = N) : N < 2 ^ 31 := by have := Int32.toInt_lt x; omega
theorem R_newarray (C : Cx p s m meth c Z a0 EL own B n nm ret) {x : Int32} {aty : ArrayType} (cap : Nat) (hd : Dc B pc (.newarray aty) 2 q) (w : (Cond.arrayClass (newarray.typeOf aty)).before a0 Z = true) (hx : x.toInt = N) (hcap : N ≤ cap) (hb8 : cap * 8 ≤ 536870912) (hc : cells + 1 ≤ R.cells) (hl : slots + cap ≤ R.slots) (hfit : fits (newarray.typeOf aty) (defaultValue (newarray.typeOf aty)) = true)
    (k : ∀ h', Ext h h' → AR Z h' h.size (newarray.typeOf aty) N (fun _ => defaultValue (newarray.typeOf aty)) → Safe Z EL vm h' h.size → (∀ x, Safe Z EL vm h x → Safe Z EL vm h' x) → Run p l e R s m args below meth c Z nw EL K vm h' (cells + 1) (slots + cap) (fr m q L (.ref h.size :: r))) : Run p l e R s m args below meth c Z nw EL K vm h cells slots (fr m pc L (.int x :: r)) := by
  obtain ⟨hd, rfl⟩ := hd
  refine Run.grow C (F := fun h' => AR Z h' h.size (newarray.typeOf aty) N (fun _ => defaultValue (newarray.typeOf aty))) (fun T locs X e1 hZ hown => ?_) (fun h' E F H Sf => k h' E F (Safe.ext E H (Safe.new (Nat.le_refl _))) Sf)
  obtain ⟨T', h', cA, X', e2, E, A, st⟩ := newP X C.1 hZ w e1 (g := fr m pc L (.int x :: r)) rfl (hb C.2.1 hd) (n := x) (rest := r) rfl (nn_of hx) (cap := cap) (by rw [cl_of hx]; exact hcap) hb8 hc hl
  refine ⟨T', h', X', e2, E, ⟨_, A, by rw [sz_new, cl_of hx], nsz hx, fun i hi => ⟨?_, hfit⟩⟩, st⟩
  simp [newA, cl_of hx, hi]
theorem Run.keepW (C : Cx p s m meth c Z a0 EL own B n nm ret) {g g' : JFrame} {F : Heap → Prop}
    (st : ∀ T locs, Stand p l e R (s.setVm vm) m args below meth c T locs cells slots → T.heap = h → Z.Warmed39 (s.setVm vm).vm → (s.setVm vm).vm.findClass own = some m.cls → ∃ T' h' L', Stand p l e R (s.setVm vm) m args below meth c T' (locs ++ L') cells slots ∧ T'.heap = h' ∧ Keep h h' [a] ∧ (∀ y ∈ L', y.base = a) ∧ F h' ∧ ∀ t, Steps p.tables e below (T'.setTop g') t → Steps p.tables e below (T.setTop g) t)
    (ha : Z.heap.size ≤ a) (hs : Safe Z EL vm h a)
    (k : ∀ h', Keep h h' [a] → F h' → (∀ x, Safe Z EL vm h x → Safe Z EL vm h' x) → Run p l e R s m args below meth c Z nw EL K vm h' cells slots g') : Run p l e R s m args below meth c Z nw EL K vm h cells slots g := by
  intro T P
  obtain ⟨kk, locs, X, e1, e2, e3, e4, e5, e6, e7, e8⟩ := P
  obtain ⟨T', h', L', X', e1', Kp, hL, hF, hst⟩ := st T locs X e1 e6 ((e4.1.alike.findClass _ _).trans C.2.2.1)
  have h1 : ∀ x ∈ [a], Safe Z EL vm h x := fun x hx => by cases List.mem_singleton.mp hx; exact hs
  exact Ends.go hst (k h' Kp hF (fun x S => Safe.keep Kp h1 e7.1.1 S) T' ⟨kk, _, X', e1', Fr.app e2 fun y hy => by rw [hL y hy]; exact ha, Ext.keep' e3 Kp fun x hx => by cases List.mem_singleton.mp hx; exact ha, e4, Nat.le_trans e5 Kp.1, e6, e7.trans (CHs.keep Kp h1 e7.1.1), e8⟩)
theorem arr_kind {cl : Cell} (A : Arr Z h a cl ty) : ∃ (k : Class) (comp : ClassId), Z.vm.classes[cl.cls]? = some k ∧ k.kind = .array comp ty := by
  obtain ⟨-, ⟨-, k, h1, comp, h2⟩, -⟩ := A
  exact ⟨k, comp, h1, h2⟩
theorem gd_of {cl : Cell} {i : Nat} (h : cl.slots[i]? = some v) : cl.slots.getD i .null = v := by
  simp [Array.getD, Array.getElem?_eq_some_iff] at h ⊢
  obtain ⟨h1, h2⟩ := h
  simp [h1, h2]
theorem R_arraycopy (C : Cx p s m meth c Z a0 EL own B n nm ret) {idx : Nat} {src dst : Addr} {sp dp nn : Int32} {Ns Nd : Nat} {fs fd : Nat → Value} (isp idp inn : Nat) (hd : Dc B pc (.invokestatic idx) 3 q)
    (w1 : (Cond.methodLink own idx acN).before a0 Z = true) (w2 : (Cond.native acN).before a0 Z = true) (w3 : (Cond.static acN).before a0 Z = true) (w4 : (Cond.initialized "java/lang/System").before a0 Z = true)
    (A : AR Z h src ty Ns fs) (D : AR Z h dst ty Nd fd) (hp : refKind ty = false) (q1 : sp.toInt = isp) (q2 : dp.toInt = idp) (q3 : nn.toInt = inn) (b1 : isp + inn ≤ Ns) (b2 : idp + inn ≤ Nd) (hz : L.length = n)
    (rf : 1 ≤ R.frames) (rl : (r.map fun v => v.category).sum + 18 ≤ R.locals) (ha : Z.heap.size ≤ dst) (hs : Safe Z EL vm h dst)
    (k : ∀ h', Keep h h' [dst] → AR Z h' dst ty Nd (fun i => if idp ≤ i ∧ i < idp + inn then fs (isp + (i - idp)) else fd i) → (∀ x, Safe Z EL vm h x → Safe Z EL vm h' x) → Run p l e R s m args below meth c Z nw EL K vm h' cells slots (fr m q L r)) : Run p l e R s m args below meth c Z nw EL K vm h cells slots (fr m pc L (.int nn :: .int dp :: .ref dst :: .int sp :: .ref src :: r)) := by
  obtain ⟨hd, rfl⟩ := hd
  obtain ⟨cs, A, hns, h31, H⟩ := A
  obtain ⟨cd, D, hnd, h31', H'⟩ := D
  refine Run.keepW C (F := fun h' => AR Z h' dst ty Nd (fun i => if idp ≤ i ∧ i < idp + inn then fs (isp + (i - idp)) else fd i)) (fun T locs X e1 hZ hown => ?_) ha hs k
  obtain ⟨ks, sc, k1, k2⟩ := arr_kind A
  obtain ⟨kd, dc, k3, k4⟩ := arr_kind D
  obtain ⟨ks', k1', ek1⟩ := hZ.alike.2.2 _ _ k1
  obtain ⟨kd', k3', ek3⟩ := hZ.alike.2.2 _ _ k3
  have hty : ((refKind ty != refKind ty) || (!refKind ty && ty != ty)) = false := by simp
  obtain ⟨vm1, hW1, X', st⟩ := X.arraycopyK C.1 hown (mvT hZ w1) (mvT hZ w2) (mvT hZ w3) (mvT hZ w4) (src := src) (dst := dst) (srcPos := sp) (destPos := dp) (n := nn) (cs := cs) (cd := cd) (by rw [e1]; exact A.1) (by rw [e1]; exact D.1) A.2.1.1 D.2.1.1 A.2.2 D.2.2 k1' k3' (by rw [ek1]; exact k2) (by rw [ek3]; exact k4) hty (nn_of q1) (nn_of q2) (nn_of q3) (by rw [q1, q3, hns]; omega) (by rw [q2, q3, hnd]; omega)
    (fun vm2 _ i hi => by
      rw [cl_of q3] at hi
      rw [cl_of q1]
      have z := H (isp + i) (by omega)
      rw [gd_of z.1]
      exact ⟨z.2, State.takes_of_prim _ _ hp z.2⟩) (g := fr m pc L (.int nn :: .int dp :: .ref dst :: .int sp :: .ref src :: r)) rfl (by rw [C.2.2.2.1]; exact hz) (rest := r) rfl (hb C.2.1 hd) rf (by show 2 * 0 + _ + (7 + 11) ≤ _; omega)
  have hfacts := Cell.storeRun_facts cd dp.toNatClampNeg (cs.stretch sp.toNatClampNeg nn.toNatClampNeg)
  have hlt : dst < h.size := D.lt
  have hnew : (h.setIfInBounds dst (copied cs cd sp dp nn))[dst]? = some (copied cs cd sp dp nn) := by simp [hlt]
  have hoth : ∀ x, x ≠ dst → (h.setIfInBounds dst (copied cs cd sp dp nn))[x]? = h[x]? := fun x hx => Array.getElem?_setIfInBounds_ne (Ne.symm hx)
  refine ⟨_, h.setIfInBounds dst (copied cs cd sp dp nn), _, X', ?_, ⟨by simp, fun x cl hx hn => ?_, fun x cl hx => ?_⟩, fun y hy => copyLocs_base hy, ⟨copied cs cd sp dp nn, ⟨hnew, ?_, ?_⟩, ?_, h31', fun i hi => ?_⟩, st⟩
  · rw [← e1]; rfl
  · rw [hoth x (fun z => hn (by rw [z]; exact List.mem_singleton.mpr rfl))]; exact hx
  · by_cases z : x = dst
    · subst z
      cases D.1.symm.trans hx
      exact ⟨_, hnew, hfacts.1, hfacts.2.1, hfacts.2.2.1⟩
    · exact ⟨cl, by rw [hoth x z]; exact hx, rfl, rfl, rfl⟩
  · obtain ⟨z1, kk, z2, z3⟩ := D.2.1
    exact ⟨by rw [hfacts.2.1]; exact z1, kk, by rw [hfacts.1]; exact z2, z3⟩
  · rw [hfacts.2.1]; exact D.2.2
  · rw [hfacts.2.2.1]; exact hnd
  · have z : (copied cs cd sp dp nn).slots[i]? = if idp ≤ i ∧ i < idp + inn then (cs.stretch isp inn)[i - idp]? else cd.slots[i]? := by
      show (cd.storeRun dp.toNatClampNeg (cs.stretch sp.toNatClampNeg nn.toNatClampNeg)).slots[i]? = _
      rw [cl_of q1, cl_of q2, cl_of q3, Cell.storeRun_get _ _ _ _ (by rw [Cell.stretch_length, hnd]; exact b2), Cell.stretch_length]
    rw [z]
    by_cases hc : idp ≤ i ∧ i < idp + inn
    · simp only [if_pos hc]
      have z2 := H (isp + (i - idp)) (by omega)
      refine ⟨?_, z2.2⟩
      have z3 : i - idp < inn := by omega
      simp only [Cell.stretch, List.getElem?_map, List.getElem?_range z3, Option.map_some]
      rw [gd_of z2.1]
    · simp only [if_neg hc]
      exact H' i hi
theorem R_checkcast_null (C : Cx p s m meth c Z a0 EL own B n nm ret) {idx : Nat} (hd : Dc B pc (.checkcast idx) 3 q)
    (k : Run p l e R s m args below meth c Z nw EL K vm h cells slots (fr m q L (.null :: r))) : Run p l e R s m args below meth c Z nw EL K vm h cells slots (fr m pc L (.null :: r)) := by
  obtain ⟨hd, rfl⟩ := hd
  exact Run.warm C (fun T locs X e1 hZ hown => ⟨T, X, e1, X.checkcastNull C.1 (g := fr m pc L (.null :: r)) rfl rfl (hb C.2.1 hd)⟩) k
theorem R_instanceof_null (C : Cx p s m meth c Z a0 EL own B n nm ret) {idx : Nat} (hd : Dc B pc (.instanceof idx) 3 q)
    (k : Run p l e R s m args below meth c Z nw EL K vm h cells slots (fr m q L (.int 0 :: r))) : Run p l e R s m args below meth c Z nw EL K vm h cells slots (fr m pc L (.null :: r)) := by
  obtain ⟨hd, rfl⟩ := hd
  exact Run.warm C (fun T locs X e1 hZ hown => ⟨T, X, e1, X.instanceofNull C.1 (g := fr m pc L (.null :: r)) rfl rfl (hb C.2.1 hd)⟩) k
/-- the clone of an array of the start -/
theorem R_clone (C : Cx p s m meth c Z a0 EL own B n nm ret) {idx : Nat} {ad : String} {cl : Cell} (hd : Dc B pc (.invokevirtual idx) 3 q)
    (w1 : (Cond.methodLink own idx ⟨ad, "clone", "()Ljava/lang/Object;"⟩).before a0 Z = true) (w2 : (Cond.sameMethod ad "java/lang/Object" "clone" "()Ljava/lang/Object;").before a0 Z = true) (w3 : (Cond.native ⟨"java/lang/Object", "clone", "()Ljava/lang/Object;"⟩).before a0 Z = true)
    (w4 : (Cond.instanceMethod ⟨"java/lang/Object", "clone", "()Ljava/lang/Object;"⟩).before a0 Z = true) (w5 : (Cond.selects ad ⟨ad, "clone", "()Ljava/lang/Object;"⟩ ⟨"java/lang/Object", "clone", "()Ljava/lang/Object;"⟩).before a0 Z = true) (w6 : (Cond.castable ad "java/lang/Cloneable").before a0 Z = true)
    (A : Arr Z h a cl ty) (hN : cl.slots.size = N) (h31 : N < 2 ^ 31) (hf : ∀ i, i < N → cl.slots[i]? = some (f i) ∧ fits ty (f i) = true) (E : Exa Z h a ad) (F : FitC Z cl) (hz : L.length = n) (rf : 1 ≤ R.frames) (rl : (r.map fun v => v.category).sum + 14 ≤ R.locals) (hc : cells + 1 ≤ R.cells) (hl : slots + N ≤ R.slots)
    (k : ∀ h', Ext h h' → AR Z h' h.size ty N f ∧ Exa Z h' h.size ad → (∀ x, Safe Z EL vm h x → Safe Z EL vm h' x) → Run p l e R s m args below meth c Z nw EL K vm h' (cells + 1) (slots + N) (fr m q L (.ref h.size :: r))) : Run p l e R s m args below meth c Z nw EL K vm h cells slots (fr m pc L (.ref a :: r)) := by
  obtain ⟨hd, rfl⟩ := hd
  refine Run.grow C (F := fun h' => AR Z h' h.size ty N f ∧ Exa Z h' h.size ad) (fun T locs X e1 hZ hown => ?_) (fun h' E F H Sf => k h' E F Sf)
  obtain ⟨T', h', X', e2, E2, A2, E3, st⟩ := cloneA X C.1 hZ hown w1 w2 w3 w4 w5 w6 e1 A E F (g := fr m pc L (.ref a :: r)) rfl (by rw [C.2.2.2.1]; exact hz) rfl (hb C.2.1 hd) rf (W := (r.map fun v => v.category).sum) (cap := N) (by show 2 * 0 + _ ≤ _; omega) rl (Nat.le_of_eq hN) hc hl
  exact ⟨T', h', X', e2, E2, ⟨⟨_, A2, hN, h31, hf⟩, E3⟩, st⟩
end Arrays
end Jvm.Own
namespace Jvm.Own
open Sem ClassFile Op Lib Bundle Jvm.Stand Jvm.Free Jvm.LawKit Jvm.RoadKit
section Cold
variable {p : Program} {l : Launch} {e : Env} {R : Room} {s : State} {m : MethodId} {args : Array Value} {below : List Frame} {meth : Method} {c : Code} {Z : State} {a0 : Array Value} {nw : Prop} {EL : List (String × Nat)} {K : State → Outcome → Prop} {vm : Vm} {h h' h0 : Heap} {cells slots : Nat} {own nm : String} {B : ByteArray} {n : Nat} {ret : Option FieldType} {pc q tq : Nat} {L : List Slot} {r : List Value} {a b : Addr} {ty : FieldType} {N sl : Nat} {f g : Nat → Value} {v : Value}
/-- ldc of a String constant that nobody reads -/
theorem R_ldcO (C : Cx p s m meth c Z a0 EL own B n nm ret) {idx : Nat} {text : String} (nn : Nat) (hd : Dc B pc (.ldc idx) 2 q) (hnw : ¬ nw) (w : (Cond.stringLink own idx text).before a0 Z = true) (wS : ∀ a ∈ Bundle.stringAtoms, a.before a0 Z = true)
    (hn : 4 * text.toList.length ≤ nn) (hbig : nn ≤ 536870912) (hc : cells + 2 ≤ R.cells) (hl : slots + (nn + 4) ≤ R.slots)
    (k : ∀ a vm' h', Ext h h' → (∀ x, x < h.size → Safe Z EL vm h x → Safe Z EL vm' h' x) → Run p l e R s m args below meth c Z nw EL K vm' h' (cells + 2) (slots + (nn + 4)) (fr m q L (.ref a :: r))) : Run p l e R s m args below meth c Z nw EL K vm h cells slots (fr m pc L r) := by
  obtain ⟨hd, rfl⟩ := hd
  intro T P
  obtain ⟨kk, locs, X, e1, e2, e3, e4, e5, e6, e7, e8⟩ := P
  obtain ⟨a, T', h', k1, X', e1', E, hS', hk', hZ', hf', hC, hL, st⟩ := ldcOH X C.1 e6 ((e4.1.alike.findClass _ _).trans C.2.2.1) w wS e1 e4 e5 C.2.2.2.2.2.2.2 e7.1.1 (g := fr m pc L r) rfl (hb C.2.1 hd) hn hbig hc hl
  exact Ends.go st (k a T'.vm h' E (fun x hx S => CHr.safe hC hx S) T' ⟨k1, locs, X', e1', e2, Ext.tr e3 E, hS', hk', hZ', e7.trans (CHs.cold hC hnw), fun z => absurd z hnw⟩)
/-- ldc of a String constant whose text is read -/
theorem R_ldcK (C : Cx p s m meth c Z a0 EL own B n nm ret) {idx : Nat} {text : String} {vs : List Value} {z : Int32} (nn : Nat) (hd : Dc B pc (.ldc idx) 2 q) (hnw : ¬ nw) (w : (Cond.stringLink own idx text).before a0 Z = true) (wS : ∀ a ∈ Bundle.stringAtoms, a.before a0 Z = true) (hmem : (own, idx) ∈ EL)
    (ht : (∀ c ∈ text.toList, c.toNat < 256) ∧ text.toList.map (fun c => Value.int (Jvm.Lit.byteI c.toNat.toUInt16)) = vs) (hz : z.toInt = vs.length)
    (hn : 4 * text.toList.length ≤ nn) (hbig : nn ≤ 536870912) (hc : cells + 2 ≤ R.cells) (hl : slots + (nn + 4) ≤ R.slots)
    (k : ∀ a b vm' h', Ext h h' → Exa Z h' a "java/lang/String" → Fld Z h' a "java/lang/String" "coder" "B" (.int 0) → Fld Z h' a "java/lang/String" "value" "[B" (.ref b) → AR Z h' b .byte vs.length (fun i => vs.getD i (.int 0)) → (∀ x, x < h.size → Safe Z EL vm h x → Safe Z EL vm' h' x) → (∀ x, Safe Z EL vm' h' x → x ≠ a ∧ x ≠ b) → Run p l e R s m args below meth c Z nw EL K vm' h' (cells + 2) (slots + (nn + 4)) (fr m q L (.ref a :: r))) : Run p l e R s m args below meth c Z nw EL K vm h cells slots (fr m pc L r) := by
  obtain ⟨hd, rfl⟩ := hd
  have hz0 : ¬ z < 0 := nn_of hz
  have hzc : z.toNatClampNeg = vs.length := cl_of hz
  intro T P
  obtain ⟨kk, locs, X, e1, e2, e3, e4, e5, e6, e7, e8⟩ := P
  obtain ⟨a, T', h', k1, b, kb, X', e1', E, hS', hk', hZ', hf', hE, hF1, hF2, hA, -, -, hC, hL, hne, st⟩ := ldcCH X C.1 e6 ((e4.1.alike.findClass _ _).trans C.2.2.1) w wS e1 e4 e5 C.2.2.2.2.2.2.2 hmem e7.1.1 ht hz0 hzc (g := fr m pc L r) rfl (hb C.2.1 hd) hn hbig hc hl
  have A : AR Z h' b .byte vs.length (fun i => vs.getD i (.int 0)) := by
    obtain ⟨cl, A1, -, A3, -, A5, A6⟩ := hA
    have hsz : cl.slots.size = vs.length := by rw [A3, hzc]
    refine ⟨cl, A1, hsz, nsz hz, fun i hi => ⟨A5 i (by omega), A6 i (by omega)⟩⟩
  exact Ends.go st (k a b T'.vm h' E hE hF1 hF2 A (fun x hx S => CHr.safe hC hx S) hne T' ⟨k1, locs, X', e1', e2, Ext.tr e3 E, hS', hk', hZ', e7.trans (CHs.cold hC hnw), fun z => absurd z hnw⟩)
end Cold
end Jvm.Own
namespace Jvm.Pilot.@@N@@
open Jvm Jvm.ClassFile Sem Op Lib Jvm.Free Jvm.Stand Jvm.LawKit Jvm.RoadKit Bundle Jvm.Own Jvm.Kit Jvm.Pilot.@@N@@.Jvm.D
abbrev PTS : String := "com/example/plumbline/plumbline/pta/PointsToSet"
theorem pn_pts : plainName PTS = true := by first | (simp [plainName, overriddenIn]; done) | decide +kernel
theorem pn_arrays : plainName "java/util/Arrays" = true := by first | (simp [plainName, overriddenIn]; done) | decide +kernel
theorem pf_max : plainFor ⟨"java/lang/Math", "max", "(II)I"⟩ = true := by decide +kernel
theorem pf_min : plainFor ⟨"java/lang/Math", "min", "(II)I"⟩ = true := by decide +kernel
theorem pn_law : plainName "com/example/plumbline/plumbline/pta/PointsToSetIsEmptyPinLaw" = true := by first | (simp [plainName, overriddenIn]; done) | decide +kernel
theorem pd_0 : parseMethodDescriptor "(III)V" = some ⟨[.int, .int, .int], none⟩ := by decide +kernel
theorem pd_1 : parseMethodDescriptor "([IIII)I" = some ⟨[(.array .int), .int, .int, .int], (some .int)⟩ := by decide +kernel
theorem pd_2 : parseMethodDescriptor "(II)I" = some ⟨[.int, .int], (some .int)⟩ := by decide +kernel
theorem pd_3 : parseMethodDescriptor "([II)[I" = some ⟨[(.array .int), .int], (some (.array .int))⟩ := by decide +kernel
theorem pd_4 : parseMethodDescriptor "()Z" = some ⟨[], (some .boolean)⟩ := by decide +kernel
theorem pd_5 : parseMethodDescriptor "()I" = some ⟨[], (some .int)⟩ := by decide +kernel
theorem pd_6 : parseMethodDescriptor "()V" = some ⟨[], none⟩ := by decide +kernel
theorem pd_7 : parseMethodDescriptor "(I)Z" = some ⟨[.int], (some .boolean)⟩ := by decide +kernel
theorem ie_0 : Dc prog_5_method_3_code 0 (.aload_n 0) 1 1 := ⟨by decide +kernel, rfl⟩
theorem ie_1 : Dc prog_5_method_3_code 1 (.getfield 16) 3 4 := ⟨by decide +kernel, rfl⟩
theorem ie_4 : Jp prog_5_method_3_code 4 (.ifCond .ne 7) (7) 7 11 := ⟨by decide +kernel, rfl, by decide, by decide⟩
theorem ie_7 : Dc prog_5_method_3_code 7 (.iconst 1) 1 8 := ⟨by decide +kernel, rfl⟩
theorem ie_8 : Jp prog_5_method_3_code 8 (.goto 4) (4) 11 12 := ⟨by decide +kernel, rfl, by decide, by decide⟩
theorem ie_11 : Dc prog_5_method_3_code 11 (.iconst 0) 1 12 := ⟨by decide +kernel, rfl⟩
theorem ie_12 : Dc prog_5_method_3_code 12 (.ireturn) 1 13 := ⟨by decide +kernel, rfl⟩
theorem sz_0 : Dc prog_5_method_2_code 0 (.aload_n 0) 1 1 := ⟨by decide +kernel, rfl⟩
theorem sz_1 : Dc prog_5_method_2_code 1 (.getfield 16) 3 4 := ⟨by decide +kernel, rfl⟩
theorem sz_4 : Dc prog_5_method_2_code 4 (.ireturn) 1 5 := ⟨by decide +kernel, rfl⟩
theorem ii_0 : Dc prog_5_method_1_code 0 (.aload_n 0) 1 1 := ⟨by decide +kernel, rfl⟩
theorem ii_1 : Dc prog_5_method_1_code 1 (.invokespecial 1) 3 4 := ⟨by decide +kernel, rfl⟩
theorem ii_4 : Dc prog_5_method_1_code 4 (.aload_n 0) 1 5 := ⟨by decide +kernel, rfl⟩
theorem ii_5 : Dc prog_5_method_1_code 5 (.getstatic 7) 3 8 := ⟨by decide +kernel, rfl⟩
theorem ii_8 : Dc prog_5_method_1_code 8 (.putfield 13) 3 11 := ⟨by decide +kernel, rfl⟩
theorem ii_11 : Dc prog_5_method_1_code 11 (.return_) 1 12 := ⟨by decide +kernel, rfl⟩
theorem mx_0 : Dc jdk_29_method_65_code 0 (.iload_n 0) 1 1 := ⟨by decide +kernel, rfl⟩
theorem mx_1 : Dc jdk_29_method_65_code 1 (.iload_n 1) 1 2 := ⟨by decide +kernel, rfl⟩
theorem mx_2 : Jp jdk_29_method_65_code 2 (.if_icmp .lt 7) (7) 5 9 := ⟨by decide +kernel, rfl, by decide, by decide⟩
theorem mx_5 : Dc jdk_29_method_65_code 5 (.iload_n 0) 1 6 := ⟨by decide +kernel, rfl⟩
theorem mx_6 : Jp jdk_29_method_65_code 6 (.goto 4) (4) 9 10 := ⟨by decide +kernel, rfl, by decide, by decide⟩
theorem mx_9 : Dc jdk_29_method_65_code 9 (.iload_n 1) 1 10 := ⟨by decide +kernel, rfl⟩
theorem mx_10 : Dc jdk_29_method_65_code 10 (.ireturn) 1 11 := ⟨by decide +kernel, rfl⟩
theorem mn_0 : Dc jdk_29_method_69_code 0 (.iload_n 0) 1 1 := ⟨by decide +kernel, rfl⟩
theorem mn_1 : Dc jdk_29_method_69_code 1 (.iload_n 1) 1 2 := ⟨by decide +kernel, rfl⟩
theorem mn_2 : Jp jdk_29_method_69_code 2 (.if_icmp .gt 7) (7) 5 9 := ⟨by decide +kernel, rfl, by decide, by decide⟩
theorem mn_5 : Dc jdk_29_method_69_code 5 (.iload_n 0) 1 6 := ⟨by decide +kernel, rfl⟩
theorem mn_6 : Jp jdk_29_method_69_code 6 (.goto 4) (4) 9 10 := ⟨by decide +kernel, rfl, by decide, by decide⟩
theorem mn_9 : Dc jdk_29_method_69_code 9 (.iload_n 1) 1 10 := ⟨by decide +kernel, rfl⟩
theorem mn_10 : Dc jdk_29_method_69_code 10 (.ireturn) 1 11 := ⟨by decide +kernel, rfl⟩
theorem rc_0 : Dc jdk_65_method_30_code 0 (.iload_n 1) 1 1 := ⟨by decide +kernel, rfl⟩
theorem rc_1 : Dc jdk_65_method_30_code 1 (.iload_n 2) 1 2 := ⟨by decide +kernel, rfl⟩
theorem rc_2 : Jp jdk_65_method_30_code 2 (.if_icmp .le 44) (44) 5 46 := ⟨by decide +kernel, rfl, by decide, by decide⟩
theorem rc_5 : Dc jdk_65_method_30_code 5 (.new 43) 3 8 := ⟨by decide +kernel, rfl⟩
theorem rc_8 : Dc jdk_65_method_30_code 8 (.dup) 1 9 := ⟨by decide +kernel, rfl⟩
theorem rc_9 : Dc jdk_65_method_30_code 9 (.new 45) 3 12 := ⟨by decide +kernel, rfl⟩
theorem rc_12 : Dc jdk_65_method_30_code 12 (.dup) 1 13 := ⟨by decide +kernel, rfl⟩
theorem rc_13 : Dc jdk_65_method_30_code 13 (.invokespecial 47) 3 16 := ⟨by decide +kernel, rfl⟩
theorem rc_16 : Dc jdk_65_method_30_code 16 (.ldc 48) 2 18 := ⟨by decide +kernel, rfl⟩
theorem rc_18 : Dc jdk_65_method_30_code 18 (.invokevirtual 50) 3 21 := ⟨by decide +kernel, rfl⟩
theorem rc_21 : Dc jdk_65_method_30_code 21 (.iload_n 1) 1 22 := ⟨by decide +kernel, rfl⟩
theorem rc_22 : Dc jdk_65_method_30_code 22 (.invokevirtual 54) 3 25 := ⟨by decide +kernel, rfl⟩
theorem rc_25 : Dc jdk_65_method_30_code 25 (.ldc 57) 2 27 := ⟨by decide +kernel, rfl⟩
theorem rc_27 : Dc jdk_65_method_30_code 27 (.invokevirtual 50) 3 30 := ⟨by decide +kernel, rfl⟩
theorem rc_30 : Dc jdk_65_method_30_code 30 (.iload_n 2) 1 31 := ⟨by decide +kernel, rfl⟩
theorem rc_31 : Dc jdk_65_method_30_code 31 (.invokevirtual 54) 3 34 := ⟨by decide +kernel, rfl⟩
theorem rc_34 : Dc jdk_65_method_30_code 34 (.ldc 59) 2 36 := ⟨by decide +kernel, rfl⟩
theorem rc_36 : Dc jdk_65_method_30_code 36 (.invokevirtual 50) 3 39 := ⟨by decide +kernel, rfl⟩
theorem rc_39 : Dc jdk_65_method_30_code 39 (.invokevirtual 61) 3 42 := ⟨by decide +kernel, rfl⟩
theorem rc_42 : Dc jdk_65_method_30_code 42 (.invokespecial 65) 3 45 := ⟨by decide +kernel, rfl⟩
theorem rc_45 : Dc jdk_65_method_30_code 45 (.athrow) 1 46 := ⟨by decide +kernel, rfl⟩
theorem rc_46 : Dc jdk_65_method_30_code 46 (.iload_n 1) 1 47 := ⟨by decide +kernel, rfl⟩
theorem rc_47 : Jp jdk_65_method_30_code 47 (.ifCond .ge 12) (12) 50 59 := ⟨by decide +kernel, rfl, by decide, by decide⟩
theorem rc_50 : Dc jdk_65_method_30_code 50 (.new 68) 3 53 := ⟨by decide +kernel, rfl⟩
theorem rc_53 : Dc jdk_65_method_30_code 53 (.dup) 1 54 := ⟨by decide +kernel, rfl⟩
theorem rc_54 : Dc jdk_65_method_30_code 54 (.iload_n 1) 1 55 := ⟨by decide +kernel, rfl⟩
theorem rc_55 : Dc jdk_65_method_30_code 55 (.invokespecial 70) 3 58 := ⟨by decide +kernel, rfl⟩
theorem rc_58 : Dc jdk_65_method_30_code 58 (.athrow) 1 59 := ⟨by decide +kernel, rfl⟩
theorem rc_59 : Dc jdk_65_method_30_code 59 (.iload_n 2) 1 60 := ⟨by decide +kernel, rfl⟩
theorem rc_60 : Dc jdk_65_method_30_code 60 (.iload_n 0) 1 61 := ⟨by decide +kernel, rfl⟩
theorem rc_61 : Jp jdk_65_method_30_code 61 (.if_icmp .le 12) (12) 64 73 := ⟨by decide +kernel, rfl, by decide, by decide⟩
theorem rc_64 : Dc jdk_65_method_30_code 64 (.new 68) 3 67 := ⟨by decide +kernel, rfl⟩
theorem rc_67 : Dc jdk_65_method_30_code 67 (.dup) 1 68 := ⟨by decide +kernel, rfl⟩
theorem rc_68 : Dc jdk_65_method_30_code 68 (.iload_n 2) 1 69 := ⟨by decide +kernel, rfl⟩
theorem rc_69 : Dc jdk_65_method_30_code 69 (.invokespecial 70) 3 72 := ⟨by decide +kernel, rfl⟩
theorem rc_72 : Dc jdk_65_method_30_code 72 (.athrow) 1 73 := ⟨by decide +kernel, rfl⟩
theorem rc_73 : Dc jdk_65_method_30_code 73 (.return_) 1 74 := ⟨by decide +kernel, rfl⟩
theorem b0_0 : Dc jdk_65_method_59_code 0 (.iload_n 1) 1 1 := ⟨by decide +kernel, rfl⟩
theorem b0_1 : Dc jdk_65_method_59_code 1 (.istore 4) 2 3 := ⟨by decide +kernel, rfl⟩
theorem b0_3 : Dc jdk_65_method_59_code 3 (.iload_n 2) 1 4 := ⟨by decide +kernel, rfl⟩
theorem b0_4 : Dc jdk_65_method_59_code 4 (.iconst 1) 1 5 := ⟨by decide +kernel, rfl⟩
theorem b0_5 : Dc jdk_65_method_59_code 5 (.isub) 1 6 := ⟨by decide +kernel, rfl⟩
theorem b0_6 : Dc jdk_65_method_59_code 6 (.istore 5) 2 8 := ⟨by decide +kernel, rfl⟩
theorem b0_8 : Dc jdk_65_method_59_code 8 (.iload 4) 2 10 := ⟨by decide +kernel, rfl⟩
theorem b0_10 : Dc jdk_65_method_59_code 10 (.iload 5) 2 12 := ⟨by decide +kernel, rfl⟩
theorem b0_12 : Jp jdk_65_method_59_code 12 (.if_icmp .gt 54) (54) 15 66 := ⟨by decide +kernel, rfl, by decide, by decide⟩
theorem b0_15 : Dc jdk_65_method_59_code 15 (.iload 4) 2 17 := ⟨by decide +kernel, rfl⟩
theorem b0_17 : Dc jdk_65_method_59_code 17 (.iload 5) 2 19 := ⟨by decide +kernel, rfl⟩
theorem b0_19 : Dc jdk_65_method_59_code 19 (.iadd) 1 20 := ⟨by decide +kernel, rfl⟩
theorem b0_20 : Dc jdk_65_method_59_code 20 (.iconst 1) 1 21 := ⟨by decide +kernel, rfl⟩
theorem b0_21 : Dc jdk_65_method_59_code 21 (.iushr) 1 22 := ⟨by decide +kernel, rfl⟩
theorem b0_22 : Dc jdk_65_method_59_code 22 (.istore 6) 2 24 := ⟨by decide +kernel, rfl⟩
theorem b0_24 : Dc jdk_65_method_59_code 24 (.aload_n 0) 1 25 := ⟨by decide +kernel, rfl⟩
theorem b0_25 : Dc jdk_65_method_59_code 25 (.iload 6) 2 27 := ⟨by decide +kernel, rfl⟩
theorem b0_27 : Dc jdk_65_method_59_code 27 (.iaload) 1 28 := ⟨by decide +kernel, rfl⟩
theorem b0_28 : Dc jdk_65_method_59_code 28 (.istore 7) 2 30 := ⟨by decide +kernel, rfl⟩
theorem b0_30 : Dc jdk_65_method_59_code 30 (.iload 7) 2 32 := ⟨by decide +kernel, rfl⟩
theorem b0_32 : Dc jdk_65_method_59_code 32 (.iload_n 3) 1 33 := ⟨by decide +kernel, rfl⟩
theorem b0_33 : Jp jdk_65_method_59_code 33 (.if_icmp .ge 12) (12) 36 45 := ⟨by decide +kernel, rfl, by decide, by decide⟩
theorem b0_36 : Dc jdk_65_method_59_code 36 (.iload 6) 2 38 := ⟨by decide +kernel, rfl⟩
theorem b0_38 : Dc jdk_65_method_59_code 38 (.iconst 1) 1 39 := ⟨by decide +kernel, rfl⟩
theorem b0_39 : Dc jdk_65_method_59_code 39 (.iadd) 1 40 := ⟨by decide +kernel, rfl⟩
theorem b0_40 : Dc jdk_65_method_59_code 40 (.istore 4) 2 42 := ⟨by decide +kernel, rfl⟩
theorem b0_42 : Jp jdk_65_method_59_code 42 (.goto 21) (21) 45 63 := ⟨by decide +kernel, rfl, by decide, by decide⟩
theorem b0_45 : Dc jdk_65_method_59_code 45 (.iload 7) 2 47 := ⟨by decide +kernel, rfl⟩
theorem b0_47 : Dc jdk_65_method_59_code 47 (.iload_n 3) 1 48 := ⟨by decide +kernel, rfl⟩
theorem b0_48 : Jp jdk_65_method_59_code 48 (.if_icmp .le 12) (12) 51 60 := ⟨by decide +kernel, rfl, by decide, by decide⟩
theorem b0_51 : Dc jdk_65_method_59_code 51 (.iload 6) 2 53 := ⟨by decide +kernel, rfl⟩
theorem b0_53 : Dc jdk_65_method_59_code 53 (.iconst 1) 1 54 := ⟨by decide +kernel, rfl⟩
theorem b0_54 : Dc jdk_65_method_59_code 54 (.isub) 1 55 := ⟨by decide +kernel, rfl⟩
theorem b0_55 : Dc jdk_65_method_59_code 55 (.istore 5) 2 57 := ⟨by decide +kernel, rfl⟩
theorem b0_57 : Jp jdk_65_method_59_code 57 (.goto 6) (6) 60 63 := ⟨by decide +kernel, rfl, by decide, by decide⟩
theorem b0_60 : Dc jdk_65_method_59_code 60 (.iload 6) 2 62 := ⟨by decide +kernel, rfl⟩
theorem b0_62 : Dc jdk_65_method_59_code 62 (.ireturn) 1 63 := ⟨by decide +kernel, rfl⟩
theorem b0_63 : Jp jdk_65_method_59_code 63 (.goto (-55)) (-55) 66 8 := ⟨by decide +kernel, rfl, by decide, by decide⟩
theorem b0_66 : Dc jdk_65_method_59_code 66 (.iload 4) 2 68 := ⟨by decide +kernel, rfl⟩
theorem b0_68 : Dc jdk_65_method_59_code 68 (.iconst 1) 1 69 := ⟨by decide +kernel, rfl⟩
theorem b0_69 : Dc jdk_65_method_59_code 69 (.iadd) 1 70 := ⟨by decide +kernel, rfl⟩
theorem b0_70 : Dc jdk_65_method_59_code 70 (.ineg) 1 71 := ⟨by decide +kernel, rfl⟩
theorem b0_71 : Dc jdk_65_method_59_code 71 (.ireturn) 1 72 := ⟨by decide +kernel, rfl⟩
theorem bs_0 : Dc jdk_65_method_58_code 0 (.aload_n 0) 1 1 := ⟨by decide +kernel, rfl⟩
theorem bs_1 : Dc jdk_65_method_58_code 1 (.arraylength) 1 2 := ⟨by decide +kernel, rfl⟩
theorem bs_2 : Dc jdk_65_method_58_code 2 (.iload_n 1) 1 3 := ⟨by decide +kernel, rfl⟩
theorem bs_3 : Dc jdk_65_method_58_code 3 (.iload_n 2) 1 4 := ⟨by decide +kernel, rfl⟩
theorem bs_4 : Dc jdk_65_method_58_code 4 (.invokestatic 13) 3 7 := ⟨by decide +kernel, rfl⟩
theorem bs_7 : Dc jdk_65_method_58_code 7 (.aload_n 0) 1 8 := ⟨by decide +kernel, rfl⟩
theorem bs_8 : Dc jdk_65_method_58_code 8 (.iload_n 1) 1 9 := ⟨by decide +kernel, rfl⟩
theorem bs_9 : Dc jdk_65_method_58_code 9 (.iload_n 2) 1 10 := ⟨by decide +kernel, rfl⟩
theorem bs_10 : Dc jdk_65_method_58_code 10 (.iload_n 3) 1 11 := ⟨by decide +kernel, rfl⟩
theorem bs_11 : Dc jdk_65_method_58_code 11 (.invokestatic 209) 3 14 := ⟨by decide +kernel, rfl⟩
theorem bs_14 : Dc jdk_65_method_58_code 14 (.ireturn) 1 15 := ⟨by decide +kernel, rfl⟩
theorem co_0 : Dc jdk_65_method_123_code 0 (.iload_n 1) 1 1 := ⟨by decide +kernel, rfl⟩
theorem co_1 : Dc jdk_65_method_123_code 1 (.aload_n 0) 1 2 := ⟨by decide +kernel, rfl⟩
theorem co_2 : Dc jdk_65_method_123_code 2 (.arraylength) 1 3 := ⟨by decide +kernel, rfl⟩
theorem co_3 : Jp jdk_65_method_123_code 3 (.if_icmp .ne 11) (11) 6 14 := ⟨by decide +kernel, rfl, by decide, by decide⟩
theorem co_6 : Dc jdk_65_method_123_code 6 (.aload_n 0) 1 7 := ⟨by decide +kernel, rfl⟩
theorem co_7 : Dc jdk_65_method_123_code 7 (.invokevirtual 316) 3 10 := ⟨by decide +kernel, rfl⟩
theorem co_10 : Dc jdk_65_method_123_code 10 (.checkcast 317) 3 13 := ⟨by decide +kernel, rfl⟩
theorem co_13 : Dc jdk_65_method_123_code 13 (.areturn) 1 14 := ⟨by decide +kernel, rfl⟩
theorem co_14 : Dc jdk_65_method_123_code 14 (.iload_n 1) 1 15 := ⟨by decide +kernel, rfl⟩
theorem co_15 : Dc jdk_65_method_123_code 15 (.newarray .int) 2 17 := ⟨by decide +kernel, rfl⟩
theorem co_17 : Dc jdk_65_method_123_code 17 (.astore_n 2) 1 18 := ⟨by decide +kernel, rfl⟩
theorem co_18 : Dc jdk_65_method_123_code 18 (.aload_n 0) 1 19 := ⟨by decide +kernel, rfl⟩
theorem co_19 : Dc jdk_65_method_123_code 19 (.iconst 0) 1 20 := ⟨by decide +kernel, rfl⟩
theorem co_20 : Dc jdk_65_method_123_code 20 (.aload_n 2) 1 21 := ⟨by decide +kernel, rfl⟩
theorem co_21 : Dc jdk_65_method_123_code 21 (.iconst 0) 1 22 := ⟨by decide +kernel, rfl⟩
theorem co_22 : Dc jdk_65_method_123_code 22 (.aload_n 0) 1 23 := ⟨by decide +kernel, rfl⟩
theorem co_23 : Dc jdk_65_method_123_code 23 (.arraylength) 1 24 := ⟨by decide +kernel, rfl⟩
theorem co_24 : Dc jdk_65_method_123_code 24 (.iload_n 1) 1 25 := ⟨by decide +kernel, rfl⟩
theorem co_25 : Dc jdk_65_method_123_code 25 (.invokestatic 304) 3 28 := ⟨by decide +kernel, rfl⟩
theorem co_28 : Dc jdk_65_method_123_code 28 (.invokestatic 150) 3 31 := ⟨by decide +kernel, rfl⟩
theorem co_31 : Dc jdk_65_method_123_code 31 (.aload_n 2) 1 32 := ⟨by decide +kernel, rfl⟩
theorem co_32 : Dc jdk_65_method_123_code 32 (.areturn) 1 33 := ⟨by decide +kernel, rfl⟩
theorem ad_0 : Dc prog_5_method_5_code 0 (.aload_n 0) 1 1 := ⟨by decide +kernel, rfl⟩
theorem ad_1 : Dc prog_5_method_5_code 1 (.getfield 20) 3 4 := ⟨by decide +kernel, rfl⟩
theorem ad_4 : Jp prog_5_method_5_code 4 (.ifnull 33) (33) 7 37 := ⟨by decide +kernel, rfl, by decide, by decide⟩
theorem ad_7 : Dc prog_5_method_5_code 7 (.aload_n 0) 1 8 := ⟨by decide +kernel, rfl⟩
theorem ad_8 : Dc prog_5_method_5_code 8 (.getfield 20) 3 11 := ⟨by decide +kernel, rfl⟩
theorem ad_11 : Dc prog_5_method_5_code 11 (.iload_n 1) 1 12 := ⟨by decide +kernel, rfl⟩
theorem ad_12 : Dc prog_5_method_5_code 12 (.invokestatic 24) 3 15 := ⟨by decide +kernel, rfl⟩
theorem ad_15 : Jp prog_5_method_5_code 15 (.ifCond .eq 5) (5) 18 20 := ⟨by decide +kernel, rfl, by decide, by decide⟩
theorem ad_18 : Dc prog_5_method_5_code 18 (.iconst 0) 1 19 := ⟨by decide +kernel, rfl⟩
theorem ad_19 : Dc prog_5_method_5_code 19 (.ireturn) 1 20 := ⟨by decide +kernel, rfl⟩
theorem ad_20 : Dc prog_5_method_5_code 20 (.aload_n 0) 1 21 := ⟨by decide +kernel, rfl⟩
theorem ad_21 : Dc prog_5_method_5_code 21 (.iload_n 1) 1 22 := ⟨by decide +kernel, rfl⟩
theorem ad_22 : Dc prog_5_method_5_code 22 (.invokevirtual 34) 3 25 := ⟨by decide +kernel, rfl⟩
theorem ad_25 : Dc prog_5_method_5_code 25 (.aload_n 0) 1 26 := ⟨by decide +kernel, rfl⟩
theorem ad_26 : Dc prog_5_method_5_code 26 (.dup) 1 27 := ⟨by decide +kernel, rfl⟩
theorem ad_27 : Dc prog_5_method_5_code 27 (.getfield 16) 3 30 := ⟨by decide +kernel, rfl⟩
theorem ad_30 : Dc prog_5_method_5_code 30 (.iconst 1) 1 31 := ⟨by decide +kernel, rfl⟩
theorem ad_31 : Dc prog_5_method_5_code 31 (.iadd) 1 32 := ⟨by decide +kernel, rfl⟩
theorem ad_32 : Dc prog_5_method_5_code 32 (.putfield 16) 3 35 := ⟨by decide +kernel, rfl⟩
theorem ad_35 : Dc prog_5_method_5_code 35 (.iconst 1) 1 36 := ⟨by decide +kernel, rfl⟩
theorem ad_36 : Dc prog_5_method_5_code 36 (.ireturn) 1 37 := ⟨by decide +kernel, rfl⟩
theorem ad_37 : Dc prog_5_method_5_code 37 (.aload_n 0) 1 38 := ⟨by decide +kernel, rfl⟩
theorem ad_38 : Dc prog_5_method_5_code 38 (.getfield 13) 3 41 := ⟨by decide +kernel, rfl⟩
theorem ad_41 : Dc prog_5_method_5_code 41 (.iconst 0) 1 42 := ⟨by decide +kernel, rfl⟩
theorem ad_42 : Dc prog_5_method_5_code 42 (.aload_n 0) 1 43 := ⟨by decide +kernel, rfl⟩
theorem ad_43 : Dc prog_5_method_5_code 43 (.getfield 16) 3 46 := ⟨by decide +kernel, rfl⟩
theorem ad_46 : Dc prog_5_method_5_code 46 (.iload_n 1) 1 47 := ⟨by decide +kernel, rfl⟩
theorem ad_47 : Dc prog_5_method_5_code 47 (.invokestatic 28) 3 50 := ⟨by decide +kernel, rfl⟩
theorem ad_50 : Dc prog_5_method_5_code 50 (.istore_n 2) 1 51 := ⟨by decide +kernel, rfl⟩
theorem ad_51 : Dc prog_5_method_5_code 51 (.iload_n 2) 1 52 := ⟨by decide +kernel, rfl⟩
theorem ad_52 : Jp prog_5_method_5_code 52 (.ifCond .lt 5) (5) 55 57 := ⟨by decide +kernel, rfl, by decide, by decide⟩
theorem ad_55 : Dc prog_5_method_5_code 55 (.iconst 0) 1 56 := ⟨by decide +kernel, rfl⟩
theorem ad_56 : Dc prog_5_method_5_code 56 (.ireturn) 1 57 := ⟨by decide +kernel, rfl⟩
theorem ad_57 : Dc prog_5_method_5_code 57 (.aload_n 0) 1 58 := ⟨by decide +kernel, rfl⟩
theorem ad_58 : Dc prog_5_method_5_code 58 (.getfield 16) 3 61 := ⟨by decide +kernel, rfl⟩
theorem ad_61 : Dc prog_5_method_5_code 61 (.bipush 32) 2 63 := ⟨by decide +kernel, rfl⟩
theorem ad_63 : Jp prog_5_method_5_code 63 (.if_icmp .ne 16) (16) 66 79 := ⟨by decide +kernel, rfl, by decide, by decide⟩
theorem ad_66 : Dc prog_5_method_5_code 66 (.aload_n 0) 1 67 := ⟨by decide +kernel, rfl⟩
theorem ad_67 : Dc prog_5_method_5_code 67 (.iload_n 1) 1 68 := ⟨by decide +kernel, rfl⟩
theorem ad_68 : Dc prog_5_method_5_code 68 (.invokevirtual 38) 3 71 := ⟨by decide +kernel, rfl⟩
theorem ad_71 : Dc prog_5_method_5_code 71 (.aload_n 0) 1 72 := ⟨by decide +kernel, rfl⟩
theorem ad_72 : Dc prog_5_method_5_code 72 (.iload_n 1) 1 73 := ⟨by decide +kernel, rfl⟩
theorem ad_73 : Dc prog_5_method_5_code 73 (.invokevirtual 34) 3 76 := ⟨by decide +kernel, rfl⟩
theorem ad_76 : Jp prog_5_method_5_code 76 (.goto 69) (69) 79 145 := ⟨by decide +kernel, rfl, by decide, by decide⟩
theorem ad_79 : Dc prog_5_method_5_code 79 (.iload_n 2) 1 80 := ⟨by decide +kernel, rfl⟩
theorem ad_80 : Dc prog_5_method_5_code 80 (.ineg) 1 81 := ⟨by decide +kernel, rfl⟩
theorem ad_81 : Dc prog_5_method_5_code 81 (.iconst 1) 1 82 := ⟨by decide +kernel, rfl⟩
theorem ad_82 : Dc prog_5_method_5_code 82 (.isub) 1 83 := ⟨by decide +kernel, rfl⟩
theorem ad_83 : Dc prog_5_method_5_code 83 (.istore_n 3) 1 84 := ⟨by decide +kernel, rfl⟩
theorem ad_84 : Dc prog_5_method_5_code 84 (.aload_n 0) 1 85 := ⟨by decide +kernel, rfl⟩
theorem ad_85 : Dc prog_5_method_5_code 85 (.getfield 16) 3 88 := ⟨by decide +kernel, rfl⟩
theorem ad_88 : Dc prog_5_method_5_code 88 (.aload_n 0) 1 89 := ⟨by decide +kernel, rfl⟩
theorem ad_89 : Dc prog_5_method_5_code 89 (.getfield 13) 3 92 := ⟨by decide +kernel, rfl⟩
theorem ad_92 : Dc prog_5_method_5_code 92 (.arraylength) 1 93 := ⟨by decide +kernel, rfl⟩
theorem ad_93 : Jp prog_5_method_5_code 93 (.if_icmp .ne 24) (24) 96 117 := ⟨by decide +kernel, rfl, by decide, by decide⟩
theorem ad_96 : Dc prog_5_method_5_code 96 (.aload_n 0) 1 97 := ⟨by decide +kernel, rfl⟩
theorem ad_97 : Dc prog_5_method_5_code 97 (.aload_n 0) 1 98 := ⟨by decide +kernel, rfl⟩
theorem ad_98 : Dc prog_5_method_5_code 98 (.getfield 13) 3 101 := ⟨by decide +kernel, rfl⟩
theorem ad_101 : Dc prog_5_method_5_code 101 (.iconst 4) 1 102 := ⟨by decide +kernel, rfl⟩
theorem ad_102 : Dc prog_5_method_5_code 102 (.aload_n 0) 1 103 := ⟨by decide +kernel, rfl⟩
theorem ad_103 : Dc prog_5_method_5_code 103 (.getfield 16) 3 106 := ⟨by decide +kernel, rfl⟩
theorem ad_106 : Dc prog_5_method_5_code 106 (.iconst 2) 1 107 := ⟨by decide +kernel, rfl⟩
theorem ad_107 : Dc prog_5_method_5_code 107 (.imul) 1 108 := ⟨by decide +kernel, rfl⟩
theorem ad_108 : Dc prog_5_method_5_code 108 (.invokestatic 41) 3 111 := ⟨by decide +kernel, rfl⟩
theorem ad_111 : Dc prog_5_method_5_code 111 (.invokestatic 47) 3 114 := ⟨by decide +kernel, rfl⟩
theorem ad_114 : Dc prog_5_method_5_code 114 (.putfield 13) 3 117 := ⟨by decide +kernel, rfl⟩
theorem ad_117 : Dc prog_5_method_5_code 117 (.aload_n 0) 1 118 := ⟨by decide +kernel, rfl⟩
theorem ad_118 : Dc prog_5_method_5_code 118 (.getfield 13) 3 121 := ⟨by decide +kernel, rfl⟩
theorem ad_121 : Dc prog_5_method_5_code 121 (.iload_n 3) 1 122 := ⟨by decide +kernel, rfl⟩
theorem ad_122 : Dc prog_5_method_5_code 122 (.aload_n 0) 1 123 := ⟨by decide +kernel, rfl⟩
theorem ad_123 : Dc prog_5_method_5_code 123 (.getfield 13) 3 126 := ⟨by decide +kernel, rfl⟩
theorem ad_126 : Dc prog_5_method_5_code 126 (.iload_n 3) 1 127 := ⟨by decide +kernel, rfl⟩
theorem ad_127 : Dc prog_5_method_5_code 127 (.iconst 1) 1 128 := ⟨by decide +kernel, rfl⟩
theorem ad_128 : Dc prog_5_method_5_code 128 (.iadd) 1 129 := ⟨by decide +kernel, rfl⟩
theorem ad_129 : Dc prog_5_method_5_code 129 (.aload_n 0) 1 130 := ⟨by decide +kernel, rfl⟩
theorem ad_130 : Dc prog_5_method_5_code 130 (.getfield 16) 3 133 := ⟨by decide +kernel, rfl⟩
theorem ad_133 : Dc prog_5_method_5_code 133 (.iload_n 3) 1 134 := ⟨by decide +kernel, rfl⟩
theorem ad_134 : Dc prog_5_method_5_code 134 (.isub) 1 135 := ⟨by decide +kernel, rfl⟩
theorem ad_135 : Dc prog_5_method_5_code 135 (.invokestatic 51) 3 138 := ⟨by decide +kernel, rfl⟩
theorem ad_138 : Dc prog_5_method_5_code 138 (.aload_n 0) 1 139 := ⟨by decide +kernel, rfl⟩
theorem ad_139 : Dc prog_5_method_5_code 139 (.getfield 13) 3 142 := ⟨by decide +kernel, rfl⟩
theorem ad_142 : Dc prog_5_method_5_code 142 (.iload_n 3) 1 143 := ⟨by decide +kernel, rfl⟩
theorem ad_143 : Dc prog_5_method_5_code 143 (.iload_n 1) 1 144 := ⟨by decide +kernel, rfl⟩
theorem ad_144 : Dc prog_5_method_5_code 144 (.iastore) 1 145 := ⟨by decide +kernel, rfl⟩
theorem ad_145 : Dc prog_5_method_5_code 145 (.aload_n 0) 1 146 := ⟨by decide +kernel, rfl⟩
theorem ad_146 : Dc prog_5_method_5_code 146 (.dup) 1 147 := ⟨by decide +kernel, rfl⟩
theorem ad_147 : Dc prog_5_method_5_code 147 (.getfield 16) 3 150 := ⟨by decide +kernel, rfl⟩
theorem ad_150 : Dc prog_5_method_5_code 150 (.iconst 1) 1 151 := ⟨by decide +kernel, rfl⟩
theorem ad_151 : Dc prog_5_method_5_code 151 (.iadd) 1 152 := ⟨by decide +kernel, rfl⟩
theorem ad_152 : Dc prog_5_method_5_code 152 (.putfield 16) 3 155 := ⟨by decide +kernel, rfl⟩
theorem ad_155 : Dc prog_5_method_5_code 155 (.iconst 1) 1 156 := ⟨by decide +kernel, rfl⟩
theorem ad_156 : Dc prog_5_method_5_code 156 (.ireturn) 1 157 := ⟨by decide +kernel, rfl⟩
theorem lw_0 : Dc code 0 (.new 7) 3 3 := ⟨by decide +kernel, rfl⟩
theorem lw_3 : Dc code 3 (.dup) 1 4 := ⟨by decide +kernel, rfl⟩
theorem lw_4 : Dc code 4 (.invokespecial 9) 3 7 := ⟨by decide +kernel, rfl⟩
theorem lw_7 : Dc code 7 (.astore 4) 2 9 := ⟨by decide +kernel, rfl⟩
theorem lw_9 : Dc code 9 (.aload 4) 2 11 := ⟨by decide +kernel, rfl⟩
theorem lw_11 : Dc code 11 (.invokevirtual 10) 3 14 := ⟨by decide +kernel, rfl⟩
theorem lw_14 : Dc code 14 (.istore 5) 2 16 := ⟨by decide +kernel, rfl⟩
theorem lw_16 : Dc code 16 (.iload_n 0) 1 17 := ⟨by decide +kernel, rfl⟩
theorem lw_17 : Dc code 17 (.iconst 3) 1 18 := ⟨by decide +kernel, rfl⟩
theorem lw_18 : Dc code 18 (.iand) 1 19 := ⟨by decide +kernel, rfl⟩
theorem lw_19 : Dc code 19 (.istore 6) 2 21 := ⟨by decide +kernel, rfl⟩
theorem lw_21 : Dc code 21 (.iload_n 1) 1 22 := ⟨by decide +kernel, rfl⟩
theorem lw_22 : Dc code 22 (.ldc 14) 2 24 := ⟨by decide +kernel, rfl⟩
theorem lw_24 : Dc code 24 (.iand) 1 25 := ⟨by decide +kernel, rfl⟩
theorem lw_25 : Dc code 25 (.istore 7) 2 27 := ⟨by decide +kernel, rfl⟩
theorem lw_27 : Dc code 27 (.iload_n 2) 1 28 := ⟨by decide +kernel, rfl⟩
theorem lw_28 : Dc code 28 (.ldc 14) 2 30 := ⟨by decide +kernel, rfl⟩
theorem lw_30 : Dc code 30 (.iand) 1 31 := ⟨by decide +kernel, rfl⟩
theorem lw_31 : Dc code 31 (.istore 8) 2 33 := ⟨by decide +kernel, rfl⟩
theorem lw_33 : Dc code 33 (.iload_n 3) 1 34 := ⟨by decide +kernel, rfl⟩
theorem lw_34 : Dc code 34 (.ldc 14) 2 36 := ⟨by decide +kernel, rfl⟩
theorem lw_36 : Dc code 36 (.iand) 1 37 := ⟨by decide +kernel, rfl⟩
theorem lw_37 : Dc code 37 (.istore 9) 2 39 := ⟨by decide +kernel, rfl⟩
theorem lw_39 : Dc code 39 (.iload 6) 2 41 := ⟨by decide +kernel, rfl⟩
theorem lw_41 : Dc code 41 (.iconst 1) 1 42 := ⟨by decide +kernel, rfl⟩
theorem lw_42 : Jp code 42 (.if_icmp .lt 11) (11) 45 53 := ⟨by decide +kernel, rfl, by decide, by decide⟩
theorem lw_45 : Dc code 45 (.aload 4) 2 47 := ⟨by decide +kernel, rfl⟩
theorem lw_47 : Dc code 47 (.iload 7) 2 49 := ⟨by decide +kernel, rfl⟩
theorem lw_49 : Dc code 49 (.invokevirtual 15) 3 52 := ⟨by decide +kernel, rfl⟩
theorem lw_52 : Dc code 52 (.pop) 1 53 := ⟨by decide +kernel, rfl⟩
theorem lw_53 : Dc code 53 (.iload 6) 2 55 := ⟨by decide +kernel, rfl⟩
theorem lw_55 : Dc code 55 (.iconst 2) 1 56 := ⟨by decide +kernel, rfl⟩
theorem lw_56 : Jp code 56 (.if_icmp .lt 11) (11) 59 67 := ⟨by decide +kernel, rfl, by decide, by decide⟩
theorem lw_59 : Dc code 59 (.aload 4) 2 61 := ⟨by decide +kernel, rfl⟩
theorem lw_61 : Dc code 61 (.iload 8) 2 63 := ⟨by decide +kernel, rfl⟩
theorem lw_63 : Dc code 63 (.invokevirtual 15) 3 66 := ⟨by decide +kernel, rfl⟩
theorem lw_66 : Dc code 66 (.pop) 1 67 := ⟨by decide +kernel, rfl⟩
theorem lw_67 : Dc code 67 (.iload 6) 2 69 := ⟨by decide +kernel, rfl⟩
theorem lw_69 : Dc code 69 (.iconst 3) 1 70 := ⟨by decide +kernel, rfl⟩
theorem lw_70 : Jp code 70 (.if_icmp .lt 11) (11) 73 81 := ⟨by decide +kernel, rfl, by decide, by decide⟩
theorem lw_73 : Dc code 73 (.aload 4) 2 75 := ⟨by decide +kernel, rfl⟩
theorem lw_75 : Dc code 75 (.iload 9) 2 77 := ⟨by decide +kernel, rfl⟩
theorem lw_77 : Dc code 77 (.invokevirtual 15) 3 80 := ⟨by decide +kernel, rfl⟩
theorem lw_80 : Dc code 80 (.pop) 1 81 := ⟨by decide +kernel, rfl⟩
theorem lw_81 : Dc code 81 (.aload 4) 2 83 := ⟨by decide +kernel, rfl⟩
theorem lw_83 : Dc code 83 (.invokevirtual 10) 3 86 := ⟨by decide +kernel, rfl⟩
theorem lw_86 : Dc code 86 (.istore 10) 2 88 := ⟨by decide +kernel, rfl⟩
theorem lw_88 : Dc code 88 (.aload 4) 2 90 := ⟨by decide +kernel, rfl⟩
theorem lw_90 : Dc code 90 (.invokevirtual 19) 3 93 := ⟨by decide +kernel, rfl⟩
theorem lw_93 : Dc code 93 (.istore 11) 2 95 := ⟨by decide +kernel, rfl⟩
theorem lw_95 : Dc code 95 (.iload 5) 2 97 := ⟨by decide +kernel, rfl⟩
theorem lw_97 : Jp code 97 (.ifCond .eq 37) (37) 100 134 := ⟨by decide +kernel, rfl, by decide, by decide⟩
theorem lw_100 : Dc code 100 (.iload 10) 2 102 := ⟨by decide +kernel, rfl⟩
theorem lw_102 : Dc code 102 (.iload 6) 2 104 := ⟨by decide +kernel, rfl⟩
theorem lw_104 : Jp code 104 (.ifCond .ne 7) (7) 107 111 := ⟨by decide +kernel, rfl, by decide, by decide⟩
theorem lw_107 : Dc code 107 (.iconst 1) 1 108 := ⟨by decide +kernel, rfl⟩
theorem lw_108 : Jp code 108 (.goto 4) (4) 111 112 := ⟨by decide +kernel, rfl, by decide, by decide⟩
theorem lw_111 : Dc code 111 (.iconst 0) 1 112 := ⟨by decide +kernel, rfl⟩
theorem lw_112 : Jp code 112 (.if_icmp .ne 22) (22) 115 134 := ⟨by decide +kernel, rfl, by decide, by decide⟩
theorem lw_115 : Dc code 115 (.iload 10) 2 117 := ⟨by decide +kernel, rfl⟩
theorem lw_117 : Dc code 117 (.iload 11) 2 119 := ⟨by decide +kernel, rfl⟩
theorem lw_119 : Jp code 119 (.ifCond .ne 7) (7) 122 126 := ⟨by decide +kernel, rfl, by decide, by decide⟩
theorem lw_122 : Dc code 122 (.iconst 1) 1 123 := ⟨by decide +kernel, rfl⟩
theorem lw_123 : Jp code 123 (.goto 4) (4) 126 127 := ⟨by decide +kernel, rfl, by decide, by decide⟩
theorem lw_126 : Dc code 126 (.iconst 0) 1 127 := ⟨by decide +kernel, rfl⟩
theorem lw_127 : Jp code 127 (.if_icmp .ne 7) (7) 130 134 := ⟨by decide +kernel, rfl, by decide, by decide⟩
theorem lw_130 : Dc code 130 (.iconst 1) 1 131 := ⟨by decide +kernel, rfl⟩
theorem lw_131 : Jp code 131 (.goto 4) (4) 134 135 := ⟨by decide +kernel, rfl, by decide, by decide⟩
theorem lw_134 : Dc code 134 (.iconst 0) 1 135 := ⟨by decide +kernel, rfl⟩
theorem lw_135 : Dc code 135 (.ireturn) 1 136 := ⟨by decide +kernel, rfl⟩
theorem efR (m : MethodId) (x0 : Addr) : entryFrame m #[(.ref x0)] 1 = fr m 0 [.val (.ref x0)] [] := by first | (simp [entryFrame, mkF, argsToLocals, Value.category]; done) | rfl
theorem efII (m : MethodId) (x0 : Int32) (x1 : Int32) : entryFrame m #[(.int x0), (.int x1)] 2 = fr m 0 [.val (.int x0), .val (.int x1)] [] := by first | (simp [entryFrame, mkF, argsToLocals, Value.category]; done) | rfl
theorem efIII (m : MethodId) (x0 : Int32) (x1 : Int32) (x2 : Int32) : entryFrame m #[(.int x0), (.int x1), (.int x2)] 3 = fr m 0 [.val (.int x0), .val (.int x1), .val (.int x2)] [] := by first | (simp [entryFrame, mkF, argsToLocals, Value.category]; done) | rfl
theorem efb0 (m : MethodId) (x0 : Addr) (x1 : Int32) (x2 : Int32) (x3 : Int32) : entryFrame m #[(.ref x0), (.int x1), (.int x2), (.int x3)] 8 = fr m 0 [.val (.ref x0), .val (.int x1), .val (.int x2), .val (.int x3), .unset, .unset, .unset, .unset] [] := by first | (simp [entryFrame, mkF, argsToLocals, Value.category]; done) | rfl
theorem efbs (m : MethodId) (x0 : Addr) (x1 : Int32) (x2 : Int32) (x3 : Int32) : entryFrame m #[(.ref x0), (.int x1), (.int x2), (.int x3)] 4 = fr m 0 [.val (.ref x0), .val (.int x1), .val (.int x2), .val (.int x3)] [] := by first | (simp [entryFrame, mkF, argsToLocals, Value.category]; done) | rfl
theorem efco (m : MethodId) (x0 : Addr) (x1 : Int32) : entryFrame m #[(.ref x0), (.int x1)] 3 = fr m 0 [.val (.ref x0), .val (.int x1), .unset] [] := by first | (simp [entryFrame, mkF, argsToLocals, Value.category]; done) | rfl
theorem efad (m : MethodId) (x0 : Addr) (x1 : Int32) : entryFrame m #[(.ref x0), (.int x1)] 4 = fr m 0 [.val (.ref x0), .val (.int x1), .unset, .unset] [] := by first | (simp [entryFrame, mkF, argsToLocals, Value.category]; done) | rfl
theorem eflw (m : MethodId) (x0 : Int32) (x1 : Int32) (x2 : Int32) (x3 : Int32) : entryFrame m #[(.int x0), (.int x1), (.int x2), (.int x3)] 12 = fr m 0 [.val (.int x0), .val (.int x1), .val (.int x2), .val (.int x3), .unset, .unset, .unset, .unset, .unset, .unset, .unset, .unset] [] := by first | (simp [entryFrame, mkF, argsToLocals, Value.category]; done) | rfl
theorem met_isEmpty (l : Launch) (Z : State) (a0 : Array Value) (hw : ∀ d ∈ tables_1, d.before a0 Z = true) (h : Heap) (a : Addr) (z : Int32) (F : Fld Z h a PTS "size" "I" (.int z)) :
    Met l Z True [] ⟨PTS, "isEmpty", "()Z"⟩ prog_5_method_3_code 1 (some .boolean) ⟨0, 0, 0, 0⟩ #[.ref a] h [] (fun v h' => v = some (.int (if z = 0 then 1 else 0)) ∧ h' = h) := by
  refine Met.mk (a0 := a0) EW.nil pn_pts ?_
  intro p e s m below meth c C hE hS
  rw [efR]
  refine R_aload_n C ie_0 rfl rfl ?_
  refine R_getfield C ie_1 (hw _ (List.mem_of_getElem? (i := 18) rfl)) Via.refl (F) ?_
  refine R_if C ie_4 (fun (hc : ¬ z = 0) => ?_) (fun (hc : ¬ ¬ z = 0) => ?_)
  · refine R_iconst C ie_11 (v := 0) rfl ?_
    refine R_retN C ie_12 rfl (Or.inl rfl) (Nat.le_refl _) (Nat.le_refl _) ⟨?_, rfl⟩
    rw [if_neg hc]; rfl
  · refine R_iconst C ie_7 (v := 1) rfl ?_
    refine R_goto C ie_8 ?_
    refine R_retN C ie_12 rfl (Or.inl rfl) (Nat.le_refl _) (Nat.le_refl _) ⟨?_, rfl⟩
    rw [if_pos (Decidable.not_not.mp hc)]; rfl
theorem met_size (l : Launch) (Z : State) (a0 : Array Value) (hw : ∀ d ∈ tables_1, d.before a0 Z = true) (h : Heap) (a : Addr) (z : Int32) (F : Fld Z h a PTS "size" "I" (.int z)) :
    Met l Z True [] ⟨PTS, "size", "()I"⟩ prog_5_method_2_code 1 (some .int) ⟨0, 0, 0, 0⟩ #[.ref a] h [] (fun v h' => v = some (.int z) ∧ h' = h) := by
  refine Met.mk (a0 := a0) EW.nil pn_pts ?_
  intro p e s m below meth c C hE hS
  rw [efR]
  refine R_aload_n C sz_0 rfl rfl ?_
  refine R_getfield C sz_1 (hw _ (List.mem_of_getElem? (i := 18) rfl)) Via.refl (F) ?_
  exact R_retI C sz_4 rfl (Nat.le_refl _) (Nat.le_refl _) ⟨rfl, rfl⟩
theorem met_init (l : Launch) (Z : State) (a0 : Array Value) (hw : ∀ d ∈ tables_1, d.before a0 Z = true) (h : Heap) (a no : Addr) (E : Exa Z h a PTS) (F1 : Fld Z h a PTS "sorted" "[I" .null) (F2 : Fld Z h a PTS "size" "I" (.int 0)) (F3 : Fld Z h a PTS "words" "[J" .null) (S : Sta Z h PTS "NONE" "[I" (.ref no)) (ha : Z.heap.size ≤ a) :
    Met l Z True [] ⟨PTS, "<init>", "()V"⟩ prog_5_method_1_code 1 none ⟨1, 0, 0, 12⟩ #[.ref a] h [] (fun v h' => v = none ∧ Exa Z h' a PTS ∧ Fld Z h' a PTS "sorted" "[I" (.ref no) ∧ Fld Z h' a PTS "size" "I" (.int 0) ∧ Fld Z h' a PTS "words" "[J" .null ∧ Keep h h' [a]) := by
  refine Met.mk (a0 := a0) EW.nil pn_pts ?_
  intro p e s m below meth c C hE hS
  rw [efR]
  refine R_aload_n C ii_0 rfl rfl ?_
  refine R_initO C ii_1 (hw _ (List.mem_of_getElem? (i := 6) rfl)) (hw _ (List.mem_of_getElem? (i := 7) rfl)) (hw _ (List.mem_of_getElem? (i := 8) rfl)) rfl (Nat.le_of_ble_eq_true rfl) (Nat.le_of_ble_eq_true rfl) ?_
  refine R_aload_n C ii_4 rfl rfl ?_
  refine R_getstatic C ii_5 (hw _ (List.mem_of_getElem? (i := 9) rfl)) Via.refl (S) ?_
  refine R_putfield C ii_8 (hw _ (List.mem_of_getElem? (i := 11) rfl)) Via.refl F1 E (Or.inl (hw _ (List.mem_of_getElem? (i := 12) rfl))) (hw _ (List.mem_of_getElem? (i := 1) rfl)) (ty := .array .int) (by decide) rfl rfl ha Safe.nil ?_
  intro h' W _
  refine R_return C ii_11 rfl (Nat.le_refl _) (Nat.le_refl _) ⟨rfl, E.wr W, F1.same W, F2.other W (Or.inr ?_), F3.other W (Or.inr ?_), Keep.of_wr W⟩
  · exact slot_ne (C := PTS) (Or.inl (hw _ (List.mem_of_getElem? (i := 19) rfl))) (Or.inl (hw _ (List.mem_of_getElem? (i := 12) rfl))) (by decide) (t := .int) (t' := .array .int) (by decide) (by decide)
  · exact slot_ne (C := PTS) (Or.inl (hw _ (List.mem_of_getElem? (i := 32) rfl))) (Or.inl (hw _ (List.mem_of_getElem? (i := 12) rfl))) (by decide) (t := .array .long) (t' := .array .int) (by decide) (by decide)
theorem met_max (l : Launch) (Z : State) (a0 : Array Value) (h : Heap) (x y : Int32) :
    Met l Z True [] ⟨"java/lang/Math", "max", "(II)I"⟩ jdk_29_method_65_code 2 (some .int) ⟨0, 0, 0, 0⟩ #[.int x, .int y] h [] (fun v h' => v = some (.int (if x < y then y else x)) ∧ h' = h) := by
  refine Met.mkH (a0 := a0) EW.nil pf_max ?_
  intro p e s m below meth c C _ hE hS
  rw [efII]
  refine R_iload_n C mx_0 rfl ?_
  refine R_iload_n C mx_1 rfl ?_
  refine R_icmp C mx_2 (fun (hc : x < y) => ?_) (fun (hc : ¬ x < y) => ?_)
  · refine R_iload_n C mx_9 rfl ?_
    exact R_retI C mx_10 rfl (Nat.le_refl _) (Nat.le_refl _) ⟨by rw [if_pos hc], rfl⟩
  · refine R_iload_n C mx_5 rfl ?_
    refine R_goto C mx_6 ?_
    exact R_retI C mx_10 rfl (Nat.le_refl _) (Nat.le_refl _) ⟨by rw [if_neg hc], rfl⟩
theorem met_min (l : Launch) (Z : State) (a0 : Array Value) (h : Heap) (x y : Int32) :
    Met l Z True [] ⟨"java/lang/Math", "min", "(II)I"⟩ jdk_29_method_69_code 2 (some .int) ⟨0, 0, 0, 0⟩ #[.int x, .int y] h [] (fun v h' => v = some (.int (if y < x then y else x)) ∧ h' = h) := by
  refine Met.mkH (a0 := a0) EW.nil pf_min ?_
  intro p e s m below meth c C _ hE hS
  rw [efII]
  refine R_iload_n C mn_0 rfl ?_
  refine R_iload_n C mn_1 rfl ?_
  refine R_icmp C mn_2 (fun (hc : y < x) => ?_) (fun (hc : ¬ y < x) => ?_)
  · refine R_iload_n C mn_9 rfl ?_
    exact R_retI C mn_10 rfl (Nat.le_refl _) (Nat.le_refl _) ⟨by rw [if_pos hc], rfl⟩
  · refine R_iload_n C mn_5 rfl ?_
    refine R_goto C mn_6 ?_
    exact R_retI C mn_10 rfl (Nat.le_refl _) (Nat.le_refl _) ⟨by rw [if_neg hc], rfl⟩
theorem met_range (l : Launch) (Z : State) (a0 : Array Value) (h : Heap) (x y z : Int32) (h1 : ¬ z < y) (h2 : ¬ y < 0) (h3 : ¬ x < z) :
    Met l Z True [] ⟨"java/util/Arrays", "rangeCheck", "(III)V"⟩ jdk_65_method_30_code 3 none ⟨0, 0, 0, 0⟩ #[.int x, .int y, .int z] h [] (fun v h' => v = none ∧ h' = h) := by
  refine Met.mk (a0 := a0) EW.nil pn_arrays ?_
  intro p e s m below meth c C hE hS
  rw [efIII]
  refine R_iload_n C rc_0 rfl ?_
  refine R_iload_n C rc_1 rfl ?_
  refine R_icmp C rc_2 (fun _ => ?_) (fun hc => absurd h1 hc)
  refine R_iload_n C rc_46 rfl ?_
  refine R_if C rc_47 (fun _ => ?_) (fun hc => absurd h2 hc)
  refine R_iload_n C rc_59 rfl ?_
  refine R_iload_n C rc_60 rfl ?_
  refine R_icmp C rc_61 (fun _ => ?_) (fun hc => absurd h3 hc)
  exact R_return C rc_73 rfl (Nat.le_refl _) (Nat.le_refl _) ⟨rfl, rfl⟩
theorem mid_ok {lo hi : Int32} (h0 : 0 ≤ lo.toInt) (h1 : lo.toInt ≤ hi.toInt) (h2 : hi.toInt < 1000) : (XT.ushr (lo + hi) 1).toInt = (lo.toInt + hi.toInt) / 2 := by
  have hs := Jvm.Kit.i32_add (p := lo) (q := hi) (by omega) (by omega)
  have hn : 0 ≤ lo + hi := Kit.i32_nonneg.mpr (by omega)
  have z := i32_iushr hn (n := ((1 : Int32) &&& 31).toUInt32) (k := 1) (by decide) (by decide)
  unfold XT.ushr
  rw [z, hs]
  omega
/-- what a search answers for k places -/
def BsQ (k : Nat) (h : Heap) (v : Option Value) (h' : Heap) : Prop := h' = h ∧ ∃ r : Int32, v = some (.int r) ∧ ((0 ≤ r.toInt ∧ r.toInt < k) ∨ (-(k : Int) - 1 ≤ r.toInt ∧ r.toInt ≤ -1))
theorem met_b0 (l : Launch) (Z : State) (a0 : Array Value) (h : Heap) (arr : Addr) (N k : Nat) (f : Nat → Value) (A : AR Z h arr .int N f) (kk x : Int32) (hk : kk.toInt = k) (hkN : k ≤ N) (hk3 : k ≤ 500) :
    Met l Z True [] ⟨"java/util/Arrays", "binarySearch0", "([IIII)I"⟩ jdk_65_method_59_code 8 (some .int) ⟨0, 0, 0, 0⟩ #[.ref arr, .int 0, .int kk, .int x] h [] (BsQ k h) := by
  refine Met.mk (a0 := a0) EW.nil pn_arrays ?_
  intro p e s m below meth c C hE hS
  rw [efb0]
  have loop : ∀ (t : Nat) (lo hi : Int32) (s6 s7 : Slot), okSlot s6 = true → okSlot s7 = true → 0 ≤ lo.toInt → lo.toInt ≤ k → -1 ≤ hi.toInt → hi.toInt < k → hi.toInt - lo.toInt + 1 ≤ t →
      Run p l e ⟨0, 0, 0, 0⟩ s m #[.ref arr, .int 0, .int kk, .int x] below meth c Z True [] (Kf s Z True [] ⟨0, 0, 0, 0⟩ (BsQ k h)) s.vm h 0 0 (fr m 8 [.val (.ref arr), .val (.int 0), .val (.int kk), .val (.int x), .val (.int lo), .val (.int hi), s6, s7] []) := by
    intro t
    induction t with
    | zero =>
      intro lo hi s6 s7 o6 o7 h1 h2 h3 h4 h5
      refine R_iload C b0_8 rfl ?_
      refine R_iload C b0_10 rfl ?_
      refine R_icmp C b0_12 (fun _ => ?_) (fun hc => absurd (show hi < lo from ?_) hc)
      · refine R_iload C b0_66 rfl ?_
        refine R_iconst C b0_68 (v := 1) rfl ?_
        refine R_iadd C b0_69 ?_
        refine R_ineg C b0_70 ?_
        refine R_retI C b0_71 rfl (Nat.le_refl _) (Nat.le_refl _) ⟨rfl, _, rfl, Or.inr ?_⟩
        have q1 := Jvm.Kit.i32_add (p := lo) (q := 1) (by rw [show (1 : Int32).toInt = 1 from rfl]; omega) (by rw [show (1 : Int32).toInt = 1 from rfl]; omega)
        rw [show (1 : Int32).toInt = 1 from rfl] at q1
        rw [i32_neg (by omega), q1]
        omega
      · rw [Int32.lt_iff_toInt_lt]; omega
    | succ t ih =>
      intro lo hi s6 s7 o6 o7 h1 h2 h3 h4 h5
      refine R_iload C b0_8 rfl ?_
      refine R_iload C b0_10 rfl ?_
      refine R_icmp C b0_12 (fun (_ : hi < lo) => ?_) (fun (hc : ¬ hi < lo) => ?_)
      · refine R_iload C b0_66 rfl ?_
        refine R_iconst C b0_68 (v := 1) rfl ?_
        refine R_iadd C b0_69 ?_
        refine R_ineg C b0_70 ?_
        refine R_retI C b0_71 rfl (Nat.le_refl _) (Nat.le_refl _) ⟨rfl, _, rfl, Or.inr ?_⟩
        have q1 := Jvm.Kit.i32_add (p := lo) (q := 1) (by rw [show (1 : Int32).toInt = 1 from rfl]; omega) (by rw [show (1 : Int32).toInt = 1 from rfl]; omega)
        rw [show (1 : Int32).toInt = 1 from rfl] at q1
        rw [i32_neg (by omega), q1]
        omega
      · rw [Int32.lt_iff_toInt_lt] at hc
        have hm := mid_ok (lo := lo) (hi := hi) h1 (by omega) (by omega)
        have m1 : 0 ≤ (XT.ushr (lo + hi) 1).toInt := by omega
        have m2 : (XT.ushr (lo + hi) 1).toInt < k := by omega
        have m3 : (XT.ushr (lo + hi) 1).toInt = ((XT.ushr (lo + hi) 1).toInt.toNat : Nat) := by omega
        obtain ⟨w, hw⟩ := fit_I (A.fit (i := (XT.ushr (lo + hi) 1).toInt.toNat) (by omega)) (Or.inl rfl)
        refine R_iload C b0_15 rfl ?_
        refine R_iload C b0_17 rfl ?_
        refine R_iadd C b0_19 ?_
        refine R_iconst C b0_20 (v := 1) rfl ?_
        refine R_iushr C b0_21 ?_
        refine R_istore C b0_22 o6 ?_
        simp only [fv0, fv1, fv2, fv3, List.set_cons_zero, List.set_cons_succ]
        refine R_aload_n C b0_24 rfl rfl ?_
        refine R_iload C b0_25 rfl ?_
        refine R_iaload C _ b0_27 A m3 (by omega) hw ?_
        refine R_istore C b0_28 o7 ?_
        simp only [fv0, fv1, fv2, fv3, List.set_cons_zero, List.set_cons_succ]
        refine R_iload C b0_30 rfl ?_
        refine R_iload_n C b0_32 rfl ?_
        refine R_icmp C b0_33 (fun _ => ?_) (fun _ => ?_)
        · refine R_iload C b0_45 rfl ?_
          refine R_iload_n C b0_47 rfl ?_
          refine R_icmp C b0_48 (fun _ => ?_) (fun _ => ?_)
          · refine R_iload C b0_60 rfl ?_
            exact R_retI C b0_62 rfl (Nat.le_refl _) (Nat.le_refl _) ⟨rfl, _, rfl, Or.inl ⟨m1, m2⟩⟩
          · refine R_iload C b0_51 rfl ?_
            refine R_iconst C b0_53 (v := 1) rfl ?_
            refine R_isub C b0_54 ?_
            refine R_istore C b0_55 rfl ?_
            simp only [fv0, fv1, fv2, fv3, List.set_cons_zero, List.set_cons_succ]
            refine R_goto C b0_57 ?_
            refine R_goto C b0_63 ?_
            have q1 := i32_sub (p := XT.ushr (lo + hi) 1) (q := 1) (by rw [show (1 : Int32).toInt = 1 from rfl]; omega) (by rw [show (1 : Int32).toInt = 1 from rfl]; omega)
            rw [show (1 : Int32).toInt = 1 from rfl] at q1
            exact ih _ _ _ _ rfl rfl h1 h2 (by omega) (by omega) (by omega)
        · refine R_iload C b0_36 rfl ?_
          refine R_iconst C b0_38 (v := 1) rfl ?_
          refine R_iadd C b0_39 ?_
          refine R_istore C b0_40 rfl ?_
          simp only [fv0, fv1, fv2, fv3, List.set_cons_zero, List.set_cons_succ]
          refine R_goto C b0_42 ?_
          refine R_goto C b0_63 ?_
          have q1 := Jvm.Kit.i32_add (p := XT.ushr (lo + hi) 1) (q := 1) (by rw [show (1 : Int32).toInt = 1 from rfl]; omega) (by rw [show (1 : Int32).toInt = 1 from rfl]; omega)
          rw [show (1 : Int32).toInt = 1 from rfl] at q1
          exact ih _ _ _ _ rfl rfl (by omega) (by omega) h3 h4 (by omega)
  refine R_iload_n C b0_0 rfl ?_
  refine R_istore C b0_1 rfl ?_
  simp only [fv0, fv1, fv2, fv3, List.set_cons_zero, List.set_cons_succ]
  refine R_iload_n C b0_3 rfl ?_
  refine R_iconst C b0_4 (v := 1) rfl ?_
  refine R_isub C b0_5 ?_
  refine R_istore C b0_6 rfl ?_
  simp only [fv0, fv1, fv2, fv3, List.set_cons_zero, List.set_cons_succ]
  have q1 := i32_sub (p := kk) (q := 1) (by rw [show (1 : Int32).toInt = 1 from rfl]; omega) (by rw [show (1 : Int32).toInt = 1 from rfl]; omega)
  rw [show (1 : Int32).toInt = 1 from rfl] at q1
  exact loop (k + 1) _ _ _ _ rfl rfl (by decide) (by rw [show (0 : Int32).toInt = 0 from rfl]; omega) (by omega) (by omega) (by rw [show (0 : Int32).toInt = 0 from rfl]; omega)
theorem met_bs (l : Launch) (Z : State) (a0 : Array Value) (hw : ∀ d ∈ tables_1, d.before a0 Z = true) (h : Heap) (arr : Addr) (N k : Nat) (f : Nat → Value) (A : AR Z h arr .int N f) (kk x : Int32) (hk : kk.toInt = k) (hkN : k ≤ N) (hk3 : k ≤ 500) :
    Met l Z True [] ⟨"java/util/Arrays", "binarySearch", "([IIII)I"⟩ jdk_65_method_58_code 4 (some .int) ⟨1, 0, 0, 19⟩ #[.ref arr, .int 0, .int kk, .int x] h [] (BsQ k h) := by
  refine Met.mk (a0 := a0) EW.nil pn_arrays ?_
  intro p e s m below meth c C hE hS
  rw [efbs]
  refine R_aload_n C bs_0 rfl rfl ?_
  refine R_arraylength C bs_1 (A) rfl ?_
  refine R_iload_n C bs_2 rfl ?_
  refine R_iload_n C bs_3 rfl ?_
  have hN : N.toInt32.toInt = N := len_toInt A.small
  refine R_static C [.int N.toInt32, .int 0, .int kk] bs_4 (met_range l Z a0 h N.toInt32 0 kk (nn_of hk) (by decide) (by rw [Int32.lt_iff_toInt_lt]; omega)) (by first | exact fun z => z | exact fun _ => trivial) (hw _ (List.mem_of_getElem? (i := 37) rfl)) (hw _ (List.mem_of_getElem? (i := 38) rfl)) (hw _ (List.mem_of_getElem? (i := 35) rfl)) (hw _ (List.mem_of_getElem? (i := 39) rfl)) (by decide) pd_0 rfl rfl rfl (Nat.le_of_ble_eq_true rfl) (Nat.le_of_ble_eq_true rfl) (Nat.le_of_ble_eq_true rfl) (Nat.le_of_ble_eq_true rfl) (fun _ q => nomatch q) ?_
  intro v vm' h' hQ hsz hSf hFr
  obtain ⟨rfl, rfl⟩ := hQ
  refine R_aload_n C bs_7 rfl rfl ?_
  refine R_iload_n C bs_8 rfl ?_
  refine R_iload_n C bs_9 rfl ?_
  refine R_iload_n C bs_10 rfl ?_
  refine R_static C [.ref arr, .int 0, .int kk, .int x] bs_11 (met_b0 l Z a0 h' arr N k f A kk x hk hkN hk3) (by first | exact fun z => z | exact fun _ => trivial) (hw _ (List.mem_of_getElem? (i := 40) rfl)) (hw _ (List.mem_of_getElem? (i := 41) rfl)) (hw _ (List.mem_of_getElem? (i := 35) rfl)) (hw _ (List.mem_of_getElem? (i := 42) rfl)) (by decide) pd_1 rfl rfl rfl (Nat.le_of_ble_eq_true rfl) (Nat.le_of_ble_eq_true rfl) (Nat.le_of_ble_eq_true rfl) (Nat.le_of_ble_eq_true rfl) (fun _ q => nomatch q) ?_
  intro v vm' h2 hQ hsz hSf hFr
  obtain ⟨rfl, r, rfl, hr⟩ := hQ
  exact R_retI C bs_14 rfl (Nat.le_of_ble_eq_true rfl) (Nat.le_of_ble_eq_true rfl) ⟨rfl, r, rfl, hr⟩
theorem met_copy (l : Launch) (Z : State) (a0 : Array Value) (hw : ∀ d ∈ tables_1, d.before a0 Z = true) (h : Heap) (arr : Addr) (f : Nat → Value) (A : AR Z h arr .int 0 f) :
    Met l Z True [] ⟨"java/util/Arrays", "copyOf", "([II)[I"⟩ jdk_65_method_123_code 3 (some (.array .int)) ⟨1, 1, 4, 18⟩ #[.ref arr, .int 4] h [] (fun v h' => v = some (.ref h.size) ∧ Ext h h' ∧ ∃ g, AR Z h' h.size .int 4 g) := by
  refine Met.mk (a0 := a0) EW.nil pn_arrays ?_
  intro p e s m below meth c C hE hS
  rw [efco]
  refine R_iload_n C co_0 rfl ?_
  refine R_aload_n C co_1 rfl rfl ?_
  refine R_arraylength C co_2 (A) (w := 0) rfl ?_
  refine R_icmp C co_3 (fun _ => ?_) (fun hc => absurd (show ¬ (4 : Int32) = 0 by decide) hc)
  refine R_iload_n C co_14 rfl ?_
  refine R_newarray C 4 co_15 (hw _ (List.mem_of_getElem? (i := 50) rfl)) (N := 4) rfl (Nat.le_refl _) (by decide) (Nat.le_of_ble_eq_true rfl) (Nat.le_of_ble_eq_true rfl) rfl ?_
  intro h1 E1 D1 _ _
  refine R_astore_n C co_17 rfl rfl rfl ?_
  simp only [fv0, fv1, fv2, fv3, List.set_cons_zero, List.set_cons_succ]
  refine R_aload_n C co_18 rfl rfl ?_
  refine R_iconst C co_19 (v := 0) rfl ?_
  refine R_aload_n C co_20 rfl rfl ?_
  refine R_iconst C co_21 (v := 0) rfl ?_
  refine R_aload_n C co_22 rfl rfl ?_
  refine R_arraylength C co_23 (A.ext E1) (w := 0) rfl ?_
  refine R_iload_n C co_24 rfl ?_
  refine R_static C [.int 0, .int 4] co_25 (met_min l Z a0 h1 0 4) (by first | exact fun z => z | exact fun _ => trivial) (hw _ (List.mem_of_getElem? (i := 51) rfl)) (hw _ (List.mem_of_getElem? (i := 52) rfl)) (hw _ (List.mem_of_getElem? (i := 45) rfl)) (hw _ (List.mem_of_getElem? (i := 53) rfl)) (by decide) pd_2 rfl rfl rfl (Nat.le_of_ble_eq_true rfl) (Nat.le_of_ble_eq_true rfl) (Nat.le_of_ble_eq_true rfl) (Nat.le_of_ble_eq_true rfl) (fun _ q => nomatch q) ?_
  intro v vm' h2 hQ hsz hSf hFr
  obtain ⟨rfl, rfl⟩ := hQ
  rw [if_neg (by decide)]
  refine R_arraycopy C 0 0 0 co_28 (hw _ (List.mem_of_getElem? (i := 54) rfl)) (hw _ (List.mem_of_getElem? (i := 57) rfl)) (hw _ (List.mem_of_getElem? (i := 55) rfl)) (hw _ (List.mem_of_getElem? (i := 56) rfl)) (A.ext E1) D1 rfl rfl rfl rfl (Nat.le_refl _) (by decide) rfl (Nat.le_of_ble_eq_true rfl) (Nat.le_of_ble_eq_true rfl) hE.1 Safe.nil ?_
  intro h3 K3 D3 _
  refine R_aload_n C co_31 rfl rfl ?_
  refine R_areturn C co_32 rfl rfl rfl (Nat.le_of_ble_eq_true rfl) (Nat.le_of_ble_eq_true rfl) ⟨rfl, E1.keep' K3 ?_, _, D3⟩
  intro x hx
  cases List.mem_singleton.mp hx
  exact Nat.le_refl _
/-- the set at a holds k numbers -/
def Inv (Z : State) (h : Heap) (a : Addr) (k : Nat) : Prop := ∃ (srt : Addr) (N : Nat) (f : Nat → Value) (kk : Int32), Exa Z h a PTS ∧ Fld Z h a PTS "size" "I" (.int kk) ∧ Fld Z h a PTS "words" "[J" .null ∧ Fld Z h a PTS "sorted" "[I" (.ref srt) ∧ AR Z h srt .int N f ∧ kk.toInt = k ∧ k ≤ N ∧ (N = 0 ∨ (N = 4 ∧ Z.heap.size ≤ srt))
def AdQ (Z : State) (a : Addr) (k : Nat) (v : Option Value) (h' : Heap) : Prop := ∃ (b : Int32) (k' : Nat), v = some (.int b) ∧ (k' = k ∨ k' = k + 1) ∧ (k = 0 → k' = 1) ∧ Inv Z h' a k'
theorem met_add (l : Launch) (Z : State) (a0 : Array Value) (hw : ∀ d ∈ tables_1, d.before a0 Z = true) (h : Heap) (a : Addr) (x : Int32) (k : Nat) (I : Inv Z h a k) (hk2 : k ≤ 2) (ha : Z.heap.size ≤ a) :
    Met l Z True [] ⟨PTS, "add", "(I)Z"⟩ prog_5_method_5_code 4 (some .boolean) ⟨2, 1, 4, 34⟩ #[.ref a, .int x] h [] (AdQ Z a k) := by
  obtain ⟨srt, N, f, kk, E, F1, F2, F3, A, hkk, hkN, hN⟩ := I
  have wi := (hw _ (List.mem_of_getElem? (i := 1) rfl))
  have Lz : Laid Z a0 PTS PTS "size" "I" := Or.inl (hw _ (List.mem_of_getElem? (i := 19) rfl))
  have Lo : Laid Z a0 PTS PTS "sorted" "[I" := Or.inl (hw _ (List.mem_of_getElem? (i := 12) rfl))
  have Lw : Laid Z a0 PTS PTS "words" "[J" := Or.inl (hw _ (List.mem_of_getElem? (i := 32) rfl))
  have nzo := slot_ne Lz Lo (by decide) (t := .int) (t' := .array .int) (by decide) (by decide)
  have nwo := slot_ne Lw Lo (by decide) (t := .array .long) (t' := .array .int) (by decide) (by decide)
  have noz := slot_ne Lo Lz (by decide) (t := .array .int) (t' := .int) (by decide) (by decide)
  have nwz := slot_ne Lw Lz (by decide) (t := .array .long) (t' := .int) (by decide) (by decide)
  refine Met.mk (a0 := a0) EW.nil pn_pts ?_
  intro p e s m below meth c C hE hS
  rw [efad]
  have one : (1 : Int32).toInt = 1 := rfl
  have tail : ∀ (vm : Vm) (h : Heap) (cells slots : Nat) (srt : Addr) (f : Nat → Value) (r ix : Int32) (i : Nat), cells ≤ 1 → slots ≤ 4 → Exa Z h a PTS → Fld Z h a PTS "size" "I" (.int kk) → Fld Z h a PTS "words" "[J" .null → Fld Z h a PTS "sorted" "[I" (.ref srt) → AR Z h srt .int 4 f → Z.heap.size ≤ srt → ix.toInt = i → i ≤ k →
      Run p l e ⟨2, 1, 4, 34⟩ s m #[.ref a, .int x] below meth c Z True [] (Kf s Z True [] ⟨2, 1, 4, 34⟩ (AdQ Z a k)) vm h cells slots (fr m 117 [.val (.ref a), .val (.int x), .val (.int r), .val (.int ix)] []) := by
    intro vm h cells slots srt f r ix i hc hs E F1 F2 F3 A hsrt hix hik
    have q1 := Jvm.Kit.i32_add (p := ix) (q := 1) (by omega) (by omega)
    have q2 := i32_sub (p := kk) (q := ix) (by omega) (by omega)
    have q3 := Jvm.Kit.i32_add (p := kk) (q := 1) (by omega) (by omega)
    refine R_aload_n C ad_117 rfl rfl ?_
    refine R_getfield C ad_118 (hw _ (List.mem_of_getElem? (i := 11) rfl)) Via.refl (F3) ?_
    refine R_iload_n C ad_121 rfl ?_
    refine R_aload_n C ad_122 rfl rfl ?_
    refine R_getfield C ad_123 (hw _ (List.mem_of_getElem? (i := 11) rfl)) Via.refl (F3) ?_
    refine R_iload_n C ad_126 rfl ?_
    refine R_iconst C ad_127 (v := 1) rfl ?_
    refine R_iadd C ad_128 ?_
    refine R_aload_n C ad_129 rfl rfl ?_
    refine R_getfield C ad_130 (hw _ (List.mem_of_getElem? (i := 18) rfl)) Via.refl (F1) ?_
    refine R_iload_n C ad_133 rfl ?_
    refine R_isub C ad_134 ?_
    refine R_arraycopy C i (i + 1) (k - i) ad_135 (hw _ (List.mem_of_getElem? (i := 58) rfl)) (hw _ (List.mem_of_getElem? (i := 57) rfl)) (hw _ (List.mem_of_getElem? (i := 55) rfl)) (hw _ (List.mem_of_getElem? (i := 56) rfl)) A A rfl hix (by omega) (by omega) (by omega) (by omega) rfl (Nat.le_of_ble_eq_true rfl) (Nat.le_of_ble_eq_true rfl) hsrt Safe.nil ?_
    intro h2 K2 A2 _
    have nas : a ∉ [srt] := fun z => (A.neExa E wi) (List.mem_singleton.mp z).symm
    have E2 := E.keep K2
    have F12 := F1.keep K2 nas
    have F22 := F2.keep K2 nas
    have F32 := F3.keep K2 nas
    refine R_aload_n C ad_138 rfl rfl ?_
    refine R_getfield C ad_139 (hw _ (List.mem_of_getElem? (i := 11) rfl)) Via.refl (F32) ?_
    refine R_iload_n C ad_142 rfl ?_
    refine R_iload_n C ad_143 rfl ?_
    refine R_iastore C i ad_144 A2 hix (by omega) hsrt Safe.nil ?_
    intro h3 W3 A3 _
    have nas' : a ≠ srt := fun z => nas (List.mem_singleton.mpr z)
    have E3 := E2.wr W3
    have F13 := F12.other W3 (Or.inl nas')
    have F23 := F22.other W3 (Or.inl nas')
    have F33 := F32.other W3 (Or.inl nas')
    refine R_aload_n C ad_145 rfl rfl ?_
    refine R_dup C ad_146 rfl ?_
    refine R_getfield C ad_147 (hw _ (List.mem_of_getElem? (i := 18) rfl)) Via.refl (F13) ?_
    refine R_iconst C ad_150 (v := 1) rfl ?_
    refine R_iadd C ad_151 ?_
    refine R_putfield C ad_152 (hw _ (List.mem_of_getElem? (i := 18) rfl)) Via.refl F13 E3 (Or.inl (hw _ (List.mem_of_getElem? (i := 19) rfl))) wi (ty := .int) (by decide) rfl rfl ha Safe.nil ?_
    intro h4 W4 _
    refine R_iconst C ad_155 (v := 1) rfl ?_
    refine R_retN C ad_156 rfl (Or.inl rfl) hc hs ⟨_, k + 1, rfl, Or.inr rfl, fun z => by omega, srt, 4, _, _, E3.wr W4, F13.same W4, F23.other W4 (Or.inr nwz), F33.other W4 (Or.inr noz), A3.other W4 (Ne.symm nas'), by omega, by omega, Or.inr ⟨rfl, hsrt⟩⟩
  refine R_aload_n C ad_0 rfl rfl ?_
  refine R_getfield C ad_1 (hw _ (List.mem_of_getElem? (i := 31) rfl)) Via.refl (F2) ?_
  refine R_ifnull_y C ad_4 ?_
  refine R_aload_n C ad_37 rfl rfl ?_
  refine R_getfield C ad_38 (hw _ (List.mem_of_getElem? (i := 11) rfl)) Via.refl (F3) ?_
  refine R_iconst C ad_41 (v := 0) rfl ?_
  refine R_aload_n C ad_42 rfl rfl ?_
  refine R_getfield C ad_43 (hw _ (List.mem_of_getElem? (i := 18) rfl)) Via.refl (F1) ?_
  refine R_iload_n C ad_46 rfl ?_
  refine R_static C [.ref srt, .int 0, .int kk, .int x] ad_47 (met_bs l Z a0 hw h srt N k f A kk x hkk hkN (by omega)) (by first | exact fun z => z | exact fun _ => trivial) (hw _ (List.mem_of_getElem? (i := 33) rfl)) (hw _ (List.mem_of_getElem? (i := 34) rfl)) (hw _ (List.mem_of_getElem? (i := 35) rfl)) (hw _ (List.mem_of_getElem? (i := 36) rfl)) (by decide) pd_1 rfl rfl rfl (Nat.le_of_ble_eq_true rfl) (Nat.le_of_ble_eq_true rfl) (Nat.le_of_ble_eq_true rfl) (Nat.le_of_ble_eq_true rfl) (fun _ q => nomatch q) ?_
  intro v vm' h' hQ hsz hSf hFr
  obtain ⟨rfl, r, rfl, hr⟩ := hQ
  simp only [Option.toList_some, List.cons_append, List.nil_append]
  refine R_istore_n C ad_50 rfl ?_
  simp only [fv0, fv1, fv2, fv3, List.set_cons_zero, List.set_cons_succ]
  refine R_iload_n C ad_51 rfl ?_
  refine R_if C ad_52 (fun (hc : r < 0) => ?_) (fun (hc : ¬ r < 0) => ?_)
  · rw [Int32.lt_iff_toInt_lt, Int32.toInt_zero] at hc
    refine R_aload_n C ad_57 rfl rfl ?_
    refine R_getfield C ad_58 (hw _ (List.mem_of_getElem? (i := 18) rfl)) Via.refl (F1) ?_
    refine R_bipush C ad_61 (v := 32) rfl ?_
    refine R_icmp C ad_63 (fun _ => ?_) (fun hc2 => absurd (show ¬ kk = 32 from fun z => ?_) hc2)
    · have q1 := i32_neg (x := r) (by omega)
      have q2 := i32_sub (p := -r) (q := 1) (by omega) (by omega)
      have hN31 : N.toInt32.toInt = N := len_toInt A.small
      refine R_iload_n C ad_79 rfl ?_
      refine R_ineg C ad_80 ?_
      refine R_iconst C ad_81 (v := 1) rfl ?_
      refine R_isub C ad_82 ?_
      refine R_istore_n C ad_83 rfl ?_
      simp only [fv0, fv1, fv2, fv3, List.set_cons_zero, List.set_cons_succ]
      refine R_aload_n C ad_84 rfl rfl ?_
      refine R_getfield C ad_85 (hw _ (List.mem_of_getElem? (i := 18) rfl)) Via.refl (F1) ?_
      refine R_aload_n C ad_88 rfl rfl ?_
      refine R_getfield C ad_89 (hw _ (List.mem_of_getElem? (i := 11) rfl)) Via.refl (F3) ?_
      refine R_arraylength C ad_92 (A) rfl ?_
      refine R_icmp C ad_93 (fun (hc3 : ¬ kk = N.toInt32) => ?_) (fun (hc3 : ¬ ¬ kk = N.toInt32) => ?_)
      · have hn4 : N = 4 ∧ Z.heap.size ≤ srt := by
          rcases hN with z | z
          · exfalso
            subst z
            exact hc3 (Int32.toInt_inj.mp (by omega))
          · exact z
        obtain ⟨rfl, hsrt⟩ := hn4
        exact tail _ _ _ _ srt f r _ (-r.toInt - 1).toNat (by decide) (by decide) E F1 F2 F3 A hsrt (by omega) (by omega)
      · have hkN' : kk = N.toInt32 := Decidable.not_not.mp hc3
        have hN0 : N = 0 := by
          rcases hN with z | z
          · exact z
          · have z2 : kk.toInt = N := by rw [hkN']; exact hN31
            omega
        subst hN0
        have hk0 : k = 0 := by omega
        subst hk0
        have hkk0 : kk = 0 := hkN'
        subst hkk0
        refine R_aload_n C ad_96 rfl rfl ?_
        refine R_aload_n C ad_97 rfl rfl ?_
        refine R_getfield C ad_98 (hw _ (List.mem_of_getElem? (i := 11) rfl)) Via.refl (F3) ?_
        refine R_iconst C ad_101 (v := 4) rfl ?_
        refine R_aload_n C ad_102 rfl rfl ?_
        refine R_getfield C ad_103 (hw _ (List.mem_of_getElem? (i := 18) rfl)) Via.refl (F1) ?_
        refine R_iconst C ad_106 (v := 2) rfl ?_
        refine R_imul C ad_107 ?_
        refine R_static C [.int 4, .int 0] ad_108 (met_max l Z a0 h' 4 0) (by first | exact fun z => z | exact fun _ => trivial) (hw _ (List.mem_of_getElem? (i := 43) rfl)) (hw _ (List.mem_of_getElem? (i := 44) rfl)) (hw _ (List.mem_of_getElem? (i := 45) rfl)) (hw _ (List.mem_of_getElem? (i := 46) rfl)) (by decide) pd_2 rfl rfl rfl (Nat.le_of_ble_eq_true rfl) (Nat.le_of_ble_eq_true rfl) (Nat.le_of_ble_eq_true rfl) (Nat.le_of_ble_eq_true rfl) (fun _ q => nomatch q) ?_
        intro v vm2 h2 hQ hsz2 hSf2 hFr
        obtain ⟨rfl, rfl⟩ := hQ
        rw [if_neg (by decide)]
        refine R_static C [.ref srt, .int 4] ad_111 (met_copy l Z a0 hw h2 srt f A) (by first | exact fun z => z | exact fun _ => trivial) (hw _ (List.mem_of_getElem? (i := 47) rfl)) (hw _ (List.mem_of_getElem? (i := 48) rfl)) (hw _ (List.mem_of_getElem? (i := 35) rfl)) (hw _ (List.mem_of_getElem? (i := 49) rfl)) (by decide) pd_3 rfl rfl rfl (Nat.le_of_ble_eq_true rfl) (Nat.le_of_ble_eq_true rfl) (Nat.le_of_ble_eq_true rfl) (Nat.le_of_ble_eq_true rfl) (fun _ q => nomatch q) ?_
        intro v vm3 h3 hQ hsz3 hSf3 hFr
        obtain ⟨rfl, E3, g, A3⟩ := hQ
        refine R_putfield C ad_114 (hw _ (List.mem_of_getElem? (i := 11) rfl)) Via.refl (F3.ext E3) (E.ext E3) (Or.inl (hw _ (List.mem_of_getElem? (i := 12) rfl))) wi (ty := .array .int) (by decide) rfl rfl ha Safe.nil ?_
        intro h4 W4 _
        have ne : h2.size ≠ a := Nat.ne_of_gt E.lt
        exact tail _ _ _ _ h2.size g r _ (-r.toInt - 1).toNat (Nat.le_of_ble_eq_true rfl) (Nat.le_of_ble_eq_true rfl) ((E.ext E3).wr W4) ((F1.ext E3).other W4 (Or.inr nzo)) ((F2.ext E3).other W4 (Or.inr nwo)) ((F3.ext E3).same W4) (A3.other W4 ne) hE.1 (by omega) (by omega)
    · rw [z] at hkk
      exact absurd hkk (by rw [show (32 : Int32).toInt = 32 from rfl]; omega)
  · rw [Int32.lt_iff_toInt_lt, Int32.toInt_zero] at hc
    refine R_iconst C ad_55 (v := 0) rfl ?_
    refine R_retN C ad_56 rfl (Or.inl rfl) (Nat.le_of_ble_eq_true rfl) (Nat.le_of_ble_eq_true rfl) ⟨_, k, rfl, Or.inl rfl, fun z => by omega, srt, N, f, kk, E, F1, F2, F3, A, hkk, hkN, hN⟩
theorem met_law (l : Launch) (Z : State) (a0 : Array Value) (hw : ∀ d ∈ tables_1, d.before a0 Z = true) (no : Addr) (f : Nat → Value) (S : Sta Z Z.heap PTS "NONE" "[I" (.ref no)) (A : AR Z Z.heap no .int 0 f) (x0 x1 x2 x3 : Int32) :
    Met l Z True [] x code 12 (some .boolean) room_1 #[.int x0, .int x1, .int x2, .int x3] Z.heap [] (fun v h' => v = some (.int 1)) := by
  refine Met.mk (a0 := a0) EW.nil pn_law ?_
  intro p e s m below meth c C hE hS
  rw [eflw]
  have hn : (x0 &&& 3).toInt = x0.toInt % 4 := i32_mask x0 3 (k := 2) (by decide) (by decide)
  have hn1 : 0 ≤ (x0 &&& 3).toInt ∧ (x0 &&& 3).toInt ≤ 3 := by omega
  obtain ⟨nn, hnn⟩ : ∃ z, z = x0 &&& 3 := ⟨_, rfl⟩
  rw [← hnn] at hn1
  have one : (1 : Int32).toInt = 1 := rfl
  have two : (2 : Int32).toInt = 2 := rfl
  have three : (3 : Int32).toInt = 3 := rfl
  have tail : ∀ (vm : Vm) (h : Heap) (cells slots : Nat) (a : Addr) (y1 y2 y3 : Int32) (k : Nat), cells ≤ 4 → slots ≤ 17 → Inv Z h a k → (k = 0 ↔ nn.toInt = 0) →
      Run p l e room_1 s m #[.int x0, .int x1, .int x2, .int x3] below meth c Z True [] (Kf s Z True [] room_1 (fun v h' => v = some (.int 1))) vm h cells slots (fr m 81 [.val (.int x0), .val (.int x1), .val (.int x2), .val (.int x3), .val (.ref a), .val (.int 1), .val (.int nn), .val (.int y1), .val (.int y2), .val (.int y3), .unset, .unset] []) := by
    intro vm h cells slots a y1 y2 y3 k hc hs I hk
    obtain ⟨srt, N, f, kk, E, F1, F2, F3, A, hkk, hkN, hN⟩ := I
    refine Run.more hc hs ?_
    have hz : kk = 0 ↔ nn = 0 := by
      rw [← Int32.toInt_inj, ← Int32.toInt_inj, Int32.toInt_zero]
      omega
    refine R_aload C lw_81 rfl rfl ?_
    refine R_virtual C [] lw_83 (met_isEmpty l Z a0 hw h a kk F1) (by first | exact fun z => z | exact fun _ => trivial) (E) (hw _ (List.mem_of_getElem? (i := 13) rfl)) (hw _ (List.mem_of_getElem? (i := 14) rfl)) (hw _ (List.mem_of_getElem? (i := 16) rfl)) (hw _ (List.mem_of_getElem? (i := 15) rfl)) (hw _ (List.mem_of_getElem? (i := 2) rfl)) (hw _ (List.mem_of_getElem? (i := 17) rfl)) (by decide) pd_4 rfl rfl rfl (Nat.le_of_ble_eq_true rfl) (Nat.le_of_ble_eq_true rfl) (Nat.le_of_ble_eq_true rfl) (Nat.le_of_ble_eq_true rfl) (fun _ q => nomatch q) ?_
    intro v vm2 h2 hQ hsz2 hSf2 hFr
    obtain ⟨rfl, rfl⟩ := hQ
    simp only [Option.toList_some, List.cons_append, List.nil_append]
    refine R_istore C lw_86 rfl ?_
    simp only [fv0, fv1, fv2, fv3, List.set_cons_zero, List.set_cons_succ]
    refine R_aload C lw_88 rfl rfl ?_
    refine R_virtual C [] lw_90 (met_size l Z a0 hw h2 a kk F1) (by first | exact fun z => z | exact fun _ => trivial) (E) (hw _ (List.mem_of_getElem? (i := 21) rfl)) (hw _ (List.mem_of_getElem? (i := 22) rfl)) (hw _ (List.mem_of_getElem? (i := 24) rfl)) (hw _ (List.mem_of_getElem? (i := 23) rfl)) (hw _ (List.mem_of_getElem? (i := 2) rfl)) (hw _ (List.mem_of_getElem? (i := 25) rfl)) (by decide) pd_5 rfl rfl rfl (Nat.le_of_ble_eq_true rfl) (Nat.le_of_ble_eq_true rfl) (Nat.le_of_ble_eq_true rfl) (Nat.le_of_ble_eq_true rfl) (fun _ q => nomatch q) ?_
    intro v vm3 h3 hQ hsz3 hSf3 hFr
    obtain ⟨rfl, rfl⟩ := hQ
    simp only [Option.toList_some, List.cons_append, List.nil_append]
    refine R_istore C lw_93 rfl ?_
    simp only [fv0, fv1, fv2, fv3, List.set_cons_zero, List.set_cons_succ]
    refine R_iload C lw_95 rfl ?_
    refine R_if C lw_97 (fun (hc : (1 : Int32) = 0) => absurd hc (by decide)) (fun _ => ?_)
    have fin : ∀ (Ls : List Slot), Run p l e room_1 s m #[.int x0, .int x1, .int x2, .int x3] below meth c Z True [] (Kf s Z True [] room_1 (fun v h' => v = some (.int 1))) vm3 h3 (4 + 0 + 0) (17 + 0 + 0) (fr m 130 Ls []) := by
      intro Ls
      refine R_iconst C lw_130 (v := 1) rfl ?_
      refine R_goto C lw_131 ?_
      exact R_retN C lw_135 rfl (Or.inl rfl) (Nat.le_of_ble_eq_true rfl) (Nat.le_of_ble_eq_true rfl) rfl
    refine R_iload C lw_100 rfl ?_
    refine R_iload C lw_102 rfl ?_
    refine R_if C lw_104 (fun (hc : ¬ nn = 0) => ?_) (fun (hc : ¬ ¬ nn = 0) => ?_)
    · have hk0 : ¬ kk = 0 := fun z => hc (hz.mp z)
      rw [if_neg hk0]
      refine R_iconst C lw_111 (v := 0) rfl ?_
      refine R_icmp C lw_112 (fun hc => absurd rfl hc) (fun _ => ?_)
      refine R_iload C lw_115 rfl ?_
      refine R_iload C lw_117 rfl ?_
      refine R_if C lw_119 (fun _ => ?_) (fun hc => absurd hk0 hc)
      refine R_iconst C lw_126 (v := 0) rfl ?_
      refine R_icmp C lw_127 (fun hc => absurd rfl hc) (fun _ => ?_)
      exact fin _
    · have hk0 : kk = 0 := hz.mpr (Decidable.not_not.mp hc)
      rw [if_pos hk0]
      refine R_iconst C lw_107 (v := 1) rfl ?_
      refine R_goto C lw_108 ?_
      refine R_icmp C lw_112 (fun hc => absurd rfl hc) (fun _ => ?_)
      refine R_iload C lw_115 rfl ?_
      refine R_iload C lw_117 rfl ?_
      refine R_if C lw_119 (fun hc => absurd hk0 hc) (fun _ => ?_)
      refine R_iconst C lw_122 (v := 1) rfl ?_
      refine R_goto C lw_123 ?_
      refine R_icmp C lw_127 (fun hc => absurd rfl hc) (fun _ => ?_)
      exact fin _
  refine R_new C lw_0 (hw _ (List.mem_of_getElem? (i := 0) rfl)) (hw _ (List.mem_of_getElem? (i := 1) rfl)) (hw _ (List.mem_of_getElem? (i := 2) rfl)) (Nat.le_of_ble_eq_true rfl) (Nat.le_of_ble_eq_true rfl) ?_
  intro h1 E1 D1 _ _
  obtain ⟨X1, D1⟩ := D1
  have ha : Z.heap.size ≤ Z.heap.size := Nat.le_refl _
  refine R_dup C lw_3 rfl ?_
  refine R_special C [] lw_4 (met_init l Z a0 hw h1 Z.heap.size no X1 (D1 (Or.inl (hw _ (List.mem_of_getElem? (i := 12) rfl))) (ty := .array .int) (by decide)) (D1 (Or.inl (hw _ (List.mem_of_getElem? (i := 19) rfl))) (ty := .int) (by decide)) (D1 (Or.inl (hw _ (List.mem_of_getElem? (i := 32) rfl))) (ty := .array .long) (by decide)) (S.ext E1) ha) (by first | exact fun z => z | exact fun _ => trivial) rfl (hw _ (List.mem_of_getElem? (i := 3) rfl)) (hw _ (List.mem_of_getElem? (i := 4) rfl)) (hw _ (List.mem_of_getElem? (i := 2) rfl)) (hw _ (List.mem_of_getElem? (i := 5) rfl)) (by decide) pd_6 rfl rfl rfl (Nat.le_of_ble_eq_true rfl) (Nat.le_of_ble_eq_true rfl) (Nat.le_of_ble_eq_true rfl) (Nat.le_of_ble_eq_true rfl) (fun _ q => nomatch q) ?_
  intro v vm2 h2 hQ hsz2 hSf2 hFr
  obtain ⟨rfl, X2, F1, F2, F3, K2⟩ := hQ
  simp only [Option.toList_none, List.nil_append]
  have A2 : AR Z h2 no .int 0 f := (A.ext E1).keep K2 fun z => by
    have z1 := List.mem_singleton.mp z
    exact absurd A.lt (by rw [z1]; exact Nat.lt_irrefl _)
  have I0 : Inv Z h2 Z.heap.size 0 := ⟨no, 0, f, 0, X2, F2, F3, F1, A2, rfl, Nat.le_refl _, Or.inl rfl⟩
  refine R_astore C lw_7 rfl rfl rfl ?_
  simp only [fv0, fv1, fv2, fv3, List.set_cons_zero, List.set_cons_succ]
  refine R_aload C lw_9 rfl rfl ?_
  refine R_virtual C [] lw_11 (met_isEmpty l Z a0 hw h2 Z.heap.size 0 F2) (by first | exact fun z => z | exact fun _ => trivial) (X2) (hw _ (List.mem_of_getElem? (i := 13) rfl)) (hw _ (List.mem_of_getElem? (i := 14) rfl)) (hw _ (List.mem_of_getElem? (i := 16) rfl)) (hw _ (List.mem_of_getElem? (i := 15) rfl)) (hw _ (List.mem_of_getElem? (i := 2) rfl)) (hw _ (List.mem_of_getElem? (i := 17) rfl)) (by decide) pd_4 rfl rfl rfl (Nat.le_of_ble_eq_true rfl) (Nat.le_of_ble_eq_true rfl) (Nat.le_of_ble_eq_true rfl) (Nat.le_of_ble_eq_true rfl) (fun _ q => nomatch q) ?_
  intro v vm3 h3 hQ hsz3 hSf3 hFr
  obtain ⟨rfl, rfl⟩ := hQ
  rw [if_pos rfl]
  simp only [Option.toList_some, List.cons_append, List.nil_append]
  refine R_istore C lw_14 rfl ?_
  simp only [fv0, fv1, fv2, fv3, List.set_cons_zero, List.set_cons_succ]
  refine R_iload_n C lw_16 rfl ?_
  refine R_iconst C lw_17 (v := 3) rfl ?_
  refine R_iand C lw_18 ?_
  rw [← hnn]
  refine R_istore C lw_19 rfl ?_
  simp only [fv0, fv1, fv2, fv3, List.set_cons_zero, List.set_cons_succ]
  refine R_iload_n C lw_21 rfl ?_
  refine R_ldcInt C lw_22 (hw _ (List.mem_of_getElem? (i := 20) rfl)) ?_
  refine R_iand C lw_24 ?_
  refine R_istore C lw_25 rfl ?_
  simp only [fv0, fv1, fv2, fv3, List.set_cons_zero, List.set_cons_succ]
  refine R_iload_n C lw_27 rfl ?_
  refine R_ldcInt C lw_28 (hw _ (List.mem_of_getElem? (i := 20) rfl)) ?_
  refine R_iand C lw_30 ?_
  refine R_istore C lw_31 rfl ?_
  simp only [fv0, fv1, fv2, fv3, List.set_cons_zero, List.set_cons_succ]
  refine R_iload_n C lw_33 rfl ?_
  refine R_ldcInt C lw_34 (hw _ (List.mem_of_getElem? (i := 20) rfl)) ?_
  refine R_iand C lw_36 ?_
  refine R_istore C lw_37 rfl ?_
  simp only [fv0, fv1, fv2, fv3, List.set_cons_zero, List.set_cons_succ]
  refine R_iload C lw_39 rfl ?_
  refine R_iconst C lw_41 (v := 1) rfl ?_
  refine R_icmp C lw_42 (fun (hc : nn < 1) => ?_) (fun (hc : ¬ nn < 1) => ?_)
  · rw [Int32.lt_iff_toInt_lt, one] at hc
    refine R_iload C lw_53 rfl ?_
    refine R_iconst C lw_55 (v := 2) rfl ?_
    refine R_icmp C lw_56 (fun _ => ?_) (fun (hc2 : ¬ nn < 2) => absurd (Int32.lt_iff_toInt_lt.mpr (by omega)) hc2)
    refine R_iload C lw_67 rfl ?_
    refine R_iconst C lw_69 (v := 3) rfl ?_
    refine R_icmp C lw_70 (fun _ => ?_) (fun (hc2 : ¬ nn < 3) => absurd (Int32.lt_iff_toInt_lt.mpr (by omega)) hc2)
    exact tail _ _ _ _ _ _ _ _ 0 (Nat.le_of_ble_eq_true rfl) (Nat.le_of_ble_eq_true rfl) I0 ⟨fun _ => by omega, fun _ => rfl⟩
  · rw [Int32.lt_iff_toInt_lt, one] at hc
    refine R_aload C lw_45 rfl rfl ?_
    refine R_iload C lw_47 rfl ?_
    refine R_virtual C [.int (x1 &&& 2147483647)] lw_49 (met_add l Z a0 hw h3 Z.heap.size (x1 &&& 2147483647) 0 I0 (by decide) ha) (by first | exact fun z => z | exact fun _ => trivial) (X2) (hw _ (List.mem_of_getElem? (i := 26) rfl)) (hw _ (List.mem_of_getElem? (i := 27) rfl)) (hw _ (List.mem_of_getElem? (i := 29) rfl)) (hw _ (List.mem_of_getElem? (i := 28) rfl)) (hw _ (List.mem_of_getElem? (i := 2) rfl)) (hw _ (List.mem_of_getElem? (i := 30) rfl)) (by decide) pd_7 rfl rfl rfl (Nat.le_of_ble_eq_true rfl) (Nat.le_of_ble_eq_true rfl) (Nat.le_of_ble_eq_true rfl) (Nat.le_of_ble_eq_true rfl) (fun _ q => nomatch q) ?_
    intro v vm4 h4 hQ hsz4 hSf4 hFr
    obtain ⟨b4, k4, rfl, hk4, hk4', I4⟩ := hQ
    simp only [Option.toList_some, List.cons_append, List.nil_append]
    have hk41 : k4 = 1 := hk4' rfl
    subst hk41
    refine R_pop C lw_52 rfl ?_
    refine R_iload C lw_53 rfl ?_
    refine R_iconst C lw_55 (v := 2) rfl ?_
    refine R_icmp C lw_56 (fun (hc2 : nn < 2) => ?_) (fun (hc2 : ¬ nn < 2) => ?_)
    · rw [Int32.lt_iff_toInt_lt, two] at hc2
      refine R_iload C lw_67 rfl ?_
      refine R_iconst C lw_69 (v := 3) rfl ?_
      refine R_icmp C lw_70 (fun _ => ?_) (fun (hc3 : ¬ nn < 3) => absurd (Int32.lt_iff_toInt_lt.mpr (by omega)) hc3)
      exact tail _ _ _ _ _ _ _ _ 1 (Nat.le_of_ble_eq_true rfl) (Nat.le_of_ble_eq_true rfl) I4 ⟨fun z => by omega, fun z => by omega⟩
    · rw [Int32.lt_iff_toInt_lt, two] at hc2
      have X4 : Exa Z h4 Z.heap.size PTS := by obtain ⟨_, _, _, _, z, -⟩ := I4; exact z
      refine R_aload C lw_59 rfl rfl ?_
      refine R_iload C lw_61 rfl ?_
      refine R_virtual C [.int (x2 &&& 2147483647)] lw_63 (met_add l Z a0 hw h4 Z.heap.size (x2 &&& 2147483647) 1 I4 (by decide) ha) (by first | exact fun z => z | exact fun _ => trivial) (X4) (hw _ (List.mem_of_getElem? (i := 26) rfl)) (hw _ (List.mem_of_getElem? (i := 27) rfl)) (hw _ (List.mem_of_getElem? (i := 29) rfl)) (hw _ (List.mem_of_getElem? (i := 28) rfl)) (hw _ (List.mem_of_getElem? (i := 2) rfl)) (hw _ (List.mem_of_getElem? (i := 30) rfl)) (by decide) pd_7 rfl rfl rfl (Nat.le_of_ble_eq_true rfl) (Nat.le_of_ble_eq_true rfl) (Nat.le_of_ble_eq_true rfl) (Nat.le_of_ble_eq_true rfl) (fun _ q => nomatch q) ?_
      intro v vm5 h5 hQ hsz5 hSf5 hFr
      obtain ⟨b5, k5, rfl, hk5, -, I5⟩ := hQ
      simp only [Option.toList_some, List.cons_append, List.nil_append]
      refine R_pop C lw_66 rfl ?_
      refine R_iload C lw_67 rfl ?_
      refine R_iconst C lw_69 (v := 3) rfl ?_
      refine R_icmp C lw_70 (fun (hc3 : nn < 3) => ?_) (fun (hc3 : ¬ nn < 3) => ?_)
      · exact tail _ _ _ _ _ _ _ _ k5 (Nat.le_of_ble_eq_true rfl) (Nat.le_of_ble_eq_true rfl) I5 ⟨fun z => by omega, fun z => by omega⟩
      · have X5 : Exa Z h5 Z.heap.size PTS := by obtain ⟨_, _, _, _, z, -⟩ := I5; exact z
        refine R_aload C lw_73 rfl rfl ?_
        refine R_iload C lw_75 rfl ?_
        refine R_virtual C [.int (x3 &&& 2147483647)] lw_77 (met_add l Z a0 hw h5 Z.heap.size (x3 &&& 2147483647) k5 I5 (by omega) ha) (by first | exact fun z => z | exact fun _ => trivial) (X5) (hw _ (List.mem_of_getElem? (i := 26) rfl)) (hw _ (List.mem_of_getElem? (i := 27) rfl)) (hw _ (List.mem_of_getElem? (i := 29) rfl)) (hw _ (List.mem_of_getElem? (i := 28) rfl)) (hw _ (List.mem_of_getElem? (i := 2) rfl)) (hw _ (List.mem_of_getElem? (i := 30) rfl)) (by decide) pd_7 rfl rfl rfl (Nat.le_of_ble_eq_true rfl) (Nat.le_of_ble_eq_true rfl) (Nat.le_of_ble_eq_true rfl) (Nat.le_of_ble_eq_true rfl) (fun _ q => nomatch q) ?_
        intro v vm6 h6 hQ hsz6 hSf6 hFr
        obtain ⟨b6, k6, rfl, hk6, -, I6⟩ := hQ
        simp only [Option.toList_some, List.cons_append, List.nil_append]
        refine R_pop C lw_80 rfl ?_
        exact tail _ _ _ _ _ _ _ _ k6 (Nat.le_of_ble_eq_true rfl) (Nat.le_of_ble_eq_true rfl) I6 ⟨fun z => by omega, fun z => by omega⟩
set_option maxRecDepth 65536 in
theorem comes_1 {Post : Tables → Env → Array Value → State → Outcome → State → Prop} (hpost : ∀ tb e args s v u, (limb_1_1.after args s (.returned v) u = true ∧ limb_1_2.after args s (.returned v) u = true ∧ True) → FrameEnd s (.returned v) u (Jvm.fieldLocs frame_1_writes args s ++ Jvm.arrayLocs frame_1_arrays args s ++ Jvm.staticLocs frame_1_statics s) 16 128 → Post tb e args s (.returned v) u) :
    ArmFor flags0 classFile x code maxLocals ret World_1 tables_1 room_1 Calls_1 rest_1 Pre_1 Post := by
  intro l hfl _ _ p e ha hc hk s m args below hf hA hF happ hP
  obtain ⟨hcalls, hrest, hpre⟩ := hP
  obtain ⟨-, -, -, hnamed, -, -, -, hat⟩ := (Spec.applies_iff hf).mp happ
  obtain ⟨hg, hn⟩ := and_e (Cond.before_iff.mp (show (Jvm.Cond.and given_1 narrow_1).before args s = true from hpre))
  obtain ⟨h1, h2⟩ := and_e hg
  obtain ⟨g0, h2⟩ := and_e h2
  obtain ⟨g1, h2⟩ := and_e h2
  obtain ⟨g2, g3⟩ := and_e h2
  obtain ⟨w0, w1, w2, w3, rfl⟩ : ∃ w0 w1 w2 w3 : Value, args = #[w0, w1, w2, w3] := by
    have hs : args.size = 4 := by simpa [Cond.value, given_1] using h1
    obtain ⟨L⟩ := args
    match L, hs with
    | [w0, w1, w2, w3], _ => exact ⟨w0, w1, w2, w3, rfl⟩
  have hw := fun d (hd : d ∈ tables_1) => atoms_spec (ws := Jvm.Cond.code x code maxLocals ret :: tables_1) hat d (List.mem_cons_of_mem _ hd)
  have hfit : Fit s := fun {y c} hc i hi => by
    obtain ⟨ha, rfl⟩ := Array.getElem?_eq_some_iff.mp hc
    have q := List.all_eq_true.mp ((Array.all_eq_true_iff_forall_mem.mp hF) _ (Array.getElem_mem ha)) i (List.mem_range.mpr hi)
    simpa [Array.getElem?_eq_getElem hi] using q
  obtain ⟨i0, e0⟩ := is_v g0
  obtain rfl : w0 = (.int i0) := Option.some.inj e0
  obtain ⟨i1, e1⟩ := is_v g1
  obtain rfl : w1 = (.int i1) := Option.some.inj e1
  obtain ⟨i2, e2⟩ := is_v g2
  obtain rfl : w2 = (.int i2) := Option.some.inj e2
  obtain ⟨i3, e3⟩ := is_v g3
  obtain rfl : w3 = (.int i3) := Option.some.inj e3
  obtain ⟨n1, n2⟩ := and_e hn
  obtain ⟨n2, n3⟩ := and_e n2
  obtain ⟨no, ev⟩ := arr_v n1
  have S : Sta s s.heap PTS "NONE" "[I" (.ref no) := Sta.start ev (Or.inr ⟨(hw _ (List.mem_of_getElem? (i := 2) rfl)), (hw _ (List.mem_of_getElem? (i := 10) rfl))⟩)
  obtain ⟨cl, -, A⟩ := AR.start hfit ev n1 n3 (N := 0) rfl
  obtain ⟨n, o, h1, h2, h3, v, L, rfl, hv, N, -, -, hR, hWm⟩ := met_law l s _ hw no _ S A i0 i1 i2 i3 tables_1 p e ha hc hk s m _ below hf ((Spec.applies_iff_loose hf).mp happ).1 ⟨rfl, State.Warmed39.refl s, rfl, (fun p hp => nomatch hp), Ext.rfl', fun _ q => nomatch q⟩ trivial
  subst hv
  refine ⟨n, _, h1, h2, h3, hpost _ _ _ _ _ _ ⟨Cond.after_iff.mpr rfl, Cond.after_iff.mpr (eq_i res_at (Term.int_eval (1)) rfl), trivial⟩ ⟨⟨_, rfl⟩, hWm trivial, (hR.2.2.2.sift fun y hy => Or.inr (N y hy)).mono (by decide) (by decide)⟩⟩
theorem main_1_1 : Claimed_1_1 := comes_1 fun _ _ _ _ _ _ h hF => ⟨h.1, hF⟩
theorem main_1_2 : Claimed_1_2 := comes_1 fun _ _ _ _ _ _ h hF => ⟨h.2.1, hF⟩
end Jvm.Pilot.@@N@@
namespace Jvm.Pilot.@@N@@
open Jvm Jvm.ClassFile Sem Op Lib Jvm.Free Jvm.Stand Jvm.Pilot.@@N@@.Jvm.D
/-! MADE BY PROGRAM (witnessworld.py) out of the Statement's table words and the real class files: 12 classes; the members and pool entries that the words name. The judged class is class 1, her method 1. -/
namespace start1
open Jvm.ClassFile
def u (s : String) : CpInfo := .utf8 (stringToUtf16 s)
/-- a pool by its gaps: so many unusable entries, then the entry; so many at the end -/
def gap : Nat → List CpInfo → List CpInfo
  | 0, r => r
  | n + 1, r => .unusable :: gap n r
def poolList (es : List (Nat × CpInfo)) (last : Nat) : List CpInfo := es.foldr (fun e r => gap e.1 (e.2 :: r)) (gap last [])
def pool (es : List (Nat × CpInfo)) (last : Nat) : Array CpInfo := ⟨poolList es last⟩
def fileOf (pool : Array CpInfo) (this : Nat) (attrs : Array Attribute := #[]) (ms : Array MethodInfo := #[]) (fl : Nat := 33) (sup : Nat := 0) (ifs : Array Nat := #[]) (fds : Array FieldInfo := #[]) : ClassFile where
  minorVersion := 0
  majorVersion := 65
  constantPool := pool
  accessFlags := fl
  thisClass := this
  superClass := sup
  interfaces := ifs
  fields := fds
  methods := ms
  attributes := attrs
def plain (name : String) (sup : Option ClassId) : Class where
  name := name
  kind := .ordinary
  loader := none
  accessFlags := 33
  super := sup
  interfaces := #[]
  cf := none
  fields := #[]
  methods := #[]
  instanceTypes := #[]
  staticTypes := #[]
  resolved := #[]
  callSites := []
  init := .initialized
  statics := none
  mirror := none

def pool0 : Array CpInfo := pool [(5, u "<init>"), (0, u "()V"), (1, .class_ 10), (1, u "java/lang/Object")] 113

def k0c0 : Code := { maxStack := 0, maxLocals := 1, code := object_method_1_code, exceptionTable := #[], attributes := #[] }
def k0m0 : Method := { name := "<init>", desc := "()V", sig := { parameters := [], returnType := none }, accessFlags := 1, code := some k0c0 }
/-- java/lang/Object -/
def k0 : Class := { plain "java/lang/Object" none with
  accessFlags := 33
  interfaces := #[]
  cf := some (fileOf pool0 8 #[] #[{ accessFlags := 1, nameIndex := 5, descriptorIndex := 6, attributes := #[] }] 33 0 #[] #[])
  fields := #[]
  methods := #[k0m0]
  instanceTypes := #[]
  staticTypes := #[]
  resolved := Array.replicate 124 none
  statics := none }

def pool1 : Array CpInfo := pool [(2, .class_ 4), (0, .nameAndType 5 6), (0, u "java/lang/Object"), (0, u "<init>"), (0, u "()V"), (0, .class_ 8), (0, u "com/example/plumbline/plumbline/pta/PointsToSet"), (0, .methodref 7 3), (0, .methodref 7 11), (0, .nameAndType 12 13), (0, u "isEmpty"), (0, u "()Z"), (0, .integer 2147483647), (0, .methodref 7 16), (0, .nameAndType 17 18), (0, u "add"), (0, u "(I)Z"), (0, .methodref 7 20), (0, .nameAndType 21 22), (0, u "size"), (0, u "()I"), (0, .class_ 24), (0, u "com/example/plumbline/plumbline/pta/PointsToSetIsEmptyPinLaw"), (2, u "law"), (0, u "(IIII)Z")] 3

def k1m0 : Method := { name := "<init>", desc := "()V", sig := { parameters := [], returnType := none }, accessFlags := 1, code := none }
def k1c1 : Code := { maxStack := 2, maxLocals := 12, code := code, exceptionTable := #[], attributes := #[] }
def k1m1 : Method := { name := "law", desc := "(IIII)Z", sig := { parameters := [.int, .int, .int, .int], returnType := some .boolean }, accessFlags := 9, code := some k1c1 }
/-- com/example/plumbline/plumbline/pta/PointsToSetIsEmptyPinLaw -/
def k1 : Class := { plain "com/example/plumbline/plumbline/pta/PointsToSetIsEmptyPinLaw" (some 0) with
  accessFlags := 49
  interfaces := #[]
  cf := some (fileOf pool1 23 #[] #[{ accessFlags := 1, nameIndex := 5, descriptorIndex := 6, attributes := #[] }, { accessFlags := 9, nameIndex := 27, descriptorIndex := 28, attributes := #[] }] 49 2 #[] #[])
  fields := #[]
  methods := #[k1m0, k1m1]
  instanceTypes := #[]
  staticTypes := #[]
  resolved := Array.replicate 32 none
  statics := none }

def pool2 : Array CpInfo := pool [(1, .methodref 2 3), (0, .class_ 4), (0, .nameAndType 5 6), (0, u "java/lang/Object"), (0, u "<init>"), (0, u "()V"), (0, .fieldref 8 9), (0, .class_ 10), (0, .nameAndType 11 12), (0, u "com/example/plumbline/plumbline/pta/PointsToSet"), (0, u "NONE"), (0, u "[I"), (0, .fieldref 8 14), (0, .nameAndType 15 12), (0, u "sorted"), (0, .fieldref 8 17), (0, .nameAndType 18 19), (0, u "size"), (0, u "I"), (0, .fieldref 8 21), (0, .nameAndType 22 23), (0, u "words"), (0, u "[J"), (4, .methodref 29 30), (0, .class_ 31), (0, .nameAndType 32 33), (0, u "java/util/Arrays"), (0, u "binarySearch"), (0, u "([IIII)I"), (7, .methodref 42 43), (0, .class_ 44), (0, .nameAndType 45 46), (0, u "java/lang/Math"), (0, u "max"), (0, u "(II)I"), (0, .methodref 29 48), (0, .nameAndType 49 50), (0, u "copyOf"), (0, u "([II)[I"), (0, .methodref 52 53), (0, .class_ 54), (0, .nameAndType 55 56), (0, u "java/lang/System"), (0, u "arraycopy"), (0, u "(Ljava/lang/Object;ILjava/lang/Object;II)V"), (7, u "(I)Z"), (2, u "add"), (2, u "firstWord"), (2, u "wordLimit"), (38, u "ARRAY_LIMIT"), (4, u "()I"), (0, u "isEmpty"), (0, u "()Z")] 11

def k2c0 : Code := { maxStack := 2, maxLocals := 1, code := prog_5_method_1_code, exceptionTable := #[], attributes := #[] }
def k2m0 : Method := { name := "<init>", desc := "()V", sig := { parameters := [], returnType := none }, accessFlags := 0, code := some k2c0 }
def k2c1 : Code := { maxStack := 1, maxLocals := 1, code := prog_5_method_2_code, exceptionTable := #[], attributes := #[] }
def k2m1 : Method := { name := "size", desc := "()I", sig := { parameters := [], returnType := some .int }, accessFlags := 0, code := some k2c1 }
def k2c2 : Code := { maxStack := 1, maxLocals := 1, code := prog_5_method_3_code, exceptionTable := #[], attributes := #[] }
def k2m2 : Method := { name := "isEmpty", desc := "()Z", sig := { parameters := [], returnType := some .boolean }, accessFlags := 0, code := some k2c2 }
def k2c3 : Code := { maxStack := 6, maxLocals := 4, code := prog_5_method_5_code, exceptionTable := #[], attributes := #[] }
def k2m3 : Method := { name := "add", desc := "(I)Z", sig := { parameters := [.int], returnType := some .boolean }, accessFlags := 0, code := some k2c3 }
/-- com/example/plumbline/plumbline/pta/PointsToSet -/
def k2 : Class := { plain "com/example/plumbline/plumbline/pta/PointsToSet" (some 0) with
  accessFlags := 48
  interfaces := #[]
  cf := some (fileOf pool2 8 #[] #[{ accessFlags := 0, nameIndex := 5, descriptorIndex := 6, attributes := #[] }, { accessFlags := 0, nameIndex := 18, descriptorIndex := 117, attributes := #[] }, { accessFlags := 0, nameIndex := 118, descriptorIndex := 119, attributes := #[] }, { accessFlags := 0, nameIndex := 67, descriptorIndex := 64, attributes := #[] }] 48 2 #[] #[{ accessFlags := 26, nameIndex := 112, descriptorIndex := 19, attributes := #[] }, { accessFlags := 26, nameIndex := 11, descriptorIndex := 12, attributes := #[] }, { accessFlags := 2, nameIndex := 15, descriptorIndex := 12, attributes := #[] }, { accessFlags := 2, nameIndex := 22, descriptorIndex := 23, attributes := #[] }, { accessFlags := 2, nameIndex := 18, descriptorIndex := 19, attributes := #[] }, { accessFlags := 2, nameIndex := 70, descriptorIndex := 19, attributes := #[] }, { accessFlags := 2, nameIndex := 73, descriptorIndex := 19, attributes := #[] }])
  fields := #[{ name := "ARRAY_LIMIT", type := .int, accessFlags := 26, slot := 0, constantValue := 0 }, { name := "NONE", type := (.array .int), accessFlags := 26, slot := 1, constantValue := 0 }, { name := "sorted", type := (.array .int), accessFlags := 2, slot := 0, constantValue := 0 }, { name := "words", type := (.array .long), accessFlags := 2, slot := 1, constantValue := 0 }, { name := "size", type := .int, accessFlags := 2, slot := 2, constantValue := 0 }, { name := "firstWord", type := .int, accessFlags := 2, slot := 3, constantValue := 0 }, { name := "wordLimit", type := .int, accessFlags := 2, slot := 4, constantValue := 0 }]
  methods := #[k2m0, k2m1, k2m2, k2m3]
  instanceTypes := #[(.array .int), (.array .long), .int, .int, .int]
  staticTypes := #[.int, (.array .int)]
  resolved := Array.replicate 131 none
  statics := some 0 }

def pool3 : Array CpInfo := pool [(2, .class_ 4), (1, u "java/lang/Object"), (0, u "<init>"), (0, u "()V"), (6, .methodref 14 15), (0, .class_ 16), (0, .nameAndType 17 18), (0, u "java/util/Arrays"), (0, u "rangeCheck"), (0, u "(III)V"), (55, .class_ 76), (1, u "java/util/Arrays$NaturalOrder"), (36, .class_ 115), (1, u "java/util/Arrays$LegacyMergeSort"), (1, u "Z"), (32, .methodref 151 152), (0, .class_ 153), (0, .nameAndType 154 155), (0, u "java/lang/System"), (0, u "arraycopy"), (0, u "(Ljava/lang/Object;ILjava/lang/Object;II)V"), (51, u "binarySearch0"), (1, .methodref 14 210), (0, .nameAndType 207 211), (0, u "([IIII)I"), (90, u "copyOf"), (1, .methodref 305 306), (0, .class_ 307), (0, .nameAndType 308 309), (0, u "java/lang/Math"), (0, u "min"), (0, u "(II)I"), (65, .class_ 376), (0, u "java/util/Arrays$ArrayList"), (68, u "$assertionsDisabled"), (269, u "MIN_ARRAY_SORT_GRAN"), (0, u "I"), (2, u "INSERTIONSORT_THRESHOLD"), (74, u "binarySearch"), (76, u "([II)[I"), (103, .class_ 976), (0, u "java/util/Arrays$ArrayItr")] 52

def k3m0 : Method := { name := "<init>", desc := "()V", sig := { parameters := [], returnType := none }, accessFlags := 2, code := none }
def k3c1 : Code := { maxStack := 4, maxLocals := 3, code := jdk_65_method_30_code, exceptionTable := #[], attributes := #[] }
def k3m1 : Method := { name := "rangeCheck", desc := "(III)V", sig := { parameters := [.int, .int, .int], returnType := none }, accessFlags := 8, code := some k3c1 }
def k3c2 : Code := { maxStack := 4, maxLocals := 4, code := jdk_65_method_58_code, exceptionTable := #[], attributes := #[] }
def k3m2 : Method := { name := "binarySearch", desc := "([IIII)I", sig := { parameters := [(.array .int), .int, .int, .int], returnType := some .int }, accessFlags := 9, code := some k3c2 }
def k3c3 : Code := { maxStack := 2, maxLocals := 8, code := jdk_65_method_59_code, exceptionTable := #[], attributes := #[] }
def k3m3 : Method := { name := "binarySearch0", desc := "([IIII)I", sig := { parameters := [(.array .int), .int, .int, .int], returnType := some .int }, accessFlags := 10, code := some k3c3 }
def k3c4 : Code := { maxStack := 6, maxLocals := 3, code := jdk_65_method_123_code, exceptionTable := #[], attributes := #[] }
def k3m4 : Method := { name := "copyOf", desc := "([II)[I", sig := { parameters := [(.array .int), .int], returnType := some (.array .int) }, accessFlags := 9, code := some k3c4 }
/-- java/util/Arrays -/
def k3 : Class := { plain "java/util/Arrays" (some 0) with
  accessFlags := 49
  interfaces := #[]
  cf := some (fileOf pool3 14 #[.nestMembers #[975, 375, 113, 74]] #[{ accessFlags := 2, nameIndex := 5, descriptorIndex := 6, attributes := #[] }, { accessFlags := 8, nameIndex := 17, descriptorIndex := 18, attributes := #[] }, { accessFlags := 9, nameIndex := 794, descriptorIndex := 211, attributes := #[] }, { accessFlags := 10, nameIndex := 207, descriptorIndex := 211, attributes := #[] }, { accessFlags := 9, nameIndex := 302, descriptorIndex := 871, attributes := #[] }] 49 2 #[] #[{ accessFlags := 26, nameIndex := 715, descriptorIndex := 716, attributes := #[] }, { accessFlags := 26, nameIndex := 719, descriptorIndex := 716, attributes := #[] }, { accessFlags := 4120, nameIndex := 445, descriptorIndex := 117, attributes := #[] }])
  fields := #[{ name := "MIN_ARRAY_SORT_GRAN", type := .int, accessFlags := 26, slot := 0, constantValue := 0 }, { name := "INSERTIONSORT_THRESHOLD", type := .int, accessFlags := 26, slot := 1, constantValue := 0 }, { name := "$assertionsDisabled", type := .boolean, accessFlags := 4120, slot := 2, constantValue := 0 }]
  methods := #[k3m0, k3m1, k3m2, k3m3, k3m4]
  instanceTypes := #[]
  staticTypes := #[.int, .int, .boolean]
  resolved := Array.replicate 1029 none
  statics := none }

def pool4 : Array CpInfo := pool [(1, .class_ 2), (0, u "java/lang/Math"), (1, .class_ 6), (1, u "java/lang/Object"), (0, u "<init>"), (0, u "()V"), (89, .class_ 100), (1, u "java/lang/Math$RandomNumberGeneratorHolder"), (71, u "negativeZeroFloatBits"), (0, u "J"), (2, u "negativeZeroDoubleBits"), (21, u "max"), (2, u "min"), (43, u "$assertionsDisabled"), (0, u "Z"), (88, u "(II)I"), (2, u "twoToTheDoubleScaleDown"), (0, u "D"), (4, u "twoToTheDoubleScaleUp"), (9, u "E"), (3, u "PI"), (2, u "TAU"), (2, u "DEGREES_TO_RADIANS"), (0, u "RADIANS_TO_DEGREES")] 94

def k4m0 : Method := { name := "<init>", desc := "()V", sig := { parameters := [], returnType := none }, accessFlags := 2, code := none }
def k4c1 : Code := { maxStack := 2, maxLocals := 2, code := jdk_29_method_65_code, exceptionTable := #[], attributes := #[] }
def k4m1 : Method := { name := "max", desc := "(II)I", sig := { parameters := [.int, .int], returnType := some .int }, accessFlags := 9, code := some k4c1 }
def k4c2 : Code := { maxStack := 2, maxLocals := 2, code := jdk_29_method_69_code, exceptionTable := #[], attributes := #[] }
def k4m2 : Method := { name := "min", desc := "(II)I", sig := { parameters := [.int, .int], returnType := some .int }, accessFlags := 9, code := some k4c2 }
/-- java/lang/Math -/
def k4 : Class := { plain "java/lang/Math" (some 0) with
  accessFlags := 49
  interfaces := #[]
  cf := some (fileOf pool4 1 #[.nestMembers #[98]] #[{ accessFlags := 2, nameIndex := 7, descriptorIndex := 8, attributes := #[] }, { accessFlags := 9, nameIndex := 198, descriptorIndex := 335, attributes := #[] }, { accessFlags := 9, nameIndex := 201, descriptorIndex := 335, attributes := #[] }] 49 4 #[] #[{ accessFlags := 25, nameIndex := 354, descriptorIndex := 339, attributes := #[] }, { accessFlags := 25, nameIndex := 358, descriptorIndex := 339, attributes := #[] }, { accessFlags := 25, nameIndex := 361, descriptorIndex := 339, attributes := #[] }, { accessFlags := 26, nameIndex := 364, descriptorIndex := 339, attributes := #[] }, { accessFlags := 26, nameIndex := 365, descriptorIndex := 339, attributes := #[] }, { accessFlags := 26, nameIndex := 172, descriptorIndex := 173, attributes := #[] }, { accessFlags := 26, nameIndex := 176, descriptorIndex := 173, attributes := #[] }, { accessFlags := 8, nameIndex := 344, descriptorIndex := 339, attributes := #[] }, { accessFlags := 8, nameIndex := 338, descriptorIndex := 339, attributes := #[] }, { accessFlags := 4120, nameIndex := 245, descriptorIndex := 246, attributes := #[] }])
  fields := #[{ name := "E", type := .double, accessFlags := 25, slot := 0, constantValue := 0 }, { name := "PI", type := .double, accessFlags := 25, slot := 1, constantValue := 0 }, { name := "TAU", type := .double, accessFlags := 25, slot := 2, constantValue := 0 }, { name := "DEGREES_TO_RADIANS", type := .double, accessFlags := 26, slot := 3, constantValue := 0 }, { name := "RADIANS_TO_DEGREES", type := .double, accessFlags := 26, slot := 4, constantValue := 0 }, { name := "negativeZeroFloatBits", type := .long, accessFlags := 26, slot := 5, constantValue := 0 }, { name := "negativeZeroDoubleBits", type := .long, accessFlags := 26, slot := 6, constantValue := 0 }, { name := "twoToTheDoubleScaleUp", type := .double, accessFlags := 8, slot := 7, constantValue := 0 }, { name := "twoToTheDoubleScaleDown", type := .double, accessFlags := 8, slot := 8, constantValue := 0 }, { name := "$assertionsDisabled", type := .boolean, accessFlags := 4120, slot := 9, constantValue := 0 }]
  methods := #[k4m0, k4m1, k4m2]
  instanceTypes := #[]
  staticTypes := #[.double, .double, .double, .double, .double, .long, .long, .double, .double, .boolean]
  resolved := Array.replicate 460 none
  statics := none }

def pool5 : Array CpInfo := pool [(2, .class_ 4), (1, u "java/lang/Object"), (0, u "<init>"), (0, u "()V"), (1, .class_ 10), (1, u "java/lang/System"), (0, u "allowSecurityManager"), (0, u "I"), (16, u "cons"), (0, u "Ljava/io/Console;"), (77, .class_ 110), (1, u "java/lang/System$CallersHolder"), (43, u "initialErrStream"), (0, u "Ljava/io/PrintStream;"), (19, u "security"), (0, u "Ljava/lang/SecurityManager;"), (31, .class_ 209), (0, u "java/lang/System$1"), (7, u "props"), (0, u "Ljava/util/Properties;"), (2, u "lineSeparator"), (0, u "Ljava/lang/String;"), (96, .class_ 321), (1, u "java/lang/System$LoggerFinder"), (5, .class_ 328), (0, u "java/lang/System$Logger"), (67, u "err"), (2, u "out"), (91, u "notSupportedJnuEncoding"), (15, u "in"), (17, u "initialIn"), (0, u "Ljava/io/InputStream;"), (35, u "bootLayer"), (0, u "Ljava/lang/ModuleLayer;"), (99, .class_ 664), (0, u "java/lang/System$2"), (9, u "NEVER"), (2, u "MAYBE"), (49, u "arraycopy"), (0, u "(Ljava/lang/Object;ILjava/lang/Object;II)V"), (72, .class_ 802), (0, u "java/lang/System$Logger$Level")] 31

def k5m0 : Method := { name := "<init>", desc := "()V", sig := { parameters := [], returnType := none }, accessFlags := 2, code := none }
def k5m1 : Method := { name := "arraycopy", desc := "(Ljava/lang/Object;ILjava/lang/Object;II)V", sig := { parameters := [(.object "java/lang/Object"), .int, (.object "java/lang/Object"), .int, .int], returnType := none }, accessFlags := 265, code := none }
/-- java/lang/System -/
def k5 : Class := { plain "java/lang/System" (some 0) with
  accessFlags := 49
  interfaces := #[]
  cf := some (fileOf pool5 8 #[.nestMembers #[319, 327, 801, 108, 663, 208]] #[{ accessFlags := 2, nameIndex := 5, descriptorIndex := 6, attributes := #[] }, { accessFlags := 265, nameIndex := 727, descriptorIndex := 728, attributes := #[] }] 49 2 #[] #[{ accessFlags := 25, nameIndex := 507, descriptorIndex := 526, attributes := #[] }, { accessFlags := 25, nameIndex := 399, descriptorIndex := 155, attributes := #[] }, { accessFlags := 25, nameIndex := 396, descriptorIndex := 155, attributes := #[] }, { accessFlags := 10, nameIndex := 525, descriptorIndex := 526, attributes := #[] }, { accessFlags := 26, nameIndex := 674, descriptorIndex := 12, attributes := #[] }, { accessFlags := 26, nameIndex := 677, descriptorIndex := 12, attributes := #[] }, { accessFlags := 10, nameIndex := 11, descriptorIndex := 12, attributes := #[] }, { accessFlags := 74, nameIndex := 175, descriptorIndex := 176, attributes := #[] }, { accessFlags := 10, nameIndex := 491, descriptorIndex := 222, attributes := #[] }, { accessFlags := 74, nameIndex := 29, descriptorIndex := 30, attributes := #[] }, { accessFlags := 74, nameIndex := 154, descriptorIndex := 155, attributes := #[] }, { accessFlags := 10, nameIndex := 217, descriptorIndex := 218, attributes := #[] }, { accessFlags := 10, nameIndex := 221, descriptorIndex := 222, attributes := #[] }, { accessFlags := 8, nameIndex := 562, descriptorIndex := 563, attributes := #[] }])
  fields := #[{ name := "in", type := (.object "java/io/InputStream"), accessFlags := 25, slot := 0, constantValue := 0 }, { name := "out", type := (.object "java/io/PrintStream"), accessFlags := 25, slot := 1, constantValue := 0 }, { name := "err", type := (.object "java/io/PrintStream"), accessFlags := 25, slot := 2, constantValue := 0 }, { name := "initialIn", type := (.object "java/io/InputStream"), accessFlags := 10, slot := 3, constantValue := 0 }, { name := "NEVER", type := .int, accessFlags := 26, slot := 4, constantValue := 0 }, { name := "MAYBE", type := .int, accessFlags := 26, slot := 5, constantValue := 0 }, { name := "allowSecurityManager", type := .int, accessFlags := 10, slot := 6, constantValue := 0 }, { name := "security", type := (.object "java/lang/SecurityManager"), accessFlags := 74, slot := 7, constantValue := 0 }, { name := "notSupportedJnuEncoding", type := (.object "java/lang/String"), accessFlags := 10, slot := 8, constantValue := 0 }, { name := "cons", type := (.object "java/io/Console"), accessFlags := 74, slot := 9, constantValue := 0 }, { name := "initialErrStream", type := (.object "java/io/PrintStream"), accessFlags := 74, slot := 10, constantValue := 0 }, { name := "props", type := (.object "java/util/Properties"), accessFlags := 10, slot := 11, constantValue := 0 }, { name := "lineSeparator", type := (.object "java/lang/String"), accessFlags := 10, slot := 12, constantValue := 0 }, { name := "bootLayer", type := (.object "java/lang/ModuleLayer"), accessFlags := 8, slot := 13, constantValue := 0 }]
  methods := #[k5m0, k5m1]
  instanceTypes := #[]
  staticTypes := #[(.object "java/io/InputStream"), (.object "java/io/PrintStream"), (.object "java/io/PrintStream"), (.object "java/io/InputStream"), .int, .int, .int, (.object "java/lang/SecurityManager"), (.object "java/lang/String"), (.object "java/io/Console"), (.object "java/io/PrintStream"), (.object "java/util/Properties"), (.object "java/lang/String"), (.object "java/lang/ModuleLayer")]
  resolved := Array.replicate 834 none
  statics := none }

def pool6 : Array CpInfo := pool [(1, u "java/lang/Cloneable"), (0, .class_ 1), (0, u "java/lang/Object"), (0, .class_ 3)] 3

/-- java/lang/Cloneable -/
def k6 : Class := { plain "java/lang/Cloneable" (some 0) with
  accessFlags := 1537
  interfaces := #[]
  cf := some (fileOf pool6 2 #[] #[] 1537 4 #[] #[])
  fields := #[]
  methods := #[]
  instanceTypes := #[]
  staticTypes := #[]
  resolved := Array.replicate 8 none
  statics := none }

def pool7 : Array CpInfo := pool [(1, u "java/io/Serializable"), (0, .class_ 1), (0, u "java/lang/Object"), (0, .class_ 3)] 3

/-- java/io/Serializable -/
def k7 : Class := { plain "java/io/Serializable" (some 0) with
  accessFlags := 1537
  interfaces := #[]
  cf := some (fileOf pool7 2 #[] #[] 1537 4 #[] #[])
  fields := #[]
  methods := #[]
  instanceTypes := #[]
  staticTypes := #[]
  resolved := Array.replicate 8 none
  statics := none }

/-- the primitive byte -/
def k8 : Class := { plain "byte" none with kind := .primitive 'B', accessFlags := 0x411 }
/-- [B -/
def k9 : Class := { plain "[B" (some 0) with kind := .array 8 .byte, interfaces := #[6, 7], accessFlags := 1041 }

/-- the primitive int -/
def k10 : Class := { plain "int" none with kind := .primitive 'I', accessFlags := 0x411 }
/-- [I -/
def k11 : Class := { plain "[I" (some 0) with kind := .array 10 .int, interfaces := #[6, 7], accessFlags := 1041 }

def heap : Heap := #[{ cls := 2, slots := #[.int 0, .ref 1], vm := .statics 2 },
  { cls := 11, slots := #[], vm := .none }]
def classes : Array Class := #[k0, k1, k2, k3, k4, k5, k6, k7, k8, k9, k10, k11]
def interned : List (Array UInt16 × Addr) := []
def slotsUsed : Nat := 2
def theMethod : MethodId := ⟨1, 1⟩
def args0 : Array Value := #[.int 3, .int 5, .int 6, .int 7]
def aboutOver (below : List Frame) : State where
  vm := { classes := classes, interned := interned.toArray }
  heap := heap
  slotsUsed := slotsUsed
  threads := #[{ frames := .invoking theMethod args0 :: below }]
def below0 : List Frame := [.native { method := ⟨0, 0⟩, args := #[] }]
def about1 : State := aboutOver below0
def p0 : Program := .bare "" "" ""
def e0 : Env := launch0.env 0 0 0
theorem w_frames : about1.frames = Frame.invoking theMethod args0 :: below0 := rfl
set_option maxRecDepth 65536 in
theorem w_args : argsFit about1.vm theMethod args0 = true := by decide +kernel
set_option maxRecDepth 65536 in
theorem w_heap : heapFits about1 = true := by decide +kernel
set_option maxRecDepth 65536 in
theorem w_runnable : about1.curStatus? = some .runnable := by decide +kernel
set_option maxRecDepth 65536 in
theorem w_alone : about1.alone = true := by decide +kernel
set_option maxRecDepth 65536 in
theorem w_named : about1.methodNamed? x = some theMethod := by decide +kernel
set_option maxRecDepth 65536 in
theorem w_hears : about1.hears theMethod below0 = true := by decide +kernel
set_option maxRecDepth 65536 in
theorem w_ripe : about1.ripe theMethod args0 below0 = true := by decide +kernel
theorem w_running : about1.status = .running := rfl
set_option maxRecDepth 65536 in
theorem w_room : about1.hasRoom e0.platform room_1 = true :=
  launch0.hasRoom_least _ room_1 (by decide +kernel) (by decide +kernel) (by decide +kernel) (by decide +kernel) (by decide +kernel) (by decide +kernel)
theorem allAtoms_all (ts : List Jvm.Cond) (a : Array Jvm.Value) (st : Jvm.State) : (allAtoms ts).before a st = ts.all (fun c => c.before a st) := by
  induction ts with
  | nil => rfl
  | cons c t ih =>
    show (Jvm.Cond.and c (allAtoms t)).before a st = _
    rw [Jvm.Cond.before_and, ih, List.all_cons]
def words1 : List Jvm.Cond := Jvm.Cond.code x code maxLocals ret :: tables_1
/-- a 'code' word, met by the world's own term for the bytes: nothing is compared byte by byte -/
theorem code_word {y : MethodName} {bytes : ByteArray} {mx : Nat} {rt : Option FieldType} {a : Array Value} {s : State} {m : MethodId} {meth : Method} {c : Code} (h1 : s.methodNamed? y = some m) (h2 : s.vm.method? m = some meth) (h3 : meth.code = some c) (h4 : c.code = bytes)
    (h5 : (c.maxLocals == mx && c.exceptionTable.isEmpty && decide (c.maxStack ≤ mostOperands) && decide (meth.sig.returnType = rt) && !meth.locks && decide (parseMethodDescriptor y.desc = some meth.sig)) = true) : (Jvm.Cond.code y bytes mx rt).before a s = true := by
  simp only [Bool.and_eq_true, beq_iff_eq, Bool.not_eq_true', decide_eq_true_eq] at h5
  obtain ⟨⟨⟨⟨⟨g1, g2⟩, g3⟩, g4⟩, g5⟩, g6⟩ := h5
  simp [Cond.before, Cond.holds, Cond.value, h1, h2, h3, h4, g1, g2, g3, g4, g5, g6]
def isCode : Jvm.Cond → Bool
  | .code _ _ _ _ => true
  | _ => false
theorem all_split {L : List Jvm.Cond} {P : Jvm.Cond → Bool} (h1 : L.all (fun c => isCode c || P c) = true) (h2 : ∀ c ∈ L.filter isCode, P c = true) : L.all P = true := by
  refine List.all_eq_true.mpr fun c hc => ?_
  have h := List.all_eq_true.mp h1 c hc
  rcases Bool.eq_false_or_eq_true (isCode c) with hi | hi
  · exact h2 c (List.mem_filter.mpr ⟨hc, hi⟩)
  · simpa [hi] using h
set_option maxRecDepth 65536 in
theorem w_c0 : (Jvm.Cond.code x code maxLocals ret).before args0 about1 = true := code_word (m := ⟨1, 1⟩) (meth := k1m1) (c := k1c1) (by decide +kernel) rfl rfl rfl (by decide +kernel)
set_option maxRecDepth 65536 in
theorem w_c1 : (Jvm.Cond.code ({ cls := "com/example/plumbline/plumbline/pta/PointsToSet", name := "<init>", desc := "()V" } : Jvm.MethodName) prog_5_method_1_code (1 : Nat) (Option.none : Option Jvm.ClassFile.FieldType)).before args0 about1 = true := code_word (m := ⟨2, 0⟩) (meth := k2m0) (c := k2c0) (by decide +kernel) rfl rfl rfl (by decide +kernel)
set_option maxRecDepth 65536 in
theorem w_c2 : (Jvm.Cond.code ({ cls := "java/lang/Object", name := "<init>", desc := "()V" } : Jvm.MethodName) object_method_1_code (1 : Nat) (Option.none : Option Jvm.ClassFile.FieldType)).before args0 about1 = true := code_word (m := ⟨0, 0⟩) (meth := k0m0) (c := k0c0) (by decide +kernel) rfl rfl rfl (by decide +kernel)
set_option maxRecDepth 65536 in
theorem w_c3 : (Jvm.Cond.code ({ cls := "com/example/plumbline/plumbline/pta/PointsToSet", name := "isEmpty", desc := "()Z" } : Jvm.MethodName) prog_5_method_3_code (1 : Nat) (Option.some Jvm.ClassFile.FieldType.boolean)).before args0 about1 = true := code_word (m := ⟨2, 2⟩) (meth := k2m2) (c := k2c2) (by decide +kernel) rfl rfl rfl (by decide +kernel)
set_option maxRecDepth 65536 in
theorem w_c4 : (Jvm.Cond.code ({ cls := "com/example/plumbline/plumbline/pta/PointsToSet", name := "size", desc := "()I" } : Jvm.MethodName) prog_5_method_2_code (1 : Nat) (Option.some Jvm.ClassFile.FieldType.int)).before args0 about1 = true := code_word (m := ⟨2, 1⟩) (meth := k2m1) (c := k2c1) (by decide +kernel) rfl rfl rfl (by decide +kernel)
set_option maxRecDepth 65536 in
theorem w_c5 : (Jvm.Cond.code ({ cls := "com/example/plumbline/plumbline/pta/PointsToSet", name := "add", desc := "(I)Z" } : Jvm.MethodName) prog_5_method_5_code (4 : Nat) (Option.some Jvm.ClassFile.FieldType.boolean)).before args0 about1 = true := code_word (m := ⟨2, 3⟩) (meth := k2m3) (c := k2c3) (by decide +kernel) rfl rfl rfl (by decide +kernel)
set_option maxRecDepth 65536 in
theorem w_c6 : (Jvm.Cond.code ({ cls := "java/util/Arrays", name := "binarySearch", desc := "([IIII)I" } : Jvm.MethodName) jdk_65_method_58_code (4 : Nat) (Option.some Jvm.ClassFile.FieldType.int)).before args0 about1 = true := code_word (m := ⟨3, 2⟩) (meth := k3m2) (c := k3c2) (by decide +kernel) rfl rfl rfl (by decide +kernel)
set_option maxRecDepth 65536 in
theorem w_c7 : (Jvm.Cond.code ({ cls := "java/util/Arrays", name := "rangeCheck", desc := "(III)V" } : Jvm.MethodName) jdk_65_method_30_code (3 : Nat) (Option.none : Option Jvm.ClassFile.FieldType)).before args0 about1 = true := code_word (m := ⟨3, 1⟩) (meth := k3m1) (c := k3c1) (by decide +kernel) rfl rfl rfl (by decide +kernel)
set_option maxRecDepth 65536 in
theorem w_c8 : (Jvm.Cond.code ({ cls := "java/util/Arrays", name := "binarySearch0", desc := "([IIII)I" } : Jvm.MethodName) jdk_65_method_59_code (8 : Nat) (Option.some Jvm.ClassFile.FieldType.int)).before args0 about1 = true := code_word (m := ⟨3, 3⟩) (meth := k3m3) (c := k3c3) (by decide +kernel) rfl rfl rfl (by decide +kernel)
set_option maxRecDepth 65536 in
theorem w_c9 : (Jvm.Cond.code ({ cls := "java/lang/Math", name := "max", desc := "(II)I" } : Jvm.MethodName) jdk_29_method_65_code (2 : Nat) (Option.some Jvm.ClassFile.FieldType.int)).before args0 about1 = true := code_word (m := ⟨4, 1⟩) (meth := k4m1) (c := k4c1) (by decide +kernel) rfl rfl rfl (by decide +kernel)
set_option maxRecDepth 65536 in
theorem w_c10 : (Jvm.Cond.code ({ cls := "java/util/Arrays", name := "copyOf", desc := "([II)[I" } : Jvm.MethodName) jdk_65_method_123_code (3 : Nat) (Option.some (Jvm.ClassFile.FieldType.array Jvm.ClassFile.FieldType.int))).before args0 about1 = true := code_word (m := ⟨3, 4⟩) (meth := k3m4) (c := k3c4) (by decide +kernel) rfl rfl rfl (by decide +kernel)
set_option maxRecDepth 65536 in
theorem w_c11 : (Jvm.Cond.code ({ cls := "java/lang/Math", name := "min", desc := "(II)I" } : Jvm.MethodName) jdk_29_method_69_code (2 : Nat) (Option.some Jvm.ClassFile.FieldType.int)).before args0 about1 = true := code_word (m := ⟨4, 2⟩) (meth := k4m2) (c := k4c2) (by decide +kernel) rfl rfl rfl (by decide +kernel)
def codes1 : List Jvm.Cond := [Jvm.Cond.code x code maxLocals ret, Jvm.Cond.code ({ cls := "com/example/plumbline/plumbline/pta/PointsToSet", name := "<init>", desc := "()V" } : Jvm.MethodName) prog_5_method_1_code (1 : Nat) (Option.none : Option Jvm.ClassFile.FieldType), Jvm.Cond.code ({ cls := "java/lang/Object", name := "<init>", desc := "()V" } : Jvm.MethodName) object_method_1_code (1 : Nat) (Option.none : Option Jvm.ClassFile.FieldType), Jvm.Cond.code ({ cls := "com/example/plumbline/plumbline/pta/PointsToSet", name := "isEmpty", desc := "()Z" } : Jvm.MethodName) prog_5_method_3_code (1 : Nat) (Option.some Jvm.ClassFile.FieldType.boolean), Jvm.Cond.code ({ cls := "com/example/plumbline/plumbline/pta/PointsToSet", name := "size", desc := "()I" } : Jvm.MethodName) prog_5_method_2_code (1 : Nat) (Option.some Jvm.ClassFile.FieldType.int), Jvm.Cond.code ({ cls := "com/example/plumbline/plumbline/pta/PointsToSet", name := "add", desc := "(I)Z" } : Jvm.MethodName) prog_5_method_5_code (4 : Nat) (Option.some Jvm.ClassFile.FieldType.boolean), Jvm.Cond.code ({ cls := "java/util/Arrays", name := "binarySearch", desc := "([IIII)I" } : Jvm.MethodName) jdk_65_method_58_code (4 : Nat) (Option.some Jvm.ClassFile.FieldType.int), Jvm.Cond.code ({ cls := "java/util/Arrays", name := "rangeCheck", desc := "(III)V" } : Jvm.MethodName) jdk_65_method_30_code (3 : Nat) (Option.none : Option Jvm.ClassFile.FieldType), Jvm.Cond.code ({ cls := "java/util/Arrays", name := "binarySearch0", desc := "([IIII)I" } : Jvm.MethodName) jdk_65_method_59_code (8 : Nat) (Option.some Jvm.ClassFile.FieldType.int), Jvm.Cond.code ({ cls := "java/lang/Math", name := "max", desc := "(II)I" } : Jvm.MethodName) jdk_29_method_65_code (2 : Nat) (Option.some Jvm.ClassFile.FieldType.int), Jvm.Cond.code ({ cls := "java/util/Arrays", name := "copyOf", desc := "([II)[I" } : Jvm.MethodName) jdk_65_method_123_code (3 : Nat) (Option.some (Jvm.ClassFile.FieldType.array Jvm.ClassFile.FieldType.int)), Jvm.Cond.code ({ cls := "java/lang/Math", name := "min", desc := "(II)I" } : Jvm.MethodName) jdk_29_method_69_code (2 : Nat) (Option.some Jvm.ClassFile.FieldType.int)]
set_option maxRecDepth 65536 in
theorem codes_eq : words1.filter isCode = codes1 := rfl
theorem w_codes : ∀ c ∈ words1.filter isCode, c.before args0 about1 = true := by
  rw [codes_eq]
  intro c hc
  simp only [codes1, List.mem_cons, List.not_mem_nil, or_false] at hc
  rcases hc with rfl | rfl | rfl | rfl | rfl | rfl | rfl | rfl | rfl | rfl | rfl | rfl
  · exact w_c0
  · exact w_c1
  · exact w_c2
  · exact w_c3
  · exact w_c4
  · exact w_c5
  · exact w_c6
  · exact w_c7
  · exact w_c8
  · exact w_c9
  · exact w_c10
  · exact w_c11
set_option maxRecDepth 65536 in
theorem w_t1 : (words1.take 24).all (fun c => isCode c || c.before args0 about1) = true := by decide +kernel
set_option maxRecDepth 65536 in
theorem w_t2 : ((words1.drop 24).take 24).all (fun c => isCode c || c.before args0 about1) = true := by decide +kernel
set_option maxRecDepth 65536 in
theorem w_t3 : ((words1.drop 24).drop 24).all (fun c => isCode c || c.before args0 about1) = true := by decide +kernel
theorem w_tables : (allAtoms (Jvm.Cond.code x code maxLocals ret :: tables_1)).before args0 about1 = true := by
  rw [allAtoms_all]
  show words1.all (fun c => c.before args0 about1) = true
  refine all_split ?_ w_codes
  rw [← List.take_append_drop 24 words1, List.all_append, w_t1, ← List.take_append_drop 24 (words1.drop 24), List.all_append, w_t2, w_t3]
  rfl
set_option maxRecDepth 65536 in
theorem w_case : (Jvm.Cond.and given_1 narrow_1).before args0 about1 = true := by decide +kernel
theorem w_applies : (headSpec (Jvm.Cond.code x code maxLocals ret :: tables_1) room_1).applies x e0.platform about1 = true :=
  (Spec.applies_iff w_frames).mpr ⟨w_running, w_runnable, w_alone, w_named, w_hears, w_ripe, w_room, w_tables⟩
theorem atStart : AtStart classFile x code maxLocals ret World_1 tables_1 room_1 Calls_1 rest_1 Pre_1 launch0 p0 e0 about1 theMethod args0 below0 :=
  ⟨lists_1, trivial, launch0.admits_env _ _ _, launch0.least_env, fairChoices_fair.cas, fairChoices_fair.clock, w_frames, w_args, w_heap, w_applies, trivial, trivial, w_case⟩
end start1
theorem witness_1 : WitnessClaimed_1 := ⟨start1.p0, start1.e0, start1.about1, start1.theMethod, start1.args0, start1.below0, start1.atStart⟩
end Jvm.Pilot.@@N@@
