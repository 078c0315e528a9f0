import JvmDerived
import JvmDerived.Pilot.@@N@@Statement
import JvmDerived.Pilot.@@N@@Code
set_option linter.unusedVariables false
set_option linter.unusedSimpArgs false
@@BLOCK:NumsL.lean.txt@@
namespace Jvm.RoadKit
open Sem ClassFile Op Lib Bundle Jvm.Stand Jvm.Free Jvm.LawKit
theorem Ext.rfl' {h : Heap} : Ext h h := ⟨Nat.le_refl _, fun _ _ q => q⟩
theorem Ext.tr {h h1 h2 : Heap} (A : Ext h h1) (B : Ext h1 h2) : Ext h h2 := ⟨Nat.le_trans A.1 B.1, fun a c q => B.2 a c (A.2 a c q)⟩
theorem Ext.wr' {h0 h h' : Heap} {a : Addr} {sl : Nat} {v : Value} (A : Ext h0 h) (W : Wr h h' a sl v) (ha : h0.size ≤ a) : Ext h0 h' := by
  obtain ⟨cl, -, -, -, rfl⟩ := W
  refine ⟨by simpa using A.1, fun b c q => ?_⟩
  have hb : b < h0.size := (Array.getElem?_eq_some_iff.mp q).1
  rw [Array.getElem?_setIfInBounds_ne (show a ≠ b from fun z => Nat.not_lt.mpr ha (z ▸ hb))]
  exact A.2 b c q
theorem Ext.keep' {h0 h h' : Heap} {ws : List Addr} (A : Ext h0 h) (K : Keep h h' ws) (q : ∀ x ∈ ws, h0.size ≤ x) : Ext h0 h' :=
  ⟨Nat.le_trans A.1 K.1, fun x c r => K.2.1 x c (A.2 x c r) fun z => absurd (Array.getElem?_eq_some_iff.mp r).1 (Nat.not_lt.mpr (q x z))⟩
end Jvm.RoadKit
namespace Jvm.Own
open Sem ClassFile Op Lib Bundle Jvm.Stand Jvm.Free Jvm.LawKit Jvm.RoadKit
/-! The own layer: a walk is a goal `Run .. vm h cells slots (fr m pc L st)`; each instruction is one lemma that turns the goal behind it into the goal ahead of it. -/
abbrev fr (m : MethodId) (pc : Nat) (L : List Slot) (st : List Value) : JFrame := mkF m pc ⟨L⟩ st
def Ends (tb : Tables) (e : Env) (below : List Frame) (K : State → Outcome → Prop) (T : State) (g : JFrame) : Prop :=
  ∃ s₂ o, Steps tb e below (T.setTop g) s₂ ∧ s₂.status = .running ∧ Ended s₂ below o ∧ K s₂ o
theorem Ends.go {tb : Tables} {e : Env} {below : List Frame} {K : State → Outcome → Prop} {T T' : State} {g g' : JFrame} (st : ∀ t, Steps tb e below (T'.setTop g') t → Steps tb e below (T.setTop g) t) (k : Ends tb e below K T' g') : Ends tb e below K T g := by
  obtain ⟨s₂, o, h1, h2⟩ := k
  exact ⟨s₂, o, st _ h1, h2⟩
/-- one decoded instruction and the pc behind it -/
def Dc (B : ByteArray) (pc : Nat) (i : Instr) (len q : Nat) : Prop := decode B pc = .ok (i, len) ∧ pc + len = q
/-- one decoded branch, the pc behind it and its target -/
def Jp (B : ByteArray) (pc : Nat) (i : Instr) (o : Int) (q t : Nat) : Prop := decode B pc = .ok (i, 3) ∧ pc + 3 = q ∧ 0 ≤ (pc : Int) + o ∧ ((pc : Int) + o).toNat = t
/-- CHr, and in a walk that interns nothing no cell more is a constant's -/
def CHs (nw : Prop) (Z : State) (EL : List (String × Nat)) (vm : Vm) (h : Heap) (vm' : Vm) (h' : Heap) : Prop := CHr Z EL vm h vm' h' ∧ (nw → ∀ y, Bk Z EL vm' h' y → Bk Z EL vm h y)
/-- where the walk stands -/
def Pnt (p : Program) (l : Launch) (e : Env) (R : Room) (s : State) (m : MethodId) (args : Array Value) (below : List Frame) (meth : Method) (c : Code) (Z : State) (nw : Prop) (EL : List (String × Nat)) (vm : Vm) (h : Heap) (cells slots : Nat) (T : State) : Prop :=
  ∃ (k : Nat) (locs : List Loc), Stand p l e R (s.setVm vm) m args below meth c T locs cells slots ∧ T.heap = h ∧ Fr Z.heap.size locs ∧ Ext Z.heap h ∧ s.Since vm k ∧ k ≤ h.size ∧ Z.Warmed39 vm ∧ CHs nw Z EL s.vm s.heap vm h ∧ (nw → s.WarmedH vm)
def Run (p : Program) (l : Launch) (e : Env) (R : Room) (s : State) (m : MethodId) (args : Array Value) (below : List Frame) (meth : Method) (c : Code) (Z : State) (nw : Prop) (EL : List (String × Nat)) (K : State → Outcome → Prop) (vm : Vm) (h : Heap) (cells slots : Nat) (g : JFrame) : Prop :=
  ∀ T, Pnt p l e R s m args below meth c Z nw EL vm h cells slots T → Ends p.tables e below K T g
/-- what never changes in a body's walk -/
def Cx (p : Program) (s : State) (m : MethodId) (meth : Method) (c : Code) (Z : State) (a0 : Array Value) (EL : List (String × Nat)) (own : String) (B : ByteArray) (n : Nat) (nm : String) (ret : Option FieldType) : Prop :=
  p.tables.exec = Jvm.exec ∧ c.code = B ∧ s.vm.findClass own = some m.cls ∧ c.maxLocals = n ∧ meth.locks = false ∧ meth.name = nm ∧ meth.sig.returnType = ret ∧ EW Z a0 EL
/-- how a body ends -/
def Kf (s Z : State) (nw : Prop) (EL : List (String × Nat)) (rm : Room) (Q : Option Value → Heap → Prop) (s₂ : State) (o : Outcome) : Prop :=
  ∃ v L, o = .returned v ∧ Q v s₂.heap ∧ Fr Z.heap.size L ∧ Ext Z.heap s₂.heap ∧ CHs nw Z EL s.vm s.heap s₂.vm s₂.heap ∧ ReturnedEndW s o s₂ L rm.cells rm.slots ∧ (nw → s.WarmedH s₂.vm)
/-- a body's contract -/
def Met (l : Launch) (Z : State) (nw : Prop) (EL : List (String × Nat)) (y : MethodName) (B : ByteArray) (n : Nat) (ret : Option FieldType) (rm : Room) (as : Array Value) (h : Heap) (sf : List Addr) (Q : Option Value → Heap → Prop) : Prop :=
  ∀ ws : List Jvm.Cond, MetFree l y (head1 (Cond.code y B n ret :: ws) rm) (fun a U => a = as ∧ Z.Warmed39 U.vm ∧ U.heap = h ∧ CHv Z EL U.vm h ∧ Ext Z.heap h ∧ ∀ x ∈ sf, Safe Z EL U.vm h x) (fun _ _ _ _ _ => True)
    (fun _ U o U' => Kf U Z nw EL rm Q U' o)
theorem Safe.nil {Z : State} {vm : Vm} {h : Heap} {x : Addr} : Safe Z [] vm h x := fun B => by
  obtain ⟨p, hp, -⟩ := B
  cases hp
theorem CHr.keepSafe {Z : State} {EL : List (String × Nat)} {vm vm1 : Vm} {h h' : Heap} (A : CHr Z EL vm h vm1 h') {x : Addr} (hx : x < h.size) (S : Safe Z EL vm h x) : Safe Z EL vm1 h' x := CHr.safe A hx S
theorem rew_mono {s t : State} {o : Outcome} {L : List Loc} {k n k' n' : Nat} (h : ReturnedEndW s o t L k n) (hk : k ≤ k') (hn : n ≤ n') : ReturnedEndW s o t L k' n' := by
  obtain ⟨h1, h2, h3, h4⟩ := h
  exact ⟨h1, h2, h3, h4.mono hk hn⟩
theorem CHs.refl {nw : Prop} {Z : State} {EL : List (String × Nat)} {vm : Vm} {h : Heap} (H : CHv Z EL vm h) : CHs nw Z EL vm h vm h := ⟨CHr.refl H, fun _ _ q => q⟩
theorem CHs.trans {nw : Prop} {Z : State} {EL : List (String × Nat)} {vm vm1 vm2 : Vm} {h h1 h2 : Heap} (A : CHs nw Z EL vm h vm1 h1) (B : CHs nw Z EL vm1 h1 vm2 h2) : CHs nw Z EL vm h vm2 h2 := ⟨A.1.trans B.1, fun z y q => A.2 z y (B.2 z y q)⟩
theorem CHs.wr {nw : Prop} {Z : State} {EL : List (String × Nat)} {vm : Vm} {h h' : Heap} {a : Addr} {sl : Nat} {v : Value} (W : Wr h h' a sl v) (S : Safe Z EL vm h a) (H : CHv Z EL vm h) : CHs nw Z EL vm h vm h' := ⟨CHr.wr W S H, fun _ => (H.wrStep W S).2⟩
theorem CHs.ext {nw : Prop} {Z : State} {EL : List (String × Nat)} {vm : Vm} {h h' : Heap} (E : Ext h h') (H : CHv Z EL vm h) : CHs nw Z EL vm h vm h' := ⟨CHr.ext E H, fun _ => (H.step fun _ _ _ q => E.2 _ _ q).2⟩
theorem CHs.keep {nw : Prop} {Z : State} {EL : List (String × Nat)} {vm : Vm} {h h' : Heap} {ws : List Addr} (K : Keep h h' ws) (hs : ∀ x ∈ ws, Safe Z EL vm h x) (H : CHv Z EL vm h) : CHs nw Z EL vm h vm h' := ⟨CHr.keep K hs H, fun _ => (H.keepStep K hs).2⟩
theorem CHs.of {nw : Prop} {Z : State} {EL : List (String × Nat)} {vm vm1 : Vm} {h : Heap} (A : CHr Z EL vm h vm1 h) : CHs nw Z EL vm h vm1 h := ⟨A, fun _ y q => by
  rcases A.2.2 y q with z | z
  · exact z
  · obtain ⟨cell, z2⟩ := q.there
    exact absurd (Array.getElem?_eq_some_iff.mp z2).1 (Nat.not_lt.mpr z)⟩
theorem CHs.cold {nw : Prop} {Z : State} {EL : List (String × Nat)} {vm vm1 : Vm} {h h' : Heap} (A : CHr Z EL vm h vm1 h') (hn : ¬ nw) : CHs nw Z EL vm h vm1 h' := ⟨A, fun z => absurd z hn⟩
theorem CHs.mono {nw nw' : Prop} {Z : State} {EL : List (String × Nat)} {vm vm1 : Vm} {h h' : Heap} (A : CHs nw' Z EL vm h vm1 h') (hn : nw → nw') : CHs nw Z EL vm h vm1 h' := ⟨A.1, fun z => A.2 (hn z)⟩
theorem CHs.fresh {nw : Prop} {Z : State} {EL : List (String × Nat)} {vm vm1 : Vm} {h h' : Heap} (A : CHs nw Z EL vm h vm1 h') (z : nw) {x : Addr} (hx : h.size ≤ x) : Safe Z EL vm1 h' x := fun B => by
  obtain ⟨cell, z2⟩ := (A.2 z x B).there
  exact absurd (Array.getElem?_eq_some_iff.mp z2).1 (Nat.not_lt.mpr hx)
section Body
variable {p : Program} {l : Launch} {e : Env} {R : Room} {s : State} {m : MethodId} {args : Array Value} {below : List Frame} {meth : Method} {c : Code} {Z : State} {a0 : Array Value} {nw : Prop} {EL : List (String × Nat)} {K : State → Outcome → Prop} {vm : Vm} {h : Heap} {cells slots : Nat} {own nm : String} {B : ByteArray} {n : Nat} {ret : Option FieldType}
theorem Run.plain {g g' : JFrame} (st : ∀ T, At T m c below → ∀ t, Steps p.tables e below (T.setTop g') t → Steps p.tables e below (T.setTop g) t) (k : Run p l e R s m args below meth c Z nw EL K vm h cells slots g') : Run p l e R s m args below meth c Z nw EL K vm h cells slots g := by
  intro T P
  have P' := P
  obtain ⟨kk, locs, X, -⟩ := P'
  exact Ends.go (st T X.here) (k T P)
/-- what the walk knows at every point -/
theorem Run.know {g : JFrame} (k : Ext Z.heap h → Z.Warmed39 vm → CHv Z EL vm h → Run p l e R s m args below meth c Z nw EL K vm h cells slots g) : Run p l e R s m args below meth c Z nw EL K vm h cells slots g := by
  intro T P
  have P' := P
  obtain ⟨kk, locs, X, e1, e2, e3, e4, e5, e6, e7, e8⟩ := P'
  exact k e3 e6 e7.1.1 T P
theorem Run.warm (C : Cx p s m meth c Z a0 EL own B n nm ret) {g g' : JFrame}
    (st : ∀ T locs, Stand p l e R (s.setVm vm) m args below meth c T locs cells slots → T.heap = h → Z.Warmed39 (s.setVm vm).vm → (s.setVm vm).vm.findClass own = some m.cls → ∃ T', Stand p l e R (s.setVm vm) m args below meth c T' locs cells slots ∧ T'.heap = h ∧ ∀ t, Steps p.tables e below (T'.setTop g') t → Steps p.tables e below (T.setTop g) t)
    (k : Run p l e R s m args below meth c Z nw EL K vm h cells slots g') : Run p l e R s m args below meth c Z nw EL K vm h cells slots g := by
  intro T P
  obtain ⟨kk, locs, X, e1, e2, e3, e4, e5, e6, e7, e8⟩ := P
  obtain ⟨T', X', e1', hst⟩ := st T locs X e1 e6 ((e4.1.alike.findClass _ _).trans C.2.2.1)
  exact Ends.go hst (k T' ⟨kk, locs, X', e1', e2, e3, e4, e5, e6, e7, e8⟩)
theorem Run.write (C : Cx p s m meth c Z a0 EL own B n nm ret) {g g' : JFrame} {a : Addr} {sl : Nat} {v : Value}
    (st : ∀ T locs, Stand p l e R (s.setVm vm) m args below meth c T locs cells slots → T.heap = h → Z.Warmed39 (s.setVm vm).vm → (s.setVm vm).vm.findClass own = some m.cls → ∃ T' h', Stand p l e R (s.setVm vm) m args below meth c T' (locs ++ [⟨a, sl⟩]) cells slots ∧ T'.heap = h' ∧ Wr h h' a sl v ∧ ∀ t, Steps p.tables e below (T'.setTop g') t → Steps p.tables e below (T.setTop g) t)
    (ha : Z.heap.size ≤ a) (hs : Safe Z EL vm h a)
    (k : ∀ h', Wr h h' a sl v → (∀ x, Safe Z EL vm h x → Safe Z EL vm h' x) → Run p l e R s m args below meth c Z nw EL K vm h' cells slots g') : Run p l e R s m args below meth c Z nw EL K vm h cells slots g := by
  intro T P
  obtain ⟨kk, locs, X, e1, e2, e3, e4, e5, e6, e7, e8⟩ := P
  obtain ⟨T', h', X', e1', W, hst⟩ := st T locs X e1 e6 ((e4.1.alike.findClass _ _).trans C.2.2.1)
  refine Ends.go hst (k h' W (fun x S => Safe.wr W hs e7.1.1 S) T' ⟨kk, _, X', e1', Fr.snoc X' e2 ha, Ext.wr' e3 W ha, e4, ?_, e6, e7.trans (CHs.wr W hs e7.1.1), e8⟩)
  rw [W.size]; exact e5
theorem Run.grow (C : Cx p s m meth c Z a0 EL own B n nm ret) {g g' : JFrame} {nn : Nat} {F : Heap → Prop}
    (st : ∀ T locs, Stand p l e R (s.setVm vm) m args below meth c T locs cells slots → T.heap = h → Z.Warmed39 (s.setVm vm).vm → (s.setVm vm).vm.findClass own = some m.cls → ∃ T' h', Stand p l e R (s.setVm vm) m args below meth c T' locs (cells + 1) (slots + nn) ∧ T'.heap = h' ∧ Ext h h' ∧ F h' ∧ ∀ t, Steps p.tables e below (T'.setTop g') t → Steps p.tables e below (T.setTop g) t)
    (k : ∀ h', Ext h h' → F h' → CHv Z EL vm h → (∀ x, Safe Z EL vm h x → Safe Z EL vm h' x) → Run p l e R s m args below meth c Z nw EL K vm h' (cells + 1) (slots + nn) g') : Run p l e R s m args below meth c Z nw EL K vm h cells slots g := by
  intro T P
  obtain ⟨kk, locs, X, e1, e2, e3, e4, e5, e6, e7, e8⟩ := P
  obtain ⟨T', h', X', e1', E, hF, hst⟩ := st T locs X e1 e6 ((e4.1.alike.findClass _ _).trans C.2.2.1)
  exact Ends.go hst (k h' E hF e7.1.1 (fun x S => Safe.ext E e7.1.1 S) T' ⟨kk, _, X', e1', e2, Ext.tr e3 E, e4, Nat.le_trans e5 E.1, e6, e7.trans (CHs.ext E e7.1.1), e8⟩)
/-- a bound on what was made may grow -/
theorem Run.more {g : JFrame} {cells' slots' : Nat} (hc : cells ≤ cells') (hs : slots ≤ slots') (k : Run p l e R s m args below meth c Z nw EL K vm h cells' slots' g) : Run p l e R s m args below meth c Z nw EL K vm h cells slots g := by
  intro T P
  obtain ⟨kk, locs, X, r⟩ := P
  exact k T ⟨kk, locs, X.more hc hs, r⟩
/-- the end of a body -/
theorem Run.out (C : Cx p s m meth c Z a0 EL own B n nm ret) {rm : Room} {Q : Option Value → Heap → Prop} {v : Option Value} {g : JFrame} (hv : ret = none → v = none) (hQ : Q v h) (hc : cells ≤ rm.cells) (hs : slots ≤ rm.slots)
    (st : ∀ T locs, Stand p l e R (s.setVm vm) m args below meth c T locs cells slots → ∀ fs : List Frame, (∀ (f : JFrame) (acts : List Action), f.method = m → f.locked = none → f.entered = [] → (doReturn e (T.setTop f) acts v).1 = T.setFrames fs) → Steps p.tables e below (T.setTop g) (T.setFrames fs)) :
    Run p l e R s m args below meth c Z nw EL (Kf s Z nw EL rm Q) vm h cells slots g := by
  intro T P
  obtain ⟨kk, locs, X, e1, e2, e3, e4, e5, e6, e7, e8⟩ := P
  obtain ⟨fs, hr, hrun, hended, hW⟩ := X.leaveW e4 (by rw [e1]; exact e5) (v := v) (fun q => hv (C.2.2.2.2.2.2.1.symm.trans q)) C.2.2.2.2.1
  refine ⟨_, _, st T locs X fs hr, hrun, hended, v, locs, rfl, ?_, e2, ?_, ?_, rew_mono hW hc hs, fun z => State.WarmedH.trans (t := s.setVm vm) (e8 z) X.warmed⟩
  · show Q v T.heap
    rw [e1]; exact hQ
  · show Ext Z.heap T.heap
    rw [e1]; exact e3
  · show CHs nw Z EL s.vm s.heap T.vm T.heap
    rw [e1]
    exact e7.trans (CHs.of (CHv.at X e6 C.2.2.2.2.2.2.2 e7.1.1))
/-- a body's walk gives its contract; the entry's heap named -/
theorem Met.mkH {y : MethodName} {rm : Room} {as : Array Value} {sf : List Addr} {Q : Option Value → Heap → Prop} (hw : EW Z a0 EL) (hpn : plainFor y = true)
    (body : ∀ (p : Program) (e : Env) (s : State) (m : MethodId) (below : List Frame) (meth : Method) (c : Code), Cx p s m meth c Z a0 EL y.cls B n y.name ret → s.heap = h → Ext Z.heap h → (∀ x ∈ sf, Safe Z EL s.vm h x) →
      Run p l e rm s m as below meth c Z nw EL (Kf s Z nw EL rm Q) s.vm h 0 0 (entryFrame m as n)) : Met l Z nw EL y B n ret rm as h sf Q := by
  intro ws
  refine MetFree.of_bodySF hpn hisR ?_
  intro p e s m args below meth c s₁ Bd hml0 hP hK
  obtain ⟨rfl, hZ, hh, hC, hE, hS⟩ := hP
  have X0 : Stand p l e rm s m args below meth c s₁ [] 0 0 := Stand.of_body Bd
  have e0 : s₁.heap = h := by rw [← hh, Bd.state]; rfl
  have hlk : meth.locks = false := BodyLoose.notSynchronized Bd
  have C : Cx p s m meth c Z a0 EL y.cls B n y.name ret := ⟨Bd.exec, Bd.bytes, findClass_of_methodNamed Bd.named, hml0, hlk, (name_of_methodNamed Bd.named Bd.method).1, Bd.returns, hw⟩
  exact body p e s m below meth c C hh hE hS s₁ ⟨h.size, [], X0, e0, Fr.nil _, hE, (State.WarmedH.refl s).since _, Nat.le_refl _, hZ, by rw [hh]; exact CHs.refl hC, fun _ => State.WarmedH.refl s⟩
/-- a body's walk gives its contract -/
theorem Met.mk {y : MethodName} {rm : Room} {as : Array Value} {sf : List Addr} {Q : Option Value → Heap → Prop} (hw : EW Z a0 EL) (hpn : plainName y.cls = true)
    (body : ∀ (p : Program) (e : Env) (s : State) (m : MethodId) (below : List Frame) (meth : Method) (c : Code), Cx p s m meth c Z a0 EL y.cls B n y.name ret → Ext Z.heap h → (∀ x ∈ sf, Safe Z EL s.vm h x) →
      Run p l e rm s m as below meth c Z nw EL (Kf s Z nw EL rm Q) s.vm h 0 0 (entryFrame m as n)) : Met l Z nw EL y B n ret rm as h sf Q :=
  Met.mkH hw (plainFor_of_name hpn) fun p e s m below meth c C _ hE hS => body p e s m below meth c C hE hS
theorem backM {y : MethodName} {B' : ByteArray} {n' : Nat} {ret' : Option FieldType} {rm : Room} {len W : Nat} {as : Array Value} {sf : List Addr} {Q : Option Value → Heap → Prop} (M : Met l Z nw EL y B' n' ret' rm as h sf Q)
    (hZ : Z.Warmed39 vm) (wc : (Cond.code y B' n' ret').before a0 Z = true) (wz : (Cond.initialized y.cls).before a0 Z = true) (hf : rm.frames + 1 ≤ R.frames) (hl : W + (n' + 11) + rm.locals ≤ R.locals) (hEL : EW Z a0 EL) (H : CHv Z EL vm h) (hE : Ext Z.heap h) (hsf : ∀ x ∈ sf, Safe Z EL vm h x) :
    BackS l R p e below (s.setVm vm) args y len W (fun A a => a = as ∧ A.U.heap = h ∧ A.cells + rm.cells ≤ R.cells ∧ A.slots + rm.slots ≤ R.slots)
      (fun A _ v Bp => ∃ L, Q v Bp.U.heap ∧ Fr Z.heap.size L ∧ Ext Z.heap Bp.U.heap ∧ Bp.locs = A.locs ++ L ∧ Bp.cells = A.cells + rm.cells ∧ Bp.slots = A.slots + rm.slots ∧ CHs nw Z EL vm h Bp.U.vm Bp.U.heap ∧ (nw → (s.setVm vm).WarmedH Bp.U.vm)) :=
  BackS.of_freeW (bytes := B') (maxL := n') (ret := ret') (E := fun _ first o t L k n => k = rm.cells ∧ n = rm.slots ∧ (∃ v, o = .returned v ∧ Q v t.heap) ∧ Fr Z.heap.size L ∧ Ext Z.heap t.heap ∧ CHs nw Z EL first.vm first.heap t.vm t.heap ∧ (nw → first.WarmedH t.vm)) (M []) hf hl
    (fun m meth c A a Y hp => have hU : Z.Warmed39 A.U.vm := wtrans (s := s.setVm vm) hZ Y.warmed
      ⟨by show (Cond.and _ .tt).before a A.U = true; rw [Cond.before_and, mv hU wc]; rfl, mv hU wc, mv hU wz, hp.2.2.1, hp.2.2.2⟩)
    (fun m meth c A a g mk Y hp => by
      have q := CHv.at Y hZ hEL H
      exact ⟨hp.1, wtrans (s := s.setVm vm) hZ Y.warmed, hp.2.1, q.1, hE, fun x hx => (Nat.lt_or_ge x h.size).elim (fun z => CHr.safe q z (hsf x hx)) (fun z => Safe.new z)⟩) (fun _ _ _ _ _ _ _ _ _ => trivial)
    (fun _ _ _ _ ⟨v, L, h1, h2, h3, h4, h5, h6, h7⟩ => ⟨L, _, _, h6, rfl, rfl, ⟨v, h1, h2⟩, h3, h4, h5, h7⟩)
    (fun m meth c A a g mk v t L k n Y hp _ _ ⟨e1, e2, ⟨v', e3, e4⟩, e5, e6, e7, e8⟩ => by
      cases e3; subst e1 e2
      refine ⟨L, e4, e5, e6, rfl, rfl, rfl, (CHs.of (CHv.at Y hZ hEL H)).trans ?_, fun z => State.WarmedH.trans (t := A.U.calling g mk a) Y.warmed (e8 z)⟩
      rw [← hp.2.1]; exact e7)
/-- behind any call of a contract -/
theorem Run.back (C : Cx p s m meth c Z a0 EL own B n nm ret) {nw' : Prop} (hnn : nw → nw') {g : JFrame} {q : Nat} {rm : Room} {Q : Option Value → Heap → Prop} {g' : Option Value → JFrame}
    (st : ∀ k T locs, Stand p l e R (s.setVm vm) m args below meth c T locs cells slots → T.heap = h → Z.Warmed39 vm → (s.setVm vm).vm.findClass own = some m.cls → CHv Z EL vm h → Ext Z.heap h → s.Since vm k → k ≤ h.size →
      ∃ (v : Option Value) (Bp : Pt), Stand p l e R (s.setVm Bp.U.vm) m args below meth c Bp.U Bp.locs Bp.cells Bp.slots ∧ (s.setVm vm).Since Bp.U.vm Bp.U.heap.size ∧ T.heap.size ≤ Bp.U.heap.size ∧ (∃ L, Q v Bp.U.heap ∧ Fr Z.heap.size L ∧ Ext Z.heap Bp.U.heap ∧ Bp.locs = locs ++ L ∧ Bp.cells = cells + rm.cells ∧ Bp.slots = slots + rm.slots ∧ CHs nw' Z EL vm h Bp.U.vm Bp.U.heap ∧ (nw' → (s.setVm vm).WarmedH Bp.U.vm)) ∧
        Steps p.tables e below (T.setTop g) (Bp.U.setTop (g' v)))
    (k : ∀ v vm' h', Q v h' → h.size ≤ h'.size → (∀ x, x < h.size → Safe Z EL vm h x → Safe Z EL vm' h' x) → (nw' → ∀ x, h.size ≤ x → Safe Z EL vm' h' x) → Run p l e R s m args below meth c Z nw EL K vm' h' (cells + rm.cells) (slots + rm.slots) (g' v)) :
    Run p l e R s m args below meth c Z nw EL K vm h cells slots g := by
  intro T P
  obtain ⟨kk, locs, X, e1, e2, e3, e4, e5, e6, e7, e8⟩ := P
  obtain ⟨v, Bp, X', hS, hg, ⟨L, hQ, hFr, hE, l1, l2, l3, hC, hN⟩, hst⟩ := st kk T locs X e1 e6 ((e4.1.alike.findClass _ _).trans C.2.2.1) e7.1.1 e3 e4 e5
  obtain ⟨U, ls, c1, s1⟩ := Bp
  dsimp only [Pt.U, Pt.locs, Pt.cells, Pt.slots] at X' hS hg hQ hE l1 l2 l3 hC hN hst
  subst l1 l2 l3
  have hk : kk ≤ T.heap.size := by rw [e1]; exact e5
  refine Ends.go (fun t z => hst.trans z) (k v U.vm U.heap hQ (by rw [← e1]; exact hg) (fun x hx S => CHr.safe hC.1 hx S) (fun z x hx => hC.fresh z hx) U ⟨U.heap.size, _, X', rfl, Fr.app e2 hFr, hE, e4.trans hS (Nat.le_trans hk hg), Nat.le_refl _, State.Warmed39.trans (t := s.setVm vm) e6 hS.1, e7.trans (hC.mono hnn), fun z => State.WarmedH.trans (t := s.setVm vm) (e8 z) (hN (hnn z))⟩)
end Body
theorem Met.room {l : Launch} {Z : State} {nw : Prop} {EL : List (String × Nat)} {y : MethodName} {B : ByteArray} {n : Nat} {ret : Option FieldType} {rm rm' : Room} {as : Array Value} {h : Heap} {sf : List Addr} {Q : Option Value → Heap → Prop} (M : Met l Z nw EL y B n ret rm as h sf Q) (h1 : rm.frames ≤ rm'.frames) (h2 : rm.cells ≤ rm'.cells) (h3 : rm.slots ≤ rm'.slots) (h4 : rm.locals ≤ rm'.locals) : Met l Z nw EL y B n ret rm' as h sf Q := by
  intro ws p e ha hc hk s m args below hf happ hP hK
  obtain ⟨a1, a2, a3, a4, a5, a6, a7, a8⟩ := (Spec.appliesLoose_iff hf).mp happ
  obtain ⟨k, o, b1, b2, b3, v, L, b4, b5, b6, b7, b8, b9, b10⟩ := M ws p e ha hc hk s m args below hf ((Spec.appliesLoose_iff hf).mpr ⟨a1, a2, a3, a4, a5, a6, hasRoom_mono h1 h4 h2 h3 a7, a8⟩) hP hK
  exact ⟨k, o, b1, b2, b3, v, L, b4, b5, b6, b7, b8, rew_mono b9 h2 h3, b10⟩
/-- what is promised may be weakened -/
theorem Met.imp {l : Launch} {Z : State} {nw : Prop} {EL : List (String × Nat)} {y : MethodName} {B : ByteArray} {n : Nat} {ret : Option FieldType} {rm : Room} {as : Array Value} {h : Heap} {sf : List Addr} {Q Q' : Option Value → Heap → Prop} (M : Met l Z nw EL y B n ret rm as h sf Q) (hq : ∀ v h', Q v h' → Q' v h') : Met l Z nw EL y B n ret rm as h sf Q' := by
  intro ws p e ha hc hk s m args below hf happ hP hK
  obtain ⟨k, o, b1, b2, b3, v, L, b4, b5, b6, b7, b8, b9, b10⟩ := M ws p e ha hc hk s m args below hf happ hP hK
  exact ⟨k, o, b1, b2, b3, v, L, b4, hq _ _ b5, b6, b7, b8, b9, b10⟩
section Steps
variable {p : Program} {l : Launch} {e : Env} {R : Room} {s : State} {m : MethodId} {args : Array Value} {below : List Frame} {meth : Method} {c : Code} {Z : State} {a0 : Array Value} {nw : Prop} {EL : List (String × Nat)} {K : State → Outcome → Prop} {vm : Vm} {h : Heap} {cells slots : Nat} {own nm : String} {B : ByteArray} {n : Nat} {ret : Option FieldType} {pc q tq : Nat} {L : List Slot} {r : List Value} {a : Addr}
theorem R_iadd (C : Cx p s m meth c Z a0 EL own B n nm ret) {x y : Int32} (hd : Dc B pc (.iadd) 1 q) 
    (k : Run p l e R s m args below meth c Z nw EL K vm h cells slots (fr m q L (.int (x + y) :: r))) : Run p l e R s m args below meth c Z nw EL K vm h cells slots (fr m pc L (.int y :: .int x :: r)) := by
  obtain ⟨hd, rfl⟩ := hd
  exact Run.plain (fun T A t st => XS.iadd A C.1 rfl (hb C.2.1 hd) rfl st) k
theorem R_isub (C : Cx p s m meth c Z a0 EL own B n nm ret) {x y : Int32} (hd : Dc B pc (.isub) 1 q) 
    (k : Run p l e R s m args below meth c Z nw EL K vm h cells slots (fr m q L (.int (x - y) :: r))) : Run p l e R s m args below meth c Z nw EL K vm h cells slots (fr m pc L (.int y :: .int x :: r)) := by
  obtain ⟨hd, rfl⟩ := hd
  exact Run.plain (fun T A t st => XS.isub A C.1 rfl (hb C.2.1 hd) rfl st) k
theorem R_imul (C : Cx p s m meth c Z a0 EL own B n nm ret) {x y : Int32} (hd : Dc B pc (.imul) 1 q) 
    (k : Run p l e R s m args below meth c Z nw EL K vm h cells slots (fr m q L (.int (x * y) :: r))) : Run p l e R s m args below meth c Z nw EL K vm h cells slots (fr m pc L (.int y :: .int x :: r)) := by
  obtain ⟨hd, rfl⟩ := hd
  exact Run.plain (fun T A t st => XS.imul A C.1 rfl (hb C.2.1 hd) rfl st) k
theorem R_iand (C : Cx p s m meth c Z a0 EL own B n nm ret) {x y : Int32} (hd : Dc B pc (.iand) 1 q) 
    (k : Run p l e R s m args below meth c Z nw EL K vm h cells slots (fr m q L (.int (x &&& y) :: r))) : Run p l e R s m args below meth c Z nw EL K vm h cells slots (fr m pc L (.int y :: .int x :: r)) := by
  obtain ⟨hd, rfl⟩ := hd
  exact Run.plain (fun T A t st => XS.iand A C.1 rfl (hb C.2.1 hd) rfl st) k
theorem R_ior (C : Cx p s m meth c Z a0 EL own B n nm ret) {x y : Int32} (hd : Dc B pc (.ior) 1 q) 
    (k : Run p l e R s m args below meth c Z nw EL K vm h cells slots (fr m q L (.int (x ||| y) :: r))) : Run p l e R s m args below meth c Z nw EL K vm h cells slots (fr m pc L (.int y :: .int x :: r)) := by
  obtain ⟨hd, rfl⟩ := hd
  exact Run.plain (fun T A t st => XT.ior A C.1 rfl (hb C.2.1 hd) rfl st) k
theorem R_ixor (C : Cx p s m meth c Z a0 EL own B n nm ret) {x y : Int32} (hd : Dc B pc (.ixor) 1 q) 
    (k : Run p l e R s m args below meth c Z nw EL K vm h cells slots (fr m q L (.int (x ^^^ y) :: r))) : Run p l e R s m args below meth c Z nw EL K vm h cells slots (fr m pc L (.int y :: .int x :: r)) := by
  obtain ⟨hd, rfl⟩ := hd
  exact Run.plain (fun T A t st => XT.ixor A C.1 rfl (hb C.2.1 hd) rfl st) k
theorem R_ishl (C : Cx p s m meth c Z a0 EL own B n nm ret) {x y : Int32} (hd : Dc B pc (.ishl) 1 q) 
    (k : Run p l e R s m args below meth c Z nw EL K vm h cells slots (fr m q L (.int (x <<< (y &&& 31)) :: r))) : Run p l e R s m args below meth c Z nw EL K vm h cells slots (fr m pc L (.int y :: .int x :: r)) := by
  obtain ⟨hd, rfl⟩ := hd
  exact Run.plain (fun T A t st => XT.ishl A C.1 rfl (hb C.2.1 hd) rfl st) k
theorem R_ishr (C : Cx p s m meth c Z a0 EL own B n nm ret) {x y : Int32} (hd : Dc B pc (.ishr) 1 q) 
    (k : Run p l e R s m args below meth c Z nw EL K vm h cells slots (fr m q L (.int (x >>> (y &&& 31)) :: r))) : Run p l e R s m args below meth c Z nw EL K vm h cells slots (fr m pc L (.int y :: .int x :: r)) := by
  obtain ⟨hd, rfl⟩ := hd
  exact Run.plain (fun T A t st => XT.ishr A C.1 rfl (hb C.2.1 hd) rfl st) k
theorem R_iushr (C : Cx p s m meth c Z a0 EL own B n nm ret) {x y : Int32} (hd : Dc B pc (.iushr) 1 q) 
    (k : Run p l e R s m args below meth c Z nw EL K vm h cells slots (fr m q L (.int (XT.ushr x y) :: r))) : Run p l e R s m args below meth c Z nw EL K vm h cells slots (fr m pc L (.int y :: .int x :: r)) := by
  obtain ⟨hd, rfl⟩ := hd
  exact Run.plain (fun T A t st => XT.iushr A C.1 rfl (hb C.2.1 hd) rfl st) k
theorem R_ineg (C : Cx p s m meth c Z a0 EL own B n nm ret) {x : Int32} (hd : Dc B pc (.ineg) 1 q) 
    (k : Run p l e R s m args below meth c Z nw EL K vm h cells slots (fr m q L (.int (-x) :: r))) : Run p l e R s m args below meth c Z nw EL K vm h cells slots (fr m pc L (.int x :: r)) := by
  obtain ⟨hd, rfl⟩ := hd
  exact Run.plain (fun T A t st => XS.ineg A C.1 rfl (hb C.2.1 hd) rfl st) k
theorem R_idiv (C : Cx p s m meth c Z a0 EL own B n nm ret) {x y : Int32} (hd : Dc B pc (.idiv) 1 q) (hy : y ≠ 0)
    (k : Run p l e R s m args below meth c Z nw EL K vm h cells slots (fr m q L (.int (x / y) :: r))) : Run p l e R s m args below meth c Z nw EL K vm h cells slots (fr m pc L (.int y :: .int x :: r)) := by
  obtain ⟨hd, rfl⟩ := hd
  exact Run.plain (fun T A t st => XS.idiv A C.1 rfl (hb C.2.1 hd) rfl hy st) k
theorem R_irem (C : Cx p s m meth c Z a0 EL own B n nm ret) {x y : Int32} (hd : Dc B pc (.irem) 1 q) (hy : y ≠ 0)
    (k : Run p l e R s m args below meth c Z nw EL K vm h cells slots (fr m q L (.int (x % y) :: r))) : Run p l e R s m args below meth c Z nw EL K vm h cells slots (fr m pc L (.int y :: .int x :: r)) := by
  obtain ⟨hd, rfl⟩ := hd
  refine Run.plain (fun T A t st => XS.irem A C.1 rfl (hb C.2.1 hd) rfl hy ?_) k
  have q : x - x / y * y = x % y := irem_eq_mod x y
  rw [q]; exact st
theorem R_ladd (C : Cx p s m meth c Z a0 EL own B n nm ret) {x y : Int64} (hd : Dc B pc (.ladd) 1 q) 
    (k : Run p l e R s m args below meth c Z nw EL K vm h cells slots (fr m q L (.long (x + y) :: r))) : Run p l e R s m args below meth c Z nw EL K vm h cells slots (fr m pc L (.long y :: .long x :: r)) := by
  obtain ⟨hd, rfl⟩ := hd
  exact Run.plain (fun T A t st => XT.ladd A C.1 rfl (hb C.2.1 hd) rfl st) k
theorem R_lsub (C : Cx p s m meth c Z a0 EL own B n nm ret) {x y : Int64} (hd : Dc B pc (.lsub) 1 q) 
    (k : Run p l e R s m args below meth c Z nw EL K vm h cells slots (fr m q L (.long (x - y) :: r))) : Run p l e R s m args below meth c Z nw EL K vm h cells slots (fr m pc L (.long y :: .long x :: r)) := by
  obtain ⟨hd, rfl⟩ := hd
  exact Run.plain (fun T A t st => XT.lsub A C.1 rfl (hb C.2.1 hd) rfl st) k
theorem R_lmul (C : Cx p s m meth c Z a0 EL own B n nm ret) {x y : Int64} (hd : Dc B pc (.lmul) 1 q) 
    (k : Run p l e R s m args below meth c Z nw EL K vm h cells slots (fr m q L (.long (x * y) :: r))) : Run p l e R s m args below meth c Z nw EL K vm h cells slots (fr m pc L (.long y :: .long x :: r)) := by
  obtain ⟨hd, rfl⟩ := hd
  exact Run.plain (fun T A t st => XT.lmul A C.1 rfl (hb C.2.1 hd) rfl st) k
theorem R_land (C : Cx p s m meth c Z a0 EL own B n nm ret) {x y : Int64} (hd : Dc B pc (.land) 1 q) 
    (k : Run p l e R s m args below meth c Z nw EL K vm h cells slots (fr m q L (.long (x &&& y) :: r))) : Run p l e R s m args below meth c Z nw EL K vm h cells slots (fr m pc L (.long y :: .long x :: r)) := by
  obtain ⟨hd, rfl⟩ := hd
  exact Run.plain (fun T A t st => XT.land A C.1 rfl (hb C.2.1 hd) rfl st) k
theorem R_lor (C : Cx p s m meth c Z a0 EL own B n nm ret) {x y : Int64} (hd : Dc B pc (.lor) 1 q) 
    (k : Run p l e R s m args below meth c Z nw EL K vm h cells slots (fr m q L (.long (x ||| y) :: r))) : Run p l e R s m args below meth c Z nw EL K vm h cells slots (fr m pc L (.long y :: .long x :: r)) := by
  obtain ⟨hd, rfl⟩ := hd
  exact Run.plain (fun T A t st => XT.lor A C.1 rfl (hb C.2.1 hd) rfl st) k
theorem R_lxor (C : Cx p s m meth c Z a0 EL own B n nm ret) {x y : Int64} (hd : Dc B pc (.lxor) 1 q) 
    (k : Run p l e R s m args below meth c Z nw EL K vm h cells slots (fr m q L (.long (x ^^^ y) :: r))) : Run p l e R s m args below meth c Z nw EL K vm h cells slots (fr m pc L (.long y :: .long x :: r)) := by
  obtain ⟨hd, rfl⟩ := hd
  exact Run.plain (fun T A t st => XT.lxor A C.1 rfl (hb C.2.1 hd) rfl st) k
theorem R_lushr (C : Cx p s m meth c Z a0 EL own B n nm ret) {x : Int64} {y : Int32} (hd : Dc B pc (.lushr) 1 q) 
    (k : Run p l e R s m args below meth c Z nw EL K vm h cells slots (fr m q L (.long (XT.ushrL x y) :: r))) : Run p l e R s m args below meth c Z nw EL K vm h cells slots (fr m pc L (.int y :: .long x :: r)) := by
  obtain ⟨hd, rfl⟩ := hd
  exact Run.plain (fun T A t st => XT.lushr A C.1 rfl (hb C.2.1 hd) rfl st) k
theorem R_lcmp (C : Cx p s m meth c Z a0 EL own B n nm ret) {x y : Int64} (hd : Dc B pc (.lcmp) 1 q) 
    (k : Run p l e R s m args below meth c Z nw EL K vm h cells slots (fr m q L (.int (XT.cmpL x y) :: r))) : Run p l e R s m args below meth c Z nw EL K vm h cells slots (fr m pc L (.long y :: .long x :: r)) := by
  obtain ⟨hd, rfl⟩ := hd
  exact Run.plain (fun T A t st => XT.lcmp A C.1 rfl (hb C.2.1 hd) rfl st) k
theorem R_i2l (C : Cx p s m meth c Z a0 EL own B n nm ret) {x : Int32} (hd : Dc B pc (.i2l) 1 q) 
    (k : Run p l e R s m args below meth c Z nw EL K vm h cells slots (fr m q L (.long x.toInt64 :: r))) : Run p l e R s m args below meth c Z nw EL K vm h cells slots (fr m pc L (.int x :: r)) := by
  obtain ⟨hd, rfl⟩ := hd
  exact Run.plain (fun T A t st => XT.i2l A C.1 rfl (hb C.2.1 hd) rfl st) k
theorem R_l2i (C : Cx p s m meth c Z a0 EL own B n nm ret) {x : Int64} (hd : Dc B pc (.l2i) 1 q) 
    (k : Run p l e R s m args below meth c Z nw EL K vm h cells slots (fr m q L (.int x.toInt32 :: r))) : Run p l e R s m args below meth c Z nw EL K vm h cells slots (fr m pc L (.long x :: r)) := by
  obtain ⟨hd, rfl⟩ := hd
  exact Run.plain (fun T A t st => XT.l2i A C.1 rfl (hb C.2.1 hd) rfl st) k
theorem R_i2b (C : Cx p s m meth c Z a0 EL own B n nm ret) {x : Int32} (hd : Dc B pc (.i2b) 1 q) 
    (k : Run p l e R s m args below meth c Z nw EL K vm h cells slots (fr m q L (.int x.toInt8.toInt32 :: r))) : Run p l e R s m args below meth c Z nw EL K vm h cells slots (fr m pc L (.int x :: r)) := by
  obtain ⟨hd, rfl⟩ := hd
  exact Run.plain (fun T A t st => XT.i2b A C.1 rfl (hb C.2.1 hd) rfl st) k
theorem R_i2c (C : Cx p s m meth c Z a0 EL own B n nm ret) {x : Int32} (hd : Dc B pc (.i2c) 1 q) 
    (k : Run p l e R s m args below meth c Z nw EL K vm h cells slots (fr m q L (.int (nar .char x) :: r))) : Run p l e R s m args below meth c Z nw EL K vm h cells slots (fr m pc L (.int x :: r)) := by
  obtain ⟨hd, rfl⟩ := hd
  exact Run.plain (fun T A t st => XT.i2c A C.1 rfl (hb C.2.1 hd) rfl st) k
theorem R_dup (C : Cx p s m meth c Z a0 EL own B n nm ret) {v : Value} (hd : Dc B pc (.dup) 1 q) (hc : v.category = 1)
    (k : Run p l e R s m args below meth c Z nw EL K vm h cells slots (fr m q L (v :: v :: r))) : Run p l e R s m args below meth c Z nw EL K vm h cells slots (fr m pc L (v :: r)) := by
  obtain ⟨hd, rfl⟩ := hd
  exact Run.plain (fun T A t st => XS.dup A C.1 rfl (hb C.2.1 hd) rfl hc st) k
theorem R_pop (C : Cx p s m meth c Z a0 EL own B n nm ret) {v : Value} (hd : Dc B pc (.pop) 1 q) (hc : v.category = 1)
    (k : Run p l e R s m args below meth c Z nw EL K vm h cells slots (fr m q L (r))) : Run p l e R s m args below meth c Z nw EL K vm h cells slots (fr m pc L (v :: r)) := by
  obtain ⟨hd, rfl⟩ := hd
  exact Run.plain (fun T A t st => XT.pop A C.1 rfl (hb C.2.1 hd) rfl hc st) k
theorem R_dup_x1 (C : Cx p s m meth c Z a0 EL own B n nm ret) {v w : Value} (hd : Dc B pc (.dup_x1) 1 q) (hc : v.category = 1) (hc' : w.category = 1)
    (k : Run p l e R s m args below meth c Z nw EL K vm h cells slots (fr m q L (v :: w :: v :: r))) : Run p l e R s m args below meth c Z nw EL K vm h cells slots (fr m pc L (v :: w :: r)) := by
  obtain ⟨hd, rfl⟩ := hd
  exact Run.plain (fun T A t st => XT.dupX1 A C.1 rfl (hb C.2.1 hd) rfl hc hc' st) k
theorem R_dup2 (C : Cx p s m meth c Z a0 EL own B n nm ret) {v w : Value} (hd : Dc B pc (.dup2) 1 q) (hc : v.category = 1) (hc' : w.category = 1)
    (k : Run p l e R s m args below meth c Z nw EL K vm h cells slots (fr m q L (v :: w :: v :: w :: r))) : Run p l e R s m args below meth c Z nw EL K vm h cells slots (fr m pc L (v :: w :: r)) := by
  obtain ⟨hd, rfl⟩ := hd
  exact Run.plain (fun T A t st => XT.dup2 A C.1 rfl (hb C.2.1 hd) rfl hc hc' st) k
theorem R_aconst_null (C : Cx p s m meth c Z a0 EL own B n nm ret)  (hd : Dc B pc (.aconst_null) 1 q) 
    (k : Run p l e R s m args below meth c Z nw EL K vm h cells slots (fr m q L (.null :: r))) : Run p l e R s m args below meth c Z nw EL K vm h cells slots (fr m pc L (r)) := by
  obtain ⟨hd, rfl⟩ := hd
  exact Run.plain (fun T A t st => XS.aconstNull A C.1 rfl (hb C.2.1 hd)  st) k
theorem R_iconst (C : Cx p s m meth c Z a0 EL own B n nm ret) {i : Int} {v : Int32} (hd : Dc B pc (.iconst i) 1 q) (hv : Int32.ofInt i = v)
    (k : Run p l e R s m args below meth c Z nw EL K vm h cells slots (fr m q L (.int v :: r))) : Run p l e R s m args below meth c Z nw EL K vm h cells slots (fr m pc L r) := by
  obtain ⟨hd, rfl⟩ := hd
  subst hv
  exact Run.plain (fun T A t st => XS.iconst A C.1 rfl (hb C.2.1 hd) st) k
theorem R_bipush (C : Cx p s m meth c Z a0 EL own B n nm ret) {i : Int} {v : Int32} (hd : Dc B pc (.bipush i) 2 q) (hv : (Int8.ofInt i).toInt32 = v)
    (k : Run p l e R s m args below meth c Z nw EL K vm h cells slots (fr m q L (.int v :: r))) : Run p l e R s m args below meth c Z nw EL K vm h cells slots (fr m pc L r) := by
  obtain ⟨hd, rfl⟩ := hd
  subst hv
  exact Run.plain (fun T A t st => XS.bipush A C.1 rfl (hb C.2.1 hd) st) k
theorem R_sipush (C : Cx p s m meth c Z a0 EL own B n nm ret) {i : Int} {v : Int32} (hd : Dc B pc (.sipush i) 3 q) (hv : (Int16.ofInt i).toInt32 = v)
    (k : Run p l e R s m args below meth c Z nw EL K vm h cells slots (fr m q L (.int v :: r))) : Run p l e R s m args below meth c Z nw EL K vm h cells slots (fr m pc L r) := by
  obtain ⟨hd, rfl⟩ := hd
  subst hv
  exact Run.plain (fun T A t st => XS.sipush A C.1 rfl (hb C.2.1 hd) st) k
theorem R_lconst (C : Cx p s m meth c Z a0 EL own B n nm ret) {i : Fin 2} {v : Int64} (hd : Dc B pc (.lconst i) 1 q) (hv : Int64.ofNat i = v)
    (k : Run p l e R s m args below meth c Z nw EL K vm h cells slots (fr m q L (.long v :: r))) : Run p l e R s m args below meth c Z nw EL K vm h cells slots (fr m pc L r) := by
  obtain ⟨hd, rfl⟩ := hd
  subst hv
  exact Run.plain (fun T A t st => XT.lconst A C.1 rfl (hb C.2.1 hd) st) k
theorem lget {L : List Slot} {k : Nat} {x : Slot} (h : L[k]? = some x) : (⟨L⟩ : Array Slot)[k]? = some x := by simpa using h
theorem R_iload (C : Cx p s m meth c Z a0 EL own B n nm ret) {j : Nat} {v : Int32} (hd : Dc B pc (.iload j) 2 q) (hl : L[j]? = some (.val (.int v)))
    (k : Run p l e R s m args below meth c Z nw EL K vm h cells slots (fr m q L (.int v :: r))) : Run p l e R s m args below meth c Z nw EL K vm h cells slots (fr m pc L r) := by
  obtain ⟨hd, rfl⟩ := hd
  exact Run.plain (fun T A t st => XS.iload A C.1 rfl (hb C.2.1 hd) (lget hl) st) k
theorem R_iload_n (C : Cx p s m meth c Z a0 EL own B n nm ret) {j : Fin 4} {v : Int32} (hd : Dc B pc (.iload_n j) 1 q) (hl : L[j.val]? = some (.val (.int v)))
    (k : Run p l e R s m args below meth c Z nw EL K vm h cells slots (fr m q L (.int v :: r))) : Run p l e R s m args below meth c Z nw EL K vm h cells slots (fr m pc L r) := by
  obtain ⟨hd, rfl⟩ := hd
  exact Run.plain (fun T A t st => XS.iloadN A C.1 rfl (hb C.2.1 hd) (lget hl) st) k
theorem R_lload (C : Cx p s m meth c Z a0 EL own B n nm ret) {j : Nat} {v : Int64} (hd : Dc B pc (.lload j) 2 q) (hl : L[j]? = some (.val (.long v)))
    (k : Run p l e R s m args below meth c Z nw EL K vm h cells slots (fr m q L (.long v :: r))) : Run p l e R s m args below meth c Z nw EL K vm h cells slots (fr m pc L r) := by
  obtain ⟨hd, rfl⟩ := hd
  exact Run.plain (fun T A t st => XT.lload A C.1 rfl (hb C.2.1 hd) (lget hl) st) k
theorem R_lload_n (C : Cx p s m meth c Z a0 EL own B n nm ret) {j : Fin 4} {v : Int64} (hd : Dc B pc (.lload_n j) 1 q) (hl : L[j.val]? = some (.val (.long v)))
    (k : Run p l e R s m args below meth c Z nw EL K vm h cells slots (fr m q L (.long v :: r))) : Run p l e R s m args below meth c Z nw EL K vm h cells slots (fr m pc L r) := by
  obtain ⟨hd, rfl⟩ := hd
  exact Run.plain (fun T A t st => XT.lloadN A C.1 rfl (hb C.2.1 hd) (lget hl) st) k
theorem R_aload (C : Cx p s m meth c Z a0 EL own B n nm ret) {j : Nat} {v : Value} (hd : Dc B pc (.aload j) 2 q) (hl : L[j]? = some (.val v)) (hv : v.isRef = true)
    (k : Run p l e R s m args below meth c Z nw EL K vm h cells slots (fr m q L (v :: r))) : Run p l e R s m args below meth c Z nw EL K vm h cells slots (fr m pc L r) := by
  obtain ⟨hd, rfl⟩ := hd
  exact Run.plain (fun T A t st => XS.aload A C.1 rfl (hb C.2.1 hd) (lget hl) hv st) k
theorem R_aload_n (C : Cx p s m meth c Z a0 EL own B n nm ret) {j : Fin 4} {v : Value} (hd : Dc B pc (.aload_n j) 1 q) (hl : L[j.val]? = some (.val v)) (hv : v.isRef = true)
    (k : Run p l e R s m args below meth c Z nw EL K vm h cells slots (fr m q L (v :: r))) : Run p l e R s m args below meth c Z nw EL K vm h cells slots (fr m pc L r) := by
  obtain ⟨hd, rfl⟩ := hd
  exact Run.plain (fun T A t st => XS.aloadN A C.1 rfl (hb C.2.1 hd) (lget hl) hv st) k
theorem notin1 {x a : Nat} (h : x < a) : x ∉ [a] := fun z => Nat.lt_irrefl _ ((List.mem_singleton.mp z) ▸ h)
theorem notin2 {x a b : Nat} (h1 : x < a) (h2 : x < b) : x ∉ [a, b] := fun z => by
  rcases List.mem_cons.mp z with z | z
  · rw [z] at h1; exact Nat.lt_irrefl _ h1
  · exact notin1 h2 z
theorem cat_int (x : Int32) : (Value.int x).category = 1 := rfl
theorem cat_rf (x : Addr) : (Value.ref x).category = 1 := rfl
theorem cat_lng (x : Int64) : (Value.long x).category = 2 := rfl
theorem fv0 : ((0 : Fin 4) : Nat) = 0 := rfl
theorem fv1 : ((1 : Fin 4) : Nat) = 1 := rfl
theorem fv2 : ((2 : Fin 4) : Nat) = 2 := rfl
theorem fv3 : ((3 : Fin 4) : Nat) = 3 := rfl
def okSlot (x : Slot) : Bool := match x with | .unset => true | .val v => v.category == 1 | .second => false
def okS (L : List Slot) (k : Nat) : Bool := match L[k]? with | some x => okSlot x | none => false
theorem okS_store {L : List Slot} {k : Nat} {v : Value} (h : okS L k = true) (hv : v.category = 1) : storeLocals ⟨L⟩ k v = some ⟨L.set k (.val v)⟩ := by
  have q : (⟨L⟩ : Array Slot).setIfInBounds k (.val v) = ⟨L.set k (.val v)⟩ := by simp
  rw [← q]
  unfold okS at h
  cases e : L[k]? with
  | none => rw [e] at h; cases h
  | some x =>
    rw [e] at h
    cases x with
    | unset => exact XS.store1 (lget e) (Or.inl rfl) hv
    | second => cases h
    | val w => exact XS.store1 (lget e) (Or.inr ⟨w, rfl, by simpa [okSlot] using h⟩) hv
theorem R_istore (C : Cx p s m meth c Z a0 EL own B n nm ret) {j : Nat} {v : Int32} (hd : Dc B pc (.istore j) 2 q) (hl : okS L j = true)
    (k : Run p l e R s m args below meth c Z nw EL K vm h cells slots (fr m q (L.set j (.val (.int v))) r)) : Run p l e R s m args below meth c Z nw EL K vm h cells slots (fr m pc L (.int v :: r)) := by
  obtain ⟨hd, rfl⟩ := hd
  exact Run.plain (fun T A t st => XS.istore A C.1 rfl (hb C.2.1 hd) rfl (okS_store hl rfl) st) k
theorem R_istore_n (C : Cx p s m meth c Z a0 EL own B n nm ret) {j : Fin 4} {v : Int32} (hd : Dc B pc (.istore_n j) 1 q) (hl : okS L j.val = true)
    (k : Run p l e R s m args below meth c Z nw EL K vm h cells slots (fr m q (L.set j.val (.val (.int v))) r)) : Run p l e R s m args below meth c Z nw EL K vm h cells slots (fr m pc L (.int v :: r)) := by
  obtain ⟨hd, rfl⟩ := hd
  exact Run.plain (fun T A t st => XS.istoreN A C.1 rfl (hb C.2.1 hd) rfl (okS_store hl rfl) st) k
theorem R_astore (C : Cx p s m meth c Z a0 EL own B n nm ret) {j : Nat} {v : Value} (hd : Dc B pc (.astore j) 2 q) (hv : v.isRef = true) (hc : v.category = 1) (hl : okS L j = true)
    (k : Run p l e R s m args below meth c Z nw EL K vm h cells slots (fr m q (L.set j (.val v)) r)) : Run p l e R s m args below meth c Z nw EL K vm h cells slots (fr m pc L (v :: r)) := by
  obtain ⟨hd, rfl⟩ := hd
  exact Run.plain (fun T A t st => XS.astore A C.1 rfl (hb C.2.1 hd) rfl hv (okS_store hl hc) st) k
theorem R_astore_n (C : Cx p s m meth c Z a0 EL own B n nm ret) {j : Fin 4} {v : Value} (hd : Dc B pc (.astore_n j) 1 q) (hv : v.isRef = true) (hc : v.category = 1) (hl : okS L j.val = true)
    (k : Run p l e R s m args below meth c Z nw EL K vm h cells slots (fr m q (L.set j.val (.val v)) r)) : Run p l e R s m args below meth c Z nw EL K vm h cells slots (fr m pc L (v :: r)) := by
  obtain ⟨hd, rfl⟩ := hd
  exact Run.plain (fun T A t st => XS.astoreN A C.1 rfl (hb C.2.1 hd) rfl hv (okS_store hl hc) st) k
theorem R_lstore (C : Cx p s m meth c Z a0 EL own B n nm ret) {j : Nat} {v : Int64} {L' : List Slot} (hd : Dc B pc (.lstore j) 2 q) (hl : storeLocals ⟨L⟩ j (.long v) = some ⟨L'⟩)
    (k : Run p l e R s m args below meth c Z nw EL K vm h cells slots (fr m q L' r)) : Run p l e R s m args below meth c Z nw EL K vm h cells slots (fr m pc L (.long v :: r)) := by
  obtain ⟨hd, rfl⟩ := hd
  exact Run.plain (fun T A t st => XT.lstore A C.1 rfl (hb C.2.1 hd) rfl hl st) k
theorem R_iinc (C : Cx p s m meth c Z a0 EL own B n nm ret) {j : Nat} {d : Int} {v w dI : Int32} (hd : Dc B pc (.iinc j d) 3 q) (hl : L[j]? = some (.val (.int v))) (ho : okS L j = true) (hdI : Int32.ofInt d = dI) (hw : v + dI = w)
    (k : Run p l e R s m args below meth c Z nw EL K vm h cells slots (fr m q (L.set j (.val (.int w))) r)) : Run p l e R s m args below meth c Z nw EL K vm h cells slots (fr m pc L r) := by
  obtain ⟨hd, rfl⟩ := hd
  subst hdI hw
  exact Run.plain (fun T A t st => XS.iinc A C.1 rfl (hb C.2.1 hd) (lget hl) (okS_store ho rfl) st) k
theorem R_goto (C : Cx p s m meth c Z a0 EL own B n nm ret) {o : Int} (hd : Jp B pc (.goto o) o q tq)
    (k : Run p l e R s m args below meth c Z nw EL K vm h cells slots (fr m tq L r)) : Run p l e R s m args below meth c Z nw EL K vm h cells slots (fr m pc L r) := by
  obtain ⟨hd, -, h1, h2⟩ := hd
  exact Run.plain (fun T A t st => XS.goto A C.1 rfl rfl (hb C.2.1 hd) h1 h2 st) k
abbrev cpr (cd : ClassFile.Cond) (x y : Int32) : Prop := match cd with | .eq => x = y | .ne => ¬ x = y | .lt => x < y | .ge => ¬ x < y | .gt => y < x | .le => ¬ y < x
theorem cpr_t {cd : ClassFile.Cond} {x y : Int32} (h : cpr cd x y) : if_icmp.holds cd x y = true := by
  cases cd
  · exact (teq h).1
  · exact (feq h).2
  · exact (tlt h).1
  · exact (flt h).2.1
  · exact (tlt h).2.2.1
  · exact (flt h).2.2.2
theorem cpr_f {cd : ClassFile.Cond} {x y : Int32} (h : ¬ cpr cd x y) : if_icmp.holds cd x y = false := by
  cases cd
  · exact (feq h).1
  · exact (teq (Decidable.not_not.mp h)).2
  · exact (flt h).1
  · exact (tlt (Decidable.not_not.mp h)).2.1
  · exact (flt h).2.2.1
  · exact (tlt (Decidable.not_not.mp h)).2.2.2
theorem R_icmp (C : Cx p s m meth c Z a0 EL own B n nm ret) {cd : ClassFile.Cond} {o : Int} {x y : Int32} (hd : Jp B pc (.if_icmp cd o) o q tq)
    (k1 : cpr cd x y → Run p l e R s m args below meth c Z nw EL K vm h cells slots (fr m tq L r)) (k2 : ¬ cpr cd x y → Run p l e R s m args below meth c Z nw EL K vm h cells slots (fr m q L r)) : Run p l e R s m args below meth c Z nw EL K vm h cells slots (fr m pc L (.int y :: .int x :: r)) := by
  obtain ⟨hd, rfl, h1, h2⟩ := hd
  by_cases hc : cpr cd x y
  · exact Run.plain (fun T A t st => XS.icmpYes A C.1 rfl rfl (hb C.2.1 hd) rfl (cpr_t hc) h1 h2 st) (k1 hc)
  · exact Run.plain (fun T A t st => XS.icmpNo A C.1 rfl (hb C.2.1 hd) rfl (cpr_f hc) st) (k2 hc)
theorem R_if (C : Cx p s m meth c Z a0 EL own B n nm ret) {cd : ClassFile.Cond} {o : Int} {x : Int32} (hd : Jp B pc (.ifCond cd o) o q tq)
    (k1 : cpr cd x 0 → Run p l e R s m args below meth c Z nw EL K vm h cells slots (fr m tq L r)) (k2 : ¬ cpr cd x 0 → Run p l e R s m args below meth c Z nw EL K vm h cells slots (fr m q L r)) : Run p l e R s m args below meth c Z nw EL K vm h cells slots (fr m pc L (.int x :: r)) := by
  obtain ⟨hd, rfl, h1, h2⟩ := hd
  by_cases hc : cpr cd x 0
  · exact Run.plain (fun T A t st => XS.ifYes A C.1 rfl rfl (hb C.2.1 hd) rfl ((if0 _ _).trans (cpr_t hc)) h1 h2 st) (k1 hc)
  · exact Run.plain (fun T A t st => XS.ifNo A C.1 rfl (hb C.2.1 hd) rfl ((if0 _ _).trans (cpr_f hc)) st) (k2 hc)
theorem R_ifnull_y (C : Cx p s m meth c Z a0 EL own B n nm ret) {o : Int} (hd : Jp B pc (.ifnull o) o q tq)
    (k : Run p l e R s m args below meth c Z nw EL K vm h cells slots (fr m tq L r)) : Run p l e R s m args below meth c Z nw EL K vm h cells slots (fr m pc L (.null :: r)) := by
  obtain ⟨hd, rfl, h1, h2⟩ := hd
  exact Run.plain (fun T A t st => XS.ifnullYes A C.1 rfl rfl (hb C.2.1 hd) rfl h1 h2 st) k
theorem R_ifnull_n (C : Cx p s m meth c Z a0 EL own B n nm ret) {o : Int} (hd : Jp B pc (.ifnull o) o q tq)
    (k : Run p l e R s m args below meth c Z nw EL K vm h cells slots (fr m q L r)) : Run p l e R s m args below meth c Z nw EL K vm h cells slots (fr m pc L (.ref a :: r)) := by
  obtain ⟨hd, rfl, h1, h2⟩ := hd
  exact Run.plain (fun T A t st => XS.ifnullNo A C.1 rfl (hb C.2.1 hd) rfl st) k
theorem R_ifnonnull_y (C : Cx p s m meth c Z a0 EL own B n nm ret) {o : Int} (hd : Jp B pc (.ifnonnull o) o q tq)
    (k : Run p l e R s m args below meth c Z nw EL K vm h cells slots (fr m tq L r)) : Run p l e R s m args below meth c Z nw EL K vm h cells slots (fr m pc L (.ref a :: r)) := by
  obtain ⟨hd, rfl, h1, h2⟩ := hd
  exact Run.plain (fun T A t st => XT.ifnonnullYes A C.1 rfl rfl (hb C.2.1 hd) rfl h1 h2 st) k
theorem R_ifnonnull_n (C : Cx p s m meth c Z a0 EL own B n nm ret) {o : Int} (hd : Jp B pc (.ifnonnull o) o q tq)
    (k : Run p l e R s m args below meth c Z nw EL K vm h cells slots (fr m q L r)) : Run p l e R s m args below meth c Z nw EL K vm h cells slots (fr m pc L (.null :: r)) := by
  obtain ⟨hd, rfl, h1, h2⟩ := hd
  exact Run.plain (fun T A t st => XT.ifnonnullNo A C.1 rfl (hb C.2.1 hd) rfl st) k
theorem R_acmp_ne (C : Cx p s m meth c Z a0 EL own B n nm ret) {o : Int} {v w : Value} (hd : Jp B pc (.if_acmp .ne o) o q tq) (hv : v.isRef = true) (hw : w.isRef = true)
    (k1 : v ≠ w → Run p l e R s m args below meth c Z nw EL K vm h cells slots (fr m tq L r)) (k2 : v = w → Run p l e R s m args below meth c Z nw EL K vm h cells slots (fr m q L r)) : Run p l e R s m args below meth c Z nw EL K vm h cells slots (fr m pc L (w :: v :: r)) := by
  obtain ⟨hd, rfl, h1, h2⟩ := hd
  by_cases hc : v = w
  · exact Run.plain (fun T A t st => XT.acmpNo A C.1 rfl (hb C.2.1 hd) rfl hv hw (by simp [XT.acmp, hc]) st) (k2 hc)
  · exact Run.plain (fun T A t st => XT.acmpYes A C.1 rfl rfl (hb C.2.1 hd) rfl hv hw (by simp [XT.acmp, hc]) h1 h2 st) (k1 hc)
theorem R_acmp_eq (C : Cx p s m meth c Z a0 EL own B n nm ret) {o : Int} {v w : Value} (hd : Jp B pc (.if_acmp .eq o) o q tq) (hv : v.isRef = true) (hw : w.isRef = true)
    (k1 : v = w → Run p l e R s m args below meth c Z nw EL K vm h cells slots (fr m tq L r)) (k2 : v ≠ w → Run p l e R s m args below meth c Z nw EL K vm h cells slots (fr m q L r)) : Run p l e R s m args below meth c Z nw EL K vm h cells slots (fr m pc L (w :: v :: r)) := by
  obtain ⟨hd, rfl, h1, h2⟩ := hd
  by_cases hc : v = w
  · exact Run.plain (fun T A t st => XT.acmpYes A C.1 rfl rfl (hb C.2.1 hd) rfl hv hw (by simp [XT.acmp, hc]) h1 h2 st) (k1 hc)
  · exact Run.plain (fun T A t st => XT.acmpNo A C.1 rfl (hb C.2.1 hd) rfl hv hw (by simp [XT.acmp, hc]) st) (k2 hc)
theorem R_getfield (C : Cx p s m meth c Z a0 EL own B n nm ret) {idx : Nat} {R0 O f d : String} {v : Value} (hd : Dc B pc (.getfield idx) 3 q) (w : (Cond.fieldLink own idx R0 f d).before a0 Z = true) (via : Via Z R0 O f d) (F : Fld Z h a O f d v)
    (k : Run p l e R s m args below meth c Z nw EL K vm h cells slots (fr m q L (v :: r))) : Run p l e R s m args below meth c Z nw EL K vm h cells slots (fr m pc L (.ref a :: r)) := by
  obtain ⟨hd, rfl⟩ := hd
  exact Run.warm C (fun T locs X e1 hZ hown => getF X C.1 hZ hown (host := "") (Or.inl w) via e1 F (g := fr m pc L (.ref a :: r)) rfl rfl (hb C.2.1 hd)) k
theorem R_getfieldN (C : Cx p s m meth c Z a0 EL own B n nm ret) {idx : Nat} {R0 O f d host : String} {v : Value} (hd : Dc B pc (.getfield idx) 3 q) (w : (Cond.fieldLinkNest own idx R0 f d host).before a0 Z = true) (via : Via Z R0 O f d) (F : Fld Z h a O f d v)
    (k : Run p l e R s m args below meth c Z nw EL K vm h cells slots (fr m q L (v :: r))) : Run p l e R s m args below meth c Z nw EL K vm h cells slots (fr m pc L (.ref a :: r)) := by
  obtain ⟨hd, rfl⟩ := hd
  exact Run.warm C (fun T locs X e1 hZ hown => getF X C.1 hZ hown (Or.inr w) via e1 F (g := fr m pc L (.ref a :: r)) rfl rfl (hb C.2.1 hd)) k
theorem R_putfield (C : Cx p s m meth c Z a0 EL own B n nm ret) {idx kk : Nat} {R0 O f d Cn : String} {ty : FieldType} {v old : Value} (hd : Dc B pc (.putfield idx) 3 q) (w : (Cond.fieldLink own idx R0 f d).before a0 Z = true) (via : Via Z R0 O f d)
    (F : Fld Z h a O f d old) (E : Exa Z h a Cn) (La : (Cond.lays Cn O f d).before a0 Z = true ∨ ((Cond.laysFinal Cn O f d).before a0 Z = true ∧ own = O ∧ nm = "<init>")) (wi : (Cond.instantiable Cn kk).before a0 Z = true)
    (hty : parseFieldDescriptor d = some ty) (hn : narrow ty v = v) (hf : fits ty v = true) (ha : Z.heap.size ≤ a) (hs : Safe Z EL vm h a)
    (k : ∀ h', Wr h h' a (RoadKit.slotOf Z O f d) v → (∀ x, Safe Z EL vm h x → Safe Z EL vm h' x) → Run p l e R s m args below meth c Z nw EL K vm h' cells slots (fr m q L r)) : Run p l e R s m args below meth c Z nw EL K vm h cells slots (fr m pc L (v :: .ref a :: r)) := by
  obtain ⟨hd, rfl⟩ := hd
  exact Run.write C (fun T locs X e1 hZ hown => putF X C.1 hZ hown (host := "") (Or.inl w) via e1 F E (La.imp id fun z => ⟨z.1, z.2.1, C.2.2.2.2.2.1.trans z.2.2⟩) wi hty hn hf (g := fr m pc L (v :: .ref a :: r)) rfl rfl (hb C.2.1 hd)) ha hs k
theorem R_getstatic (C : Cx p s m meth c Z a0 EL own B n nm ret) {idx : Nat} {R0 O f d : String} {v : Value} (hd : Dc B pc (.getstatic idx) 3 q) (w : (Cond.fieldLink own idx R0 f d).before a0 Z = true) (via : Via Z R0 O f d) (F : Sta Z h O f d v)
    (k : Run p l e R s m args below meth c Z nw EL K vm h cells slots (fr m q L (v :: r))) : Run p l e R s m args below meth c Z nw EL K vm h cells slots (fr m pc L r) := by
  obtain ⟨hd, rfl⟩ := hd
  exact Run.warm C (fun T locs X e1 hZ hown => getS X C.1 hZ hown (host := "") w via e1 F (g := fr m pc L r) rfl (hb C.2.1 hd)) k
theorem R_new (C : Cx p s m meth c Z a0 EL own B n nm ret) {idx nn : Nat} {Cn : String} (hd : Dc B pc (.new idx) 3 q) (w : (Cond.classLink own idx Cn).before a0 Z = true) (wi : (Cond.instantiable Cn nn).before a0 Z = true) (wz : (Cond.initialized Cn).before a0 Z = true) (hc : cells + 1 ≤ R.cells) (hl : slots + nn ≤ R.slots)
    (k : ∀ h', Ext h h' → (Exa Z h' h.size Cn ∧ (∀ {O f d : String} {ty : FieldType}, Laid Z a0 Cn O f d → parseFieldDescriptor d = some ty → Fld Z h' h.size O f d (defaultValue ty))) → Safe Z EL vm h' h.size → (∀ x, Safe Z EL vm h x → Safe Z EL vm h' x) → Run p l e R s m args below meth c Z nw EL K vm h' (cells + 1) (slots + nn) (fr m q L (.ref h.size :: r))) : Run p l e R s m args below meth c Z nw EL K vm h cells slots (fr m pc L r) := by
  obtain ⟨hd, rfl⟩ := hd
  refine Run.grow C (F := fun h' => Exa Z h' h.size Cn ∧ (∀ {O f d : String} {ty : FieldType}, Laid Z a0 Cn O f d → parseFieldDescriptor d = some ty → Fld Z h' h.size O f d (defaultValue ty))) (fun T locs X e1 hZ hown => ?_) (fun h' E F H Sf => k h' E F (Safe.ext E H (Safe.new (Nat.le_refl _))) Sf)
  obtain ⟨T', h', X', e2, E, A, D, -, st⟩ := newO X C.1 hZ hown w wi wz e1 (g := fr m pc L r) rfl (hb C.2.1 hd) hc hl
  exact ⟨T', h', X', e2, E, ⟨A, D⟩, st⟩
theorem R_initO (C : Cx p s m meth c Z a0 EL own B n nm ret) {idx : Nat} (hd : Dc B pc (.invokespecial idx) 3 q) (w1 : (Cond.methodLink own idx Lib.objectInit).before a0 Z = true) (w2 : (Cond.instanceMethod Lib.objectInit).before a0 Z = true) (w3 : (Cond.code Lib.objectInit Jvm.Pilot.@@N@@.object_method_1_code 1 none).before a0 Z = true)
    (hz : L.length = n) (hf : 1 ≤ R.frames) (hl : (r.map fun v => v.category).sum + 12 ≤ R.locals)
    (k : Run p l e R s m args below meth c Z nw EL K vm h cells slots (fr m q L r)) : Run p l e R s m args below meth c Z nw EL K vm h cells slots (fr m pc L (.ref a :: r)) := by
  obtain ⟨hd, rfl⟩ := hd
  exact Run.warm C (fun T locs X e1 hZ hown => initO X C.1 hZ hown w1 w2 w3 e1 (g := fr m pc L (.ref a :: r)) rfl (by rw [C.2.2.2.1]; exact hz) rfl (hb C.2.1 hd) hf (W := (r.map fun v => v.category).sum) (by show 2 * 0 + _ ≤ _; omega) hl) k
theorem R_checkcast (C : Cx p s m meth c Z a0 EL own B n nm ret) {idx : Nat} {Kn : String} (hd : Dc B pc (.checkcast idx) 3 q) (w : (Cond.classLink own idx Kn).before a0 Z = true) (F : RoadKit.Ins Z h a Kn true)
    (k : Run p l e R s m args below meth c Z nw EL K vm h cells slots (fr m q L (.ref a :: r))) : Run p l e R s m args below meth c Z nw EL K vm h cells slots (fr m pc L (.ref a :: r)) := by
  obtain ⟨hd, rfl⟩ := hd
  exact Run.warm C (fun T locs X e1 hZ hown => castY X C.1 hZ hown w e1 F (g := fr m pc L (.ref a :: r)) rfl rfl (hb C.2.1 hd)) k
theorem R_instanceof_y (C : Cx p s m meth c Z a0 EL own B n nm ret) {idx : Nat} {Kn : String} (hd : Dc B pc (.instanceof idx) 3 q) (w : (Cond.classLink own idx Kn).before a0 Z = true) (F : RoadKit.Ins Z h a Kn true)
    (k : Run p l e R s m args below meth c Z nw EL K vm h cells slots (fr m q L (.int 1 :: r))) : Run p l e R s m args below meth c Z nw EL K vm h cells slots (fr m pc L (.ref a :: r)) := by
  obtain ⟨hd, rfl⟩ := hd
  exact Run.warm C (fun T locs X e1 hZ hown => instY X C.1 hZ hown w e1 F (g := fr m pc L (.ref a :: r)) rfl rfl (hb C.2.1 hd)) k
theorem R_instanceof_n (C : Cx p s m meth c Z a0 EL own B n nm ret) {idx : Nat} {Kn Cn : String} (hd : Dc B pc (.instanceof idx) 3 q) (w : (Cond.classLink own idx Kn).before a0 Z = true) (F : RoadKit.Ins Z s.heap a Kn false) (E : RoadKit.Exa Z s.heap a Cn)
    (k : Run p l e R s m args below meth c Z nw EL K vm h cells slots (fr m q L (.int 0 :: r))) : Run p l e R s m args below meth c Z nw EL K vm h cells slots (fr m pc L (.ref a :: r)) := by
  obtain ⟨hd, rfl⟩ := hd
  exact Run.warm C (fun T locs X e1 hZ hown => instN X C.1 hZ hown w e1 F E (g := fr m pc L (.ref a :: r)) rfl rfl (hb C.2.1 hd)) k
theorem R_ldcInt (C : Cx p s m meth c Z a0 EL own B n nm ret) {idx : Nat} {v : Int32} (hd : Dc B pc (.ldc idx) 2 q) (w : (Cond.constant own idx v).before a0 Z = true)
    (k : Run p l e R s m args below meth c Z nw EL K vm h cells slots (fr m q L (.int v :: r))) : Run p l e R s m args below meth c Z nw EL K vm h cells slots (fr m pc L r) := by
  obtain ⟨hd, rfl⟩ := hd
  exact Run.warm C (fun T locs X e1 hZ hown => ⟨T, X, e1, X.ldcInt C.1 hown (mvT hZ w) (g := fr m pc L r) rfl (hb C.2.1 hd)⟩) k
theorem R_ldc2Long (C : Cx p s m meth c Z a0 EL own B n nm ret) {idx : Nat} {v : Int64} (hd : Dc B pc (.ldc2_w idx) 3 q) (w : (Cond.constantLong own idx v).before a0 Z = true)
    (k : Run p l e R s m args below meth c Z nw EL K vm h cells slots (fr m q L (.long v :: r))) : Run p l e R s m args below meth c Z nw EL K vm h cells slots (fr m pc L r) := by
  obtain ⟨hd, rfl⟩ := hd
  exact Run.warm C (fun T locs X e1 hZ hown => ⟨T, X, e1, X.ldc2Long C.1 hown (mvT hZ w) (g := fr m pc L r) rfl (hb C.2.1 hd)⟩) k
theorem R_return (C : Cx p s m meth c Z a0 EL own B n nm ret) {rm : Room} {Q : Option Value → Heap → Prop} (hd : Dc B pc (.return_) 1 q) (hr : ret = none) (hc : cells ≤ rm.cells) (hs : slots ≤ rm.slots) (hQ : Q none h) :
    Run p l e R s m args below meth c Z nw EL (Kf s Z nw EL rm Q) vm h cells slots (fr m pc L []) :=
  Run.out C (v := none) (fun _ => rfl) hQ hc hs (fun T locs X fs hl => X.returnOut C.1 (C.2.2.2.2.2.2.1.trans hr) (hb C.2.1 hd.1) hl)
theorem R_retI (C : Cx p s m meth c Z a0 EL own B n nm ret) {rm : Room} {Q : Option Value → Heap → Prop} {v : Int32} (hd : Dc B pc (.ireturn) 1 q) (hr : ret = some .int) (hc : cells ≤ rm.cells) (hs : slots ≤ rm.slots) (hQ : Q (some (.int v)) h) :
    Run p l e R s m args below meth c Z nw EL (Kf s Z nw EL rm Q) vm h cells slots (fr m pc L (.int v :: r)) :=
  Run.out C (v := some (.int v)) (fun z => by rw [hr] at z; cases z) hQ hc hs (fun T locs X fs hl => retOut X C.1 (C.2.2.2.2.2.2.1.trans hr) rfl (Or.inl ⟨rfl, Or.inl rfl, v, rfl⟩) (hb C.2.1 hd.1) hl)
theorem R_retN (C : Cx p s m meth c Z a0 EL own B n nm ret) {rm : Room} {Q : Option Value → Heap → Prop} {v : Int32} {t : FieldType} (hd : Dc B pc (.ireturn) 1 q) (hr : ret = some t) (ht : t = .boolean ∨ t = .byte ∨ t = .char ∨ t = .short) (hc : cells ≤ rm.cells) (hs : slots ≤ rm.slots) (hQ : Q (some (.int (nar t v))) h) :
    Run p l e R s m args below meth c Z nw EL (Kf s Z nw EL rm Q) vm h cells slots (fr m pc L (.int v :: r)) :=
  Run.out C (v := some (.int (nar t v))) (fun z => by rw [hr] at z; cases z) hQ hc hs (fun T locs X fs hl => retN X C.1 (C.2.2.2.2.2.2.1.trans hr) ht (hb C.2.1 hd.1) hl)
theorem R_retL (C : Cx p s m meth c Z a0 EL own B n nm ret) {rm : Room} {Q : Option Value → Heap → Prop} {v : Int64} (hd : Dc B pc (.lreturn) 1 q) (hr : ret = some .long) (hc : cells ≤ rm.cells) (hs : slots ≤ rm.slots) (hQ : Q (some (.long v)) h) :
    Run p l e R s m args below meth c Z nw EL (Kf s Z nw EL rm Q) vm h cells slots (fr m pc L (.long v :: r)) :=
  Run.out C (v := some (.long v)) (fun z => by rw [hr] at z; cases z) hQ hc hs (fun T locs X fs hl => retOut X C.1 (C.2.2.2.2.2.2.1.trans hr) rfl (Or.inr (Or.inl ⟨rfl, rfl, v, rfl⟩)) (hb C.2.1 hd.1) hl)
theorem nar_ref {t : FieldType} {v : Value} (hv : v.isRef = true) : narrow t v = v := by cases t <;> cases v <;> first | rfl | cases hv
theorem R_areturn (C : Cx p s m meth c Z a0 EL own B n nm ret) {rm : Room} {Q : Option Value → Heap → Prop} {v : Value} {t : FieldType} (hd : Dc B pc (.areturn) 1 q) (hr : ret = some t) (ht : t.isReference = true) (hv : v.isRef = true) (hc : cells ≤ rm.cells) (hs : slots ≤ rm.slots) (hQ : Q (some v) h) :
    Run p l e R s m args below meth c Z nw EL (Kf s Z nw EL rm Q) vm h cells slots (fr m pc L (v :: r)) :=
  Run.out C (v := some v) (fun z => by rw [hr] at z; cases z) hQ hc hs (fun T locs X fs hl => retOut X C.1 (C.2.2.2.2.2.2.1.trans hr) (nar_ref hv) (Or.inr (Or.inr (Or.inr (Or.inr ⟨rfl, ht, hv⟩)))) (hb C.2.1 hd.1) hl)
theorem R_static (C : Cx p s m meth c Z a0 EL own B n nm ret) {idx n' : Nat} {y : MethodName} {B' : ByteArray} {ret' : Option FieldType} {rm : Room} {sf : List Addr} {Q : Option Value → Heap → Prop} {ps : List FieldType} {rr : Option FieldType} {st : List Value} (argsL : List Value) (hd : Dc B pc (.invokestatic idx) 3 q)
    {nw' : Prop} (M : Met l Z nw' EL y B' n' ret' rm argsL.toArray h sf Q) (hnn : nw → nw') (w1 : (Cond.methodLink own idx y).before a0 Z = true) (w2 : (Cond.static y).before a0 Z = true) (w3 : (Cond.initialized y.cls).before a0 Z = true) (w4 : (Cond.code y B' n' ret').before a0 Z = true)
    (hy : y.cls ≠ "java/lang/invoke/MethodHandle" ∧ y.cls ≠ "java/lang/invoke/VarHandle") (pd : parseMethodDescriptor y.desc = some ⟨ps, rr⟩) (hlen : argsL.length = ps.length) (hst : st = argsL.reverse ++ r) (hz : L.length = n)
    (rf : rm.frames + 1 ≤ R.frames) (rl : (r.map fun v => v.category).sum + (n' + 11) + rm.locals ≤ R.locals) (rc : cells + rm.cells ≤ R.cells) (rs : slots + rm.slots ≤ R.slots) (hsf : ∀ x ∈ sf, Safe Z EL vm h x)
    (k : ∀ v vm' h', Q v h' → h.size ≤ h'.size → (∀ x, x < h.size → Safe Z EL vm h x → Safe Z EL vm' h' x) → (nw' → ∀ x, h.size ≤ x → Safe Z EL vm' h' x) → Run p l e R s m args below meth c Z nw EL K vm' h' (cells + rm.cells) (slots + rm.slots) (fr m q L (v.toList ++ r))) : Run p l e R s m args below meth c Z nw EL K vm h cells slots (fr m pc L st) := by
  obtain ⟨hd, rfl⟩ := hd
  refine Run.back C hnn (Q := Q) (g' := fun v => fr m (pc + 3) L (v.toList ++ r)) (q := 0) (fun kk T locs X e1 hZ hown H hE hS hk => ?_) k
  obtain ⟨v, vm1, Bp, -, X', hS', hg, hP, hst'⟩ := callSS X C.1 hown (mvT (s := s.setVm vm) hZ w1) (mvT (s := s.setVm vm) hZ w2) (mvT (s := s.setVm vm) hZ w3) (mvT (s := s.setVm vm) hZ w4) hy (backM (W := (r.map fun v => v.category).sum) M hZ w4 w3 rf rl C.2.2.2.2.2.2.2 H hE hsf) (g := fr m pc L st) rfl (by rw [C.2.2.2.1]; exact hz) (argsL := argsL) (rest := r) (lenOf pd hlen) hst (by show 2 * 0 + _ ≤ _; omega) (hb C.2.1 hd) (fun _ _ => ⟨rfl, e1, rc, rs⟩)
  exact ⟨v, Bp, X', hS', hg, hP, hst'⟩
theorem R_special (C : Cx p s m meth c Z a0 EL own B n nm ret) {idx n' : Nat} {y : MethodName} {B' : ByteArray} {rm : Room} {sf : List Addr} {Q : Option Value → Heap → Prop} {ps : List FieldType} {rr : Option FieldType} {st : List Value} (argsL : List Value) (hd : Dc B pc (.invokespecial idx) 3 q)
    {nw' : Prop} (M : Met l Z nw' EL y B' n' none rm (.ref a :: argsL).toArray h sf Q) (hnn : nw → nw') (hy1 : y.name = "<init>") (w1 : (Cond.methodLink own idx y).before a0 Z = true) (w2 : (Cond.instanceMethod y).before a0 Z = true) (w3 : (Cond.initialized y.cls).before a0 Z = true) (w4 : (Cond.code y B' n' none).before a0 Z = true)
    (hy : y.cls ≠ "java/lang/invoke/MethodHandle" ∧ y.cls ≠ "java/lang/invoke/VarHandle") (pd : parseMethodDescriptor y.desc = some ⟨ps, rr⟩) (hlen : argsL.length = ps.length) (hst : st = argsL.reverse ++ .ref a :: r) (hz : L.length = n)
    (rf : rm.frames + 1 ≤ R.frames) (rl : (r.map fun v => v.category).sum + (n' + 11) + rm.locals ≤ R.locals) (rc : cells + rm.cells ≤ R.cells) (rs : slots + rm.slots ≤ R.slots) (hsf : ∀ x ∈ sf, Safe Z EL vm h x)
    (k : ∀ v vm' h', Q v h' → h.size ≤ h'.size → (∀ x, x < h.size → Safe Z EL vm h x → Safe Z EL vm' h' x) → (nw' → ∀ x, h.size ≤ x → Safe Z EL vm' h' x) → Run p l e R s m args below meth c Z nw EL K vm' h' (cells + rm.cells) (slots + rm.slots) (fr m q L (v.toList ++ r))) : Run p l e R s m args below meth c Z nw EL K vm h cells slots (fr m pc L st) := by
  obtain ⟨hd, rfl⟩ := hd
  refine Run.back C hnn (Q := Q) (g' := fun v => fr m (pc + 3) L (v.toList ++ r)) (q := 0) (fun kk T locs X e1 hZ hown H hE hS hk => ?_) k
  obtain ⟨v, vm1, Bp, -, X', hS', hg, hP, hst'⟩ := X.specialBackS C.1 hy1 hown (mvT (s := s.setVm vm) hZ w1) (mvT (s := s.setVm vm) hZ w2) (mvT (s := s.setVm vm) hZ w4) hy (backM (W := (r.map fun v => v.category).sum) M hZ w4 w3 rf rl C.2.2.2.2.2.2.2 H hE hsf) (g := fr m pc L st) rfl (by rw [C.2.2.2.1]; exact hz) (Steps.refl _) (a := a) (argsL := argsL) (rest := r) (lenOf pd hlen) hst (by show 2 * 0 + _ ≤ _; omega) (hb C.2.1 hd) (fun _ _ => ⟨rfl, e1, rc, rs⟩)
  exact ⟨v, Bp, X', hS', hg, hP, hst'⟩
theorem R_virtual (C : Cx p s m meth c Z a0 EL own B n nm ret) {idx n' : Nat} {y : MethodName} {B' : ByteArray} {ret' : Option FieldType} {rm : Room} {sf : List Addr} {Q : Option Value → Heap → Prop} {ps : List FieldType} {rr : Option FieldType} {st : List Value} {Cn : String} (argsL : List Value) (hd : Dc B pc (.invokevirtual idx) 3 q)
    {nw' : Prop} (M : Met l Z nw' EL y B' n' ret' rm (.ref a :: argsL).toArray h sf Q) (hnn : nw → nw') (E : Exa Z h a Cn) (w1 : (Cond.methodLink own idx y).before a0 Z = true) (w2 : (Cond.declares y).before a0 Z = true) (w5 : (Cond.selects Cn y y).before a0 Z = true) (w6 : (Cond.instanceMethod y).before a0 Z = true) (w3 : (Cond.initialized y.cls).before a0 Z = true) (w4 : (Cond.code y B' n' ret').before a0 Z = true)
    (hy : y.cls ≠ "java/lang/invoke/MethodHandle" ∧ y.cls ≠ "java/lang/invoke/VarHandle") (pd : parseMethodDescriptor y.desc = some ⟨ps, rr⟩) (hlen : argsL.length = ps.length) (hst : st = argsL.reverse ++ .ref a :: r) (hz : L.length = n)
    (rf : rm.frames + 1 ≤ R.frames) (rl : (r.map fun v => v.category).sum + (n' + 11) + rm.locals ≤ R.locals) (rc : cells + rm.cells ≤ R.cells) (rs : slots + rm.slots ≤ R.slots) (hsf : ∀ x ∈ sf, Safe Z EL vm h x)
    (k : ∀ v vm' h', Q v h' → h.size ≤ h'.size → (∀ x, x < h.size → Safe Z EL vm h x → Safe Z EL vm' h' x) → (nw' → ∀ x, h.size ≤ x → Safe Z EL vm' h' x) → Run p l e R s m args below meth c Z nw EL K vm' h' (cells + rm.cells) (slots + rm.slots) (fr m q L (v.toList ++ r))) : Run p l e R s m args below meth c Z nw EL K vm h cells slots (fr m pc L st) := by
  obtain ⟨hd, rfl⟩ := hd
  refine Run.back C hnn (Q := Q) (g' := fun v => fr m (pc + 3) L (v.toList ++ r)) (q := 0) (fun kk T locs X e1 hZ hown H hE hS hk => ?_) k
  obtain ⟨cq, kq, qa, qb, qc⟩ := isOf (s := s.setVm vm) hZ e1 E
  obtain ⟨v, vm1, Bp, -, X', hS', hg, hP, hst'⟩ := X.virtualBackS C.1 hown (mvT (s := s.setVm vm) hZ w1) (mvT (s := s.setVm vm) hZ w2) (notFace_of_selects (args := #[]) (mvT (s := s.setVm vm) hZ w5)) (mvT (s := s.setVm vm) hZ w5) (mvT (s := s.setVm vm) hZ w6) hy (backM (W := (r.map fun v => v.category).sum) M hZ w4 w3 rf rl C.2.2.2.2.2.2.2 H hE hsf) qa qc (g := fr m pc L st) rfl (by rw [C.2.2.2.1]; exact hz) (Steps.refl _) (argsL := argsL) (rest := r) (lenOf pd hlen) hst (by show 2 * 0 + _ ≤ _; omega) (hb C.2.1 hd) (fun _ _ => ⟨rfl, e1, rc, rs⟩)
  exact ⟨v, Bp, X', hS', hg, hP, hst'⟩
theorem R_private (C : Cx p s m meth c Z a0 EL own B n nm ret) {idx n' : Nat} {y : MethodName} {B' : ByteArray} {ret' : Option FieldType} {rm : Room} {sf : List Addr} {Q : Option Value → Heap → Prop} {ps : List FieldType} {rr : Option FieldType} {st : List Value} {Cn : String} (argsL : List Value) (hd : Dc B pc (.invokevirtual idx) 3 q)
    {nw' : Prop} (M : Met l Z nw' EL y B' n' ret' rm (.ref a :: argsL).toArray h sf Q) (hnn : nw → nw') (E : Exa Z h a Cn) (w1 : (Cond.methodLink own idx y).before a0 Z = true) (w2 : (Cond.privateMethod y).before a0 Z = true) (w5 : (Cond.selects y.cls y y).before a0 Z = true) (w6 : (Cond.instanceMethod y).before a0 Z = true) (w3 : (Cond.initialized y.cls).before a0 Z = true) (w4 : (Cond.code y B' n' ret').before a0 Z = true)
    (hy : y.cls ≠ "java/lang/invoke/MethodHandle" ∧ y.cls ≠ "java/lang/invoke/VarHandle") (pd : parseMethodDescriptor y.desc = some ⟨ps, rr⟩) (hlen : argsL.length = ps.length) (hst : st = argsL.reverse ++ .ref a :: r) (hz : L.length = n)
    (rf : rm.frames + 1 ≤ R.frames) (rl : (r.map fun v => v.category).sum + (n' + 11) + rm.locals ≤ R.locals) (rc : cells + rm.cells ≤ R.cells) (rs : slots + rm.slots ≤ R.slots) (hsf : ∀ x ∈ sf, Safe Z EL vm h x)
    (k : ∀ v vm' h', Q v h' → h.size ≤ h'.size → (∀ x, x < h.size → Safe Z EL vm h x → Safe Z EL vm' h' x) → (nw' → ∀ x, h.size ≤ x → Safe Z EL vm' h' x) → Run p l e R s m args below meth c Z nw EL K vm' h' (cells + rm.cells) (slots + rm.slots) (fr m q L (v.toList ++ r))) : Run p l e R s m args below meth c Z nw EL K vm h cells slots (fr m pc L st) := by
  obtain ⟨hd, rfl⟩ := hd
  refine Run.back C hnn (Q := Q) (g' := fun v => fr m (pc + 3) L (v.toList ++ r)) (q := 0) (fun kk T locs X e1 hZ hown H hE hS hk => ?_) k
  obtain ⟨cell, hcell, hobj⟩ := E.cell
  obtain ⟨v, vm1, Bp, -, X', hS', hg, hP, hst'⟩ := X.privateBackS C.1 (y := y) hown (mvT (s := s.setVm vm) hZ w1) (mvT (s := s.setVm vm) hZ w6) (mvT (s := s.setVm vm) hZ w5) (Cond.privateMethod_at (mvP (s := s.setVm vm) hZ w2 (args := #[]))) (mvT (s := s.setVm vm) hZ w4) hy (backM (W := (r.map fun v => v.category).sum) M hZ w4 w3 rf rl C.2.2.2.2.2.2.2 H hE hsf) (g := fr m pc L st) rfl (by rw [C.2.2.2.1]; exact hz) (Steps.refl _) (a := a) (by rw [e1]; exact hcell) hobj (argsL := argsL) (rest := r) (lenOf pd hlen) hst (by show 2 * 0 + _ ≤ _; omega) (hb C.2.1 hd) (fun _ _ => ⟨rfl, e1, rc, rs⟩)
  exact ⟨v, Bp, X', hS', hg, hP, hst'⟩
theorem R_privateI (C : Cx p s m meth c Z a0 EL own B n nm ret) {idx n' ki : Nat} {y : MethodName} {B' : ByteArray} {ret' : Option FieldType} {rm : Room} {sf : List Addr} {Q : Option Value → Heap → Prop} {ps : List FieldType} {rr : Option FieldType} {st : List Value} {Cn : String} (argsL : List Value) (hd : Dc B pc (.invokevirtual idx) 3 q)
    {nw' : Prop} (M : Met l Z nw' EL y B' n' ret' rm (.ref a :: argsL).toArray h sf Q) (hnn : nw → nw') (E : Exa Z h a Cn) (w1 : (Cond.methodLink own idx y).before a0 Z = true) (w2 : (Cond.privateMethod y).before a0 Z = true) (w5 : (Cond.instantiable y.cls ki).before a0 Z = true) (w6 : (Cond.instanceMethod y).before a0 Z = true) (w3 : (Cond.initialized y.cls).before a0 Z = true) (w4 : (Cond.code y B' n' ret').before a0 Z = true)
    (hy : y.cls ≠ "java/lang/invoke/MethodHandle" ∧ y.cls ≠ "java/lang/invoke/VarHandle") (pd : parseMethodDescriptor y.desc = some ⟨ps, rr⟩) (hlen : argsL.length = ps.length) (hst : st = argsL.reverse ++ .ref a :: r) (hz : L.length = n)
    (rf : rm.frames + 1 ≤ R.frames) (rl : (r.map fun v => v.category).sum + (n' + 11) + rm.locals ≤ R.locals) (rc : cells + rm.cells ≤ R.cells) (rs : slots + rm.slots ≤ R.slots) (hsf : ∀ x ∈ sf, Safe Z EL vm h x)
    (k : ∀ v vm' h', Q v h' → h.size ≤ h'.size → (∀ x, x < h.size → Safe Z EL vm h x → Safe Z EL vm' h' x) → (nw' → ∀ x, h.size ≤ x → Safe Z EL vm' h' x) → Run p l e R s m args below meth c Z nw EL K vm' h' (cells + rm.cells) (slots + rm.slots) (fr m q L (v.toList ++ r))) : Run p l e R s m args below meth c Z nw EL K vm h cells slots (fr m pc L st) := by
  obtain ⟨hd, rfl⟩ := hd
  refine Run.back C hnn (Q := Q) (g' := fun v => fr m (pc + 3) L (v.toList ++ r)) (q := 0) (fun kk T locs X e1 hZ hown H hE hS hk => ?_) k
  obtain ⟨cell, hcell, hobj⟩ := E.cell
  have hK := backM (p := p) (e := e) (below := below) (s := s) (args := args) (R := R) (len := 3) (W := (r.map fun v => v.category).sum) M hZ w4 w3 rf rl C.2.2.2.2.2.2.2 H hE hsf
  obtain ⟨mk, methM, hnamed, hmethM, hstM, habM⟩ := Cond.instanceMethod_spec (mvT (s := s.setVm vm) (args := args) hZ w6)
  obtain ⟨methM', cM, hmethM', -, -, -, -, -, -, hsigM⟩ := Cond.code_spec hnamed (mvT (s := s.setVm vm) (args := args) hZ w4)
  cases hmethM.symm.trans hmethM'
  obtain ⟨ci, kP, i1, hkP, -, i4, -⟩ := Cond.instantiable_spec (mvT (s := s.setVm vm) (args := args) hZ w5)
  have hcls := findClass_of_methodNamed hnamed
  cases hcls.symm.trans i1
  have hkPi : kP.isInterface = false := (Bool.or_eq_false_iff.mp i4).1
  have hpriv := Cond.privateMethod_at (mvP (s := s.setVm vm) hZ w2 (args := #[]))
  have hselP : selectMethod e.platform (s.setVm vm).vm cell.cls mk = .method mk := selectMethod_private hmethM (hpriv mk methM hnamed hmethM)
  obtain ⟨vm₁, X₁, hstep₁⟩ := X.invokevirtual C.1 hown (mvT (s := s.setVm vm) hZ w1) hnamed hmethM hstM hkP hkPi hy (a := a) (cell := cell) (by rw [e1]; exact hcell) hobj hselP hmethM habM hkP hkPi (g := fr m pc L st) rfl (argsL := argsL) (rest := r) (lenOf pd hlen _ hsigM) hst (hb C.2.1 hd)
  obtain ⟨v, Bp, X', hS', hgr, hpost, hsteps⟩ := hK m meth c ⟨T.setVm vm₁, locs, cells, slots⟩ (fr m pc L r) (.invokevirtual idx) mk (.ref a :: argsL).toArray X₁ rfl (by rw [C.2.2.2.1]; exact hz) (hb C.2.1 hd) (by show 2 * 0 + (r.map fun v => v.category).sum ≤ (r.map fun v => v.category).sum; omega) (X₁.named hnamed) ⟨rfl, e1, rc, rs⟩
  exact ⟨v, Bp, X', hS', hgr, hpost, (hstep₁ _ fun acts => by rw [doInvoke_state]; exact Steps.refl _).trans hsteps⟩
theorem nf_of {Z : State} {a0 : Array Value} {C : String} {y y' : MethodName} (w : (Cond.selects C y' y').before a0 Z = true) (hc : y'.cls = y.cls) : NotFace Z y := fun r0 h0 => by
  obtain ⟨c2, r2, m2, q1, q2, q3, q4, kP, hkP, hkPi⟩ := Cond.selects_spec w
  have e1 := findClass_of_methodNamed q3
  have e2 := findClass_of_methodNamed h0
  rw [hc] at e1
  have e3 : m2.cls = r0.cls := Option.some.inj (e1.symm.trans e2)
  exact ⟨kP, by rw [← e3]; exact hkP, hkPi⟩
theorem same_of {Z : State} {a0 : Array Value} {C : String} {y y' : MethodName} (w : (Cond.selects C y' y').before a0 Z = true) (hc : y'.cls = y.cls) (w2 : (Cond.instanceMethod y).before a0 Z = true) (hy : y.cls ≠ "java/lang/invoke/MethodHandle" ∧ y.cls ≠ "java/lang/invoke/VarHandle") : (Cond.sameMethod y.cls y.cls y.name y.desc).before a0 Z = true := by
  obtain ⟨mk, methM, hnamed, -, -, -⟩ := Cond.instanceMethod_spec w2
  obtain ⟨kP, hkP, hkPi⟩ := nf_of w hc mk hnamed
  have e1 := findClass_of_methodNamed hnamed
  have e2 := State.methodFound?_of_named hnamed hy
  have e3 : Z.methodNamed? ⟨y.cls, y.name, y.desc⟩ = some mk := hnamed
  simp [Cond.before, Cond.holds, Cond.value, e1, e2, e3, hkP, hkPi]
theorem R_super (C : Cx p s m meth c Z a0 EL own B n nm ret) {idx n' : Nat} {y y' : MethodName} {B' : ByteArray} {ret' : Option FieldType} {rm : Room} {sf : List Addr} {Q : Option Value → Heap → Prop} {ps : List FieldType} {rr : Option FieldType} {st : List Value} {Cn Cs : String} (argsL : List Value) (hd : Dc B pc (.invokespecial idx) 3 q)
    {nw' : Prop} (M : Met l Z nw' EL y B' n' ret' rm (.ref a :: argsL).toArray h sf Q) (hnn : nw → nw') (E : Exa Z h a Cn) (w1 : (Cond.methodLink own idx y).before a0 Z = true) (w5 : (Cond.selects Cs y' y').before a0 Z = true) (hcc : y'.cls = y.cls) (w6 : (Cond.instanceMethod y).before a0 Z = true) (w7 : (Cond.superclass own y.cls).before a0 Z = true) (w3 : (Cond.initialized y.cls).before a0 Z = true) (w4 : (Cond.code y B' n' ret').before a0 Z = true) (hn1 : y.name ≠ "<init>")
    (hy : y.cls ≠ "java/lang/invoke/MethodHandle" ∧ y.cls ≠ "java/lang/invoke/VarHandle") (pd : parseMethodDescriptor y.desc = some ⟨ps, rr⟩) (hlen : argsL.length = ps.length) (hst : st = argsL.reverse ++ .ref a :: r) (hz : L.length = n)
    (rf : rm.frames + 1 ≤ R.frames) (rl : (r.map fun v => v.category).sum + (n' + 11) + rm.locals ≤ R.locals) (rc : cells + rm.cells ≤ R.cells) (rs : slots + rm.slots ≤ R.slots) (hsf : ∀ x ∈ sf, Safe Z EL vm h x)
    (k : ∀ v vm' h', Q v h' → h.size ≤ h'.size → (∀ x, x < h.size → Safe Z EL vm h x → Safe Z EL vm' h' x) → (nw' → ∀ x, h.size ≤ x → Safe Z EL vm' h' x) → Run p l e R s m args below meth c Z nw EL K vm' h' (cells + rm.cells) (slots + rm.slots) (fr m q L (v.toList ++ r))) : Run p l e R s m args below meth c Z nw EL K vm h cells slots (fr m pc L st) := by
  obtain ⟨hd, rfl⟩ := hd
  refine Run.back C hnn (Q := Q) (g' := fun v => fr m (pc + 3) L (v.toList ++ r)) (q := 0) (fun kk T locs X e1 hZ hown H hE hS hk => ?_) k
  obtain ⟨v, vm1, Bp, -, X', hS', hg, hP, hst'⟩ := superBackS X C.1 (s := s.setVm vm) hZ hown w1 (same_of w5 hcc w6 hy) w6 w7 hn1 (backM (W := (r.map fun v => v.category).sum) M hZ w4 w3 rf rl C.2.2.2.2.2.2.2 H hE hsf) e1 (RoadKit.Ins.self E) (g := fr m pc L st) rfl (by rw [C.2.2.2.1]; exact hz) w4 (argsL := argsL) (rest := r) (lenOf pd hlen) hst (by show 2 * 0 + _ ≤ _; omega) (hb C.2.1 hd) (fun _ _ => ⟨rfl, e1, rc, rs⟩)
  exact ⟨v, Bp, X', hS', hg, hP, hst'⟩
theorem R_virtual2 (C : Cx p s m meth c Z a0 EL own B n nm ret) {idx n' : Nat} {y z y' : MethodName} {B' : ByteArray} {ret' : Option FieldType} {rm : Room} {sf : List Addr} {Q : Option Value → Heap → Prop} {ps : List FieldType} {rr : Option FieldType} {st : List Value} {Cn : String} (argsL : List Value) (hd : Dc B pc (.invokevirtual idx) 3 q)
    {nw' : Prop} (M : Met l Z nw' EL z B' n' ret' rm (.ref a :: argsL).toArray h sf Q) (hnn : nw → nw') (E : Exa Z h a Cn) (w1 : (Cond.methodLink own idx y).before a0 Z = true) (w2 : (Cond.declares y).before a0 Z = true) (w5 : (Cond.selects Cn y z).before a0 Z = true) (w8 : (Cond.selects Cn y' y').before a0 Z = true) (hcc : y'.cls = y.cls) (w6 : (Cond.instanceMethod z).before a0 Z = true) (w3 : (Cond.initialized z.cls).before a0 Z = true) (w4 : (Cond.code z B' n' ret').before a0 Z = true)
    (hy : y.cls ≠ "java/lang/invoke/MethodHandle" ∧ y.cls ≠ "java/lang/invoke/VarHandle") (pd : parseMethodDescriptor y.desc = some ⟨ps, rr⟩) (hlen : argsL.length = ps.length) (hst : st = argsL.reverse ++ .ref a :: r) (hz : L.length = n)
    (rf : rm.frames + 1 ≤ R.frames) (rl : (r.map fun v => v.category).sum + (n' + 11) + rm.locals ≤ R.locals) (rc : cells + rm.cells ≤ R.cells) (rs : slots + rm.slots ≤ R.slots) (hsf : ∀ x ∈ sf, Safe Z EL vm h x)
    (k : ∀ v vm' h', Q v h' → h.size ≤ h'.size → (∀ x, x < h.size → Safe Z EL vm h x → Safe Z EL vm' h' x) → (nw' → ∀ x, h.size ≤ x → Safe Z EL vm' h' x) → Run p l e R s m args below meth c Z nw EL K vm' h' (cells + rm.cells) (slots + rm.slots) (fr m q L (v.toList ++ r))) : Run p l e R s m args below meth c Z nw EL K vm h cells slots (fr m pc L st) := by
  obtain ⟨hd, rfl⟩ := hd
  refine Run.back C hnn (Q := Q) (g' := fun v => fr m (pc + 3) L (v.toList ++ r)) (q := 0) (fun kk T locs X e1 hZ hown H hE hS hk => ?_) k
  obtain ⟨cq, kq, qa, qb, qc⟩ := isOf (s := s.setVm vm) hZ e1 E
  obtain ⟨v, vm1, Bp, -, X', hS', hg, hP, hst'⟩ := X.virtualBackS C.1 hown (mvT (s := s.setVm vm) hZ w1) (mvT (s := s.setVm vm) hZ w2) (nf_of (mvT (s := s.setVm vm) (args := #[]) hZ w8) hcc) (mvT (s := s.setVm vm) hZ w5) (mvT (s := s.setVm vm) hZ w6) hy (backM (W := (r.map fun v => v.category).sum) M hZ w4 w3 rf rl C.2.2.2.2.2.2.2 H hE hsf) qa qc (g := fr m pc L st) rfl (by rw [C.2.2.2.1]; exact hz) (Steps.refl _) (argsL := argsL) (rest := r) (lenOf pd hlen) hst (by show 2 * 0 + _ ≤ _; omega) (hb C.2.1 hd) (fun _ _ => ⟨rfl, e1, rc, rs⟩)
  exact ⟨v, Bp, X', hS', hg, hP, hst'⟩
theorem R_privateS (C : Cx p s m meth c Z a0 EL own B n nm ret) {idx n' : Nat} {y : MethodName} {B' : ByteArray} {ret' : Option FieldType} {rm : Room} {sf : List Addr} {Q : Option Value → Heap → Prop} {ps : List FieldType} {rr : Option FieldType} {st : List Value} {Cn Cs : String} (argsL : List Value) (hd : Dc B pc (.invokevirtual idx) 3 q)
    {nw' : Prop} (M : Met l Z nw' EL y B' n' ret' rm (.ref a :: argsL).toArray h sf Q) (hnn : nw → nw') (E : Exa Z h a Cn) (w1 : (Cond.methodLink own idx y).before a0 Z = true) (w2 : (Cond.privateMethod y).before a0 Z = true) (w5 : (Cond.selects Cs y y).before a0 Z = true) (w6 : (Cond.instanceMethod y).before a0 Z = true) (w3 : (Cond.initialized y.cls).before a0 Z = true) (w4 : (Cond.code y B' n' ret').before a0 Z = true)
    (hy : y.cls ≠ "java/lang/invoke/MethodHandle" ∧ y.cls ≠ "java/lang/invoke/VarHandle") (pd : parseMethodDescriptor y.desc = some ⟨ps, rr⟩) (hlen : argsL.length = ps.length) (hst : st = argsL.reverse ++ .ref a :: r) (hz : L.length = n)
    (rf : rm.frames + 1 ≤ R.frames) (rl : (r.map fun v => v.category).sum + (n' + 11) + rm.locals ≤ R.locals) (rc : cells + rm.cells ≤ R.cells) (rs : slots + rm.slots ≤ R.slots) (hsf : ∀ x ∈ sf, Safe Z EL vm h x)
    (k : ∀ v vm' h', Q v h' → h.size ≤ h'.size → (∀ x, x < h.size → Safe Z EL vm h x → Safe Z EL vm' h' x) → (nw' → ∀ x, h.size ≤ x → Safe Z EL vm' h' x) → Run p l e R s m args below meth c Z nw EL K vm' h' (cells + rm.cells) (slots + rm.slots) (fr m q L (v.toList ++ r))) : Run p l e R s m args below meth c Z nw EL K vm h cells slots (fr m pc L st) := by
  obtain ⟨hd, rfl⟩ := hd
  refine Run.back C hnn (Q := Q) (g' := fun v => fr m (pc + 3) L (v.toList ++ r)) (q := 0) (fun kk T locs X e1 hZ hown H hE hS hk => ?_) k
  obtain ⟨cell, hcell, hobj⟩ := E.cell
  have hK := backM (p := p) (e := e) (below := below) (s := s) (args := args) (R := R) (len := 3) (W := (r.map fun v => v.category).sum) M hZ w4 w3 rf rl C.2.2.2.2.2.2.2 H hE hsf
  obtain ⟨mk, methM, hnamed, hmethM, hstM, habM⟩ := Cond.instanceMethod_spec (mvT (s := s.setVm vm) (args := args) hZ w6)
  obtain ⟨methM', cM, hmethM', -, -, -, -, -, -, hsigM⟩ := Cond.code_spec hnamed (mvT (s := s.setVm vm) (args := args) hZ w4)
  cases hmethM.symm.trans hmethM'
  obtain ⟨kP, hkP, hkPi⟩ := notFace_of_selects (args := #[]) (mvT (s := s.setVm vm) hZ w5) mk hnamed
  have hpriv := Cond.privateMethod_at (mvP (s := s.setVm vm) hZ w2 (args := #[]))
  have hselP : selectMethod e.platform (s.setVm vm).vm cell.cls mk = .method mk := selectMethod_private hmethM (hpriv mk methM hnamed hmethM)
  obtain ⟨vm₁, X₁, hstep₁⟩ := X.invokevirtual C.1 hown (mvT (s := s.setVm vm) hZ w1) hnamed hmethM hstM hkP hkPi hy (a := a) (cell := cell) (by rw [e1]; exact hcell) hobj hselP hmethM habM hkP hkPi (g := fr m pc L st) rfl (argsL := argsL) (rest := r) (lenOf pd hlen _ hsigM) hst (hb C.2.1 hd)
  obtain ⟨v, Bp, X', hS', hgr, hpost, hsteps⟩ := hK m meth c ⟨T.setVm vm₁, locs, cells, slots⟩ (fr m pc L r) (.invokevirtual idx) mk (.ref a :: argsL).toArray X₁ rfl (by rw [C.2.2.2.1]; exact hz) (hb C.2.1 hd) (by show 2 * 0 + (r.map fun v => v.category).sum ≤ (r.map fun v => v.category).sum; omega) (X₁.named hnamed) ⟨rfl, e1, rc, rs⟩
  exact ⟨v, Bp, X', hS', hgr, hpost, (hstep₁ _ fun acts => by rw [doInvoke_state]; exact Steps.refl _).trans hsteps⟩
end Steps
end Jvm.Own
namespace Jvm.Own
open Sem ClassFile Op Lib Bundle Jvm.Stand Jvm.Free Jvm.LawKit Jvm.RoadKit
section Arrays
variable {p : Program} {l : Launch} {e : Env} {R : Room} {s : State} {m : MethodId} {args : Array Value} {below : List Frame} {meth : Method} {c : Code} {Z : State} {a0 : Array Value} {nw : Prop} {EL : List (String × Nat)} {K : State → Outcome → Prop} {vm : Vm} {h h' h0 : Heap} {cells slots : Nat} {own nm : String} {B : ByteArray} {n : Nat} {ret : Option FieldType} {pc q tq : Nat} {L : List Slot} {r : List Value} {a b : Addr} {ty : FieldType} {N sl : Nat} {f g : Nat → Value} {v : Value}
/-- the array at a: N places, place i holds f i -/
def AR (Z : State) (h : Heap) (a : Addr) (ty : FieldType) (N : Nat) (f : Nat → Value) : Prop :=
  ∃ cl : Cell, Arr Z h a cl ty ∧ cl.slots.size = N ∧ N < 2 ^ 31 ∧ ∀ i, i < N → cl.slots[i]? = some (f i) ∧ fits ty (f i) = true
def upd (f : Nat → Value) (j : Nat) (v : Value) : Nat → Value := fun i => if i = j then v else f i
theorem upd_eq {j : Nat} : upd f j v j = v := if_pos rfl
theorem upd_ne {i j : Nat} (q : i ≠ j) : upd f j v i = f i := if_neg q
theorem AR.lt (A : AR Z h a ty N f) : a < h.size := by obtain ⟨cl, A, -⟩ := A; exact A.lt
theorem AR.small (A : AR Z h a ty N f) : N < 2 ^ 31 := by obtain ⟨cl, A, -, q, -⟩ := A; exact q
theorem AR.ext (A : AR Z h a ty N f) (E : Ext h h') : AR Z h' a ty N f := by obtain ⟨cl, A, r⟩ := A; exact ⟨cl, A.ext E, r⟩
theorem AR.other (A : AR Z h a ty N f) (W : Wr h h' b sl v) (q : a ≠ b) : AR Z h' a ty N f := by obtain ⟨cl, A, r⟩ := A; exact ⟨cl, A.other W q, r⟩
theorem AR.keep {ws : List Addr} (A : AR Z h a ty N f) (K : Keep h h' ws) (q : a ∉ ws) : AR Z h' a ty N f := by obtain ⟨cl, A, r⟩ := A; exact ⟨cl, ⟨K.2.1 a cl A.1 q, A.2⟩, r⟩
theorem AR.cg (A : AR Z h a ty N f) (q : ∀ i, i < N → f i = g i) : AR Z h a ty N g := by
  obtain ⟨cl, A, h1, h2, H⟩ := A
  exact ⟨cl, A, h1, h2, fun i hi => by rw [← q i hi]; exact H i hi⟩
theorem AR.set (A : AR Z h a ty N f) {j : Nat} (W : Wr h h' a j v) (hv : fits ty v = true) : AR Z h' a ty N (upd f j v) := by
  obtain ⟨cl, A, hn, h31, H⟩ := A
  refine ⟨cl.setSlot j v, A.same W, by rw [sz_set]; exact hn, h31, fun i hi => ?_⟩
  unfold upd
  by_cases e : i = j
  · subst e
    rw [if_pos rfl]
    exact ⟨by simp [Cell.setSlot, hn, hi], hv⟩
  · rw [if_neg e]
    exact ⟨(Array.getElem?_setIfInBounds_ne (Ne.symm e)).trans (H i hi).1, (H i hi).2⟩
theorem AR.fit (A : AR Z h a ty N f) {i : Nat} (hi : i < N) : fits ty (f i) = true := by obtain ⟨cl, A, h1, h2, H⟩ := A; exact (H i hi).2
theorem AR.safe (A : AR Z h a ty N f) (hW : Z.Warmed39 vm) (ht : ty ≠ .byte) : Safe Z EL vm h a := by obtain ⟨cl, A, -⟩ := A; exact Safe.arr hW.alike A ht
theorem AR.neExa {C : String} {k : Nat} (A : AR Z h a ty N f) (E : Exa Z h b C) (w : (Cond.instantiable C k).before a0 Z = true) : a ≠ b := by obtain ⟨cl, A, -⟩ := A; exact (ne_arr E w A).symm
theorem AR.start (hf : Fit Z) {t : Term} (ev : t.eval args Z none [] Z = some (.ref a)) (hx : (Cond.arrayOf t ty).value args Z none Z [] = some true) {w : Int32} (hl : (Cond.eq (.length t) (.int w)).value args Z none Z [] = some true) (hw : w.toInt = N) : ∃ cl : Cell, Arr Z Z.heap a cl ty ∧ AR Z Z.heap a ty N (fun i => cl.slots.getD i .null) := by
  obtain ⟨cl, A⟩ := Arr.start ev hx
  have e1 : Z.arrayAt? a = some cl := A.fin (Vm.Alike.refl _)
  have hsz : cl.slots.size < 2 ^ 31 ∧ cl.slots.size.toInt32 = w := by
    by_cases z : cl.slots.size < 2 ^ 31
    · refine ⟨z, ?_⟩
      have z2 := len_f ev e1 z
      simp only [Cond.value, z2, Term.int_eval] at hl
      simpa using hl
    · have z2 : (Term.length t).eval args Z none [] Z = none := by simp only [Term.eval, ev, e1, Option.bind_eq_bind, Option.bind_some, if_neg z]
      simp [Cond.value, z2] at hl
  have hN : cl.slots.size = N := by
    have z := len_toInt hsz.1
    rw [hsz.2, hw] at z
    omega
  refine ⟨cl, A, cl, A, hN, by rw [← hN]; exact hsz.1, fun i hi => ?_⟩
  have hi' : i < cl.slots.size := by omega
  obtain ⟨v, v1, v2⟩ := elem_fit (j := i.toInt32) hf A (idx_in hi' hsz.1)
  have z3 : i.toInt32.toNatClampNeg = i := by simp [Int32.toNatClampNeg, len_toInt (show i < 2 ^ 31 by omega)]
  rw [z3] at v1
  have z4 : cl.slots.getD i .null = v := by simp [Array.getD_eq_getD_getElem?, v1]
  exact ⟨by show cl.slots[i]? = some (cl.slots.getD i .null); rw [z4]; exact v1, by show fits ty (cl.slots.getD i .null) = true; rw [z4]; exact v2⟩
theorem cl_of {j : Int32} {i : Nat} (hj : j.toInt = i) : j.toNatClampNeg = i := by simp [Int32.toNatClampNeg, hj]
theorem int_lit {t : Term} {w : Int32} (q : (Cond.eq t (.int w)).value args Z none Z [] = some true) : t.eval args Z none [] Z = some (.int w) := by
  obtain ⟨x, y, ex, ey, k1, k2⟩ := cmp_v (Or.inl q)
  have hy : y = .int w := (Option.some.inj ey).symm
  subst hy
  obtain ⟨x', rfl⟩ : ∃ x', x = .int x' := k2
  have z : x' = w := gotT (Cond.eq_ints ex (Term.int_eval w)) q
  rw [← z]; exact ex
theorem elem_lit {t : Term} {cl : Cell} (ev : t.eval args Z none [] Z = some (.ref a)) (A : Arr Z Z.heap a cl ty) {k w : Int32} {i : Nat} (hk : k.toInt = i) (q : (Cond.eq (.elem t (.int k)) (.int w)).value args Z none Z [] = some true) : cl.slots.getD i .null = .int w := by
  have z := elem_in (int_lit q) ev (Term.int_eval k) A.1
  rw [cl_of hk] at z
  simp [Array.getD_eq_getD_getElem?, z.2]
theorem Keep.ofExt (E : Ext h h') {ws : List Addr} : Keep h h' ws := (Keep.refl h ws).ext E
theorem nn_of {j : Int32} {i : Nat} (hj : j.toInt = i) : ¬ j < 0 := by
  rw [Int32.lt_iff_toInt_lt, hj, Int32.toInt_zero]; omega
theorem in_of {j : Int32} {i : Nat} {cl : Cell} (hj : j.toInt = i) (hi : i < N) (hn : cl.slots.size = N) : ¬ (j < 0 ∨ cl.slots.size ≤ j.toNatClampNeg) := by
  rw [cl_of hj, hn]
  intro z
  rcases z with z | z
  · exact nn_of hj z
  · omega
theorem R_arraylength (C : Cx p s m meth c Z a0 EL own B n nm ret) {w : Int32} (hd : Dc B pc (.arraylength) 1 q) (A : AR Z h a ty N f) (hv : N.toInt32 = w)
    (k : Run p l e R s m args below meth c Z nw EL K vm h cells slots (fr m q L (.int w :: r))) : Run p l e R s m args below meth c Z nw EL K vm h cells slots (fr m pc L (.ref a :: r)) := by
  obtain ⟨hd, rfl⟩ := hd
  obtain ⟨cl, A, hn, -⟩ := A
  subst hv hn
  exact Run.warm C (fun T locs X e1 hZ hown => ⟨T, X, e1, fun t st => X.arraylength C.1 (cell := cl) (by rw [e1]; exact A.1) (State.isArrayOf_alike hZ.alike A.2.1) (g := fr m pc L (.ref a :: r)) rfl rfl (hb C.2.1 hd) t st⟩) k
theorem R_iaload (C : Cx p s m meth c Z a0 EL own B n nm ret) {j : Int32} (i : Nat) (hd : Dc B pc (.iaload) 1 q) (A : AR Z h a .int N f) (hj : j.toInt = i) (hi : i < N) (hv : f i = v)
    (k : Run p l e R s m args below meth c Z nw EL K vm h cells slots (fr m q L (v :: r))) : Run p l e R s m args below meth c Z nw EL K vm h cells slots (fr m pc L (.int j :: .ref a :: r)) := by
  obtain ⟨hd, rfl⟩ := hd
  obtain ⟨cl, A, hn, h31, H⟩ := A
  subst hv
  exact Run.warm C (fun T locs X e1 hZ hown => ⟨T, X, e1, fun t st => X.iaload C.1 (cell := cl) (by rw [e1]; exact A.1) (State.isArrayOf_alike hZ.alike A.2.1) A.2.2 (in_of hj hi hn) (by rw [cl_of hj]; exact (H i hi).1) (g := fr m pc L (.int j :: .ref a :: r)) rfl rfl (hb C.2.1 hd) t st⟩) k
theorem R_caload (C : Cx p s m meth c Z a0 EL own B n nm ret) {j : Int32} (i : Nat) (hd : Dc B pc (.caload) 1 q) (A : AR Z h a .char N f) (hj : j.toInt = i) (hi : i < N) (hv : f i = v)
    (k : Run p l e R s m args below meth c Z nw EL K vm h cells slots (fr m q L (v :: r))) : Run p l e R s m args below meth c Z nw EL K vm h cells slots (fr m pc L (.int j :: .ref a :: r)) := by
  obtain ⟨hd, rfl⟩ := hd
  obtain ⟨cl, A, hn, h31, H⟩ := A
  subst hv
  exact Run.warm C (fun T locs X e1 hZ hown => ⟨T, X, e1, fun t st => X.caload C.1 (cell := cl) (by rw [e1]; exact A.1) (State.isArrayOf_alike hZ.alike A.2.1) A.2.2 (in_of hj hi hn) (by rw [cl_of hj]; exact (H i hi).1) (g := fr m pc L (.int j :: .ref a :: r)) rfl rfl (hb C.2.1 hd) t st⟩) k
theorem R_baload (C : Cx p s m meth c Z a0 EL own B n nm ret) {j : Int32} (i : Nat) (hd : Dc B pc (.baload) 1 q) (A : AR Z h a .byte N f) (hj : j.toInt = i) (hi : i < N) (hv : f i = v)
    (k : Run p l e R s m args below meth c Z nw EL K vm h cells slots (fr m q L (v :: r))) : Run p l e R s m args below meth c Z nw EL K vm h cells slots (fr m pc L (.int j :: .ref a :: r)) := by
  obtain ⟨hd, rfl⟩ := hd
  obtain ⟨cl, A, hn, h31, H⟩ := A
  subst hv
  exact Run.warm C (fun T locs X e1 hZ hown => ⟨T, X, e1, fun t st => X.baloadBytes C.1 (cell := cl) (by rw [e1]; exact A.1) (State.isArrayOf_alike hZ.alike A.2.1) A.2.2 (in_of hj hi hn) (by rw [cl_of hj]; exact (H i hi).1) (g := fr m pc L (.int j :: .ref a :: r)) rfl rfl (hb C.2.1 hd) t st⟩) k
theorem R_laload (C : Cx p s m meth c Z a0 EL own B n nm ret) {j : Int32} (i : Nat) (hd : Dc B pc (.laload) 1 q) (A : AR Z h a .long N f) (hj : j.toInt = i) (hi : i < N) (hv : f i = v)
    (k : Run p l e R s m args below meth c Z nw EL K vm h cells slots (fr m q L (v :: r))) : Run p l e R s m args below meth c Z nw EL K vm h cells slots (fr m pc L (.int j :: .ref a :: r)) := by
  obtain ⟨hd, rfl⟩ := hd
  obtain ⟨cl, A, hn, h31, H⟩ := A
  subst hv
  exact Run.warm C (fun T locs X e1 hZ hown => ⟨T, X, e1, fun t st => X.laload C.1 (cell := cl) (by rw [e1]; exact A.1) (State.isArrayOf_alike hZ.alike A.2.1) A.2.2 (in_of hj hi hn) (by rw [cl_of hj]; exact (H i hi).1) (g := fr m pc L (.int j :: .ref a :: r)) rfl rfl (hb C.2.1 hd) t st⟩) k
theorem R_aaload (C : Cx p s m meth c Z a0 EL own B n nm ret) {j : Int32} (i : Nat) (hd : Dc B pc (.aaload) 1 q) (A : AR Z h a ty N f) (ht : ty.isReference = true) (hj : j.toInt = i) (hi : i < N) (hv : f i = v)
    (k : Run p l e R s m args below meth c Z nw EL K vm h cells slots (fr m q L (v :: r))) : Run p l e R s m args below meth c Z nw EL K vm h cells slots (fr m pc L (.int j :: .ref a :: r)) := by
  obtain ⟨hd, rfl⟩ := hd
  obtain ⟨cl, A, hn, h31, H⟩ := A
  subst hv
  exact Run.warm C (fun T locs X e1 hZ hown => ⟨T, X, e1, fun t st => X.aaload C.1 (cell := cl) (by rw [e1]; exact A.1) (State.isArrayOf_alike hZ.alike A.2.1) ht A.2.2 (in_of hj hi hn) (by rw [cl_of hj]; exact (H i hi).1) (g := fr m pc L (.int j :: .ref a :: r)) rfl rfl (hb C.2.1 hd) t st⟩) k
theorem R_iastore (C : Cx p s m meth c Z a0 EL own B n nm ret) {j x : Int32} (i : Nat) (hd : Dc B pc (.iastore) 1 q) (A : AR Z h a .int N f) (hj : j.toInt = i) (hi : i < N) (ha : Z.heap.size ≤ a) (hs : Safe Z EL vm h a)
    (k : ∀ h', Wr h h' a i (.int x) → AR Z h' a .int N (upd f i (.int x)) → (∀ x, Safe Z EL vm h x → Safe Z EL vm h' x) → Run p l e R s m args below meth c Z nw EL K vm h' cells slots (fr m q L r)) : Run p l e R s m args below meth c Z nw EL K vm h cells slots (fr m pc L (.int x :: .int j :: .ref a :: r)) := by
  obtain ⟨hd, rfl⟩ := hd
  have A0 := A
  obtain ⟨cl, A, hn, h31, H⟩ := A
  refine Run.write C (a := a) (sl := i) (v := .int x) (fun T locs X e1 hZ hown => ?_) ha hs (fun h' W Sf => k h' W (A0.set W (rfl)) Sf)
  have z := stI X C.1 hZ e1 A (x := x) (in_of hj hi hn) (g := fr m pc L (.int x :: .int j :: .ref a :: r)) rfl rfl (hb C.2.1 hd)
  rw [cl_of hj] at z
  exact z
theorem R_castore (C : Cx p s m meth c Z a0 EL own B n nm ret) {j x : Int32} (i : Nat) (hd : Dc B pc (.castore) 1 q) (A : AR Z h a .char N f) (hj : j.toInt = i) (hi : i < N) (ha : Z.heap.size ≤ a) (hs : Safe Z EL vm h a)
    (k : ∀ h', Wr h h' a i (.int (nar .char x)) → AR Z h' a .char N (upd f i (.int (nar .char x))) → (∀ x, Safe Z EL vm h x → Safe Z EL vm h' x) → Run p l e R s m args below meth c Z nw EL K vm h' cells slots (fr m q L r)) : Run p l e R s m args below meth c Z nw EL K vm h cells slots (fr m pc L (.int x :: .int j :: .ref a :: r)) := by
  obtain ⟨hd, rfl⟩ := hd
  have A0 := A
  obtain ⟨cl, A, hn, h31, H⟩ := A
  refine Run.write C (a := a) (sl := i) (v := .int (nar .char x)) (fun T locs X e1 hZ hown => ?_) ha hs (fun h' W Sf => k h' W (A0.set W (fits_nar_char x)) Sf)
  have z := stC X C.1 hZ e1 A (x := x) (in_of hj hi hn) (g := fr m pc L (.int x :: .int j :: .ref a :: r)) rfl rfl (hb C.2.1 hd)
  rw [cl_of hj] at z
  exact z
theorem R_bastore (C : Cx p s m meth c Z a0 EL own B n nm ret) {j x : Int32} (i : Nat) (hd : Dc B pc (.bastore) 1 q) (A : AR Z h a .byte N f) (hj : j.toInt = i) (hi : i < N) (ha : Z.heap.size ≤ a) (hs : Safe Z EL vm h a)
    (k : ∀ h', Wr h h' a i (.int (nar .byte x)) → AR Z h' a .byte N (upd f i (.int (nar .byte x))) → (∀ x, Safe Z EL vm h x → Safe Z EL vm h' x) → Run p l e R s m args below meth c Z nw EL K vm h' cells slots (fr m q L r)) : Run p l e R s m args below meth c Z nw EL K vm h cells slots (fr m pc L (.int x :: .int j :: .ref a :: r)) := by
  obtain ⟨hd, rfl⟩ := hd
  have A0 := A
  obtain ⟨cl, A, hn, h31, H⟩ := A
  refine Run.write C (a := a) (sl := i) (v := .int (nar .byte x)) (fun T locs X e1 hZ hown => ?_) ha hs (fun h' W Sf => k h' W (A0.set W (fits_nar_byte x)) Sf)
  have z := stB X C.1 hZ e1 A (x := x) (in_of hj hi hn) (g := fr m pc L (.int x :: .int j :: .ref a :: r)) rfl rfl (hb C.2.1 hd)
  rw [cl_of hj] at z
  exact z
theorem nsz {x : Int32} (h : x.toInt = N) : N < 2 ^ 31 := by have := Int32.toInt_lt x; omega
theorem R_newarray (C : Cx p s m meth c Z a0 EL own B n nm ret) {x : Int32} {aty : ArrayType} (cap : Nat) (hd : Dc B pc (.newarray aty) 2 q) (w : (Cond.arrayClass (newarray.typeOf aty)).before a0 Z = true) (hx : x.toInt = N) (hcap : N ≤ cap) (hb8 : cap * 8 ≤ 536870912) (hc : cells + 1 ≤ R.cells) (hl : slots + cap ≤ R.slots) (hfit : fits (newarray.typeOf aty) (defaultValue (newarray.typeOf aty)) = true)
    (k : ∀ h', Ext h h' → AR Z h' h.size (newarray.typeOf aty) N (fun _ => defaultValue (newarray.typeOf aty)) → Safe Z EL vm h' h.size → (∀ x, Safe Z EL vm h x → Safe Z EL vm h' x) → Run p l e R s m args below meth c Z nw EL K vm h' (cells + 1) (slots + cap) (fr m q L (.ref h.size :: r))) : Run p l e R s m args below meth c Z nw EL K vm h cells slots (fr m pc L (.int x :: r)) := by
  obtain ⟨hd, rfl⟩ := hd
  refine Run.grow C (F := fun h' => AR Z h' h.size (newarray.typeOf aty) N (fun _ => defaultValue (newarray.typeOf aty))) (fun T locs X e1 hZ hown => ?_) (fun h' E F H Sf => k h' E F (Safe.ext E H (Safe.new (Nat.le_refl _))) Sf)
  obtain ⟨T', h', cA, X', e2, E, A, st⟩ := newP X C.1 hZ w e1 (g := fr m pc L (.int x :: r)) rfl (hb C.2.1 hd) (n := x) (rest := r) rfl (nn_of hx) (cap := cap) (by rw [cl_of hx]; exact hcap) hb8 hc hl
  refine ⟨T', h', X', e2, E, ⟨_, A, by rw [sz_new, cl_of hx], nsz hx, fun i hi => ⟨?_, hfit⟩⟩, st⟩
  simp [newA, cl_of hx, hi]
theorem Run.keepW (C : Cx p s m meth c Z a0 EL own B n nm ret) {g g' : JFrame} {F : Heap → Prop}
    (st : ∀ T locs, Stand p l e R (s.setVm vm) m args below meth c T locs cells slots → T.heap = h → Z.Warmed39 (s.setVm vm).vm → (s.setVm vm).vm.findClass own = some m.cls → ∃ T' h' L', Stand p l e R (s.setVm vm) m args below meth c T' (locs ++ L') cells slots ∧ T'.heap = h' ∧ Keep h h' [a] ∧ (∀ y ∈ L', y.base = a) ∧ F h' ∧ ∀ t, Steps p.tables e below (T'.setTop g') t → Steps p.tables e below (T.setTop g) t)
    (ha : Z.heap.size ≤ a) (hs : Safe Z EL vm h a)
    (k : ∀ h', Keep h h' [a] → F h' → (∀ x, Safe Z EL vm h x → Safe Z EL vm h' x) → Run p l e R s m args below meth c Z nw EL K vm h' cells slots g') : Run p l e R s m args below meth c Z nw EL K vm h cells slots g := by
  intro T P
  obtain ⟨kk, locs, X, e1, e2, e3, e4, e5, e6, e7, e8⟩ := P
  obtain ⟨T', h', L', X', e1', Kp, hL, hF, hst⟩ := st T locs X e1 e6 ((e4.1.alike.findClass _ _).trans C.2.2.1)
  have h1 : ∀ x ∈ [a], Safe Z EL vm h x := fun x hx => by cases List.mem_singleton.mp hx; exact hs
  exact Ends.go hst (k h' Kp hF (fun x S => Safe.keep Kp h1 e7.1.1 S) T' ⟨kk, _, X', e1', Fr.app e2 fun y hy => by rw [hL y hy]; exact ha, Ext.keep' e3 Kp fun x hx => by cases List.mem_singleton.mp hx; exact ha, e4, Nat.le_trans e5 Kp.1, e6, e7.trans (CHs.keep Kp h1 e7.1.1), e8⟩)
theorem arr_kind {cl : Cell} (A : Arr Z h a cl ty) : ∃ (k : Class) (comp : ClassId), Z.vm.classes[cl.cls]? = some k ∧ k.kind = .array comp ty := by
  obtain ⟨-, ⟨-, k, h1, comp, h2⟩, -⟩ := A
  exact ⟨k, comp, h1, h2⟩
theorem gd_of {cl : Cell} {i : Nat} (h : cl.slots[i]? = some v) : cl.slots.getD i .null = v := by
  simp [Array.getD, Array.getElem?_eq_some_iff] at h ⊢
  obtain ⟨h1, h2⟩ := h
  simp [h1, h2]
theorem R_arraycopy (C : Cx p s m meth c Z a0 EL own B n nm ret) {idx : Nat} {src dst : Addr} {sp dp nn : Int32} {Ns Nd : Nat} {fs fd : Nat → Value} (isp idp inn : Nat) (hd : Dc B pc (.invokestatic idx) 3 q)
    (w1 : (Cond.methodLink own idx acN).before a0 Z = true) (w2 : (Cond.native acN).before a0 Z = true) (w3 : (Cond.static acN).before a0 Z = true) (w4 : (Cond.initialized "java/lang/System").before a0 Z = true)
    (A : AR Z h src ty Ns fs) (D : AR Z h dst ty Nd fd) (hp : refKind ty = false) (q1 : sp.toInt = isp) (q2 : dp.toInt = idp) (q3 : nn.toInt = inn) (b1 : isp + inn ≤ Ns) (b2 : idp + inn ≤ Nd) (hz : L.length = n)
    (rf : 1 ≤ R.frames) (rl : (r.map fun v => v.category).sum + 18 ≤ R.locals) (ha : Z.heap.size ≤ dst) (hs : Safe Z EL vm h dst)
    (k : ∀ h', Keep h h' [dst] → AR Z h' dst ty Nd (fun i => if idp ≤ i ∧ i < idp + inn then fs (isp + (i - idp)) else fd i) → (∀ x, Safe Z EL vm h x → Safe Z EL vm h' x) → Run p l e R s m args below meth c Z nw EL K vm h' cells slots (fr m q L r)) : Run p l e R s m args below meth c Z nw EL K vm h cells slots (fr m pc L (.int nn :: .int dp :: .ref dst :: .int sp :: .ref src :: r)) := by
  obtain ⟨hd, rfl⟩ := hd
  obtain ⟨cs, A, hns, h31, H⟩ := A
  obtain ⟨cd, D, hnd, h31', H'⟩ := D
  refine Run.keepW C (F := fun h' => AR Z h' dst ty Nd (fun i => if idp ≤ i ∧ i < idp + inn then fs (isp + (i - idp)) else fd i)) (fun T locs X e1 hZ hown => ?_) ha hs k
  obtain ⟨ks, sc, k1, k2⟩ := arr_kind A
  obtain ⟨kd, dc, k3, k4⟩ := arr_kind D
  obtain ⟨ks', k1', ek1⟩ := hZ.alike.2.2 _ _ k1
  obtain ⟨kd', k3', ek3⟩ := hZ.alike.2.2 _ _ k3
  have hty : ((refKind ty != refKind ty) || (!refKind ty && ty != ty)) = false := by simp
  obtain ⟨vm1, hW1, X', st⟩ := X.arraycopyK C.1 hown (mvT hZ w1) (mvT hZ w2) (mvT hZ w3) (mvT hZ w4) (src := src) (dst := dst) (srcPos := sp) (destPos := dp) (n := nn) (cs := cs) (cd := cd) (by rw [e1]; exact A.1) (by rw [e1]; exact D.1) A.2.1.1 D.2.1.1 A.2.2 D.2.2 k1' k3' (by rw [ek1]; exact k2) (by rw [ek3]; exact k4) hty (nn_of q1) (nn_of q2) (nn_of q3) (by rw [q1, q3, hns]; omega) (by rw [q2, q3, hnd]; omega)
    (fun vm2 _ i hi => by
      rw [cl_of q3] at hi
      rw [cl_of q1]
      have z := H (isp + i) (by omega)
      rw [gd_of z.1]
      exact ⟨z.2, State.takes_of_prim _ _ hp z.2⟩) (g := fr m pc L (.int nn :: .int dp :: .ref dst :: .int sp :: .ref src :: r)) rfl (by rw [C.2.2.2.1]; exact hz) (rest := r) rfl (hb C.2.1 hd) rf (by show 2 * 0 + _ + (7 + 11) ≤ _; omega)
  have hfacts := Cell.storeRun_facts cd dp.toNatClampNeg (cs.stretch sp.toNatClampNeg nn.toNatClampNeg)
  have hlt : dst < h.size := D.lt
  have hnew : (h.setIfInBounds dst (copied cs cd sp dp nn))[dst]? = some (copied cs cd sp dp nn) := by simp [hlt]
  have hoth : ∀ x, x ≠ dst → (h.setIfInBounds dst (copied cs cd sp dp nn))[x]? = h[x]? := fun x hx => Array.getElem?_setIfInBounds_ne (Ne.symm hx)
  refine ⟨_, h.setIfInBounds dst (copied cs cd sp dp nn), _, X', ?_, ⟨by simp, fun x cl hx hn => ?_, fun x cl hx => ?_⟩, fun y hy => copyLocs_base hy, ⟨copied cs cd sp dp nn, ⟨hnew, ?_, ?_⟩, ?_, h31', fun i hi => ?_⟩, st⟩
  · rw [← e1]; rfl
  · rw [hoth x (fun z => hn (by rw [z]; exact List.mem_singleton.mpr rfl))]; exact hx
  · by_cases z : x = dst
    · subst z
      cases D.1.symm.trans hx
      exact ⟨_, hnew, hfacts.1, hfacts.2.1, hfacts.2.2.1⟩
    · exact ⟨cl, by rw [hoth x z]; exact hx, rfl, rfl, rfl⟩
  · obtain ⟨z1, kk, z2, z3⟩ := D.2.1
    exact ⟨by rw [hfacts.2.1]; exact z1, kk, by rw [hfacts.1]; exact z2, z3⟩
  · rw [hfacts.2.1]; exact D.2.2
  · rw [hfacts.2.2.1]; exact hnd
  · have z : (copied cs cd sp dp nn).slots[i]? = if idp ≤ i ∧ i < idp + inn then (cs.stretch isp inn)[i - idp]? else cd.slots[i]? := by
      show (cd.storeRun dp.toNatClampNeg (cs.stretch sp.toNatClampNeg nn.toNatClampNeg)).slots[i]? = _
      rw [cl_of q1, cl_of q2, cl_of q3, Cell.storeRun_get _ _ _ _ (by rw [Cell.stretch_length, hnd]; exact b2), Cell.stretch_length]
    rw [z]
    by_cases hc : idp ≤ i ∧ i < idp + inn
    · simp only [if_pos hc]
      have z2 := H (isp + (i - idp)) (by omega)
      refine ⟨?_, z2.2⟩
      have z3 : i - idp < inn := by omega
      simp only [Cell.stretch, List.getElem?_map, List.getElem?_range z3, Option.map_some]
      rw [gd_of z2.1]
    · simp only [if_neg hc]
      exact H' i hi
theorem R_checkcast_null (C : Cx p s m meth c Z a0 EL own B n nm ret) {idx : Nat} (hd : Dc B pc (.checkcast idx) 3 q)
    (k : Run p l e R s m args below meth c Z nw EL K vm h cells slots (fr m q L (.null :: r))) : Run p l e R s m args below meth c Z nw EL K vm h cells slots (fr m pc L (.null :: r)) := by
  obtain ⟨hd, rfl⟩ := hd
  exact Run.warm C (fun T locs X e1 hZ hown => ⟨T, X, e1, X.checkcastNull C.1 (g := fr m pc L (.null :: r)) rfl rfl (hb C.2.1 hd)⟩) k
theorem R_instanceof_null (C : Cx p s m meth c Z a0 EL own B n nm ret) {idx : Nat} (hd : Dc B pc (.instanceof idx) 3 q)
    (k : Run p l e R s m args below meth c Z nw EL K vm h cells slots (fr m q L (.int 0 :: r))) : Run p l e R s m args below meth c Z nw EL K vm h cells slots (fr m pc L (.null :: r)) := by
  obtain ⟨hd, rfl⟩ := hd
  exact Run.warm C (fun T locs X e1 hZ hown => ⟨T, X, e1, X.instanceofNull C.1 (g := fr m pc L (.null :: r)) rfl rfl (hb C.2.1 hd)⟩) k
/-- the clone of an array of the start -/
theorem R_clone (C : Cx p s m meth c Z a0 EL own B n nm ret) {idx : Nat} {ad : String} {cl : Cell} (hd : Dc B pc (.invokevirtual idx) 3 q)
    (w1 : (Cond.methodLink own idx ⟨ad, "clone", "()Ljava/lang/Object;"⟩).before a0 Z = true) (w2 : (Cond.sameMethod ad "java/lang/Object" "clone" "()Ljava/lang/Object;").before a0 Z = true) (w3 : (Cond.native ⟨"java/lang/Object", "clone", "()Ljava/lang/Object;"⟩).before a0 Z = true)
    (w4 : (Cond.instanceMethod ⟨"java/lang/Object", "clone", "()Ljava/lang/Object;"⟩).before a0 Z = true) (w5 : (Cond.selects ad ⟨ad, "clone", "()Ljava/lang/Object;"⟩ ⟨"java/lang/Object", "clone", "()Ljava/lang/Object;"⟩).before a0 Z = true) (w6 : (Cond.castable ad "java/lang/Cloneable").before a0 Z = true)
    (A : Arr Z h a cl ty) (hN : cl.slots.size = N) (h31 : N < 2 ^ 31) (hf : ∀ i, i < N → cl.slots[i]? = some (f i) ∧ fits ty (f i) = true) (E : Exa Z h a ad) (F : FitC Z cl) (hz : L.length = n) (rf : 1 ≤ R.frames) (rl : (r.map fun v => v.category).sum + 14 ≤ R.locals) (hc : cells + 1 ≤ R.cells) (hl : slots + N ≤ R.slots)
    (k : ∀ h', Ext h h' → AR Z h' h.size ty N f ∧ Exa Z h' h.size ad → (∀ x, Safe Z EL vm h x → Safe Z EL vm h' x) → Run p l e R s m args below meth c Z nw EL K vm h' (cells + 1) (slots + N) (fr m q L (.ref h.size :: r))) : Run p l e R s m args below meth c Z nw EL K vm h cells slots (fr m pc L (.ref a :: r)) := by
  obtain ⟨hd, rfl⟩ := hd
  refine Run.grow C (F := fun h' => AR Z h' h.size ty N f ∧ Exa Z h' h.size ad) (fun T locs X e1 hZ hown => ?_) (fun h' E F H Sf => k h' E F Sf)
  obtain ⟨T', h', X', e2, E2, A2, E3, st⟩ := cloneA X C.1 hZ hown w1 w2 w3 w4 w5 w6 e1 A E F (g := fr m pc L (.ref a :: r)) rfl (by rw [C.2.2.2.1]; exact hz) rfl (hb C.2.1 hd) rf (W := (r.map fun v => v.category).sum) (cap := N) (by show 2 * 0 + _ ≤ _; omega) rl (Nat.le_of_eq hN) hc hl
  exact ⟨T', h', X', e2, E2, ⟨⟨_, A2, hN, h31, hf⟩, E3⟩, st⟩
end Arrays
end Jvm.Own
namespace Jvm.Own
open Sem ClassFile Op Lib Bundle Jvm.Stand Jvm.Free Jvm.LawKit Jvm.RoadKit
section Cold
variable {p : Program} {l : Launch} {e : Env} {R : Room} {s : State} {m : MethodId} {args : Array Value} {below : List Frame} {meth : Method} {c : Code} {Z : State} {a0 : Array Value} {nw : Prop} {EL : List (String × Nat)} {K : State → Outcome → Prop} {vm : Vm} {h h' h0 : Heap} {cells slots : Nat} {own nm : String} {B : ByteArray} {n : Nat} {ret : Option FieldType} {pc q tq : Nat} {L : List Slot} {r : List Value} {a b : Addr} {ty : FieldType} {N sl : Nat} {f g : Nat → Value} {v : Value}
/-- ldc of a String constant that nobody reads -/
theorem R_ldcO (C : Cx p s m meth c Z a0 EL own B n nm ret) {idx : Nat} {text : String} (nn : Nat) (hd : Dc B pc (.ldc idx) 2 q) (hnw : ¬ nw) (w : (Cond.stringLink own idx text).before a0 Z = true) (wS : ∀ a ∈ Bundle.stringAtoms, a.before a0 Z = true)
    (hn : 4 * text.toList.length ≤ nn) (hbig : nn ≤ 536870912) (hc : cells + 2 ≤ R.cells) (hl : slots + (nn + 4) ≤ R.slots)
    (k : ∀ a vm' h', Ext h h' → (∀ x, x < h.size → Safe Z EL vm h x → Safe Z EL vm' h' x) → Run p l e R s m args below meth c Z nw EL K vm' h' (cells + 2) (slots + (nn + 4)) (fr m q L (.ref a :: r))) : Run p l e R s m args below meth c Z nw EL K vm h cells slots (fr m pc L r) := by
  obtain ⟨hd, rfl⟩ := hd
  intro T P
  obtain ⟨kk, locs, X, e1, e2, e3, e4, e5, e6, e7, e8⟩ := P
  obtain ⟨a, T', h', k1, X', e1', E, hS', hk', hZ', hf', hC, hL, st⟩ := ldcOH X C.1 e6 ((e4.1.alike.findClass _ _).trans C.2.2.1) w wS e1 e4 e5 C.2.2.2.2.2.2.2 e7.1.1 (g := fr m pc L r) rfl (hb C.2.1 hd) hn hbig hc hl
  exact Ends.go st (k a T'.vm h' E (fun x hx S => CHr.safe hC hx S) T' ⟨k1, locs, X', e1', e2, Ext.tr e3 E, hS', hk', hZ', e7.trans (CHs.cold hC hnw), fun z => absurd z hnw⟩)
/-- ldc of a String constant whose text is read -/
theorem R_ldcK (C : Cx p s m meth c Z a0 EL own B n nm ret) {idx : Nat} {text : String} {vs : List Value} {z : Int32} (nn : Nat) (hd : Dc B pc (.ldc idx) 2 q) (hnw : ¬ nw) (w : (Cond.stringLink own idx text).before a0 Z = true) (wS : ∀ a ∈ Bundle.stringAtoms, a.before a0 Z = true) (hmem : (own, idx) ∈ EL)
    (ht : (∀ c ∈ text.toList, c.toNat < 256) ∧ text.toList.map (fun c => Value.int (Jvm.Lit.byteI c.toNat.toUInt16)) = vs) (hz : z.toInt = vs.length)
    (hn : 4 * text.toList.length ≤ nn) (hbig : nn ≤ 536870912) (hc : cells + 2 ≤ R.cells) (hl : slots + (nn + 4) ≤ R.slots)
    (k : ∀ a b vm' h', Ext h h' → Exa Z h' a "java/lang/String" → Fld Z h' a "java/lang/String" "coder" "B" (.int 0) → Fld Z h' a "java/lang/String" "value" "[B" (.ref b) → AR Z h' b .byte vs.length (fun i => vs.getD i (.int 0)) → (∀ x, x < h.size → Safe Z EL vm h x → Safe Z EL vm' h' x) → (∀ x, Safe Z EL vm' h' x → x ≠ a ∧ x ≠ b) → Run p l e R s m args below meth c Z nw EL K vm' h' (cells + 2) (slots + (nn + 4)) (fr m q L (.ref a :: r))) : Run p l e R s m args below meth c Z nw EL K vm h cells slots (fr m pc L r) := by
  obtain ⟨hd, rfl⟩ := hd
  have hz0 : ¬ z < 0 := nn_of hz
  have hzc : z.toNatClampNeg = vs.length := cl_of hz
  intro T P
  obtain ⟨kk, locs, X, e1, e2, e3, e4, e5, e6, e7, e8⟩ := P
  obtain ⟨a, T', h', k1, b, kb, X', e1', E, hS', hk', hZ', hf', hE, hF1, hF2, hA, -, -, hC, hL, hne, st⟩ := ldcCH X C.1 e6 ((e4.1.alike.findClass _ _).trans C.2.2.1) w wS e1 e4 e5 C.2.2.2.2.2.2.2 hmem e7.1.1 ht hz0 hzc (g := fr m pc L r) rfl (hb C.2.1 hd) hn hbig hc hl
  have A : AR Z h' b .byte vs.length (fun i => vs.getD i (.int 0)) := by
    obtain ⟨cl, A1, -, A3, -, A5, A6⟩ := hA
    have hsz : cl.slots.size = vs.length := by rw [A3, hzc]
    refine ⟨cl, A1, hsz, nsz hz, fun i hi => ⟨A5 i (by omega), A6 i (by omega)⟩⟩
  exact Ends.go st (k a b T'.vm h' E hE hF1 hF2 A (fun x hx S => CHr.safe hC hx S) hne T' ⟨k1, locs, X', e1', e2, Ext.tr e3 E, hS', hk', hZ', e7.trans (CHs.cold hC hnw), fun z => absurd z hnw⟩)
end Cold
end Jvm.Own
namespace Jvm.Pilot.@@N@@
open Jvm Jvm.ClassFile Sem Op Lib Jvm.Free Jvm.Stand Jvm.LawKit Jvm.RoadKit Bundle Jvm.Own Jvm.Kit Jvm.Pilot.@@N@@.Jvm.D
theorem pd_0 : parseMethodDescriptor "()B" = some ⟨[], (some .byte)⟩ := by decide +kernel
theorem pd_1 : parseMethodDescriptor "([CI[BII)I" = some ⟨[(.array .char), .int, (.array .byte), .int, .int], (some .int)⟩ := by decide +kernel
theorem pd_2 : parseMethodDescriptor "([CII)[B" = some ⟨[(.array .char), .int, .int], (some (.array .byte))⟩ := by decide +kernel
theorem pd_3 : parseMethodDescriptor "([BI)B" = some ⟨[(.array .byte), .int], (some .byte)⟩ := by decide +kernel
theorem pd_4 : parseMethodDescriptor "([CIILjava/lang/Void;)V" = some ⟨[(.array .char), .int, .int, (.object "java/lang/Void")], none⟩ := by decide +kernel
theorem pd_5 : parseMethodDescriptor "(IILjava/util/function/BiFunction;)I" = some ⟨[.int, .int, (.object "java/util/function/BiFunction")], (some .int)⟩ := by decide +kernel
theorem pd_6 : parseMethodDescriptor "(II)V" = some ⟨[.int, .int], none⟩ := by decide +kernel
theorem pd_7 : parseMethodDescriptor "()Z" = some ⟨[], (some .boolean)⟩ := by decide +kernel
theorem pd_8 : parseMethodDescriptor "([BI)C" = some ⟨[(.array .byte), .int], (some .char)⟩ := by decide +kernel
theorem pd_9 : parseMethodDescriptor "([B[B)Z" = some ⟨[(.array .byte), (.array .byte)], (some .boolean)⟩ := by decide +kernel
theorem pd_10 : parseMethodDescriptor "(Ljava/lang/Object;)Ljava/lang/Object;" = some ⟨[(.object "java/lang/Object")], (some (.object "java/lang/Object"))⟩ := by decide +kernel
theorem pd_11 : parseMethodDescriptor "(Ljava/lang/Object;)V" = some ⟨[(.object "java/lang/Object")], none⟩ := by decide +kernel
theorem pd_12 : parseMethodDescriptor "()[Lcom/example/clientry/clientry/AppType;" = some ⟨[], (some (.array (.object "com/example/clientry/clientry/AppType")))⟩ := by decide +kernel
theorem pd_13 : parseMethodDescriptor "(Ljava/lang/Object;)Z" = some ⟨[(.object "java/lang/Object")], (some .boolean)⟩ := by decide +kernel
theorem pd_14 : parseMethodDescriptor "(Ljava/lang/Object;)Ljava/util/Optional;" = some ⟨[(.object "java/lang/Object")], (some (.object "java/util/Optional"))⟩ := by decide +kernel
theorem pd_15 : parseMethodDescriptor "()Ljava/util/Optional;" = some ⟨[], (some (.object "java/util/Optional"))⟩ := by decide +kernel
theorem pd_16 : parseMethodDescriptor "(I)C" = some ⟨[.int], (some .char)⟩ := by decide +kernel
theorem pd_17 : parseMethodDescriptor "()I" = some ⟨[], (some .int)⟩ := by decide +kernel
theorem pd_18 : parseMethodDescriptor "([C)V" = some ⟨[(.array .char)], none⟩ := by decide +kernel
theorem pd_19 : parseMethodDescriptor "(Ljava/lang/String;)Ljava/util/Optional;" = some ⟨[(.object "java/lang/String")], (some (.object "java/util/Optional"))⟩ := by decide +kernel
theorem pd_20 : parseMethodDescriptor "([CI)Ljava/lang/String;" = some ⟨[(.array .char), .int], (some (.object "java/lang/String"))⟩ := by decide +kernel
theorem pd_21 : parseMethodDescriptor "([CLjava/lang/String;)V" = some ⟨[(.array .char), (.object "java/lang/String")], none⟩ := by decide +kernel
theorem cat_ref {v : Value} (h : v.isRef = true) : v.category = 1 := by cases v <;> first | rfl | cases h
theorem ofNat_toInt {x : Int32} (h : 0 ≤ x.toInt) : x = Int32.ofNat x.toInt.toNat := by
  apply Int32.toInt_inj.mp
  have := Int32.toInt_lt x
  rw [Int32.toInt_ofNat_small (by omega)]
  omega
theorem byte_back {x : Int32} (h0 : 0 ≤ x.toInt) (h1 : x.toInt ≤ 255) : nar .char (x.toInt8.toInt32 &&& 255) = x := by
  have z : ∀ k : Fin 256, nar .char ((Int32.ofNat k.val).toInt8.toInt32 &&& 255) = Int32.ofNat k.val := by decide +kernel
  have z1 := z ⟨x.toInt.toNat, by omega⟩
  rw [ofNat_toInt h0]
  exact z1
theorem nar_c (x : Int32) : nar .char x = x.toUInt32.toUInt16.toUInt32.toInt32 := rfl
theorem u16_toInt (u : UInt16) : u.toUInt32.toInt32.toInt = (u.toNat : Int) := by
  have h := u.toNat_lt
  show (u.toUInt32.toBitVec).toInt = _
  rw [BitVec.toInt_eq_toNat_of_lt]
  · rfl
  · show 2 * u.toUInt32.toNat < 2 ^ 32
    rw [UInt16.toNat_toUInt32]; omega
theorem char_bound (x : Int32) : 0 ≤ (nar .char x).toInt ∧ (nar .char x).toInt ≤ 65535 := by
  rw [nar_c, u16_toInt]
  have h1 := x.toUInt32.toUInt16.toNat_lt
  omega
theorem i32_nn_u (x : Int32) (h : 0 ≤ x.toInt) : (x.toUInt32.toNat : Int) = x.toInt := by
  show (x.toBitVec.toNat : Int) = x.toBitVec.toInt
  have : 0 ≤ x.toBitVec.toInt := h
  rw [BitVec.toInt_eq_toNat_cond] at *
  split at this
  · rw [if_pos ‹_›]
  · have := x.toBitVec.isLt
    omega
theorem nar_char_id {x : Int32} (h0 : 0 ≤ x.toInt) (h1 : x.toInt ≤ 65535) : nar .char x = x := by
  apply Int32.toInt_inj.mp
  rw [nar_c, u16_toInt]
  have q := i32_nn_u x h0
  rw [UInt32.toNat_toUInt16]
  omega
theorem nar_nar_char (x : Int32) : nar .char (nar .char x) = nar .char x := nar_char_id (char_bound x).1 (char_bound x).2
theorem lo_byte (x : Int32) : (x.toInt8.toInt32 &&& 255).toInt = x.toInt % 256 := by
  have q : (x.toInt8.toInt32 &&& 255).toInt = _ := i32_mask x.toInt8.toInt32 255 (k := 8) (by decide) (by decide)
  rw [q, Int8.toInt_toInt32, Int32.toInt_toInt8, Int.bmod_def]
  omega
theorem or_parts (x y : Int32) (h0 : 0 ≤ x.toInt) (h1 : x.toInt < 256) (h2 : 0 ≤ y.toInt) (h3 : y.toInt < 256) : (x <<< ((0 : Int32) &&& 31) ||| y <<< ((8 : Int32) &&& 31)).toInt = x.toInt + 256 * y.toInt := by
  have a1 : x <<< ((0 : Int32) &&& 31) = x := by rw [show ((0 : Int32) &&& 31) = 0 from rfl]; simp
  have a2 : (y <<< ((8 : Int32) &&& 31)).toInt = y.toInt * 256 := by
    have q := i32_shl y ((8 : Int32) &&& 31) (k := 8) (by decide) (by omega) (by omega)
    exact q
  rw [a1]
  generalize hz : y <<< ((8 : Int32) &&& 31) = z at a2 ⊢
  have b1 := i32_nn_u x h0
  have b2 := i32_nn_u z (by omega)
  have b3 : (x ||| z).toUInt32.toNat = x.toUInt32.toNat ||| z.toUInt32.toNat := rfl
  have b4 : z.toUInt32.toNat = 2 ^ 8 * y.toInt.toNat := by omega
  have b5 : x.toUInt32.toNat < 2 ^ 8 := by omega
  have b6 : (x ||| z).toUInt32.toNat = 2 ^ 8 * y.toInt.toNat + x.toUInt32.toNat := by
    rw [b3, b4, Nat.or_comm, ← Nat.two_pow_add_eq_or_of_lt b5]
  have b7 : (x ||| z).toInt = ((x ||| z).toUInt32.toNat : Int) := by
    show (x ||| z).toBitVec.toInt = _
    rw [BitVec.toInt_eq_toNat_of_lt]
    · rfl
    · show 2 * (x ||| z).toUInt32.toNat < 2 ^ 32
      omega
  rw [b7, b6]
  omega
theorem chr_back {c : Int32} (h0 : 0 ≤ c.toInt) (h1 : c.toInt ≤ 65535) : nar .char ((c.toInt8.toInt32 &&& 255) <<< ((0 : Int32) &&& 31) ||| ((c >>> ((8 : Int32) &&& 31)).toInt8.toInt32 &&& 255) <<< ((8 : Int32) &&& 31)) = c := by
  have e1 := lo_byte c
  have e2 := lo_byte (c >>> ((8 : Int32) &&& 31))
  have e3 : (c >>> ((8 : Int32) &&& 31)).toInt = c.toInt / 256 := i32_shr c ((8 : Int32) &&& 31) (k := 8) (by decide)
  have e4 := or_parts (c.toInt8.toInt32 &&& 255) ((c >>> ((8 : Int32) &&& 31)).toInt8.toInt32 &&& 255) (by omega) (by omega) (by omega) (by omega)
  have e5 : ((c.toInt8.toInt32 &&& 255) <<< ((0 : Int32) &&& 31) ||| ((c >>> ((8 : Int32) &&& 31)).toInt8.toInt32 &&& 255) <<< ((8 : Int32) &&& 31)) = c := Int32.toInt_inj.mp (by omega)
  rw [e5, nar_char_id h0 h1]
theorem nar_byte_byte (x : Int32) : nar .byte x.toInt8.toInt32 = x.toInt8.toInt32 := by simp [nar]
theorem tw2 (a b : Int32) : ∀ i, i < 2 → upd (upd (fun _ => defaultValue (newarray.typeOf .char)) 0 (.int a)) 1 (.int b) i = .int (if i = 0 then a else b) := by
  intro i hi
  match i, hi with
  | 0, _ => rfl
  | 1, _ => rfl
theorem tw1 (a : Int32) : ∀ i, i < 1 → upd (fun _ => defaultValue (newarray.typeOf .char)) 0 (.int a) i = .int a := by
  intro i hi
  match i, hi with
  | 0, _ => rfl
abbrev by8 (x : Int32) : Value := .int x.toInt8.toInt32
abbrev STR : String := "java/lang/String"
abbrev UTF : String := "java/lang/StringUTF16"
abbrev LAT : String := "java/lang/StringLatin1"
abbrev PRE : String := "jdk/internal/util/Preconditions"
abbrev BIF : String := "Ljava/util/function/BiFunction;"
theorem pn_str : plainName STR = true := by first | (simp [plainName, overriddenIn]; done) | decide +kernel
theorem pn_utf : plainName UTF = true := by first | (simp [plainName, overriddenIn]; done) | decide +kernel
theorem pn_lat : plainName LAT = true := by first | (simp [plainName, overriddenIn]; done) | decide +kernel
theorem pn_pre : plainName PRE = true := by first | (simp [plainName, overriddenIn]; done) | decide +kernel
theorem efs1 (m : MethodId) (x0 : Addr) : entryFrame m #[(.ref x0)] 1 = fr m 0 [.val (.ref x0)] [] := by first | (simp [entryFrame, mkF, argsToLocals, Value.category]; done) | rfl
theorem efRI2 (m : MethodId) (x0 : Addr) (x1 : Int32) : entryFrame m #[(.ref x0), (.int x1)] 2 = fr m 0 [.val (.ref x0), .val (.int x1)] [] := by first | (simp [entryFrame, mkF, argsToLocals, Value.category]; done) | rfl
theorem efII2 (m : MethodId) (x0 : Int32) (x1 : Int32) : entryFrame m #[(.int x0), (.int x1)] 2 = fr m 0 [.val (.int x0), .val (.int x1)] [] := by first | (simp [entryFrame, mkF, argsToLocals, Value.category]; done) | rfl
theorem efck (m : MethodId) (x0 : Int32) (x1 : Int32) (x2 : Value) (q2 : x2.category = 1) : entryFrame m #[(.int x0), (.int x1), (x2)] 3 = fr m 0 [.val (.int x0), .val (.int x1), .val (x2)] [] := by simp [entryFrame, mkF, argsToLocals, cat_int, cat_rf, cat_lng, q2]
theorem efi2 (m : MethodId) (x0 : Addr) (x1 : Addr) : entryFrame m #[(.ref x0), (.ref x1)] 2 = fr m 0 [.val (.ref x0), .val (.ref x1)] [] := by first | (simp [entryFrame, mkF, argsToLocals, Value.category]; done) | rfl
theorem efi6 (m : MethodId) (x0 : Addr) (x1 : Addr) (x2 : Int32) (x3 : Int32) (x4 : Value) (q4 : x4.category = 1) : entryFrame m #[(.ref x0), (.ref x1), (.int x2), (.int x3), (x4)] 6 = fr m 0 [.val (.ref x0), .val (.ref x1), .val (.int x2), .val (.int x3), .val (x4), .unset] [] := by simp [entryFrame, mkF, argsToLocals, cat_int, cat_rf, cat_lng, q4]
theorem efc6 (m : MethodId) (x0 : Addr) (x1 : Int32) (x2 : Int32) : entryFrame m #[(.ref x0), (.int x1), (.int x2)] 6 = fr m 0 [.val (.ref x0), .val (.int x1), .val (.int x2), .unset, .unset, .unset] [] := by first | (simp [entryFrame, mkF, argsToLocals, Value.category]; done) | rfl
theorem efl7 (m : MethodId) (x0 : Addr) (x1 : Int32) (x2 : Addr) (x3 : Int32) (x4 : Int32) : entryFrame m #[(.ref x0), (.int x1), (.ref x2), (.int x3), (.int x4)] 7 = fr m 0 [.val (.ref x0), .val (.int x1), .val (.ref x2), .val (.int x3), .val (.int x4), .unset, .unset] [] := by first | (simp [entryFrame, mkF, argsToLocals, Value.category]; done) | rfl
/-- the statics that the Strings' methods read -/
def SS (Z : State) (cs : Int32) (fm : Value) : Prop := (¬ cs = 0) ∧ Sta Z Z.heap STR "COMPACT_STRINGS" "Z" (.int cs) ∧ fm.isRef = true ∧ Sta Z Z.heap PRE "SIOOBE_FORMATTER" BIF fm
/-- the String at a is Latin-1, its bytes at b: n chars, the i-th g i -/
def StrL (Z : State) (h : Heap) (a b : Addr) (n : Nat) (g : Nat → Int32) : Prop := Exa Z h a STR ∧ Fld Z h a STR "value" "[B" (.ref b) ∧ Fld Z h a STR "coder" "B" (.int 0) ∧ AR Z h b .byte n (fun i => by8 (g i)) ∧ ∀ i, i < n → 0 ≤ (g i).toInt ∧ (g i).toInt ≤ 255
theorem cd_0 : Dc jdk_42_method_152_code 0 (.getstatic 38) 3 3 := ⟨by decide +kernel, rfl⟩
theorem cd_3 : Jp jdk_42_method_152_code 3 (.ifCond .eq 10) (10) 6 13 := ⟨by decide +kernel, rfl, by decide, by decide⟩
theorem cd_6 : Dc jdk_42_method_152_code 6 (.aload_n 0) 1 7 := ⟨by decide +kernel, rfl⟩
theorem cd_7 : Dc jdk_42_method_152_code 7 (.getfield 15) 3 10 := ⟨by decide +kernel, rfl⟩
theorem cd_10 : Jp jdk_42_method_152_code 10 (.goto 4) (4) 13 14 := ⟨by decide +kernel, rfl, by decide, by decide⟩
theorem cd_13 : Dc jdk_42_method_152_code 13 (.iconst 1) 1 14 := ⟨by decide +kernel, rfl⟩
theorem cd_14 : Dc jdk_42_method_152_code 14 (.ireturn) 1 15 := ⟨by decide +kernel, rfl⟩
theorem le_0 : Dc jdk_42_method_54_code 0 (.aload_n 0) 1 1 := ⟨by decide +kernel, rfl⟩
theorem le_1 : Dc jdk_42_method_54_code 1 (.getfield 9) 3 4 := ⟨by decide +kernel, rfl⟩
theorem le_4 : Dc jdk_42_method_54_code 4 (.arraylength) 1 5 := ⟨by decide +kernel, rfl⟩
theorem le_5 : Dc jdk_42_method_54_code 5 (.aload_n 0) 1 6 := ⟨by decide +kernel, rfl⟩
theorem le_6 : Dc jdk_42_method_54_code 6 (.invokevirtual 335) 3 9 := ⟨by decide +kernel, rfl⟩
theorem le_9 : Dc jdk_42_method_54_code 9 (.ishr) 1 10 := ⟨by decide +kernel, rfl⟩
theorem le_10 : Dc jdk_42_method_54_code 10 (.ireturn) 1 11 := ⟨by decide +kernel, rfl⟩
theorem met_coder (l : Launch) (Z : State) (a0 : Array Value) (hw : ∀ d ∈ tables_1, d.before a0 Z = true) (nw : Prop) (EL : List (String × Nat)) (hEL : EW Z a0 EL) (cs : Int32) (fm : Value) (S : SS Z cs fm) (h : Heap) (a : Addr) (k : Int32) (hk : nar .byte k = k) (F : Fld Z h a STR "coder" "B" (.int k)) :
    Met l Z nw EL ⟨STR, "coder", "()B"⟩ jdk_42_method_152_code 1 (some .byte) ⟨0, 0, 0, 0⟩ #[.ref a] h [] (fun v h' => v = some (.int k) ∧ h' = h) := by
  refine Met.mk (a0 := a0) hEL pn_str ?_
  intro p e s m below meth c C hE hS
  rw [efs1]
  refine R_getstatic C cd_0 (hw _ (List.mem_of_getElem? (i := 24) rfl)) Via.refl (S.2.1.ext hE) ?_
  refine R_if C cd_3 (fun hc => absurd hc S.1) (fun _ => ?_)
  refine R_aload_n C cd_6 rfl rfl ?_
  refine R_getfield C cd_7 (hw _ (List.mem_of_getElem? (i := 25) rfl)) Via.refl (F) ?_
  refine R_goto C cd_10 ?_
  exact R_retN C cd_14 rfl (Or.inr (Or.inl rfl)) (Nat.le_refl _) (Nat.le_refl _) ⟨by rw [hk], rfl⟩
theorem met_length (l : Launch) (Z : State) (a0 : Array Value) (hw : ∀ d ∈ tables_1, d.before a0 Z = true) (nw : Prop) (EL : List (String × Nat)) (hEL : EW Z a0 EL) (cs : Int32) (fm : Value) (S : SS Z cs fm) (h : Heap) (a b : Addr) (N : Nat) (f : Nat → Value) (k : Int32) (hk : nar .byte k = k) (E : Exa Z h a STR) (F : Fld Z h a STR "coder" "B" (.int k)) (V : Fld Z h a STR "value" "[B" (.ref b)) (A : AR Z h b .byte N f) :
    Met l Z nw EL ⟨STR, "length", "()I"⟩ jdk_42_method_54_code 1 (some .int) ⟨1, 0, 0, 13⟩ #[.ref a] h [] (fun v h' => v = some (.int (N.toInt32 >>> (k &&& 31))) ∧ h' = h) := by
  refine Met.mk (a0 := a0) hEL pn_str ?_
  intro p e s m below meth c C hE hS
  rw [efs1]
  refine R_aload_n C le_0 rfl rfl ?_
  refine R_getfield C le_1 (hw _ (List.mem_of_getElem? (i := 26) rfl)) Via.refl (V) ?_
  refine R_arraylength C le_4 (A) rfl ?_
  refine R_aload_n C le_5 rfl rfl ?_
  refine R_virtual C [] le_6 (met_coder l Z a0 hw nw EL hEL cs fm S h a k hk F) (by first | exact fun z => z | exact fun _ => trivial) (E) (hw _ (List.mem_of_getElem? (i := 44) rfl)) (hw _ (List.mem_of_getElem? (i := 45) rfl)) (hw _ (List.mem_of_getElem? (i := 47) rfl)) (hw _ (List.mem_of_getElem? (i := 46) rfl)) (hw _ (List.mem_of_getElem? (i := 3) rfl)) (hw _ (List.mem_of_getElem? (i := 48) rfl)) (by decide) pd_0 rfl rfl rfl (Nat.le_of_ble_eq_true rfl) (Nat.le_of_ble_eq_true rfl) (Nat.le_of_ble_eq_true rfl) (Nat.le_of_ble_eq_true rfl) (fun _ q => nomatch q) ?_
  intro v vm' h' hQ hsz hSf hFr
  obtain ⟨rfl, rfl⟩ := hQ
  simp only [Option.toList_some, List.cons_append, List.nil_append]
  refine R_ishr C le_9 ?_
  exact R_retI C le_10 rfl (Nat.le_refl _) (Nat.le_refl _) ⟨rfl, rfl⟩
theorem shr0 (x : Int32) : x >>> ((0 : Int32) &&& 31) = x := by
  rw [show ((0 : Int32) &&& 31) = 0 from rfl]
  simp
theorem met_lengthL (l : Launch) (Z : State) (a0 : Array Value) (hw : ∀ d ∈ tables_1, d.before a0 Z = true) (nw : Prop) (EL : List (String × Nat)) (hEL : EW Z a0 EL) (cs : Int32) (fm : Value) (S : SS Z cs fm) (h : Heap) (a b : Addr) (n : Nat) (g : Nat → Int32) (X : StrL Z h a b n g) :
    Met l Z nw EL ⟨STR, "length", "()I"⟩ jdk_42_method_54_code 1 (some .int) ⟨1, 0, 0, 13⟩ #[.ref a] h [] (fun v h' => v = some (.int n.toInt32) ∧ h' = h) := by
  have q := met_length l Z a0 hw nw EL hEL cs fm S h a b n _ 0 rfl X.1 X.2.2.1 X.2.1 X.2.2.2.1
  rw [shr0] at q
  exact q
theorem cl_0 : Dc jdk_52_method_21_code 0 (.iconst 0) 1 1 := ⟨by decide +kernel, rfl⟩
theorem cl_1 : Dc jdk_52_method_21_code 1 (.istore 5) 2 3 := ⟨by decide +kernel, rfl⟩
theorem cl_3 : Dc jdk_52_method_21_code 3 (.iload 5) 2 5 := ⟨by decide +kernel, rfl⟩
theorem cl_5 : Dc jdk_52_method_21_code 5 (.iload 4) 2 7 := ⟨by decide +kernel, rfl⟩
theorem cl_7 : Jp jdk_52_method_21_code 7 (.if_icmp .ge 37) (37) 10 44 := ⟨by decide +kernel, rfl, by decide, by decide⟩
theorem cl_10 : Dc jdk_52_method_21_code 10 (.aload_n 0) 1 11 := ⟨by decide +kernel, rfl⟩
theorem cl_11 : Dc jdk_52_method_21_code 11 (.iload_n 1) 1 12 := ⟨by decide +kernel, rfl⟩
theorem cl_12 : Dc jdk_52_method_21_code 12 (.caload) 1 13 := ⟨by decide +kernel, rfl⟩
theorem cl_13 : Dc jdk_52_method_21_code 13 (.istore 6) 2 15 := ⟨by decide +kernel, rfl⟩
theorem cl_15 : Dc jdk_52_method_21_code 15 (.iload 6) 2 17 := ⟨by decide +kernel, rfl⟩
theorem cl_17 : Dc jdk_52_method_21_code 17 (.sipush 255) 3 20 := ⟨by decide +kernel, rfl⟩
theorem cl_20 : Jp jdk_52_method_21_code 20 (.if_icmp .le 6) (6) 23 26 := ⟨by decide +kernel, rfl, by decide, by decide⟩
theorem cl_23 : Dc jdk_52_method_21_code 23 (.iload 5) 2 25 := ⟨by decide +kernel, rfl⟩
theorem cl_25 : Dc jdk_52_method_21_code 25 (.ireturn) 1 26 := ⟨by decide +kernel, rfl⟩
theorem cl_26 : Dc jdk_52_method_21_code 26 (.aload_n 2) 1 27 := ⟨by decide +kernel, rfl⟩
theorem cl_27 : Dc jdk_52_method_21_code 27 (.iload_n 3) 1 28 := ⟨by decide +kernel, rfl⟩
theorem cl_28 : Dc jdk_52_method_21_code 28 (.iload 6) 2 30 := ⟨by decide +kernel, rfl⟩
theorem cl_30 : Dc jdk_52_method_21_code 30 (.i2b) 1 31 := ⟨by decide +kernel, rfl⟩
theorem cl_31 : Dc jdk_52_method_21_code 31 (.bastore) 1 32 := ⟨by decide +kernel, rfl⟩
theorem cl_32 : Dc jdk_52_method_21_code 32 (.iinc 1 1) 3 35 := ⟨by decide +kernel, rfl⟩
theorem cl_35 : Dc jdk_52_method_21_code 35 (.iinc 3 1) 3 38 := ⟨by decide +kernel, rfl⟩
theorem cl_38 : Dc jdk_52_method_21_code 38 (.iinc 5 1) 3 41 := ⟨by decide +kernel, rfl⟩
theorem cl_41 : Jp jdk_52_method_21_code 41 (.goto (-38)) (-38) 44 3 := ⟨by decide +kernel, rfl, by decide, by decide⟩
theorem cl_44 : Dc jdk_52_method_21_code 44 (.iload 4) 2 46 := ⟨by decide +kernel, rfl⟩
theorem cl_46 : Dc jdk_52_method_21_code 46 (.ireturn) 1 47 := ⟨by decide +kernel, rfl⟩
theorem cp_0 : Dc jdk_52_method_16_code 0 (.iload_n 2) 1 1 := ⟨by decide +kernel, rfl⟩
theorem cp_1 : Dc jdk_52_method_16_code 1 (.newarray .byte) 2 3 := ⟨by decide +kernel, rfl⟩
theorem cp_3 : Dc jdk_52_method_16_code 3 (.astore_n 3) 1 4 := ⟨by decide +kernel, rfl⟩
theorem cp_4 : Dc jdk_52_method_16_code 4 (.aload_n 0) 1 5 := ⟨by decide +kernel, rfl⟩
theorem cp_5 : Dc jdk_52_method_16_code 5 (.iload_n 1) 1 6 := ⟨by decide +kernel, rfl⟩
theorem cp_6 : Dc jdk_52_method_16_code 6 (.aload_n 3) 1 7 := ⟨by decide +kernel, rfl⟩
theorem cp_7 : Dc jdk_52_method_16_code 7 (.iconst 0) 1 8 := ⟨by decide +kernel, rfl⟩
theorem cp_8 : Dc jdk_52_method_16_code 8 (.iload_n 2) 1 9 := ⟨by decide +kernel, rfl⟩
theorem cp_9 : Dc jdk_52_method_16_code 9 (.invokestatic 115) 3 12 := ⟨by decide +kernel, rfl⟩
theorem cp_12 : Dc jdk_52_method_16_code 12 (.istore 4) 2 14 := ⟨by decide +kernel, rfl⟩
theorem cp_14 : Dc jdk_52_method_16_code 14 (.iload 4) 2 16 := ⟨by decide +kernel, rfl⟩
theorem cp_16 : Dc jdk_52_method_16_code 16 (.iload_n 2) 1 17 := ⟨by decide +kernel, rfl⟩
theorem cp_17 : Jp jdk_52_method_16_code 17 (.if_icmp .eq 40) (40) 20 57 := ⟨by decide +kernel, rfl, by decide, by decide⟩
theorem cp_20 : Dc jdk_52_method_16_code 20 (.aload_n 0) 1 21 := ⟨by decide +kernel, rfl⟩
theorem cp_21 : Dc jdk_52_method_16_code 21 (.iload_n 1) 1 22 := ⟨by decide +kernel, rfl⟩
theorem cp_22 : Dc jdk_52_method_16_code 22 (.iload_n 2) 1 23 := ⟨by decide +kernel, rfl⟩
theorem cp_23 : Dc jdk_52_method_16_code 23 (.invokestatic 119) 3 26 := ⟨by decide +kernel, rfl⟩
theorem cp_26 : Dc jdk_52_method_16_code 26 (.astore 5) 2 28 := ⟨by decide +kernel, rfl⟩
theorem cp_28 : Dc jdk_52_method_16_code 28 (.aload 5) 2 30 := ⟨by decide +kernel, rfl⟩
theorem cp_30 : Dc jdk_52_method_16_code 30 (.iload 4) 2 32 := ⟨by decide +kernel, rfl⟩
theorem cp_32 : Dc jdk_52_method_16_code 32 (.invokestatic 71) 3 35 := ⟨by decide +kernel, rfl⟩
theorem cp_35 : Dc jdk_52_method_16_code 35 (.sipush 255) 3 38 := ⟨by decide +kernel, rfl⟩
theorem cp_38 : Jp jdk_52_method_16_code 38 (.if_icmp .gt 16) (16) 41 54 := ⟨by decide +kernel, rfl, by decide, by decide⟩
theorem cp_41 : Dc jdk_52_method_16_code 41 (.aload 5) 2 43 := ⟨by decide +kernel, rfl⟩
theorem cp_43 : Dc jdk_52_method_16_code 43 (.iconst 0) 1 44 := ⟨by decide +kernel, rfl⟩
theorem cp_44 : Dc jdk_52_method_16_code 44 (.aload_n 3) 1 45 := ⟨by decide +kernel, rfl⟩
theorem cp_45 : Dc jdk_52_method_16_code 45 (.iconst 0) 1 46 := ⟨by decide +kernel, rfl⟩
theorem cp_46 : Dc jdk_52_method_16_code 46 (.iload_n 2) 1 47 := ⟨by decide +kernel, rfl⟩
theorem cp_47 : Dc jdk_52_method_16_code 47 (.invokestatic 123) 3 50 := ⟨by decide +kernel, rfl⟩
theorem cp_50 : Dc jdk_52_method_16_code 50 (.iload_n 2) 1 51 := ⟨by decide +kernel, rfl⟩
theorem cp_51 : Jp jdk_52_method_16_code 51 (.if_icmp .eq 6) (6) 54 57 := ⟨by decide +kernel, rfl, by decide, by decide⟩
theorem cp_54 : Dc jdk_52_method_16_code 54 (.aload 5) 2 56 := ⟨by decide +kernel, rfl⟩
theorem cp_56 : Dc jdk_52_method_16_code 56 (.areturn) 1 57 := ⟨by decide +kernel, rfl⟩
theorem cp_57 : Dc jdk_52_method_16_code 57 (.aload_n 3) 1 58 := ⟨by decide +kernel, rfl⟩
theorem cp_58 : Dc jdk_52_method_16_code 58 (.areturn) 1 59 := ⟨by decide +kernel, rfl⟩
theorem cf_0 : Dc jdk_52_method_15_code 0 (.iload_n 1) 1 1 := ⟨by decide +kernel, rfl⟩
theorem cf_1 : Dc jdk_52_method_15_code 1 (.aload_n 0) 1 2 := ⟨by decide +kernel, rfl⟩
theorem cf_2 : Dc jdk_52_method_15_code 2 (.arraylength) 1 3 := ⟨by decide +kernel, rfl⟩
theorem cf_3 : Dc jdk_52_method_15_code 3 (.isub) 1 4 := ⟨by decide +kernel, rfl⟩
theorem cf_4 : Dc jdk_52_method_15_code 4 (.bipush 31) 2 6 := ⟨by decide +kernel, rfl⟩
theorem cf_6 : Dc jdk_52_method_15_code 6 (.iushr) 1 7 := ⟨by decide +kernel, rfl⟩
theorem cf_7 : Dc jdk_52_method_15_code 7 (.i2b) 1 8 := ⟨by decide +kernel, rfl⟩
theorem cf_8 : Dc jdk_52_method_15_code 8 (.ireturn) 1 9 := ⟨by decide +kernel, rfl⟩
theorem i6_0 : Dc jdk_42_method_149_code 0 (.aload_n 0) 1 1 := ⟨by decide +kernel, rfl⟩
theorem i6_1 : Dc jdk_42_method_149_code 1 (.invokespecial 1) 3 4 := ⟨by decide +kernel, rfl⟩
theorem i6_4 : Dc jdk_42_method_149_code 4 (.iload_n 3) 1 5 := ⟨by decide +kernel, rfl⟩
theorem i6_5 : Jp jdk_42_method_149_code 5 (.ifCond .ne 22) (22) 8 27 := ⟨by decide +kernel, rfl, by decide, by decide⟩
theorem i6_8 : Dc jdk_42_method_149_code 8 (.aload_n 0) 1 9 := ⟨by decide +kernel, rfl⟩
theorem i6_9 : Dc jdk_42_method_149_code 9 (.ldc 7) 2 11 := ⟨by decide +kernel, rfl⟩
theorem i6_11 : Dc jdk_42_method_149_code 11 (.getfield 9) 3 14 := ⟨by decide +kernel, rfl⟩
theorem i6_14 : Dc jdk_42_method_149_code 14 (.putfield 9) 3 17 := ⟨by decide +kernel, rfl⟩
theorem i6_17 : Dc jdk_42_method_149_code 17 (.aload_n 0) 1 18 := ⟨by decide +kernel, rfl⟩
theorem i6_18 : Dc jdk_42_method_149_code 18 (.ldc 7) 2 20 := ⟨by decide +kernel, rfl⟩
theorem i6_20 : Dc jdk_42_method_149_code 20 (.getfield 15) 3 23 := ⟨by decide +kernel, rfl⟩
theorem i6_23 : Dc jdk_42_method_149_code 23 (.putfield 15) 3 26 := ⟨by decide +kernel, rfl⟩
theorem i6_26 : Dc jdk_42_method_149_code 26 (.return_) 1 27 := ⟨by decide +kernel, rfl⟩
theorem i6_27 : Dc jdk_42_method_149_code 27 (.getstatic 38) 3 30 := ⟨by decide +kernel, rfl⟩
theorem i6_30 : Jp jdk_42_method_149_code 30 (.ifCond .eq 28) (28) 33 58 := ⟨by decide +kernel, rfl, by decide, by decide⟩
theorem i6_33 : Dc jdk_42_method_149_code 33 (.aload_n 1) 1 34 := ⟨by decide +kernel, rfl⟩
theorem i6_34 : Dc jdk_42_method_149_code 34 (.iload_n 2) 1 35 := ⟨by decide +kernel, rfl⟩
theorem i6_35 : Dc jdk_42_method_149_code 35 (.iload_n 3) 1 36 := ⟨by decide +kernel, rfl⟩
theorem i6_36 : Dc jdk_42_method_149_code 36 (.invokestatic 177) 3 39 := ⟨by decide +kernel, rfl⟩
theorem i6_39 : Dc jdk_42_method_149_code 39 (.astore 5) 2 41 := ⟨by decide +kernel, rfl⟩
theorem i6_41 : Dc jdk_42_method_149_code 41 (.aload_n 0) 1 42 := ⟨by decide +kernel, rfl⟩
theorem i6_42 : Dc jdk_42_method_149_code 42 (.aload 5) 2 44 := ⟨by decide +kernel, rfl⟩
theorem i6_44 : Dc jdk_42_method_149_code 44 (.iload_n 3) 1 45 := ⟨by decide +kernel, rfl⟩
theorem i6_45 : Dc jdk_42_method_149_code 45 (.invokestatic 47) 3 48 := ⟨by decide +kernel, rfl⟩
theorem i6_48 : Dc jdk_42_method_149_code 48 (.putfield 15) 3 51 := ⟨by decide +kernel, rfl⟩
theorem i6_51 : Dc jdk_42_method_149_code 51 (.aload_n 0) 1 52 := ⟨by decide +kernel, rfl⟩
theorem i6_52 : Dc jdk_42_method_149_code 52 (.aload 5) 2 54 := ⟨by decide +kernel, rfl⟩
theorem i6_54 : Dc jdk_42_method_149_code 54 (.putfield 9) 3 57 := ⟨by decide +kernel, rfl⟩
theorem i6_57 : Dc jdk_42_method_149_code 57 (.return_) 1 58 := ⟨by decide +kernel, rfl⟩
theorem i6_58 : Dc jdk_42_method_149_code 58 (.aload_n 0) 1 59 := ⟨by decide +kernel, rfl⟩
theorem i6_59 : Dc jdk_42_method_149_code 59 (.iconst 1) 1 60 := ⟨by decide +kernel, rfl⟩
theorem i6_60 : Dc jdk_42_method_149_code 60 (.putfield 15) 3 63 := ⟨by decide +kernel, rfl⟩
theorem i6_63 : Dc jdk_42_method_149_code 63 (.aload_n 0) 1 64 := ⟨by decide +kernel, rfl⟩
theorem i6_64 : Dc jdk_42_method_149_code 64 (.aload_n 1) 1 65 := ⟨by decide +kernel, rfl⟩
theorem i6_65 : Dc jdk_42_method_149_code 65 (.iload_n 2) 1 66 := ⟨by decide +kernel, rfl⟩
theorem i6_66 : Dc jdk_42_method_149_code 66 (.iload_n 3) 1 67 := ⟨by decide +kernel, rfl⟩
theorem i6_67 : Dc jdk_42_method_149_code 67 (.invokestatic 180) 3 70 := ⟨by decide +kernel, rfl⟩
theorem i6_70 : Dc jdk_42_method_149_code 70 (.putfield 9) 3 73 := ⟨by decide +kernel, rfl⟩
theorem i6_73 : Dc jdk_42_method_149_code 73 (.return_) 1 74 := ⟨by decide +kernel, rfl⟩
theorem met_cl (l : Launch) (Z : State) (a0 : Array Value) (hw : ∀ d ∈ tables_1, d.before a0 Z = true) (nw : Prop) (EL : List (String × Nat)) (hEL : EW Z a0 EL) (h : Heap) (val dst : Addr) (Nc off len : Nat) (g : Nat → Int32) (fd : Nat → Value) (A : AR Z h val .char Nc (fun i => .int (g i))) (D : AR Z h dst .byte len fd) (hne : val ≠ dst) (hb : off + len ≤ Nc) (hdst : Z.heap.size ≤ dst) (offI lenI : Int32) (ho : offI.toInt = off) (hl : lenI.toInt = len) :
    Met l Z nw EL ⟨UTF, "compress", "([CI[BII)I"⟩ jdk_52_method_21_code 7 (some .int) ⟨0, 0, 0, 0⟩ #[.ref val, .int offI, .ref dst, .int 0, .int lenI] h [dst] (fun v h' => ∃ (r : Nat) (rI : Int32), v = some (.int rI) ∧ rI.toInt = r ∧ r ≤ len ∧ (∀ i, i < r → (g (off + i)).toInt ≤ 255) ∧ (r < len → 255 < (g (off + r)).toInt) ∧ Keep h h' [dst] ∧ AR Z h' dst .byte len (fun i => if i < r then by8 (g (off + i)) else fd i)) := by
  have h31 := A.small
  refine Met.mk (a0 := a0) hEL pn_utf ?_
  intro p e s m below meth c C hE hS
  rw [efl7]
  have hvd : val ∉ [dst] := fun z => hne (List.mem_singleton.mp z)
  have one : (1 : Int32).toInt = 1 := rfl
  have loop : ∀ (t i : Nat) (h1 : Heap) (oI dI iI : Int32) (s6 : Slot), i + t = len → okSlot s6 = true → oI.toInt = (off + i : Nat) → dI.toInt = i → iI.toInt = i → (∀ j, j < i → (g (off + j)).toInt ≤ 255) → Keep h h1 [dst] → AR Z h1 dst .byte len (fun j => if j < i then by8 (g (off + j)) else fd j) → Safe Z EL s.vm h1 dst →
      Run p l e ⟨0, 0, 0, 0⟩ s m #[.ref val, .int offI, .ref dst, .int 0, .int lenI] below meth c Z nw EL (Kf s Z nw EL ⟨0, 0, 0, 0⟩ (fun v h' => ∃ (r : Nat) (rI : Int32), v = some (.int rI) ∧ rI.toInt = r ∧ r ≤ len ∧ (∀ i, i < r → (g (off + i)).toInt ≤ 255) ∧ (r < len → 255 < (g (off + r)).toInt) ∧ Keep h h' [dst] ∧ AR Z h' dst .byte len (fun i => if i < r then by8 (g (off + i)) else fd i))) s.vm h1 0 0 (fr m 3 [.val (.ref val), .val (.int oI), .val (.ref dst), .val (.int dI), .val (.int lenI), .val (.int iI), s6] []) := by
    intro t
    induction t with
    | zero =>
      intro i h1 oI dI iI s6 hi o6 q1 q2 q3 q4 K1 D1 S1
      have hi' : i = len := by omega
      subst hi'
      refine R_iload C cl_3 rfl ?_
      refine R_iload C cl_5 rfl ?_
      refine R_icmp C cl_7 (fun _ => ?_) (fun (hc : ¬ ¬ iI < lenI) => absurd (show ¬ iI < lenI from ?_) hc)
      · refine R_iload C cl_44 rfl ?_
        exact R_retI C cl_46 rfl (Nat.le_refl _) (Nat.le_refl _) ⟨i, lenI, rfl, hl, Nat.le_refl _, q4, fun z => absurd z (Nat.lt_irrefl _), K1, D1⟩
      · rw [Int32.lt_iff_toInt_lt]; omega
    | succ t ih =>
      intro i h1 oI dI iI s6 hi o6 q1 q2 q3 q4 K1 D1 S1
      refine R_iload C cl_3 rfl ?_
      refine R_iload C cl_5 rfl ?_
      refine R_icmp C cl_7 (fun (hc : ¬ iI < lenI) => absurd (Int32.lt_iff_toInt_lt.mpr (by omega)) hc) (fun _ => ?_)
      have A1 := A.keep K1 hvd
      refine R_aload_n C cl_10 rfl rfl ?_
      refine R_iload_n C cl_11 rfl ?_
      refine R_caload C (off + i) cl_12 A1 q1 (by omega) rfl ?_
      refine R_istore C cl_13 o6 ?_
      simp only [fv0, fv1, fv2, fv3, List.set_cons_zero, List.set_cons_succ]
      refine R_iload C cl_15 rfl ?_
      refine R_sipush C cl_17 (v := 255) rfl ?_
      refine R_icmp C cl_20 (fun (hc : ¬ (255 : Int32) < g (off + i)) => ?_) (fun (hc : ¬ ¬ (255 : Int32) < g (off + i)) => ?_)
      · rw [Int32.lt_iff_toInt_lt, show (255 : Int32).toInt = 255 from rfl] at hc
        refine R_aload_n C cl_26 rfl rfl ?_
        refine R_iload_n C cl_27 rfl ?_
        refine R_iload C cl_28 rfl ?_
        refine R_i2b C cl_30 ?_
        refine R_bastore C i cl_31 D1 q2 (by omega) hdst S1 ?_
        intro h2 W2 D2 Sf2
        have r1 := Jvm.Kit.i32_add (p := oI) (q := 1) (by omega) (by omega)
        have r2 := Jvm.Kit.i32_add (p := dI) (q := 1) (by omega) (by omega)
        have r3 := Jvm.Kit.i32_add (p := iI) (q := 1) (by omega) (by omega)
        refine R_iinc C cl_32 rfl rfl (dI := 1) rfl rfl ?_
        simp only [fv0, fv1, fv2, fv3, List.set_cons_zero, List.set_cons_succ]
        refine R_iinc C cl_35 rfl rfl (dI := 1) rfl rfl ?_
        simp only [fv0, fv1, fv2, fv3, List.set_cons_zero, List.set_cons_succ]
        refine R_iinc C cl_38 rfl rfl (dI := 1) rfl rfl ?_
        simp only [fv0, fv1, fv2, fv3, List.set_cons_zero, List.set_cons_succ]
        refine R_goto C cl_41 ?_
        refine ih (i + 1) h2 _ _ _ _ (by omega) rfl (by omega) (by omega) (by omega) (fun j hj => ?_) (K1.wr W2 (Or.inl (List.mem_singleton.mpr rfl))) (D2.cg fun j hj => ?_) (Sf2 _ S1)
        · by_cases z : j = i
          · subst z; omega
          · exact q4 j (by omega)
        · by_cases z : j = i
          · subst z
            rw [upd_eq, if_pos (by omega), nar_byte_byte]
          · rw [upd_ne z]
            by_cases z2 : j < i
            · rw [if_pos z2, if_pos (by omega)]
            · rw [if_neg z2, if_neg (by omega)]
      · have hc' := Int32.lt_iff_toInt_lt.mp (Decidable.not_not.mp hc)
        rw [show (255 : Int32).toInt = 255 from rfl] at hc'
        refine R_iload C cl_23 rfl ?_
        exact R_retI C cl_25 rfl (Nat.le_refl _) (Nat.le_refl _) ⟨i, iI, rfl, q3, by omega, q4, fun _ => hc', K1, D1⟩
  refine R_iconst C cl_0 (v := 0) rfl ?_
  refine R_istore C cl_1 rfl ?_
  simp only [fv0, fv1, fv2, fv3, List.set_cons_zero, List.set_cons_succ]
  exact loop len 0 h _ _ _ _ (by omega) rfl (by omega) rfl rfl (fun j hj => absurd hj (Nat.not_lt_zero _)) (Keep.refl _ _) (D.cg fun j hj => by rw [if_neg (Nat.not_lt_zero _)]) (hS dst (List.mem_singleton.mpr rfl))
theorem met_cpL (l : Launch) (Z : State) (a0 : Array Value) (hw : ∀ d ∈ tables_1, d.before a0 Z = true) (nw : Prop) (EL : List (String × Nat)) (hEL : EW Z a0 EL) (h : Heap) (val : Addr) (Nc off len cap : Nat) (g : Nat → Int32) (A : AR Z h val .char Nc (fun i => .int (g i))) (hb : off + len ≤ Nc) (hcap : len ≤ cap) (hc8 : cap * 8 ≤ 536870912) (offI lenI : Int32) (ho : offI.toInt = off) (hl : lenI.toInt = len) (hlat : ∀ i, i < len → (g (off + i)).toInt ≤ 255) :
    Met l Z nw EL ⟨UTF, "compress", "([CII)[B"⟩ jdk_52_method_16_code 6 (some (.array .byte)) ⟨1, 1, cap, 18⟩ #[.ref val, .int offI, .int lenI] h [] (fun v h' => v = some (.ref h.size) ∧ Ext h h' ∧ AR Z h' h.size .byte len (fun i => by8 (g (off + i)))) := by
  refine Met.mk (a0 := a0) hEL pn_utf ?_
  intro p e s m below meth c C hE hS
  rw [efc6]
  refine R_iload_n C cp_0 rfl ?_
  refine R_newarray C cap cp_1 (hw _ (List.mem_of_getElem? (i := 5) rfl)) hl hcap hc8 (Nat.le_refl _) (Nat.le_of_eq (Nat.zero_add _)) rfl ?_
  intro h1 E1 D1 S1 Sf1
  refine R_astore_n C cp_3 rfl rfl rfl ?_
  simp only [fv0, fv1, fv2, fv3, List.set_cons_zero, List.set_cons_succ]
  refine R_aload_n C cp_4 rfl rfl ?_
  refine R_iload_n C cp_5 rfl ?_
  refine R_aload_n C cp_6 rfl rfl ?_
  refine R_iconst C cp_7 (v := 0) rfl ?_
  refine R_iload_n C cp_8 rfl ?_
  refine R_static C [.ref val, .int offI, .ref h.size, .int 0, .int lenI] cp_9 (met_cl l Z a0 hw nw EL hEL h1 val h.size Nc off len g _ (A.ext E1) D1 (Nat.ne_of_lt A.lt) hb hE.1 offI lenI ho hl) (by first | exact fun z => z | exact fun _ => trivial) (hw _ (List.mem_of_getElem? (i := 68) rfl)) (hw _ (List.mem_of_getElem? (i := 69) rfl)) (hw _ (List.mem_of_getElem? (i := 66) rfl)) (hw _ (List.mem_of_getElem? (i := 70) rfl)) (by decide) pd_1 rfl rfl rfl (Nat.le_refl _) (Nat.le_of_ble_eq_true rfl) (Nat.le_refl _) (Nat.le_of_eq (Nat.zero_add _)) (fun x hx => by cases List.mem_singleton.mp hx; exact S1) ?_
  intro v vm2 h2 hQ hsz2 hSf2 hFr
  obtain ⟨r, rI, rfl, hr1, hr2, hr3, hr4, K2, D2⟩ := hQ
  have hrl : r = len := by
    rcases Nat.lt_or_ge r len with z | z
    · have z1 := hr4 z
      have z2 := hlat r z
      omega
    · omega
  subst hrl
  simp only [Option.toList_some, List.cons_append, List.nil_append]
  refine R_istore C cp_12 rfl ?_
  simp only [fv0, fv1, fv2, fv3, List.set_cons_zero, List.set_cons_succ]
  refine R_iload C cp_14 rfl ?_
  refine R_iload_n C cp_16 rfl ?_
  refine R_icmp C cp_17 (fun _ => ?_) (fun (hc : ¬ rI = lenI) => absurd (Int32.toInt_inj.mp (by omega)) hc)
  refine R_aload_n C cp_57 rfl rfl ?_
  refine R_areturn C cp_58 rfl rfl rfl (Nat.le_refl _) (Nat.le_of_eq (Nat.zero_add _)) ⟨rfl, E1.keep' K2 (fun x hx => by cases List.mem_singleton.mp hx; exact Nat.le_refl _), D2.cg fun i hi => by rw [if_pos hi]⟩
theorem ushr0 : (XT.ushr 0 31).toInt8.toInt32 = 0 := by decide +kernel
theorem met_cfL (l : Launch) (Z : State) (a0 : Array Value) (hw : ∀ d ∈ tables_1, d.before a0 Z = true) (nw : Prop) (EL : List (String × Nat)) (hEL : EW Z a0 EL) (h : Heap) (b : Addr) (len : Nat) (f : Nat → Value) (A : AR Z h b .byte len f) (lenI : Int32) (hl : lenI.toInt = len) :
    Met l Z nw EL ⟨UTF, "coderFromArrayLen", "([BI)B"⟩ jdk_52_method_15_code 2 (some .byte) ⟨0, 0, 0, 0⟩ #[.ref b, .int lenI] h [] (fun v h' => v = some (.int 0) ∧ h' = h) := by
  refine Met.mk (a0 := a0) hEL pn_utf ?_
  intro p e s m below meth c C hE hS
  rw [efRI2]
  have hll : len.toInt32 = lenI := Int32.toInt_inj.mp (by rw [len_toInt A.small]; omega)
  subst hll
  refine R_iload_n C cf_0 rfl ?_
  refine R_aload_n C cf_1 rfl rfl ?_
  refine R_arraylength C cf_2 (A) rfl ?_
  refine R_isub C cf_3 ?_
  refine R_bipush C cf_4 (v := 31) rfl ?_
  refine R_iushr C cf_6 ?_
  refine R_i2b C cf_7 ?_
  refine R_retN C cf_8 rfl (Or.inr (Or.inl rfl)) (Nat.le_refl _) (Nat.le_refl _) ⟨?_, rfl⟩
  rw [Int32.sub_self, ushr0]
  rfl
/-- what new String(char[], off, len) leaves -/
def InQ (Z : State) (h : Heap) (a : Addr) (len : Nat) (g : Nat → Int32) (v : Option Value) (h' : Heap) : Prop := v = none ∧ Keep h h' [a] ∧ ∃ b, StrL Z h' a b len g
theorem met_i6L (l : Launch) (Z : State) (a0 : Array Value) (hw : ∀ d ∈ tables_1, d.before a0 Z = true) (nw : Prop) (EL : List (String × Nat)) (hEL : EW Z a0 EL) (cs : Int32) (fm : Value) (S : SS Z cs fm) (h : Heap) (a val : Addr) (Nc off len cap : Nat) (g : Nat → Int32) (A : AR Z h val .char Nc (fun i => .int (g i))) (hb : off + len ≤ Nc) (hcap : len ≤ cap) (hc8 : cap * 8 ≤ 536870912) (offI lenI : Int32) (ho : offI.toInt = off) (hl : lenI.toInt = len) (hpos : 0 < len) (hlat : ∀ i, i < len → 0 ≤ (g (off + i)).toInt ∧ (g (off + i)).toInt ≤ 255) (vo : Value) (hvo : vo.category = 1)
    (E : Exa Z h a STR) (F1 : Fld Z h a STR "value" "[B" .null) (F2 : Fld Z h a STR "coder" "B" (.int 0)) (ha : Z.heap.size ≤ a) :
    Met l Z nw EL ⟨STR, "<init>", "([CIILjava/lang/Void;)V"⟩ jdk_42_method_149_code 6 none ⟨2, 1, cap, 35⟩ #[.ref a, .ref val, .int offI, .int lenI, vo] h [a] (InQ Z h a len (fun i => g (off + i))) := by
  have Lv : Laid Z a0 STR STR "value" "[B" := Or.inr (hw _ (List.mem_of_getElem? (i := 6) rfl))
  have Lc : Laid Z a0 STR STR "coder" "B" := Or.inr (hw _ (List.mem_of_getElem? (i := 7) rfl))
  have nvc := slot_ne Lv Lc (by decide) (t := .array .byte) (t' := .byte) (by decide) (by decide)
  have ncv := slot_ne Lc Lv (by decide) (t := .byte) (t' := .array .byte) (by decide) (by decide)
  refine Met.mk (a0 := a0) hEL pn_str ?_
  intro p e s m below meth c C hE hS
  rw [efi6 m _ _ _ _ _ hvo]
  refine R_aload_n C i6_0 rfl rfl ?_
  refine R_initO C i6_1 (hw _ (List.mem_of_getElem? (i := 61) rfl)) (hw _ (List.mem_of_getElem? (i := 62) rfl)) (hw _ (List.mem_of_getElem? (i := 63) rfl)) rfl (Nat.le_of_ble_eq_true rfl) (Nat.le_of_ble_eq_true rfl) ?_
  refine R_iload_n C i6_4 rfl ?_
  refine R_if C i6_5 (fun _ => ?_) (fun (hc : ¬ ¬ lenI = 0) => absurd (show ¬ lenI = 0 from fun z => ?_) hc)
  · refine R_getstatic C i6_27 (hw _ (List.mem_of_getElem? (i := 24) rfl)) Via.refl (S.2.1.ext hE) ?_
    refine R_if C i6_30 (fun hc => absurd hc S.1) (fun _ => ?_)
    refine R_aload_n C i6_33 rfl rfl ?_
    refine R_iload_n C i6_34 rfl ?_
    refine R_iload_n C i6_35 rfl ?_
    refine R_static C [.ref val, .int offI, .int lenI] i6_36 (met_cpL l Z a0 hw nw EL hEL h val Nc off len cap g A hb hcap hc8 offI lenI ho hl (fun i hi => (hlat i hi).2)) (by first | exact fun z => z | exact fun _ => trivial) (hw _ (List.mem_of_getElem? (i := 64) rfl)) (hw _ (List.mem_of_getElem? (i := 65) rfl)) (hw _ (List.mem_of_getElem? (i := 66) rfl)) (hw _ (List.mem_of_getElem? (i := 67) rfl)) (by decide) pd_2 rfl rfl rfl (Nat.le_of_ble_eq_true rfl) (Nat.le_of_ble_eq_true rfl) (Nat.le_refl _) (Nat.le_of_eq (Nat.zero_add _)) (fun _ q => nomatch q) ?_
    intro v vm2 h2 hQ hsz2 hSf2 hFr
    obtain ⟨rfl, E2, D2⟩ := hQ
    simp only [Option.toList_some, List.cons_append, List.nil_append]
    refine R_astore C i6_39 rfl rfl rfl ?_
    simp only [fv0, fv1, fv2, fv3, List.set_cons_zero, List.set_cons_succ]
    refine R_aload_n C i6_41 rfl rfl ?_
    refine R_aload C i6_42 rfl rfl ?_
    refine R_iload_n C i6_44 rfl ?_
    refine R_static C [.ref h.size, .int lenI] i6_45 (met_cfL l Z a0 hw nw EL hEL h2 h.size len _ D2 lenI hl) (by first | exact fun z => z | exact fun _ => trivial) (hw _ (List.mem_of_getElem? (i := 71) rfl)) (hw _ (List.mem_of_getElem? (i := 72) rfl)) (hw _ (List.mem_of_getElem? (i := 66) rfl)) (hw _ (List.mem_of_getElem? (i := 73) rfl)) (by decide) pd_3 rfl rfl rfl (Nat.le_of_ble_eq_true rfl) (Nat.le_of_ble_eq_true rfl) (Nat.le_refl _) (Nat.le_of_eq (by simp)) (fun _ q => nomatch q) ?_
    intro v vm3 h3 hQ hsz3 hSf3 hFr
    obtain ⟨rfl, rfl⟩ := hQ
    have Sa : Safe Z EL vm3 h3 a := hSf3 a (E.ext E2).lt (hSf2 a E.lt (hS a (List.mem_singleton.mpr rfl)))
    refine R_putfield C i6_48 (hw _ (List.mem_of_getElem? (i := 25) rfl)) Via.refl (F2.ext E2) (E.ext E2) (Or.inr ⟨(hw _ (List.mem_of_getElem? (i := 7) rfl)), rfl, rfl⟩) (hw _ (List.mem_of_getElem? (i := 4) rfl)) (ty := .byte) (by decide) rfl rfl ha Sa ?_
    intro h4 W4 Sf4
    refine R_aload_n C i6_51 rfl rfl ?_
    refine R_aload C i6_52 rfl rfl ?_
    refine R_putfield C i6_54 (hw _ (List.mem_of_getElem? (i := 26) rfl)) Via.refl ((F1.ext E2).other W4 (Or.inr nvc)) ((E.ext E2).wr W4) (Or.inr ⟨(hw _ (List.mem_of_getElem? (i := 6) rfl)), rfl, rfl⟩) (hw _ (List.mem_of_getElem? (i := 4) rfl)) (ty := .array .byte) (by decide) rfl rfl ha (Sf4 _ Sa) ?_
    intro h5 W5 Sf5
    have ne : h.size ≠ a := Nat.ne_of_gt E.lt
    refine R_return C i6_57 rfl (Nat.le_refl _) (Nat.le_of_eq (by simp)) ⟨rfl, ?_, h.size, ((E.ext E2).wr W4).wr W5, ((F1.ext E2).other W4 (Or.inr nvc)).same W5, ((F2.ext E2).same W4).other W5 (Or.inr ncv), (D2.other W4 ne).other W5 ne, hlat⟩
    exact ((Keep.ofExt E2).wr W4 (Or.inl (List.mem_singleton.mpr rfl))).wr W5 (Or.inl (List.mem_singleton.mpr rfl))
  · rw [z] at hl
    rw [Int32.toInt_zero] at hl
    omega
theorem i2_0 : Dc jdk_42_method_3_code 0 (.aload_n 0) 1 1 := ⟨by decide +kernel, rfl⟩
theorem i2_1 : Dc jdk_42_method_3_code 1 (.aload_n 1) 1 2 := ⟨by decide +kernel, rfl⟩
theorem i2_2 : Dc jdk_42_method_3_code 2 (.iconst 0) 1 3 := ⟨by decide +kernel, rfl⟩
theorem i2_3 : Dc jdk_42_method_3_code 3 (.aload_n 1) 1 4 := ⟨by decide +kernel, rfl⟩
theorem i2_4 : Dc jdk_42_method_3_code 4 (.arraylength) 1 5 := ⟨by decide +kernel, rfl⟩
theorem i2_5 : Dc jdk_42_method_3_code 5 (.aconst_null) 1 6 := ⟨by decide +kernel, rfl⟩
theorem i2_6 : Dc jdk_42_method_3_code 6 (.invokespecial 27) 3 9 := ⟨by decide +kernel, rfl⟩
theorem i2_9 : Dc jdk_42_method_3_code 9 (.return_) 1 10 := ⟨by decide +kernel, rfl⟩
theorem met_i2L (l : Launch) (Z : State) (a0 : Array Value) (hw : ∀ d ∈ tables_1, d.before a0 Z = true) (nw : Prop) (EL : List (String × Nat)) (hEL : EW Z a0 EL) (cs : Int32) (fm : Value) (S : SS Z cs fm) (h : Heap) (a val : Addr) (len cap : Nat) (g : Nat → Int32) (A : AR Z h val .char len (fun i => .int (g i))) (hcap : len ≤ cap) (hc8 : cap * 8 ≤ 536870912) (hpos : 0 < len) (hlat : ∀ i, i < len → 0 ≤ (g i).toInt ∧ (g i).toInt ≤ 255)
    (E : Exa Z h a STR) (F1 : Fld Z h a STR "value" "[B" .null) (F2 : Fld Z h a STR "coder" "B" (.int 0)) (ha : Z.heap.size ≤ a) :
    Met l Z nw EL ⟨STR, "<init>", "([C)V"⟩ jdk_42_method_3_code 2 none ⟨3, 1, cap, 52⟩ #[.ref a, .ref val] h [a] (InQ Z h a len g) := by
  refine Met.mk (a0 := a0) hEL pn_str ?_
  intro p e s m below meth c C hE hS
  rw [efi2]
  have z0 : (fun i => g (0 + i)) = g := funext fun i => by rw [Nat.zero_add]
  have M := met_i6L l Z a0 hw nw EL hEL cs fm S h a val len 0 len cap g A (by omega) hcap hc8 0 len.toInt32 rfl (len_toInt A.small) hpos (fun i hi => by rw [Nat.zero_add]; exact hlat i hi) .null rfl E F1 F2 ha
  rw [z0] at M
  refine R_aload_n C i2_0 rfl rfl ?_
  refine R_aload_n C i2_1 rfl rfl ?_
  refine R_iconst C i2_2 (v := 0) rfl ?_
  refine R_aload_n C i2_3 rfl rfl ?_
  refine R_arraylength C i2_4 (A) rfl ?_
  refine R_aconst_null C i2_5 ?_
  refine R_special C [.ref val, .int 0, .int len.toInt32, .null] i2_6 M (by first | exact fun z => z | exact fun _ => trivial) rfl (hw _ (List.mem_of_getElem? (i := 57) rfl)) (hw _ (List.mem_of_getElem? (i := 58) rfl)) (hw _ (List.mem_of_getElem? (i := 3) rfl)) (hw _ (List.mem_of_getElem? (i := 60) rfl)) (by decide) pd_4 rfl rfl rfl (Nat.le_of_ble_eq_true rfl) (Nat.le_of_ble_eq_true rfl) (Nat.le_refl _) (Nat.le_of_eq (Nat.zero_add _)) hS ?_
  intro v vm2 h2 hQ hsz2 hSf2 hFr
  obtain ⟨rfl, hQ⟩ := hQ
  exact R_return C i2_9 rfl (Nat.le_refl _) (Nat.le_of_eq (Nat.zero_add _)) ⟨rfl, hQ⟩
theorem il_0 : Dc jdk_42_method_154_code 0 (.getstatic 38) 3 3 := ⟨by decide +kernel, rfl⟩
theorem il_3 : Jp jdk_42_method_154_code 3 (.ifCond .eq 14) (14) 6 17 := ⟨by decide +kernel, rfl, by decide, by decide⟩
theorem il_6 : Dc jdk_42_method_154_code 6 (.aload_n 0) 1 7 := ⟨by decide +kernel, rfl⟩
theorem il_7 : Dc jdk_42_method_154_code 7 (.getfield 15) 3 10 := ⟨by decide +kernel, rfl⟩
theorem il_10 : Jp jdk_42_method_154_code 10 (.ifCond .ne 7) (7) 13 17 := ⟨by decide +kernel, rfl, by decide, by decide⟩
theorem il_13 : Dc jdk_42_method_154_code 13 (.iconst 1) 1 14 := ⟨by decide +kernel, rfl⟩
theorem il_14 : Jp jdk_42_method_154_code 14 (.goto 4) (4) 17 18 := ⟨by decide +kernel, rfl, by decide, by decide⟩
theorem il_17 : Dc jdk_42_method_154_code 17 (.iconst 0) 1 18 := ⟨by decide +kernel, rfl⟩
theorem il_18 : Dc jdk_42_method_154_code 18 (.ireturn) 1 19 := ⟨by decide +kernel, rfl⟩
theorem pk_0 : Dc jdk_41_method_11_code 0 (.iload_n 0) 1 1 := ⟨by decide +kernel, rfl⟩
theorem pk_1 : Jp jdk_41_method_11_code 1 (.ifCond .lt 8) (8) 4 9 := ⟨by decide +kernel, rfl, by decide, by decide⟩
theorem pk_4 : Dc jdk_41_method_11_code 4 (.iload_n 0) 1 5 := ⟨by decide +kernel, rfl⟩
theorem pk_5 : Dc jdk_41_method_11_code 5 (.iload_n 1) 1 6 := ⟨by decide +kernel, rfl⟩
theorem pk_6 : Jp jdk_41_method_11_code 6 (.if_icmp .lt 10) (10) 9 16 := ⟨by decide +kernel, rfl, by decide, by decide⟩
theorem pk_9 : Dc jdk_41_method_11_code 9 (.aload_n 2) 1 10 := ⟨by decide +kernel, rfl⟩
theorem pk_10 : Dc jdk_41_method_11_code 10 (.iload_n 0) 1 11 := ⟨by decide +kernel, rfl⟩
theorem pk_11 : Dc jdk_41_method_11_code 11 (.iload_n 1) 1 12 := ⟨by decide +kernel, rfl⟩
theorem pk_12 : Dc jdk_41_method_11_code 12 (.invokestatic 95) 3 15 := ⟨by decide +kernel, rfl⟩
theorem pk_15 : Dc jdk_41_method_11_code 15 (.athrow) 1 16 := ⟨by decide +kernel, rfl⟩
theorem pk_16 : Dc jdk_41_method_11_code 16 (.iload_n 0) 1 17 := ⟨by decide +kernel, rfl⟩
theorem pk_17 : Dc jdk_41_method_11_code 17 (.ireturn) 1 18 := ⟨by decide +kernel, rfl⟩
theorem ck_0 : Dc jdk_42_method_155_code 0 (.iload_n 0) 1 1 := ⟨by decide +kernel, rfl⟩
theorem ck_1 : Dc jdk_42_method_155_code 1 (.iload_n 1) 1 2 := ⟨by decide +kernel, rfl⟩
theorem ck_2 : Dc jdk_42_method_155_code 2 (.getstatic 1053) 3 5 := ⟨by decide +kernel, rfl⟩
theorem ck_5 : Dc jdk_42_method_155_code 5 (.invokestatic 1059) 3 8 := ⟨by decide +kernel, rfl⟩
theorem ck_8 : Dc jdk_42_method_155_code 8 (.pop) 1 9 := ⟨by decide +kernel, rfl⟩
theorem ck_9 : Dc jdk_42_method_155_code 9 (.return_) 1 10 := ⟨by decide +kernel, rfl⟩
theorem lc_0 : Dc jdk_43_method_2_code 0 (.iload_n 1) 1 1 := ⟨by decide +kernel, rfl⟩
theorem lc_1 : Dc jdk_43_method_2_code 1 (.aload_n 0) 1 2 := ⟨by decide +kernel, rfl⟩
theorem lc_2 : Dc jdk_43_method_2_code 2 (.arraylength) 1 3 := ⟨by decide +kernel, rfl⟩
theorem lc_3 : Dc jdk_43_method_2_code 3 (.invokestatic 9) 3 6 := ⟨by decide +kernel, rfl⟩
theorem lc_6 : Dc jdk_43_method_2_code 6 (.aload_n 0) 1 7 := ⟨by decide +kernel, rfl⟩
theorem lc_7 : Dc jdk_43_method_2_code 7 (.iload_n 1) 1 8 := ⟨by decide +kernel, rfl⟩
theorem lc_8 : Dc jdk_43_method_2_code 8 (.baload) 1 9 := ⟨by decide +kernel, rfl⟩
theorem lc_9 : Dc jdk_43_method_2_code 9 (.sipush 255) 3 12 := ⟨by decide +kernel, rfl⟩
theorem lc_12 : Dc jdk_43_method_2_code 12 (.iand) 1 13 := ⟨by decide +kernel, rfl⟩
theorem lc_13 : Dc jdk_43_method_2_code 13 (.i2c) 1 14 := ⟨by decide +kernel, rfl⟩
theorem lc_14 : Dc jdk_43_method_2_code 14 (.ireturn) 1 15 := ⟨by decide +kernel, rfl⟩
theorem ca_0 : Dc jdk_42_method_56_code 0 (.aload_n 0) 1 1 := ⟨by decide +kernel, rfl⟩
theorem ca_1 : Dc jdk_42_method_56_code 1 (.invokevirtual 492) 3 4 := ⟨by decide +kernel, rfl⟩
theorem ca_4 : Jp jdk_42_method_56_code 4 (.ifCond .eq 12) (12) 7 16 := ⟨by decide +kernel, rfl, by decide, by decide⟩
theorem ca_7 : Dc jdk_42_method_56_code 7 (.aload_n 0) 1 8 := ⟨by decide +kernel, rfl⟩
theorem ca_8 : Dc jdk_42_method_56_code 8 (.getfield 9) 3 11 := ⟨by decide +kernel, rfl⟩
theorem ca_11 : Dc jdk_42_method_56_code 11 (.iload_n 1) 1 12 := ⟨by decide +kernel, rfl⟩
theorem ca_12 : Dc jdk_42_method_56_code 12 (.invokestatic 495) 3 15 := ⟨by decide +kernel, rfl⟩
theorem ca_15 : Dc jdk_42_method_56_code 15 (.ireturn) 1 16 := ⟨by decide +kernel, rfl⟩
theorem ca_16 : Dc jdk_42_method_56_code 16 (.aload_n 0) 1 17 := ⟨by decide +kernel, rfl⟩
theorem ca_17 : Dc jdk_42_method_56_code 17 (.getfield 9) 3 20 := ⟨by decide +kernel, rfl⟩
theorem ca_20 : Dc jdk_42_method_56_code 20 (.iload_n 1) 1 21 := ⟨by decide +kernel, rfl⟩
theorem ca_21 : Dc jdk_42_method_56_code 21 (.invokestatic 498) 3 24 := ⟨by decide +kernel, rfl⟩
theorem ca_24 : Dc jdk_42_method_56_code 24 (.ireturn) 1 25 := ⟨by decide +kernel, rfl⟩
theorem met_isLat (l : Launch) (Z : State) (a0 : Array Value) (hw : ∀ d ∈ tables_1, d.before a0 Z = true) (nw : Prop) (EL : List (String × Nat)) (hEL : EW Z a0 EL) (cs : Int32) (fm : Value) (S : SS Z cs fm) (h : Heap) (a : Addr) (k : Int32) (F : Fld Z h a STR "coder" "B" (.int k)) :
    Met l Z nw EL ⟨STR, "isLatin1", "()Z"⟩ jdk_42_method_154_code 1 (some .boolean) ⟨0, 0, 0, 0⟩ #[.ref a] h [] (fun v h' => v = some (.int (if k = 0 then 1 else 0)) ∧ h' = h) := by
  refine Met.mk (a0 := a0) hEL pn_str ?_
  intro p e s m below meth c C hE hS
  rw [efs1]
  refine R_getstatic C il_0 (hw _ (List.mem_of_getElem? (i := 24) rfl)) Via.refl (S.2.1.ext hE) ?_
  refine R_if C il_3 (fun hc => absurd hc S.1) (fun _ => ?_)
  refine R_aload_n C il_6 rfl rfl ?_
  refine R_getfield C il_7 (hw _ (List.mem_of_getElem? (i := 25) rfl)) Via.refl (F) ?_
  refine R_if C il_10 (fun (hc : ¬ k = 0) => ?_) (fun (hc : ¬ ¬ k = 0) => ?_)
  · refine R_iconst C il_17 (v := 0) rfl ?_
    exact R_retN C il_18 rfl (Or.inl rfl) (Nat.le_refl _) (Nat.le_refl _) ⟨by rw [if_neg hc]; rfl, rfl⟩
  · refine R_iconst C il_13 (v := 1) rfl ?_
    refine R_goto C il_14 ?_
    exact R_retN C il_18 rfl (Or.inl rfl) (Nat.le_refl _) (Nat.le_refl _) ⟨by rw [if_pos (Decidable.not_not.mp hc)]; rfl, rfl⟩
theorem met_pk (l : Launch) (Z : State) (a0 : Array Value) (hw : ∀ d ∈ tables_1, d.before a0 Z = true) (nw : Prop) (EL : List (String × Nat)) (hEL : EW Z a0 EL) (h : Heap) (i n : Int32) (fm : Value) (hfm : fm.isRef = true) (h1 : ¬ i < 0) (h2 : i < n) :
    Met l Z nw EL ⟨PRE, "checkIndex", "(IILjava/util/function/BiFunction;)I"⟩ jdk_41_method_11_code 3 (some .int) ⟨0, 0, 0, 0⟩ #[.int i, .int n, fm] h [] (fun v h' => v = some (.int i) ∧ h' = h) := by
  refine Met.mk (a0 := a0) hEL pn_pre ?_
  intro p e s m below meth c C hE hS
  rw [efck m _ _ _ (cat_ref hfm)]
  refine R_iload_n C pk_0 rfl ?_
  refine R_if C pk_1 (fun hc => absurd hc h1) (fun _ => ?_)
  refine R_iload_n C pk_4 rfl ?_
  refine R_iload_n C pk_5 rfl ?_
  refine R_icmp C pk_6 (fun _ => ?_) (fun hc => absurd h2 hc)
  refine R_iload_n C pk_16 rfl ?_
  exact R_retI C pk_17 rfl (Nat.le_refl _) (Nat.le_refl _) ⟨rfl, rfl⟩
theorem met_ck (l : Launch) (Z : State) (a0 : Array Value) (hw : ∀ d ∈ tables_1, d.before a0 Z = true) (nw : Prop) (EL : List (String × Nat)) (hEL : EW Z a0 EL) (cs : Int32) (fm : Value) (S : SS Z cs fm) (h : Heap) (i n : Int32) (h1 : ¬ i < 0) (h2 : i < n) :
    Met l Z nw EL ⟨STR, "checkIndex", "(II)V"⟩ jdk_42_method_155_code 2 none ⟨1, 0, 0, 14⟩ #[.int i, .int n] h [] (fun v h' => v = none ∧ h' = h) := by
  refine Met.mk (a0 := a0) hEL pn_str ?_
  intro p e s m below meth c C hE hS
  rw [efII2]
  refine R_iload_n C ck_0 rfl ?_
  refine R_iload_n C ck_1 rfl ?_
  refine R_getstatic C ck_2 (hw _ (List.mem_of_getElem? (i := 34) rfl)) Via.refl (S.2.2.2.ext hE) ?_
  refine R_static C [.int i, .int n, fm] ck_5 (met_pk l Z a0 hw nw EL hEL h i n fm S.2.2.1 h1 h2) (by first | exact fun z => z | exact fun _ => trivial) (hw _ (List.mem_of_getElem? (i := 36) rfl)) (hw _ (List.mem_of_getElem? (i := 37) rfl)) (hw _ (List.mem_of_getElem? (i := 35) rfl)) (hw _ (List.mem_of_getElem? (i := 38) rfl)) (by decide) pd_5 rfl rfl rfl (Nat.le_of_ble_eq_true rfl) (Nat.le_of_ble_eq_true rfl) (Nat.le_of_ble_eq_true rfl) (Nat.le_of_ble_eq_true rfl) (fun _ q => nomatch q) ?_
  intro v vm' h' hQ hsz hSf hFr
  obtain ⟨rfl, rfl⟩ := hQ
  simp only [Option.toList_some, List.cons_append, List.nil_append]
  refine R_pop C ck_8 rfl ?_
  exact R_return C ck_9 rfl (Nat.le_refl _) (Nat.le_refl _) ⟨rfl, rfl⟩
theorem met_lc (l : Launch) (Z : State) (a0 : Array Value) (hw : ∀ d ∈ tables_1, d.before a0 Z = true) (nw : Prop) (EL : List (String × Nat)) (hEL : EW Z a0 EL) (cs : Int32) (fm : Value) (S : SS Z cs fm) (h : Heap) (b : Addr) (n : Nat) (g : Nat → Int32) (A : AR Z h b .byte n (fun i => by8 (g i))) (hg : ∀ i, i < n → 0 ≤ (g i).toInt ∧ (g i).toInt ≤ 255) (iI : Int32) (i : Nat) (hi : iI.toInt = i) (hin : i < n) :
    Met l Z nw EL ⟨LAT, "charAt", "([BI)C"⟩ jdk_43_method_2_code 2 (some .char) ⟨2, 0, 0, 27⟩ #[.ref b, .int iI] h [] (fun v h' => v = some (.int (g i)) ∧ h' = h) := by
  have h31 := A.small
  refine Met.mk (a0 := a0) hEL pn_lat ?_
  intro p e s m below meth c C hE hS
  rw [efRI2]
  refine R_iload_n C lc_0 rfl ?_
  refine R_aload_n C lc_1 rfl rfl ?_
  refine R_arraylength C lc_2 (A) rfl ?_
  refine R_static C [.int iI, .int n.toInt32] lc_3 (met_ck l Z a0 hw nw EL hEL cs fm S h iI n.toInt32 (nn_of hi) (by rw [Int32.lt_iff_toInt_lt, len_toInt h31]; omega)) (by first | exact fun z => z | exact fun _ => trivial) (hw _ (List.mem_of_getElem? (i := 31) rfl)) (hw _ (List.mem_of_getElem? (i := 32) rfl)) (hw _ (List.mem_of_getElem? (i := 3) rfl)) (hw _ (List.mem_of_getElem? (i := 33) rfl)) (by decide) pd_6 rfl rfl rfl (Nat.le_of_ble_eq_true rfl) (Nat.le_of_ble_eq_true rfl) (Nat.le_of_ble_eq_true rfl) (Nat.le_of_ble_eq_true rfl) (fun _ q => nomatch q) ?_
  intro v vm' h' hQ hsz hSf hFr
  obtain ⟨rfl, rfl⟩ := hQ
  simp only [Option.toList_none, List.nil_append]
  refine R_aload_n C lc_6 rfl rfl ?_
  refine R_iload_n C lc_7 rfl ?_
  refine R_baload C (i) lc_8 (A) (hi) (hin) (rfl) ?_
  refine R_sipush C lc_9 (v := 255) rfl ?_
  refine R_iand C lc_12 ?_
  refine R_i2c C lc_13 ?_
  refine R_retN C lc_14 rfl (Or.inr (Or.inr (Or.inl rfl))) (Nat.le_refl _) (Nat.le_refl _) ⟨?_, rfl⟩
  rw [nar_nar_char, byte_back (hg i hin).1 (hg i hin).2]
theorem met_charAtL (l : Launch) (Z : State) (a0 : Array Value) (hw : ∀ d ∈ tables_1, d.before a0 Z = true) (nw : Prop) (EL : List (String × Nat)) (hEL : EW Z a0 EL) (cs : Int32) (fm : Value) (S : SS Z cs fm) (h : Heap) (a b : Addr) (n : Nat) (g : Nat → Int32) (X : StrL Z h a b n g) (iI : Int32) (i : Nat) (hi : iI.toInt = i) (hin : i < n) :
    Met l Z nw EL ⟨STR, "charAt", "(I)C"⟩ jdk_42_method_56_code 2 (some .char) ⟨3, 0, 0, 40⟩ #[.ref a, .int iI] h [] (fun v h' => v = some (.int (g i)) ∧ h' = h) := by
  obtain ⟨E, V, F, A, hg⟩ := X
  refine Met.mk (a0 := a0) hEL pn_str ?_
  intro p e s m below meth c C hE hS
  rw [efRI2]
  refine R_aload_n C ca_0 rfl rfl ?_
  refine R_virtual C [] ca_1 (met_isLat l Z a0 hw nw EL hEL cs fm S h a 0 F) (by first | exact fun z => z | exact fun _ => trivial) (E) (hw _ (List.mem_of_getElem? (i := 19) rfl)) (hw _ (List.mem_of_getElem? (i := 20) rfl)) (hw _ (List.mem_of_getElem? (i := 22) rfl)) (hw _ (List.mem_of_getElem? (i := 21) rfl)) (hw _ (List.mem_of_getElem? (i := 3) rfl)) (hw _ (List.mem_of_getElem? (i := 23) rfl)) (by decide) pd_7 rfl rfl rfl (Nat.le_of_ble_eq_true rfl) (Nat.le_of_ble_eq_true rfl) (Nat.le_of_ble_eq_true rfl) (Nat.le_of_ble_eq_true rfl) (fun _ q => nomatch q) ?_
  intro v vm' h' hQ hsz hSf hFr
  obtain ⟨rfl, rfl⟩ := hQ
  rw [if_pos rfl]
  simp only [Option.toList_some, List.cons_append, List.nil_append]
  refine R_if C ca_4 (fun (hc : (1 : Int32) = 0) => absurd hc (by decide)) (fun _ => ?_)
  refine R_aload_n C ca_7 rfl rfl ?_
  refine R_getfield C ca_8 (hw _ (List.mem_of_getElem? (i := 26) rfl)) Via.refl (V) ?_
  refine R_iload_n C ca_11 rfl ?_
  refine R_static C [.ref b, .int iI] ca_12 (met_lc l Z a0 hw nw EL hEL cs fm S h' b n g A hg iI i hi hin) (by first | exact fun z => z | exact fun _ => trivial) (hw _ (List.mem_of_getElem? (i := 27) rfl)) (hw _ (List.mem_of_getElem? (i := 28) rfl)) (hw _ (List.mem_of_getElem? (i := 29) rfl)) (hw _ (List.mem_of_getElem? (i := 30) rfl)) (by decide) pd_8 rfl rfl rfl (Nat.le_of_ble_eq_true rfl) (Nat.le_of_ble_eq_true rfl) (Nat.le_of_ble_eq_true rfl) (Nat.le_of_ble_eq_true rfl) (fun _ q => nomatch q) ?_
  intro v vm2 h2 hQ hsz2 hSf2 hFr
  obtain ⟨rfl, rfl⟩ := hQ
  simp only [Option.toList_some, List.cons_append, List.nil_append]
  refine R_retN C ca_15 rfl (Or.inr (Or.inr (Or.inl rfl))) (Nat.le_refl _) (Nat.le_refl _) ⟨?_, rfl⟩
  have z : nar .char (g i) = g i := by
    conv => rhs; rw [← byte_back (hg i hin).1 (hg i hin).2]
    conv => lhs; rw [← byte_back (hg i hin).1 (hg i hin).2]
    rw [nar_nar_char]
  rw [z]
theorem qe_0 : Dc jdk_43_method_13_code 0 (.aload_n 0) 1 1 := ⟨by decide +kernel, rfl⟩
theorem qe_1 : Dc jdk_43_method_13_code 1 (.arraylength) 1 2 := ⟨by decide +kernel, rfl⟩
theorem qe_2 : Dc jdk_43_method_13_code 2 (.aload_n 1) 1 3 := ⟨by decide +kernel, rfl⟩
theorem qe_3 : Dc jdk_43_method_13_code 3 (.arraylength) 1 4 := ⟨by decide +kernel, rfl⟩
theorem qe_4 : Jp jdk_43_method_13_code 4 (.if_icmp .ne 30) (30) 7 34 := ⟨by decide +kernel, rfl, by decide, by decide⟩
theorem qe_7 : Dc jdk_43_method_13_code 7 (.iconst 0) 1 8 := ⟨by decide +kernel, rfl⟩
theorem qe_8 : Dc jdk_43_method_13_code 8 (.istore_n 2) 1 9 := ⟨by decide +kernel, rfl⟩
theorem qe_9 : Dc jdk_43_method_13_code 9 (.iload_n 2) 1 10 := ⟨by decide +kernel, rfl⟩
theorem qe_10 : Dc jdk_43_method_13_code 10 (.aload_n 0) 1 11 := ⟨by decide +kernel, rfl⟩
theorem qe_11 : Dc jdk_43_method_13_code 11 (.arraylength) 1 12 := ⟨by decide +kernel, rfl⟩
theorem qe_12 : Jp jdk_43_method_13_code 12 (.if_icmp .ge 20) (20) 15 32 := ⟨by decide +kernel, rfl, by decide, by decide⟩
theorem qe_15 : Dc jdk_43_method_13_code 15 (.aload_n 0) 1 16 := ⟨by decide +kernel, rfl⟩
theorem qe_16 : Dc jdk_43_method_13_code 16 (.iload_n 2) 1 17 := ⟨by decide +kernel, rfl⟩
theorem qe_17 : Dc jdk_43_method_13_code 17 (.baload) 1 18 := ⟨by decide +kernel, rfl⟩
theorem qe_18 : Dc jdk_43_method_13_code 18 (.aload_n 1) 1 19 := ⟨by decide +kernel, rfl⟩
theorem qe_19 : Dc jdk_43_method_13_code 19 (.iload_n 2) 1 20 := ⟨by decide +kernel, rfl⟩
theorem qe_20 : Dc jdk_43_method_13_code 20 (.baload) 1 21 := ⟨by decide +kernel, rfl⟩
theorem qe_21 : Jp jdk_43_method_13_code 21 (.if_icmp .eq 5) (5) 24 26 := ⟨by decide +kernel, rfl, by decide, by decide⟩
theorem qe_24 : Dc jdk_43_method_13_code 24 (.iconst 0) 1 25 := ⟨by decide +kernel, rfl⟩
theorem qe_25 : Dc jdk_43_method_13_code 25 (.ireturn) 1 26 := ⟨by decide +kernel, rfl⟩
theorem qe_26 : Dc jdk_43_method_13_code 26 (.iinc 2 1) 3 29 := ⟨by decide +kernel, rfl⟩
theorem qe_29 : Jp jdk_43_method_13_code 29 (.goto (-20)) (-20) 32 9 := ⟨by decide +kernel, rfl, by decide, by decide⟩
theorem qe_32 : Dc jdk_43_method_13_code 32 (.iconst 1) 1 33 := ⟨by decide +kernel, rfl⟩
theorem qe_33 : Dc jdk_43_method_13_code 33 (.ireturn) 1 34 := ⟨by decide +kernel, rfl⟩
theorem qe_34 : Dc jdk_43_method_13_code 34 (.iconst 0) 1 35 := ⟨by decide +kernel, rfl⟩
theorem qe_35 : Dc jdk_43_method_13_code 35 (.ireturn) 1 36 := ⟨by decide +kernel, rfl⟩
theorem eq_0 : Dc jdk_42_method_66_code 0 (.aload_n 0) 1 1 := ⟨by decide +kernel, rfl⟩
theorem eq_1 : Dc jdk_42_method_66_code 1 (.aload_n 1) 1 2 := ⟨by decide +kernel, rfl⟩
theorem eq_2 : Jp jdk_42_method_66_code 2 (.if_acmp .ne 5) (5) 5 7 := ⟨by decide +kernel, rfl, by decide, by decide⟩
theorem eq_5 : Dc jdk_42_method_66_code 5 (.iconst 1) 1 6 := ⟨by decide +kernel, rfl⟩
theorem eq_6 : Dc jdk_42_method_66_code 6 (.ireturn) 1 7 := ⟨by decide +kernel, rfl⟩
theorem eq_7 : Dc jdk_42_method_66_code 7 (.aload_n 1) 1 8 := ⟨by decide +kernel, rfl⟩
theorem eq_8 : Dc jdk_42_method_66_code 8 (.instanceof 10) 3 11 := ⟨by decide +kernel, rfl⟩
theorem eq_11 : Jp jdk_42_method_66_code 11 (.ifCond .eq 43) (43) 14 54 := ⟨by decide +kernel, rfl, by decide, by decide⟩
theorem eq_14 : Dc jdk_42_method_66_code 14 (.aload_n 1) 1 15 := ⟨by decide +kernel, rfl⟩
theorem eq_15 : Dc jdk_42_method_66_code 15 (.checkcast 10) 3 18 := ⟨by decide +kernel, rfl⟩
theorem eq_18 : Dc jdk_42_method_66_code 18 (.astore_n 2) 1 19 := ⟨by decide +kernel, rfl⟩
theorem eq_19 : Dc jdk_42_method_66_code 19 (.getstatic 38) 3 22 := ⟨by decide +kernel, rfl⟩
theorem eq_22 : Jp jdk_42_method_66_code 22 (.ifCond .eq 14) (14) 25 36 := ⟨by decide +kernel, rfl, by decide, by decide⟩
theorem eq_25 : Dc jdk_42_method_66_code 25 (.aload_n 0) 1 26 := ⟨by decide +kernel, rfl⟩
theorem eq_26 : Dc jdk_42_method_66_code 26 (.getfield 15) 3 29 := ⟨by decide +kernel, rfl⟩
theorem eq_29 : Dc jdk_42_method_66_code 29 (.aload_n 2) 1 30 := ⟨by decide +kernel, rfl⟩
theorem eq_30 : Dc jdk_42_method_66_code 30 (.getfield 15) 3 33 := ⟨by decide +kernel, rfl⟩
theorem eq_33 : Jp jdk_42_method_66_code 33 (.if_icmp .ne 21) (21) 36 54 := ⟨by decide +kernel, rfl, by decide, by decide⟩
theorem eq_36 : Dc jdk_42_method_66_code 36 (.aload_n 0) 1 37 := ⟨by decide +kernel, rfl⟩
theorem eq_37 : Dc jdk_42_method_66_code 37 (.getfield 9) 3 40 := ⟨by decide +kernel, rfl⟩
theorem eq_40 : Dc jdk_42_method_66_code 40 (.aload_n 2) 1 41 := ⟨by decide +kernel, rfl⟩
theorem eq_41 : Dc jdk_42_method_66_code 41 (.getfield 9) 3 44 := ⟨by decide +kernel, rfl⟩
theorem eq_44 : Dc jdk_42_method_66_code 44 (.invokestatic 541) 3 47 := ⟨by decide +kernel, rfl⟩
theorem eq_47 : Jp jdk_42_method_66_code 47 (.ifCond .eq 7) (7) 50 54 := ⟨by decide +kernel, rfl, by decide, by decide⟩
theorem eq_50 : Dc jdk_42_method_66_code 50 (.iconst 1) 1 51 := ⟨by decide +kernel, rfl⟩
theorem eq_51 : Jp jdk_42_method_66_code 51 (.goto 4) (4) 54 55 := ⟨by decide +kernel, rfl, by decide, by decide⟩
theorem eq_54 : Dc jdk_42_method_66_code 54 (.iconst 0) 1 55 := ⟨by decide +kernel, rfl⟩
theorem eq_55 : Dc jdk_42_method_66_code 55 (.ireturn) 1 56 := ⟨by decide +kernel, rfl⟩
theorem efqe (m : MethodId) (x0 : Addr) (x1 : Addr) : entryFrame m #[(.ref x0), (.ref x1)] 3 = fr m 0 [.val (.ref x0), .val (.ref x1), .unset] [] := by first | (simp [entryFrame, mkF, argsToLocals, Value.category]; done) | rfl
theorem Fld_uniq {Z : State} {h : Heap} {a : Addr} {O n d : String} {v w : Value} (F : Fld Z h a O n d v) (G : Fld Z h a O n d w) : v = w := by
  obtain ⟨c1, cf, k, i, f, h1, h2, -, -, -, -, h7⟩ := F
  obtain ⟨c2, cf', k', i', f', g1, g2, -, -, -, -, g7⟩ := G
  cases h1.symm.trans g1
  cases h2.symm.trans g2
  exact Option.some.inj (h7.symm.trans g7)
theorem AR_uniq {Z : State} {h : Heap} {a : Addr} {ty ty' : FieldType} {n n' : Nat} {f f' : Nat → Value} (A : AR Z h a ty n f) (B : AR Z h a ty' n' f') : n = n' ∧ ∀ i, i < n → f i = f' i := by
  obtain ⟨c1, A1, h1, -, H1⟩ := A
  obtain ⟨c2, A2, h2, -, H2⟩ := B
  cases A1.1.symm.trans A2.1
  refine ⟨h1.symm.trans h2, fun i hi => ?_⟩
  exact Option.some.inj ((H1 i hi).1.symm.trans (H2 i (by omega)).1)
theorem by8_inj {x y : Int32} (h0 : 0 ≤ x.toInt ∧ x.toInt ≤ 255) (h1 : 0 ≤ y.toInt ∧ y.toInt ≤ 255) (e : x.toInt8.toInt32 = y.toInt8.toInt32) : x = y := by
  rw [← byte_back h0.1 h0.2, ← byte_back h1.1 h1.2, e]
/-- the two texts are one -/
def Same (n1 n2 : Nat) (g1 g2 : Nat → Int32) : Prop := n1 = n2 ∧ ∀ i, i < n1 → g1 i = g2 i
def EqQ (n1 n2 : Nat) (g1 g2 : Nat → Int32) (h : Heap) (v : Option Value) (h' : Heap) : Prop := h' = h ∧ ((v = some (.int 1) ∧ Same n1 n2 g1 g2) ∨ (v = some (.int 0) ∧ ¬ Same n1 n2 g1 g2))
theorem met_qe (l : Launch) (Z : State) (a0 : Array Value) (hw : ∀ d ∈ tables_1, d.before a0 Z = true) (nw : Prop) (EL : List (String × Nat)) (hEL : EW Z a0 EL) (h : Heap) (b1 b2 : Addr) (n1 n2 : Nat) (g1 g2 : Nat → Int32) (A1 : AR Z h b1 .byte n1 (fun i => by8 (g1 i))) (A2 : AR Z h b2 .byte n2 (fun i => by8 (g2 i))) (r1 : ∀ i, i < n1 → 0 ≤ (g1 i).toInt ∧ (g1 i).toInt ≤ 255) (r2 : ∀ i, i < n2 → 0 ≤ (g2 i).toInt ∧ (g2 i).toInt ≤ 255) :
    Met l Z nw EL ⟨LAT, "equals", "([B[B)Z"⟩ jdk_43_method_13_code 3 (some .boolean) ⟨0, 0, 0, 0⟩ #[.ref b1, .ref b2] h [] (EqQ n1 n2 g1 g2 h) := by
  have s1 := A1.small
  have s2 := A2.small
  refine Met.mk (a0 := a0) hEL pn_lat ?_
  intro p e s m below meth c C hE hS
  rw [efqe]
  have one : (1 : Int32).toInt = 1 := rfl
  refine R_aload_n C qe_0 rfl rfl ?_
  refine R_arraylength C qe_1 (A1) rfl ?_
  refine R_aload_n C qe_2 rfl rfl ?_
  refine R_arraylength C qe_3 (A2) rfl ?_
  refine R_icmp C qe_4 (fun (hc : ¬ n1.toInt32 = n2.toInt32) => ?_) (fun (hc : ¬ ¬ n1.toInt32 = n2.toInt32) => ?_)
  · refine R_iconst C qe_34 (v := 0) rfl ?_
    exact R_retN C qe_35 rfl (Or.inl rfl) (Nat.le_refl _) (Nat.le_refl _) ⟨rfl, Or.inr ⟨rfl, fun z => hc (by rw [z.1])⟩⟩
  · have hn : n1 = n2 := by
      have z := congrArg Int32.toInt (Decidable.not_not.mp hc)
      rw [len_toInt s1, len_toInt s2] at z
      omega
    subst hn
    have loop : ∀ (t i : Nat) (iI : Int32), i + t = n1 → iI.toInt = i → (∀ j, j < i → g1 j = g2 j) →
        Run p l e ⟨0, 0, 0, 0⟩ s m #[.ref b1, .ref b2] below meth c Z nw EL (Kf s Z nw EL ⟨0, 0, 0, 0⟩ (EqQ n1 n1 g1 g2 h)) s.vm h 0 0 (fr m 9 [.val (.ref b1), .val (.ref b2), .val (.int iI)] []) := by
      intro t
      induction t with
      | zero =>
        intro i iI ht hi hj
        refine R_iload_n C qe_9 rfl ?_
        refine R_aload_n C qe_10 rfl rfl ?_
        refine R_arraylength C qe_11 (A1) rfl ?_
        refine R_icmp C qe_12 (fun _ => ?_) (fun (hc : ¬ ¬ iI < n1.toInt32) => absurd (show ¬ iI < n1.toInt32 from ?_) hc)
        · refine R_iconst C qe_32 (v := 1) rfl ?_
          exact R_retN C qe_33 rfl (Or.inl rfl) (Nat.le_refl _) (Nat.le_refl _) ⟨rfl, Or.inl ⟨rfl, rfl, fun j hjn => hj j (by omega)⟩⟩
        · rw [Int32.lt_iff_toInt_lt, len_toInt s1]; omega
      | succ t ih =>
        intro i iI ht hi hj
        have hin : i < n1 := by omega
        have q1 := Jvm.Kit.i32_add (p := iI) (q := 1) (by omega) (by omega)
        refine R_iload_n C qe_9 rfl ?_
        refine R_aload_n C qe_10 rfl rfl ?_
        refine R_arraylength C qe_11 (A1) rfl ?_
        refine R_icmp C qe_12 (fun (hc : ¬ iI < n1.toInt32) => absurd (Int32.lt_iff_toInt_lt.mpr (by rw [len_toInt s1]; omega)) hc) (fun _ => ?_)
        refine R_aload_n C qe_15 rfl rfl ?_
        refine R_iload_n C qe_16 rfl ?_
        refine R_baload C (i) qe_17 (A1) (hi) (hin) (rfl) ?_
        refine R_aload_n C qe_18 rfl rfl ?_
        refine R_iload_n C qe_19 rfl ?_
        refine R_baload C (i) qe_20 (A2) (hi) (hin) (rfl) ?_
        refine R_icmp C qe_21 (fun (hc : (g1 i).toInt8.toInt32 = (g2 i).toInt8.toInt32) => ?_) (fun (hc : ¬ (g1 i).toInt8.toInt32 = (g2 i).toInt8.toInt32) => ?_)
        · refine R_iinc C qe_26 rfl rfl (dI := 1) rfl rfl ?_
          simp only [fv0, fv1, fv2, fv3, List.set_cons_zero, List.set_cons_succ]
          refine R_goto C qe_29 ?_
          refine ih (i + 1) _ (by omega) (by omega) (fun j hjn => ?_)
          by_cases z : j = i
          · subst z; exact by8_inj (r1 j hin) (r2 j hin) hc
          · exact hj j (by omega)
        · refine R_iconst C qe_24 (v := 0) rfl ?_
          exact R_retN C qe_25 rfl (Or.inl rfl) (Nat.le_refl _) (Nat.le_refl _) ⟨rfl, Or.inr ⟨rfl, fun z => hc (by rw [z.2 i hin])⟩⟩
    refine R_iconst C qe_7 (v := 0) rfl ?_
    refine R_istore_n C qe_8 rfl ?_
    simp only [fv0, fv1, fv2, fv3, List.set_cons_zero, List.set_cons_succ]
    exact loop n1 0 _ (by omega) rfl (fun j hj => absurd hj (Nat.not_lt_zero _))
theorem met_eqL (l : Launch) (Z : State) (a0 : Array Value) (hw : ∀ d ∈ tables_1, d.before a0 Z = true) (nw : Prop) (EL : List (String × Nat)) (hEL : EW Z a0 EL) (cs : Int32) (fm : Value) (S : SS Z cs fm) (h : Heap) (a1 a2 b1 b2 : Addr) (n1 n2 : Nat) (g1 g2 : Nat → Int32) (X1 : StrL Z h a1 b1 n1 g1) (X2 : StrL Z h a2 b2 n2 g2) :
    Met l Z nw EL ⟨STR, "equals", "(Ljava/lang/Object;)Z"⟩ jdk_42_method_66_code 3 (some .boolean) ⟨1, 0, 0, 14⟩ #[.ref a1, .ref a2] h [] (EqQ n1 n2 g1 g2 h) := by
  obtain ⟨E1, V1, F1, A1, r1⟩ := X1
  obtain ⟨E2, V2, F2, A2, r2⟩ := X2
  refine Met.mk (a0 := a0) hEL pn_str ?_
  intro p e s m below meth c C hE hS
  rw [efqe]
  refine R_aload_n C eq_0 rfl rfl ?_
  refine R_aload_n C eq_1 rfl rfl ?_
  refine R_acmp_ne C eq_2 rfl rfl (fun _ => ?_) (fun hc => ?_)
  · refine R_aload_n C eq_7 rfl rfl ?_
    refine R_instanceof_y C eq_8 (hw _ (List.mem_of_getElem? (i := 79) rfl)) (RoadKit.Ins.self E2) ?_
    refine R_if C eq_11 (fun (hc : (1 : Int32) = 0) => absurd hc (by decide)) (fun _ => ?_)
    refine R_aload_n C eq_14 rfl rfl ?_
    refine R_checkcast C eq_15 (hw _ (List.mem_of_getElem? (i := 79) rfl)) (RoadKit.Ins.self E2) ?_
    refine R_astore_n C eq_18 rfl rfl rfl ?_
    simp only [fv0, fv1, fv2, fv3, List.set_cons_zero, List.set_cons_succ]
    refine R_getstatic C eq_19 (hw _ (List.mem_of_getElem? (i := 24) rfl)) Via.refl (S.2.1.ext hE) ?_
    refine R_if C eq_22 (fun hc => absurd hc S.1) (fun _ => ?_)
    refine R_aload_n C eq_25 rfl rfl ?_
    refine R_getfield C eq_26 (hw _ (List.mem_of_getElem? (i := 25) rfl)) Via.refl (F1) ?_
    refine R_aload_n C eq_29 rfl rfl ?_
    refine R_getfield C eq_30 (hw _ (List.mem_of_getElem? (i := 25) rfl)) Via.refl (F2) ?_
    refine R_icmp C eq_33 (fun hc => absurd rfl hc) (fun _ => ?_)
    refine R_aload_n C eq_36 rfl rfl ?_
    refine R_getfield C eq_37 (hw _ (List.mem_of_getElem? (i := 26) rfl)) Via.refl (V1) ?_
    refine R_aload_n C eq_40 rfl rfl ?_
    refine R_getfield C eq_41 (hw _ (List.mem_of_getElem? (i := 26) rfl)) Via.refl (V2) ?_
    refine R_static C [.ref b1, .ref b2] eq_44 (met_qe l Z a0 hw nw EL hEL h b1 b2 n1 n2 g1 g2 A1 A2 r1 r2) (by first | exact fun z => z | exact fun _ => trivial) (hw _ (List.mem_of_getElem? (i := 80) rfl)) (hw _ (List.mem_of_getElem? (i := 81) rfl)) (hw _ (List.mem_of_getElem? (i := 29) rfl)) (hw _ (List.mem_of_getElem? (i := 82) rfl)) (by decide) pd_9 rfl rfl rfl (Nat.le_of_ble_eq_true rfl) (Nat.le_of_ble_eq_true rfl) (Nat.le_of_ble_eq_true rfl) (Nat.le_of_ble_eq_true rfl) (fun _ q => nomatch q) ?_
    intro v vm2 h2 hQ hsz2 hSf2 hFr
    obtain ⟨rfl, ⟨rfl, hQ⟩ | ⟨rfl, hQ⟩⟩ := hQ
    · simp only [Option.toList_some, List.cons_append, List.nil_append]
      refine R_if C eq_47 (fun (hc : (1 : Int32) = 0) => absurd hc (by decide)) (fun _ => ?_)
      refine R_iconst C eq_50 (v := 1) rfl ?_
      refine R_goto C eq_51 ?_
      exact R_retN C eq_55 rfl (Or.inl rfl) (Nat.le_refl _) (Nat.le_refl _) ⟨rfl, Or.inl ⟨rfl, hQ⟩⟩
    · simp only [Option.toList_some, List.cons_append, List.nil_append]
      refine R_if C eq_47 (fun _ => ?_) (fun (hc : ¬ (0 : Int32) = 0) => absurd rfl hc)
      refine R_iconst C eq_54 (v := 0) rfl ?_
      exact R_retN C eq_55 rfl (Or.inl rfl) (Nat.le_refl _) (Nat.le_refl _) ⟨rfl, Or.inr ⟨rfl, hQ⟩⟩
  · refine R_iconst C eq_5 (v := 1) rfl ?_
    refine R_retN C eq_6 rfl (Or.inl rfl) (Nat.le_refl _) (Nat.le_refl _) ⟨rfl, Or.inl ⟨rfl, ?_⟩⟩
    have ha : a1 = a2 := Value.ref.inj hc
    subst ha
    have hb : b1 = b2 := Value.ref.inj (Fld_uniq V1 V2)
    subst hb
    obtain ⟨hn, hf⟩ := AR_uniq A1 A2
    subst hn
    exact ⟨rfl, fun i hi => by8_inj (r1 i hi) (r2 i hi) (Value.int.inj (hf i hi))⟩
abbrev LAW : String := "com/example/clientry/clientry/AppTypeNamedPinLaw"
abbrev APP : String := "com/example/clientry/clientry/AppType"
abbrev APD : String := "Lcom/example/clientry/clientry/AppType;"
abbrev APA : String := "[Lcom/example/clientry/clientry/AppType;"
abbrev OPL : String := "java/util/Optional"
theorem pn_law : plainName LAW = true := by first | (simp [plainName, overriddenIn]; done) | decide +kernel
theorem pn_app : plainName APP = true := by first | (simp [plainName, overriddenIn]; done) | decide +kernel
theorem pn_opl : plainName OPL = true := by first | (simp [plainName, overriddenIn]; done) | decide +kernel
theorem pn_obj : plainName "java/util/Objects" = true := by first | (simp [plainName, overriddenIn]; done) | decide +kernel
theorem pn_0 : Dc method_3_code 0 (.aload_n 0) 1 1 := ⟨by decide +kernel, rfl⟩
theorem pn_1 : Dc method_3_code 1 (.iconst 0) 1 2 := ⟨by decide +kernel, rfl⟩
theorem pn_2 : Dc method_3_code 2 (.aload_n 1) 1 3 := ⟨by decide +kernel, rfl⟩
theorem pn_3 : Dc method_3_code 3 (.iconst 0) 1 4 := ⟨by decide +kernel, rfl⟩
theorem pn_4 : Dc method_3_code 4 (.invokevirtual 58) 3 7 := ⟨by decide +kernel, rfl⟩
theorem pn_7 : Dc method_3_code 7 (.castore) 1 8 := ⟨by decide +kernel, rfl⟩
theorem pn_8 : Dc method_3_code 8 (.aload_n 0) 1 9 := ⟨by decide +kernel, rfl⟩
theorem pn_9 : Dc method_3_code 9 (.iconst 1) 1 10 := ⟨by decide +kernel, rfl⟩
theorem pn_10 : Dc method_3_code 10 (.aload_n 1) 1 11 := ⟨by decide +kernel, rfl⟩
theorem pn_11 : Dc method_3_code 11 (.iconst 1) 1 12 := ⟨by decide +kernel, rfl⟩
theorem pn_12 : Dc method_3_code 12 (.invokevirtual 58) 3 15 := ⟨by decide +kernel, rfl⟩
theorem pn_15 : Dc method_3_code 15 (.castore) 1 16 := ⟨by decide +kernel, rfl⟩
theorem pn_16 : Dc method_3_code 16 (.aload_n 0) 1 17 := ⟨by decide +kernel, rfl⟩
theorem pn_17 : Dc method_3_code 17 (.iconst 2) 1 18 := ⟨by decide +kernel, rfl⟩
theorem pn_18 : Dc method_3_code 18 (.aload_n 1) 1 19 := ⟨by decide +kernel, rfl⟩
theorem pn_19 : Dc method_3_code 19 (.iconst 2) 1 20 := ⟨by decide +kernel, rfl⟩
theorem pn_20 : Dc method_3_code 20 (.invokevirtual 58) 3 23 := ⟨by decide +kernel, rfl⟩
theorem pn_23 : Dc method_3_code 23 (.castore) 1 24 := ⟨by decide +kernel, rfl⟩
theorem pn_24 : Dc method_3_code 24 (.aload_n 0) 1 25 := ⟨by decide +kernel, rfl⟩
theorem pn_25 : Dc method_3_code 25 (.iconst 3) 1 26 := ⟨by decide +kernel, rfl⟩
theorem pn_26 : Dc method_3_code 26 (.aload_n 1) 1 27 := ⟨by decide +kernel, rfl⟩
theorem pn_27 : Dc method_3_code 27 (.iconst 3) 1 28 := ⟨by decide +kernel, rfl⟩
theorem pn_28 : Dc method_3_code 28 (.invokevirtual 58) 3 31 := ⟨by decide +kernel, rfl⟩
theorem pn_31 : Dc method_3_code 31 (.castore) 1 32 := ⟨by decide +kernel, rfl⟩
theorem pn_32 : Dc method_3_code 32 (.aload_n 0) 1 33 := ⟨by decide +kernel, rfl⟩
theorem pn_33 : Dc method_3_code 33 (.iconst 4) 1 34 := ⟨by decide +kernel, rfl⟩
theorem pn_34 : Dc method_3_code 34 (.aload_n 1) 1 35 := ⟨by decide +kernel, rfl⟩
theorem pn_35 : Dc method_3_code 35 (.iconst 4) 1 36 := ⟨by decide +kernel, rfl⟩
theorem pn_36 : Dc method_3_code 36 (.invokevirtual 58) 3 39 := ⟨by decide +kernel, rfl⟩
theorem pn_39 : Dc method_3_code 39 (.castore) 1 40 := ⟨by decide +kernel, rfl⟩
theorem pn_40 : Dc method_3_code 40 (.aload_n 0) 1 41 := ⟨by decide +kernel, rfl⟩
theorem pn_41 : Dc method_3_code 41 (.iconst 5) 1 42 := ⟨by decide +kernel, rfl⟩
theorem pn_42 : Dc method_3_code 42 (.aload_n 1) 1 43 := ⟨by decide +kernel, rfl⟩
theorem pn_43 : Dc method_3_code 43 (.iconst 5) 1 44 := ⟨by decide +kernel, rfl⟩
theorem pn_44 : Dc method_3_code 44 (.invokevirtual 58) 3 47 := ⟨by decide +kernel, rfl⟩
theorem pn_47 : Dc method_3_code 47 (.castore) 1 48 := ⟨by decide +kernel, rfl⟩
theorem pn_48 : Dc method_3_code 48 (.aload_n 1) 1 49 := ⟨by decide +kernel, rfl⟩
theorem pn_49 : Dc method_3_code 49 (.invokevirtual 22) 3 52 := ⟨by decide +kernel, rfl⟩
theorem pn_52 : Dc method_3_code 52 (.bipush 6) 2 54 := ⟨by decide +kernel, rfl⟩
theorem pn_54 : Jp method_3_code 54 (.if_icmp .le 33) (33) 57 87 := ⟨by decide +kernel, rfl, by decide, by decide⟩
theorem pn_57 : Dc method_3_code 57 (.aload_n 0) 1 58 := ⟨by decide +kernel, rfl⟩
theorem pn_58 : Dc method_3_code 58 (.bipush 6) 2 60 := ⟨by decide +kernel, rfl⟩
theorem pn_60 : Dc method_3_code 60 (.aload_n 1) 1 61 := ⟨by decide +kernel, rfl⟩
theorem pn_61 : Dc method_3_code 61 (.bipush 6) 2 63 := ⟨by decide +kernel, rfl⟩
theorem pn_63 : Dc method_3_code 63 (.invokevirtual 58) 3 66 := ⟨by decide +kernel, rfl⟩
theorem pn_66 : Dc method_3_code 66 (.castore) 1 67 := ⟨by decide +kernel, rfl⟩
theorem pn_67 : Dc method_3_code 67 (.aload_n 0) 1 68 := ⟨by decide +kernel, rfl⟩
theorem pn_68 : Dc method_3_code 68 (.bipush 7) 2 70 := ⟨by decide +kernel, rfl⟩
theorem pn_70 : Dc method_3_code 70 (.aload_n 1) 1 71 := ⟨by decide +kernel, rfl⟩
theorem pn_71 : Dc method_3_code 71 (.bipush 7) 2 73 := ⟨by decide +kernel, rfl⟩
theorem pn_73 : Dc method_3_code 73 (.invokevirtual 58) 3 76 := ⟨by decide +kernel, rfl⟩
theorem pn_76 : Dc method_3_code 76 (.castore) 1 77 := ⟨by decide +kernel, rfl⟩
theorem pn_77 : Dc method_3_code 77 (.aload_n 0) 1 78 := ⟨by decide +kernel, rfl⟩
theorem pn_78 : Dc method_3_code 78 (.bipush 8) 2 80 := ⟨by decide +kernel, rfl⟩
theorem pn_80 : Dc method_3_code 80 (.aload_n 1) 1 81 := ⟨by decide +kernel, rfl⟩
theorem pn_81 : Dc method_3_code 81 (.bipush 8) 2 83 := ⟨by decide +kernel, rfl⟩
theorem pn_83 : Dc method_3_code 83 (.invokevirtual 58) 3 86 := ⟨by decide +kernel, rfl⟩
theorem pn_86 : Dc method_3_code 86 (.castore) 1 87 := ⟨by decide +kernel, rfl⟩
theorem pn_87 : Dc method_3_code 87 (.return_) 1 88 := ⟨by decide +kernel, rfl⟩
theorem st_0 : Dc method_4_code 0 (.iload_n 1) 1 1 := ⟨by decide +kernel, rfl⟩
theorem st_1 : Jp method_4_code 1 (.ifCond .ne 6) (6) 4 7 := ⟨by decide +kernel, rfl, by decide, by decide⟩
theorem st_4 : Dc method_4_code 4 (.ldc 62) 2 6 := ⟨by decide +kernel, rfl⟩
theorem st_6 : Dc method_4_code 6 (.areturn) 1 7 := ⟨by decide +kernel, rfl⟩
theorem st_7 : Dc method_4_code 7 (.iload_n 1) 1 8 := ⟨by decide +kernel, rfl⟩
theorem st_8 : Dc method_4_code 8 (.iconst 1) 1 9 := ⟨by decide +kernel, rfl⟩
theorem st_9 : Jp method_4_code 9 (.if_icmp .ne 20) (20) 12 29 := ⟨by decide +kernel, rfl, by decide, by decide⟩
theorem st_12 : Dc method_4_code 12 (.new 23) 3 15 := ⟨by decide +kernel, rfl⟩
theorem st_15 : Dc method_4_code 15 (.dup) 1 16 := ⟨by decide +kernel, rfl⟩
theorem st_16 : Dc method_4_code 16 (.iconst 1) 1 17 := ⟨by decide +kernel, rfl⟩
theorem st_17 : Dc method_4_code 17 (.newarray .char) 2 19 := ⟨by decide +kernel, rfl⟩
theorem st_19 : Dc method_4_code 19 (.dup) 1 20 := ⟨by decide +kernel, rfl⟩
theorem st_20 : Dc method_4_code 20 (.iconst 0) 1 21 := ⟨by decide +kernel, rfl⟩
theorem st_21 : Dc method_4_code 21 (.aload_n 0) 1 22 := ⟨by decide +kernel, rfl⟩
theorem st_22 : Dc method_4_code 22 (.iconst 0) 1 23 := ⟨by decide +kernel, rfl⟩
theorem st_23 : Dc method_4_code 23 (.caload) 1 24 := ⟨by decide +kernel, rfl⟩
theorem st_24 : Dc method_4_code 24 (.castore) 1 25 := ⟨by decide +kernel, rfl⟩
theorem st_25 : Dc method_4_code 25 (.invokespecial 64) 3 28 := ⟨by decide +kernel, rfl⟩
theorem st_28 : Dc method_4_code 28 (.areturn) 1 29 := ⟨by decide +kernel, rfl⟩
theorem st_29 : Dc method_4_code 29 (.iload_n 1) 1 30 := ⟨by decide +kernel, rfl⟩
theorem st_30 : Dc method_4_code 30 (.iconst 2) 1 31 := ⟨by decide +kernel, rfl⟩
theorem st_31 : Jp method_4_code 31 (.if_icmp .ne 26) (26) 34 57 := ⟨by decide +kernel, rfl, by decide, by decide⟩
theorem st_34 : Dc method_4_code 34 (.new 23) 3 37 := ⟨by decide +kernel, rfl⟩
theorem st_37 : Dc method_4_code 37 (.dup) 1 38 := ⟨by decide +kernel, rfl⟩
theorem st_38 : Dc method_4_code 38 (.iconst 2) 1 39 := ⟨by decide +kernel, rfl⟩
theorem st_39 : Dc method_4_code 39 (.newarray .char) 2 41 := ⟨by decide +kernel, rfl⟩
theorem st_41 : Dc method_4_code 41 (.dup) 1 42 := ⟨by decide +kernel, rfl⟩
theorem st_42 : Dc method_4_code 42 (.iconst 0) 1 43 := ⟨by decide +kernel, rfl⟩
theorem st_43 : Dc method_4_code 43 (.aload_n 0) 1 44 := ⟨by decide +kernel, rfl⟩
theorem st_44 : Dc method_4_code 44 (.iconst 0) 1 45 := ⟨by decide +kernel, rfl⟩
theorem st_45 : Dc method_4_code 45 (.caload) 1 46 := ⟨by decide +kernel, rfl⟩
theorem st_46 : Dc method_4_code 46 (.castore) 1 47 := ⟨by decide +kernel, rfl⟩
theorem st_47 : Dc method_4_code 47 (.dup) 1 48 := ⟨by decide +kernel, rfl⟩
theorem st_48 : Dc method_4_code 48 (.iconst 1) 1 49 := ⟨by decide +kernel, rfl⟩
theorem st_49 : Dc method_4_code 49 (.aload_n 0) 1 50 := ⟨by decide +kernel, rfl⟩
theorem st_50 : Dc method_4_code 50 (.iconst 1) 1 51 := ⟨by decide +kernel, rfl⟩
theorem st_51 : Dc method_4_code 51 (.caload) 1 52 := ⟨by decide +kernel, rfl⟩
theorem st_52 : Dc method_4_code 52 (.castore) 1 53 := ⟨by decide +kernel, rfl⟩
theorem st_53 : Dc method_4_code 53 (.invokespecial 64) 3 56 := ⟨by decide +kernel, rfl⟩
theorem st_56 : Dc method_4_code 56 (.areturn) 1 57 := ⟨by decide +kernel, rfl⟩
theorem st_57 : Dc method_4_code 57 (.iload_n 1) 1 58 := ⟨by decide +kernel, rfl⟩
theorem st_58 : Dc method_4_code 58 (.iconst 3) 1 59 := ⟨by decide +kernel, rfl⟩
theorem st_59 : Jp method_4_code 59 (.if_icmp .ne 32) (32) 62 91 := ⟨by decide +kernel, rfl, by decide, by decide⟩
theorem st_62 : Dc method_4_code 62 (.new 23) 3 65 := ⟨by decide +kernel, rfl⟩
theorem st_65 : Dc method_4_code 65 (.dup) 1 66 := ⟨by decide +kernel, rfl⟩
theorem st_66 : Dc method_4_code 66 (.iconst 3) 1 67 := ⟨by decide +kernel, rfl⟩
theorem st_67 : Dc method_4_code 67 (.newarray .char) 2 69 := ⟨by decide +kernel, rfl⟩
theorem st_69 : Dc method_4_code 69 (.dup) 1 70 := ⟨by decide +kernel, rfl⟩
theorem st_70 : Dc method_4_code 70 (.iconst 0) 1 71 := ⟨by decide +kernel, rfl⟩
theorem st_71 : Dc method_4_code 71 (.aload_n 0) 1 72 := ⟨by decide +kernel, rfl⟩
theorem st_72 : Dc method_4_code 72 (.iconst 0) 1 73 := ⟨by decide +kernel, rfl⟩
theorem st_73 : Dc method_4_code 73 (.caload) 1 74 := ⟨by decide +kernel, rfl⟩
theorem st_74 : Dc method_4_code 74 (.castore) 1 75 := ⟨by decide +kernel, rfl⟩
theorem st_75 : Dc method_4_code 75 (.dup) 1 76 := ⟨by decide +kernel, rfl⟩
theorem st_76 : Dc method_4_code 76 (.iconst 1) 1 77 := ⟨by decide +kernel, rfl⟩
theorem st_77 : Dc method_4_code 77 (.aload_n 0) 1 78 := ⟨by decide +kernel, rfl⟩
theorem st_78 : Dc method_4_code 78 (.iconst 1) 1 79 := ⟨by decide +kernel, rfl⟩
theorem st_79 : Dc method_4_code 79 (.caload) 1 80 := ⟨by decide +kernel, rfl⟩
theorem st_80 : Dc method_4_code 80 (.castore) 1 81 := ⟨by decide +kernel, rfl⟩
theorem st_81 : Dc method_4_code 81 (.dup) 1 82 := ⟨by decide +kernel, rfl⟩
theorem st_82 : Dc method_4_code 82 (.iconst 2) 1 83 := ⟨by decide +kernel, rfl⟩
theorem st_83 : Dc method_4_code 83 (.aload_n 0) 1 84 := ⟨by decide +kernel, rfl⟩
theorem st_84 : Dc method_4_code 84 (.iconst 2) 1 85 := ⟨by decide +kernel, rfl⟩
theorem st_85 : Dc method_4_code 85 (.caload) 1 86 := ⟨by decide +kernel, rfl⟩
theorem st_86 : Dc method_4_code 86 (.castore) 1 87 := ⟨by decide +kernel, rfl⟩
theorem st_87 : Dc method_4_code 87 (.invokespecial 64) 3 90 := ⟨by decide +kernel, rfl⟩
theorem st_90 : Dc method_4_code 90 (.areturn) 1 91 := ⟨by decide +kernel, rfl⟩
theorem st_91 : Dc method_4_code 91 (.iload_n 1) 1 92 := ⟨by decide +kernel, rfl⟩
theorem st_92 : Dc method_4_code 92 (.iconst 4) 1 93 := ⟨by decide +kernel, rfl⟩
theorem st_93 : Jp method_4_code 93 (.if_icmp .ne 38) (38) 96 131 := ⟨by decide +kernel, rfl, by decide, by decide⟩
theorem st_96 : Dc method_4_code 96 (.new 23) 3 99 := ⟨by decide +kernel, rfl⟩
theorem st_99 : Dc method_4_code 99 (.dup) 1 100 := ⟨by decide +kernel, rfl⟩
theorem st_100 : Dc method_4_code 100 (.iconst 4) 1 101 := ⟨by decide +kernel, rfl⟩
theorem st_101 : Dc method_4_code 101 (.newarray .char) 2 103 := ⟨by decide +kernel, rfl⟩
theorem st_103 : Dc method_4_code 103 (.dup) 1 104 := ⟨by decide +kernel, rfl⟩
theorem st_104 : Dc method_4_code 104 (.iconst 0) 1 105 := ⟨by decide +kernel, rfl⟩
theorem st_105 : Dc method_4_code 105 (.aload_n 0) 1 106 := ⟨by decide +kernel, rfl⟩
theorem st_106 : Dc method_4_code 106 (.iconst 0) 1 107 := ⟨by decide +kernel, rfl⟩
theorem st_107 : Dc method_4_code 107 (.caload) 1 108 := ⟨by decide +kernel, rfl⟩
theorem st_108 : Dc method_4_code 108 (.castore) 1 109 := ⟨by decide +kernel, rfl⟩
theorem st_109 : Dc method_4_code 109 (.dup) 1 110 := ⟨by decide +kernel, rfl⟩
theorem st_110 : Dc method_4_code 110 (.iconst 1) 1 111 := ⟨by decide +kernel, rfl⟩
theorem st_111 : Dc method_4_code 111 (.aload_n 0) 1 112 := ⟨by decide +kernel, rfl⟩
theorem st_112 : Dc method_4_code 112 (.iconst 1) 1 113 := ⟨by decide +kernel, rfl⟩
theorem st_113 : Dc method_4_code 113 (.caload) 1 114 := ⟨by decide +kernel, rfl⟩
theorem st_114 : Dc method_4_code 114 (.castore) 1 115 := ⟨by decide +kernel, rfl⟩
theorem st_115 : Dc method_4_code 115 (.dup) 1 116 := ⟨by decide +kernel, rfl⟩
theorem st_116 : Dc method_4_code 116 (.iconst 2) 1 117 := ⟨by decide +kernel, rfl⟩
theorem st_117 : Dc method_4_code 117 (.aload_n 0) 1 118 := ⟨by decide +kernel, rfl⟩
theorem st_118 : Dc method_4_code 118 (.iconst 2) 1 119 := ⟨by decide +kernel, rfl⟩
theorem st_119 : Dc method_4_code 119 (.caload) 1 120 := ⟨by decide +kernel, rfl⟩
theorem st_120 : Dc method_4_code 120 (.castore) 1 121 := ⟨by decide +kernel, rfl⟩
theorem st_121 : Dc method_4_code 121 (.dup) 1 122 := ⟨by decide +kernel, rfl⟩
theorem st_122 : Dc method_4_code 122 (.iconst 3) 1 123 := ⟨by decide +kernel, rfl⟩
theorem st_123 : Dc method_4_code 123 (.aload_n 0) 1 124 := ⟨by decide +kernel, rfl⟩
theorem st_124 : Dc method_4_code 124 (.iconst 3) 1 125 := ⟨by decide +kernel, rfl⟩
theorem st_125 : Dc method_4_code 125 (.caload) 1 126 := ⟨by decide +kernel, rfl⟩
theorem st_126 : Dc method_4_code 126 (.castore) 1 127 := ⟨by decide +kernel, rfl⟩
theorem st_127 : Dc method_4_code 127 (.invokespecial 64) 3 130 := ⟨by decide +kernel, rfl⟩
theorem st_130 : Dc method_4_code 130 (.areturn) 1 131 := ⟨by decide +kernel, rfl⟩
theorem st_131 : Dc method_4_code 131 (.iload_n 1) 1 132 := ⟨by decide +kernel, rfl⟩
theorem st_132 : Dc method_4_code 132 (.iconst 5) 1 133 := ⟨by decide +kernel, rfl⟩
theorem st_133 : Jp method_4_code 133 (.if_icmp .ne 44) (44) 136 177 := ⟨by decide +kernel, rfl, by decide, by decide⟩
theorem st_136 : Dc method_4_code 136 (.new 23) 3 139 := ⟨by decide +kernel, rfl⟩
theorem st_139 : Dc method_4_code 139 (.dup) 1 140 := ⟨by decide +kernel, rfl⟩
theorem st_140 : Dc method_4_code 140 (.iconst 5) 1 141 := ⟨by decide +kernel, rfl⟩
theorem st_141 : Dc method_4_code 141 (.newarray .char) 2 143 := ⟨by decide +kernel, rfl⟩
theorem st_143 : Dc method_4_code 143 (.dup) 1 144 := ⟨by decide +kernel, rfl⟩
theorem st_144 : Dc method_4_code 144 (.iconst 0) 1 145 := ⟨by decide +kernel, rfl⟩
theorem st_145 : Dc method_4_code 145 (.aload_n 0) 1 146 := ⟨by decide +kernel, rfl⟩
theorem st_146 : Dc method_4_code 146 (.iconst 0) 1 147 := ⟨by decide +kernel, rfl⟩
theorem st_147 : Dc method_4_code 147 (.caload) 1 148 := ⟨by decide +kernel, rfl⟩
theorem st_148 : Dc method_4_code 148 (.castore) 1 149 := ⟨by decide +kernel, rfl⟩
theorem st_149 : Dc method_4_code 149 (.dup) 1 150 := ⟨by decide +kernel, rfl⟩
theorem st_150 : Dc method_4_code 150 (.iconst 1) 1 151 := ⟨by decide +kernel, rfl⟩
theorem st_151 : Dc method_4_code 151 (.aload_n 0) 1 152 := ⟨by decide +kernel, rfl⟩
theorem st_152 : Dc method_4_code 152 (.iconst 1) 1 153 := ⟨by decide +kernel, rfl⟩
theorem st_153 : Dc method_4_code 153 (.caload) 1 154 := ⟨by decide +kernel, rfl⟩
theorem st_154 : Dc method_4_code 154 (.castore) 1 155 := ⟨by decide +kernel, rfl⟩
theorem st_155 : Dc method_4_code 155 (.dup) 1 156 := ⟨by decide +kernel, rfl⟩
theorem st_156 : Dc method_4_code 156 (.iconst 2) 1 157 := ⟨by decide +kernel, rfl⟩
theorem st_157 : Dc method_4_code 157 (.aload_n 0) 1 158 := ⟨by decide +kernel, rfl⟩
theorem st_158 : Dc method_4_code 158 (.iconst 2) 1 159 := ⟨by decide +kernel, rfl⟩
theorem st_159 : Dc method_4_code 159 (.caload) 1 160 := ⟨by decide +kernel, rfl⟩
theorem st_160 : Dc method_4_code 160 (.castore) 1 161 := ⟨by decide +kernel, rfl⟩
theorem st_161 : Dc method_4_code 161 (.dup) 1 162 := ⟨by decide +kernel, rfl⟩
theorem st_162 : Dc method_4_code 162 (.iconst 3) 1 163 := ⟨by decide +kernel, rfl⟩
theorem st_163 : Dc method_4_code 163 (.aload_n 0) 1 164 := ⟨by decide +kernel, rfl⟩
theorem st_164 : Dc method_4_code 164 (.iconst 3) 1 165 := ⟨by decide +kernel, rfl⟩
theorem st_165 : Dc method_4_code 165 (.caload) 1 166 := ⟨by decide +kernel, rfl⟩
theorem st_166 : Dc method_4_code 166 (.castore) 1 167 := ⟨by decide +kernel, rfl⟩
theorem st_167 : Dc method_4_code 167 (.dup) 1 168 := ⟨by decide +kernel, rfl⟩
theorem st_168 : Dc method_4_code 168 (.iconst 4) 1 169 := ⟨by decide +kernel, rfl⟩
theorem st_169 : Dc method_4_code 169 (.aload_n 0) 1 170 := ⟨by decide +kernel, rfl⟩
theorem st_170 : Dc method_4_code 170 (.iconst 4) 1 171 := ⟨by decide +kernel, rfl⟩
theorem st_171 : Dc method_4_code 171 (.caload) 1 172 := ⟨by decide +kernel, rfl⟩
theorem st_172 : Dc method_4_code 172 (.castore) 1 173 := ⟨by decide +kernel, rfl⟩
theorem st_173 : Dc method_4_code 173 (.invokespecial 64) 3 176 := ⟨by decide +kernel, rfl⟩
theorem st_176 : Dc method_4_code 176 (.areturn) 1 177 := ⟨by decide +kernel, rfl⟩
theorem st_177 : Dc method_4_code 177 (.iload_n 1) 1 178 := ⟨by decide +kernel, rfl⟩
theorem st_178 : Dc method_4_code 178 (.bipush 6) 2 180 := ⟨by decide +kernel, rfl⟩
theorem st_180 : Jp method_4_code 180 (.if_icmp .ne 51) (51) 183 231 := ⟨by decide +kernel, rfl, by decide, by decide⟩
theorem st_183 : Dc method_4_code 183 (.new 23) 3 186 := ⟨by decide +kernel, rfl⟩
theorem st_186 : Dc method_4_code 186 (.dup) 1 187 := ⟨by decide +kernel, rfl⟩
theorem st_187 : Dc method_4_code 187 (.bipush 6) 2 189 := ⟨by decide +kernel, rfl⟩
theorem st_189 : Dc method_4_code 189 (.newarray .char) 2 191 := ⟨by decide +kernel, rfl⟩
theorem st_191 : Dc method_4_code 191 (.dup) 1 192 := ⟨by decide +kernel, rfl⟩
theorem st_192 : Dc method_4_code 192 (.iconst 0) 1 193 := ⟨by decide +kernel, rfl⟩
theorem st_193 : Dc method_4_code 193 (.aload_n 0) 1 194 := ⟨by decide +kernel, rfl⟩
theorem st_194 : Dc method_4_code 194 (.iconst 0) 1 195 := ⟨by decide +kernel, rfl⟩
theorem st_195 : Dc method_4_code 195 (.caload) 1 196 := ⟨by decide +kernel, rfl⟩
theorem st_196 : Dc method_4_code 196 (.castore) 1 197 := ⟨by decide +kernel, rfl⟩
theorem st_197 : Dc method_4_code 197 (.dup) 1 198 := ⟨by decide +kernel, rfl⟩
theorem st_198 : Dc method_4_code 198 (.iconst 1) 1 199 := ⟨by decide +kernel, rfl⟩
theorem st_199 : Dc method_4_code 199 (.aload_n 0) 1 200 := ⟨by decide +kernel, rfl⟩
theorem st_200 : Dc method_4_code 200 (.iconst 1) 1 201 := ⟨by decide +kernel, rfl⟩
theorem st_201 : Dc method_4_code 201 (.caload) 1 202 := ⟨by decide +kernel, rfl⟩
theorem st_202 : Dc method_4_code 202 (.castore) 1 203 := ⟨by decide +kernel, rfl⟩
theorem st_203 : Dc method_4_code 203 (.dup) 1 204 := ⟨by decide +kernel, rfl⟩
theorem st_204 : Dc method_4_code 204 (.iconst 2) 1 205 := ⟨by decide +kernel, rfl⟩
theorem st_205 : Dc method_4_code 205 (.aload_n 0) 1 206 := ⟨by decide +kernel, rfl⟩
theorem st_206 : Dc method_4_code 206 (.iconst 2) 1 207 := ⟨by decide +kernel, rfl⟩
theorem st_207 : Dc method_4_code 207 (.caload) 1 208 := ⟨by decide +kernel, rfl⟩
theorem st_208 : Dc method_4_code 208 (.castore) 1 209 := ⟨by decide +kernel, rfl⟩
theorem st_209 : Dc method_4_code 209 (.dup) 1 210 := ⟨by decide +kernel, rfl⟩
theorem st_210 : Dc method_4_code 210 (.iconst 3) 1 211 := ⟨by decide +kernel, rfl⟩
theorem st_211 : Dc method_4_code 211 (.aload_n 0) 1 212 := ⟨by decide +kernel, rfl⟩
theorem st_212 : Dc method_4_code 212 (.iconst 3) 1 213 := ⟨by decide +kernel, rfl⟩
theorem st_213 : Dc method_4_code 213 (.caload) 1 214 := ⟨by decide +kernel, rfl⟩
theorem st_214 : Dc method_4_code 214 (.castore) 1 215 := ⟨by decide +kernel, rfl⟩
theorem st_215 : Dc method_4_code 215 (.dup) 1 216 := ⟨by decide +kernel, rfl⟩
theorem st_216 : Dc method_4_code 216 (.iconst 4) 1 217 := ⟨by decide +kernel, rfl⟩
theorem st_217 : Dc method_4_code 217 (.aload_n 0) 1 218 := ⟨by decide +kernel, rfl⟩
theorem st_218 : Dc method_4_code 218 (.iconst 4) 1 219 := ⟨by decide +kernel, rfl⟩
theorem st_219 : Dc method_4_code 219 (.caload) 1 220 := ⟨by decide +kernel, rfl⟩
theorem st_220 : Dc method_4_code 220 (.castore) 1 221 := ⟨by decide +kernel, rfl⟩
theorem st_221 : Dc method_4_code 221 (.dup) 1 222 := ⟨by decide +kernel, rfl⟩
theorem st_222 : Dc method_4_code 222 (.iconst 5) 1 223 := ⟨by decide +kernel, rfl⟩
theorem st_223 : Dc method_4_code 223 (.aload_n 0) 1 224 := ⟨by decide +kernel, rfl⟩
theorem st_224 : Dc method_4_code 224 (.iconst 5) 1 225 := ⟨by decide +kernel, rfl⟩
theorem st_225 : Dc method_4_code 225 (.caload) 1 226 := ⟨by decide +kernel, rfl⟩
theorem st_226 : Dc method_4_code 226 (.castore) 1 227 := ⟨by decide +kernel, rfl⟩
theorem st_227 : Dc method_4_code 227 (.invokespecial 64) 3 230 := ⟨by decide +kernel, rfl⟩
theorem st_230 : Dc method_4_code 230 (.areturn) 1 231 := ⟨by decide +kernel, rfl⟩
theorem st_231 : Dc method_4_code 231 (.iload_n 1) 1 232 := ⟨by decide +kernel, rfl⟩
theorem st_232 : Dc method_4_code 232 (.bipush 7) 2 234 := ⟨by decide +kernel, rfl⟩
theorem st_234 : Jp method_4_code 234 (.if_icmp .ne 59) (59) 237 293 := ⟨by decide +kernel, rfl, by decide, by decide⟩
theorem st_237 : Dc method_4_code 237 (.new 23) 3 240 := ⟨by decide +kernel, rfl⟩
theorem st_240 : Dc method_4_code 240 (.dup) 1 241 := ⟨by decide +kernel, rfl⟩
theorem st_241 : Dc method_4_code 241 (.bipush 7) 2 243 := ⟨by decide +kernel, rfl⟩
theorem st_243 : Dc method_4_code 243 (.newarray .char) 2 245 := ⟨by decide +kernel, rfl⟩
theorem st_245 : Dc method_4_code 245 (.dup) 1 246 := ⟨by decide +kernel, rfl⟩
theorem st_246 : Dc method_4_code 246 (.iconst 0) 1 247 := ⟨by decide +kernel, rfl⟩
theorem st_247 : Dc method_4_code 247 (.aload_n 0) 1 248 := ⟨by decide +kernel, rfl⟩
theorem st_248 : Dc method_4_code 248 (.iconst 0) 1 249 := ⟨by decide +kernel, rfl⟩
theorem st_249 : Dc method_4_code 249 (.caload) 1 250 := ⟨by decide +kernel, rfl⟩
theorem st_250 : Dc method_4_code 250 (.castore) 1 251 := ⟨by decide +kernel, rfl⟩
theorem st_251 : Dc method_4_code 251 (.dup) 1 252 := ⟨by decide +kernel, rfl⟩
theorem st_252 : Dc method_4_code 252 (.iconst 1) 1 253 := ⟨by decide +kernel, rfl⟩
theorem st_253 : Dc method_4_code 253 (.aload_n 0) 1 254 := ⟨by decide +kernel, rfl⟩
theorem st_254 : Dc method_4_code 254 (.iconst 1) 1 255 := ⟨by decide +kernel, rfl⟩
theorem st_255 : Dc method_4_code 255 (.caload) 1 256 := ⟨by decide +kernel, rfl⟩
theorem st_256 : Dc method_4_code 256 (.castore) 1 257 := ⟨by decide +kernel, rfl⟩
theorem st_257 : Dc method_4_code 257 (.dup) 1 258 := ⟨by decide +kernel, rfl⟩
theorem st_258 : Dc method_4_code 258 (.iconst 2) 1 259 := ⟨by decide +kernel, rfl⟩
theorem st_259 : Dc method_4_code 259 (.aload_n 0) 1 260 := ⟨by decide +kernel, rfl⟩
theorem st_260 : Dc method_4_code 260 (.iconst 2) 1 261 := ⟨by decide +kernel, rfl⟩
theorem st_261 : Dc method_4_code 261 (.caload) 1 262 := ⟨by decide +kernel, rfl⟩
theorem st_262 : Dc method_4_code 262 (.castore) 1 263 := ⟨by decide +kernel, rfl⟩
theorem st_263 : Dc method_4_code 263 (.dup) 1 264 := ⟨by decide +kernel, rfl⟩
theorem st_264 : Dc method_4_code 264 (.iconst 3) 1 265 := ⟨by decide +kernel, rfl⟩
theorem st_265 : Dc method_4_code 265 (.aload_n 0) 1 266 := ⟨by decide +kernel, rfl⟩
theorem st_266 : Dc method_4_code 266 (.iconst 3) 1 267 := ⟨by decide +kernel, rfl⟩
theorem st_267 : Dc method_4_code 267 (.caload) 1 268 := ⟨by decide +kernel, rfl⟩
theorem st_268 : Dc method_4_code 268 (.castore) 1 269 := ⟨by decide +kernel, rfl⟩
theorem st_269 : Dc method_4_code 269 (.dup) 1 270 := ⟨by decide +kernel, rfl⟩
theorem st_270 : Dc method_4_code 270 (.iconst 4) 1 271 := ⟨by decide +kernel, rfl⟩
theorem st_271 : Dc method_4_code 271 (.aload_n 0) 1 272 := ⟨by decide +kernel, rfl⟩
theorem st_272 : Dc method_4_code 272 (.iconst 4) 1 273 := ⟨by decide +kernel, rfl⟩
theorem st_273 : Dc method_4_code 273 (.caload) 1 274 := ⟨by decide +kernel, rfl⟩
theorem st_274 : Dc method_4_code 274 (.castore) 1 275 := ⟨by decide +kernel, rfl⟩
theorem st_275 : Dc method_4_code 275 (.dup) 1 276 := ⟨by decide +kernel, rfl⟩
theorem st_276 : Dc method_4_code 276 (.iconst 5) 1 277 := ⟨by decide +kernel, rfl⟩
theorem st_277 : Dc method_4_code 277 (.aload_n 0) 1 278 := ⟨by decide +kernel, rfl⟩
theorem st_278 : Dc method_4_code 278 (.iconst 5) 1 279 := ⟨by decide +kernel, rfl⟩
theorem st_279 : Dc method_4_code 279 (.caload) 1 280 := ⟨by decide +kernel, rfl⟩
theorem st_280 : Dc method_4_code 280 (.castore) 1 281 := ⟨by decide +kernel, rfl⟩
theorem st_281 : Dc method_4_code 281 (.dup) 1 282 := ⟨by decide +kernel, rfl⟩
theorem st_282 : Dc method_4_code 282 (.bipush 6) 2 284 := ⟨by decide +kernel, rfl⟩
theorem st_284 : Dc method_4_code 284 (.aload_n 0) 1 285 := ⟨by decide +kernel, rfl⟩
theorem st_285 : Dc method_4_code 285 (.bipush 6) 2 287 := ⟨by decide +kernel, rfl⟩
theorem st_287 : Dc method_4_code 287 (.caload) 1 288 := ⟨by decide +kernel, rfl⟩
theorem st_288 : Dc method_4_code 288 (.castore) 1 289 := ⟨by decide +kernel, rfl⟩
theorem st_289 : Dc method_4_code 289 (.invokespecial 64) 3 292 := ⟨by decide +kernel, rfl⟩
theorem st_292 : Dc method_4_code 292 (.areturn) 1 293 := ⟨by decide +kernel, rfl⟩
theorem st_293 : Dc method_4_code 293 (.iload_n 1) 1 294 := ⟨by decide +kernel, rfl⟩
theorem st_294 : Dc method_4_code 294 (.bipush 8) 2 296 := ⟨by decide +kernel, rfl⟩
theorem st_296 : Jp method_4_code 296 (.if_icmp .ne 67) (67) 299 363 := ⟨by decide +kernel, rfl, by decide, by decide⟩
theorem st_299 : Dc method_4_code 299 (.new 23) 3 302 := ⟨by decide +kernel, rfl⟩
theorem st_302 : Dc method_4_code 302 (.dup) 1 303 := ⟨by decide +kernel, rfl⟩
theorem st_303 : Dc method_4_code 303 (.bipush 8) 2 305 := ⟨by decide +kernel, rfl⟩
theorem st_305 : Dc method_4_code 305 (.newarray .char) 2 307 := ⟨by decide +kernel, rfl⟩
theorem st_307 : Dc method_4_code 307 (.dup) 1 308 := ⟨by decide +kernel, rfl⟩
theorem st_308 : Dc method_4_code 308 (.iconst 0) 1 309 := ⟨by decide +kernel, rfl⟩
theorem st_309 : Dc method_4_code 309 (.aload_n 0) 1 310 := ⟨by decide +kernel, rfl⟩
theorem st_310 : Dc method_4_code 310 (.iconst 0) 1 311 := ⟨by decide +kernel, rfl⟩
theorem st_311 : Dc method_4_code 311 (.caload) 1 312 := ⟨by decide +kernel, rfl⟩
theorem st_312 : Dc method_4_code 312 (.castore) 1 313 := ⟨by decide +kernel, rfl⟩
theorem st_313 : Dc method_4_code 313 (.dup) 1 314 := ⟨by decide +kernel, rfl⟩
theorem st_314 : Dc method_4_code 314 (.iconst 1) 1 315 := ⟨by decide +kernel, rfl⟩
theorem st_315 : Dc method_4_code 315 (.aload_n 0) 1 316 := ⟨by decide +kernel, rfl⟩
theorem st_316 : Dc method_4_code 316 (.iconst 1) 1 317 := ⟨by decide +kernel, rfl⟩
theorem st_317 : Dc method_4_code 317 (.caload) 1 318 := ⟨by decide +kernel, rfl⟩
theorem st_318 : Dc method_4_code 318 (.castore) 1 319 := ⟨by decide +kernel, rfl⟩
theorem st_319 : Dc method_4_code 319 (.dup) 1 320 := ⟨by decide +kernel, rfl⟩
theorem st_320 : Dc method_4_code 320 (.iconst 2) 1 321 := ⟨by decide +kernel, rfl⟩
theorem st_321 : Dc method_4_code 321 (.aload_n 0) 1 322 := ⟨by decide +kernel, rfl⟩
theorem st_322 : Dc method_4_code 322 (.iconst 2) 1 323 := ⟨by decide +kernel, rfl⟩
theorem st_323 : Dc method_4_code 323 (.caload) 1 324 := ⟨by decide +kernel, rfl⟩
theorem st_324 : Dc method_4_code 324 (.castore) 1 325 := ⟨by decide +kernel, rfl⟩
theorem st_325 : Dc method_4_code 325 (.dup) 1 326 := ⟨by decide +kernel, rfl⟩
theorem st_326 : Dc method_4_code 326 (.iconst 3) 1 327 := ⟨by decide +kernel, rfl⟩
theorem st_327 : Dc method_4_code 327 (.aload_n 0) 1 328 := ⟨by decide +kernel, rfl⟩
theorem st_328 : Dc method_4_code 328 (.iconst 3) 1 329 := ⟨by decide +kernel, rfl⟩
theorem st_329 : Dc method_4_code 329 (.caload) 1 330 := ⟨by decide +kernel, rfl⟩
theorem st_330 : Dc method_4_code 330 (.castore) 1 331 := ⟨by decide +kernel, rfl⟩
theorem st_331 : Dc method_4_code 331 (.dup) 1 332 := ⟨by decide +kernel, rfl⟩
theorem st_332 : Dc method_4_code 332 (.iconst 4) 1 333 := ⟨by decide +kernel, rfl⟩
theorem st_333 : Dc method_4_code 333 (.aload_n 0) 1 334 := ⟨by decide +kernel, rfl⟩
theorem st_334 : Dc method_4_code 334 (.iconst 4) 1 335 := ⟨by decide +kernel, rfl⟩
theorem st_335 : Dc method_4_code 335 (.caload) 1 336 := ⟨by decide +kernel, rfl⟩
theorem st_336 : Dc method_4_code 336 (.castore) 1 337 := ⟨by decide +kernel, rfl⟩
theorem st_337 : Dc method_4_code 337 (.dup) 1 338 := ⟨by decide +kernel, rfl⟩
theorem st_338 : Dc method_4_code 338 (.iconst 5) 1 339 := ⟨by decide +kernel, rfl⟩
theorem st_339 : Dc method_4_code 339 (.aload_n 0) 1 340 := ⟨by decide +kernel, rfl⟩
theorem st_340 : Dc method_4_code 340 (.iconst 5) 1 341 := ⟨by decide +kernel, rfl⟩
theorem st_341 : Dc method_4_code 341 (.caload) 1 342 := ⟨by decide +kernel, rfl⟩
theorem st_342 : Dc method_4_code 342 (.castore) 1 343 := ⟨by decide +kernel, rfl⟩
theorem st_343 : Dc method_4_code 343 (.dup) 1 344 := ⟨by decide +kernel, rfl⟩
theorem st_344 : Dc method_4_code 344 (.bipush 6) 2 346 := ⟨by decide +kernel, rfl⟩
theorem st_346 : Dc method_4_code 346 (.aload_n 0) 1 347 := ⟨by decide +kernel, rfl⟩
theorem st_347 : Dc method_4_code 347 (.bipush 6) 2 349 := ⟨by decide +kernel, rfl⟩
theorem st_349 : Dc method_4_code 349 (.caload) 1 350 := ⟨by decide +kernel, rfl⟩
theorem st_350 : Dc method_4_code 350 (.castore) 1 351 := ⟨by decide +kernel, rfl⟩
theorem st_351 : Dc method_4_code 351 (.dup) 1 352 := ⟨by decide +kernel, rfl⟩
theorem st_352 : Dc method_4_code 352 (.bipush 7) 2 354 := ⟨by decide +kernel, rfl⟩
theorem st_354 : Dc method_4_code 354 (.aload_n 0) 1 355 := ⟨by decide +kernel, rfl⟩
theorem st_355 : Dc method_4_code 355 (.bipush 7) 2 357 := ⟨by decide +kernel, rfl⟩
theorem st_357 : Dc method_4_code 357 (.caload) 1 358 := ⟨by decide +kernel, rfl⟩
theorem st_358 : Dc method_4_code 358 (.castore) 1 359 := ⟨by decide +kernel, rfl⟩
theorem st_359 : Dc method_4_code 359 (.invokespecial 64) 3 362 := ⟨by decide +kernel, rfl⟩
theorem st_362 : Dc method_4_code 362 (.areturn) 1 363 := ⟨by decide +kernel, rfl⟩
theorem st_363 : Dc method_4_code 363 (.iload_n 1) 1 364 := ⟨by decide +kernel, rfl⟩
theorem st_364 : Dc method_4_code 364 (.bipush 9) 2 366 := ⟨by decide +kernel, rfl⟩
theorem st_366 : Jp method_4_code 366 (.if_icmp .ne 75) (75) 369 441 := ⟨by decide +kernel, rfl, by decide, by decide⟩
theorem st_369 : Dc method_4_code 369 (.new 23) 3 372 := ⟨by decide +kernel, rfl⟩
theorem st_372 : Dc method_4_code 372 (.dup) 1 373 := ⟨by decide +kernel, rfl⟩
theorem st_373 : Dc method_4_code 373 (.bipush 9) 2 375 := ⟨by decide +kernel, rfl⟩
theorem st_375 : Dc method_4_code 375 (.newarray .char) 2 377 := ⟨by decide +kernel, rfl⟩
theorem st_377 : Dc method_4_code 377 (.dup) 1 378 := ⟨by decide +kernel, rfl⟩
theorem st_378 : Dc method_4_code 378 (.iconst 0) 1 379 := ⟨by decide +kernel, rfl⟩
theorem st_379 : Dc method_4_code 379 (.aload_n 0) 1 380 := ⟨by decide +kernel, rfl⟩
theorem st_380 : Dc method_4_code 380 (.iconst 0) 1 381 := ⟨by decide +kernel, rfl⟩
theorem st_381 : Dc method_4_code 381 (.caload) 1 382 := ⟨by decide +kernel, rfl⟩
theorem st_382 : Dc method_4_code 382 (.castore) 1 383 := ⟨by decide +kernel, rfl⟩
theorem st_383 : Dc method_4_code 383 (.dup) 1 384 := ⟨by decide +kernel, rfl⟩
theorem st_384 : Dc method_4_code 384 (.iconst 1) 1 385 := ⟨by decide +kernel, rfl⟩
theorem st_385 : Dc method_4_code 385 (.aload_n 0) 1 386 := ⟨by decide +kernel, rfl⟩
theorem st_386 : Dc method_4_code 386 (.iconst 1) 1 387 := ⟨by decide +kernel, rfl⟩
theorem st_387 : Dc method_4_code 387 (.caload) 1 388 := ⟨by decide +kernel, rfl⟩
theorem st_388 : Dc method_4_code 388 (.castore) 1 389 := ⟨by decide +kernel, rfl⟩
theorem st_389 : Dc method_4_code 389 (.dup) 1 390 := ⟨by decide +kernel, rfl⟩
theorem st_390 : Dc method_4_code 390 (.iconst 2) 1 391 := ⟨by decide +kernel, rfl⟩
theorem st_391 : Dc method_4_code 391 (.aload_n 0) 1 392 := ⟨by decide +kernel, rfl⟩
theorem st_392 : Dc method_4_code 392 (.iconst 2) 1 393 := ⟨by decide +kernel, rfl⟩
theorem st_393 : Dc method_4_code 393 (.caload) 1 394 := ⟨by decide +kernel, rfl⟩
theorem st_394 : Dc method_4_code 394 (.castore) 1 395 := ⟨by decide +kernel, rfl⟩
theorem st_395 : Dc method_4_code 395 (.dup) 1 396 := ⟨by decide +kernel, rfl⟩
theorem st_396 : Dc method_4_code 396 (.iconst 3) 1 397 := ⟨by decide +kernel, rfl⟩
theorem st_397 : Dc method_4_code 397 (.aload_n 0) 1 398 := ⟨by decide +kernel, rfl⟩
theorem st_398 : Dc method_4_code 398 (.iconst 3) 1 399 := ⟨by decide +kernel, rfl⟩
theorem st_399 : Dc method_4_code 399 (.caload) 1 400 := ⟨by decide +kernel, rfl⟩
theorem st_400 : Dc method_4_code 400 (.castore) 1 401 := ⟨by decide +kernel, rfl⟩
theorem st_401 : Dc method_4_code 401 (.dup) 1 402 := ⟨by decide +kernel, rfl⟩
theorem st_402 : Dc method_4_code 402 (.iconst 4) 1 403 := ⟨by decide +kernel, rfl⟩
theorem st_403 : Dc method_4_code 403 (.aload_n 0) 1 404 := ⟨by decide +kernel, rfl⟩
theorem st_404 : Dc method_4_code 404 (.iconst 4) 1 405 := ⟨by decide +kernel, rfl⟩
theorem st_405 : Dc method_4_code 405 (.caload) 1 406 := ⟨by decide +kernel, rfl⟩
theorem st_406 : Dc method_4_code 406 (.castore) 1 407 := ⟨by decide +kernel, rfl⟩
theorem st_407 : Dc method_4_code 407 (.dup) 1 408 := ⟨by decide +kernel, rfl⟩
theorem st_408 : Dc method_4_code 408 (.iconst 5) 1 409 := ⟨by decide +kernel, rfl⟩
theorem st_409 : Dc method_4_code 409 (.aload_n 0) 1 410 := ⟨by decide +kernel, rfl⟩
theorem st_410 : Dc method_4_code 410 (.iconst 5) 1 411 := ⟨by decide +kernel, rfl⟩
theorem st_411 : Dc method_4_code 411 (.caload) 1 412 := ⟨by decide +kernel, rfl⟩
theorem st_412 : Dc method_4_code 412 (.castore) 1 413 := ⟨by decide +kernel, rfl⟩
theorem st_413 : Dc method_4_code 413 (.dup) 1 414 := ⟨by decide +kernel, rfl⟩
theorem st_414 : Dc method_4_code 414 (.bipush 6) 2 416 := ⟨by decide +kernel, rfl⟩
theorem st_416 : Dc method_4_code 416 (.aload_n 0) 1 417 := ⟨by decide +kernel, rfl⟩
theorem st_417 : Dc method_4_code 417 (.bipush 6) 2 419 := ⟨by decide +kernel, rfl⟩
theorem st_419 : Dc method_4_code 419 (.caload) 1 420 := ⟨by decide +kernel, rfl⟩
theorem st_420 : Dc method_4_code 420 (.castore) 1 421 := ⟨by decide +kernel, rfl⟩
theorem st_421 : Dc method_4_code 421 (.dup) 1 422 := ⟨by decide +kernel, rfl⟩
theorem st_422 : Dc method_4_code 422 (.bipush 7) 2 424 := ⟨by decide +kernel, rfl⟩
theorem st_424 : Dc method_4_code 424 (.aload_n 0) 1 425 := ⟨by decide +kernel, rfl⟩
theorem st_425 : Dc method_4_code 425 (.bipush 7) 2 427 := ⟨by decide +kernel, rfl⟩
theorem st_427 : Dc method_4_code 427 (.caload) 1 428 := ⟨by decide +kernel, rfl⟩
theorem st_428 : Dc method_4_code 428 (.castore) 1 429 := ⟨by decide +kernel, rfl⟩
theorem st_429 : Dc method_4_code 429 (.dup) 1 430 := ⟨by decide +kernel, rfl⟩
theorem st_430 : Dc method_4_code 430 (.bipush 8) 2 432 := ⟨by decide +kernel, rfl⟩
theorem st_432 : Dc method_4_code 432 (.aload_n 0) 1 433 := ⟨by decide +kernel, rfl⟩
theorem st_433 : Dc method_4_code 433 (.bipush 8) 2 435 := ⟨by decide +kernel, rfl⟩
theorem st_435 : Dc method_4_code 435 (.caload) 1 436 := ⟨by decide +kernel, rfl⟩
theorem st_436 : Dc method_4_code 436 (.castore) 1 437 := ⟨by decide +kernel, rfl⟩
theorem st_437 : Dc method_4_code 437 (.invokespecial 64) 3 440 := ⟨by decide +kernel, rfl⟩
theorem st_440 : Dc method_4_code 440 (.areturn) 1 441 := ⟨by decide +kernel, rfl⟩
theorem st_441 : Dc method_4_code 441 (.new 23) 3 444 := ⟨by decide +kernel, rfl⟩
theorem st_444 : Dc method_4_code 444 (.dup) 1 445 := ⟨by decide +kernel, rfl⟩
theorem st_445 : Dc method_4_code 445 (.bipush 10) 2 447 := ⟨by decide +kernel, rfl⟩
theorem st_447 : Dc method_4_code 447 (.newarray .char) 2 449 := ⟨by decide +kernel, rfl⟩
theorem st_449 : Dc method_4_code 449 (.dup) 1 450 := ⟨by decide +kernel, rfl⟩
theorem st_450 : Dc method_4_code 450 (.iconst 0) 1 451 := ⟨by decide +kernel, rfl⟩
theorem st_451 : Dc method_4_code 451 (.aload_n 0) 1 452 := ⟨by decide +kernel, rfl⟩
theorem st_452 : Dc method_4_code 452 (.iconst 0) 1 453 := ⟨by decide +kernel, rfl⟩
theorem st_453 : Dc method_4_code 453 (.caload) 1 454 := ⟨by decide +kernel, rfl⟩
theorem st_454 : Dc method_4_code 454 (.castore) 1 455 := ⟨by decide +kernel, rfl⟩
theorem st_455 : Dc method_4_code 455 (.dup) 1 456 := ⟨by decide +kernel, rfl⟩
theorem st_456 : Dc method_4_code 456 (.iconst 1) 1 457 := ⟨by decide +kernel, rfl⟩
theorem st_457 : Dc method_4_code 457 (.aload_n 0) 1 458 := ⟨by decide +kernel, rfl⟩
theorem st_458 : Dc method_4_code 458 (.iconst 1) 1 459 := ⟨by decide +kernel, rfl⟩
theorem st_459 : Dc method_4_code 459 (.caload) 1 460 := ⟨by decide +kernel, rfl⟩
theorem st_460 : Dc method_4_code 460 (.castore) 1 461 := ⟨by decide +kernel, rfl⟩
theorem st_461 : Dc method_4_code 461 (.dup) 1 462 := ⟨by decide +kernel, rfl⟩
theorem st_462 : Dc method_4_code 462 (.iconst 2) 1 463 := ⟨by decide +kernel, rfl⟩
theorem st_463 : Dc method_4_code 463 (.aload_n 0) 1 464 := ⟨by decide +kernel, rfl⟩
theorem st_464 : Dc method_4_code 464 (.iconst 2) 1 465 := ⟨by decide +kernel, rfl⟩
theorem st_465 : Dc method_4_code 465 (.caload) 1 466 := ⟨by decide +kernel, rfl⟩
theorem st_466 : Dc method_4_code 466 (.castore) 1 467 := ⟨by decide +kernel, rfl⟩
theorem st_467 : Dc method_4_code 467 (.dup) 1 468 := ⟨by decide +kernel, rfl⟩
theorem st_468 : Dc method_4_code 468 (.iconst 3) 1 469 := ⟨by decide +kernel, rfl⟩
theorem st_469 : Dc method_4_code 469 (.aload_n 0) 1 470 := ⟨by decide +kernel, rfl⟩
theorem st_470 : Dc method_4_code 470 (.iconst 3) 1 471 := ⟨by decide +kernel, rfl⟩
theorem st_471 : Dc method_4_code 471 (.caload) 1 472 := ⟨by decide +kernel, rfl⟩
theorem st_472 : Dc method_4_code 472 (.castore) 1 473 := ⟨by decide +kernel, rfl⟩
theorem st_473 : Dc method_4_code 473 (.dup) 1 474 := ⟨by decide +kernel, rfl⟩
theorem st_474 : Dc method_4_code 474 (.iconst 4) 1 475 := ⟨by decide +kernel, rfl⟩
theorem st_475 : Dc method_4_code 475 (.aload_n 0) 1 476 := ⟨by decide +kernel, rfl⟩
theorem st_476 : Dc method_4_code 476 (.iconst 4) 1 477 := ⟨by decide +kernel, rfl⟩
theorem st_477 : Dc method_4_code 477 (.caload) 1 478 := ⟨by decide +kernel, rfl⟩
theorem st_478 : Dc method_4_code 478 (.castore) 1 479 := ⟨by decide +kernel, rfl⟩
theorem st_479 : Dc method_4_code 479 (.dup) 1 480 := ⟨by decide +kernel, rfl⟩
theorem st_480 : Dc method_4_code 480 (.iconst 5) 1 481 := ⟨by decide +kernel, rfl⟩
theorem st_481 : Dc method_4_code 481 (.aload_n 0) 1 482 := ⟨by decide +kernel, rfl⟩
theorem st_482 : Dc method_4_code 482 (.iconst 5) 1 483 := ⟨by decide +kernel, rfl⟩
theorem st_483 : Dc method_4_code 483 (.caload) 1 484 := ⟨by decide +kernel, rfl⟩
theorem st_484 : Dc method_4_code 484 (.castore) 1 485 := ⟨by decide +kernel, rfl⟩
theorem st_485 : Dc method_4_code 485 (.dup) 1 486 := ⟨by decide +kernel, rfl⟩
theorem st_486 : Dc method_4_code 486 (.bipush 6) 2 488 := ⟨by decide +kernel, rfl⟩
theorem st_488 : Dc method_4_code 488 (.aload_n 0) 1 489 := ⟨by decide +kernel, rfl⟩
theorem st_489 : Dc method_4_code 489 (.bipush 6) 2 491 := ⟨by decide +kernel, rfl⟩
theorem st_491 : Dc method_4_code 491 (.caload) 1 492 := ⟨by decide +kernel, rfl⟩
theorem st_492 : Dc method_4_code 492 (.castore) 1 493 := ⟨by decide +kernel, rfl⟩
theorem st_493 : Dc method_4_code 493 (.dup) 1 494 := ⟨by decide +kernel, rfl⟩
theorem st_494 : Dc method_4_code 494 (.bipush 7) 2 496 := ⟨by decide +kernel, rfl⟩
theorem st_496 : Dc method_4_code 496 (.aload_n 0) 1 497 := ⟨by decide +kernel, rfl⟩
theorem st_497 : Dc method_4_code 497 (.bipush 7) 2 499 := ⟨by decide +kernel, rfl⟩
theorem st_499 : Dc method_4_code 499 (.caload) 1 500 := ⟨by decide +kernel, rfl⟩
theorem st_500 : Dc method_4_code 500 (.castore) 1 501 := ⟨by decide +kernel, rfl⟩
theorem st_501 : Dc method_4_code 501 (.dup) 1 502 := ⟨by decide +kernel, rfl⟩
theorem st_502 : Dc method_4_code 502 (.bipush 8) 2 504 := ⟨by decide +kernel, rfl⟩
theorem st_504 : Dc method_4_code 504 (.aload_n 0) 1 505 := ⟨by decide +kernel, rfl⟩
theorem st_505 : Dc method_4_code 505 (.bipush 8) 2 507 := ⟨by decide +kernel, rfl⟩
theorem st_507 : Dc method_4_code 507 (.caload) 1 508 := ⟨by decide +kernel, rfl⟩
theorem st_508 : Dc method_4_code 508 (.castore) 1 509 := ⟨by decide +kernel, rfl⟩
theorem st_509 : Dc method_4_code 509 (.dup) 1 510 := ⟨by decide +kernel, rfl⟩
theorem st_510 : Dc method_4_code 510 (.bipush 9) 2 512 := ⟨by decide +kernel, rfl⟩
theorem st_512 : Dc method_4_code 512 (.aload_n 0) 1 513 := ⟨by decide +kernel, rfl⟩
theorem st_513 : Dc method_4_code 513 (.bipush 9) 2 515 := ⟨by decide +kernel, rfl⟩
theorem st_515 : Dc method_4_code 515 (.caload) 1 516 := ⟨by decide +kernel, rfl⟩
theorem st_516 : Dc method_4_code 516 (.castore) 1 517 := ⟨by decide +kernel, rfl⟩
theorem st_517 : Dc method_4_code 517 (.invokespecial 64) 3 520 := ⟨by decide +kernel, rfl⟩
theorem st_520 : Dc method_4_code 520 (.areturn) 1 521 := ⟨by decide +kernel, rfl⟩
theorem nm_0 : Dc prog_9_method_4_code 0 (.invokestatic 47) 3 3 := ⟨by decide +kernel, rfl⟩
theorem nm_3 : Dc prog_9_method_4_code 3 (.astore_n 1) 1 4 := ⟨by decide +kernel, rfl⟩
theorem nm_4 : Dc prog_9_method_4_code 4 (.aload_n 1) 1 5 := ⟨by decide +kernel, rfl⟩
theorem nm_5 : Dc prog_9_method_4_code 5 (.arraylength) 1 6 := ⟨by decide +kernel, rfl⟩
theorem nm_6 : Dc prog_9_method_4_code 6 (.istore_n 2) 1 7 := ⟨by decide +kernel, rfl⟩
theorem nm_7 : Dc prog_9_method_4_code 7 (.iconst 0) 1 8 := ⟨by decide +kernel, rfl⟩
theorem nm_8 : Dc prog_9_method_4_code 8 (.istore_n 3) 1 9 := ⟨by decide +kernel, rfl⟩
theorem nm_9 : Dc prog_9_method_4_code 9 (.iload_n 3) 1 10 := ⟨by decide +kernel, rfl⟩
theorem nm_10 : Dc prog_9_method_4_code 10 (.iload_n 2) 1 11 := ⟨by decide +kernel, rfl⟩
theorem nm_11 : Jp prog_9_method_4_code 11 (.if_icmp .ge 32) (32) 14 43 := ⟨by decide +kernel, rfl, by decide, by decide⟩
theorem nm_14 : Dc prog_9_method_4_code 14 (.aload_n 1) 1 15 := ⟨by decide +kernel, rfl⟩
theorem nm_15 : Dc prog_9_method_4_code 15 (.iload_n 3) 1 16 := ⟨by decide +kernel, rfl⟩
theorem nm_16 : Dc prog_9_method_4_code 16 (.aaload) 1 17 := ⟨by decide +kernel, rfl⟩
theorem nm_17 : Dc prog_9_method_4_code 17 (.astore 4) 2 19 := ⟨by decide +kernel, rfl⟩
theorem nm_19 : Dc prog_9_method_4_code 19 (.aload 4) 2 21 := ⟨by decide +kernel, rfl⟩
theorem nm_21 : Dc prog_9_method_4_code 21 (.getfield 32) 3 24 := ⟨by decide +kernel, rfl⟩
theorem nm_24 : Dc prog_9_method_4_code 24 (.aload_n 0) 1 25 := ⟨by decide +kernel, rfl⟩
theorem nm_25 : Dc prog_9_method_4_code 25 (.invokevirtual 51) 3 28 := ⟨by decide +kernel, rfl⟩
theorem nm_28 : Jp prog_9_method_4_code 28 (.ifCond .eq 9) (9) 31 37 := ⟨by decide +kernel, rfl, by decide, by decide⟩
theorem nm_31 : Dc prog_9_method_4_code 31 (.aload 4) 2 33 := ⟨by decide +kernel, rfl⟩
theorem nm_33 : Dc prog_9_method_4_code 33 (.invokestatic 57) 3 36 := ⟨by decide +kernel, rfl⟩
theorem nm_36 : Dc prog_9_method_4_code 36 (.areturn) 1 37 := ⟨by decide +kernel, rfl⟩
theorem nm_37 : Dc prog_9_method_4_code 37 (.iinc 3 1) 3 40 := ⟨by decide +kernel, rfl⟩
theorem nm_40 : Jp prog_9_method_4_code 40 (.goto (-31)) (-31) 43 9 := ⟨by decide +kernel, rfl, by decide, by decide⟩
theorem nm_43 : Dc prog_9_method_4_code 43 (.invokestatic 63) 3 46 := ⟨by decide +kernel, rfl⟩
theorem nm_46 : Dc prog_9_method_4_code 46 (.areturn) 1 47 := ⟨by decide +kernel, rfl⟩
theorem vl_0 : Dc prog_9_method_1_code 0 (.getstatic 13) 3 3 := ⟨by decide +kernel, rfl⟩
theorem vl_3 : Dc prog_9_method_1_code 3 (.invokevirtual 17) 3 6 := ⟨by decide +kernel, rfl⟩
theorem vl_6 : Dc prog_9_method_1_code 6 (.checkcast 18) 3 9 := ⟨by decide +kernel, rfl⟩
theorem vl_9 : Dc prog_9_method_1_code 9 (.areturn) 1 10 := ⟨by decide +kernel, rfl⟩
theorem oe_0 : Dc jdk_32_method_1_code 0 (.getstatic 1) 3 3 := ⟨by decide +kernel, rfl⟩
theorem oe_3 : Dc jdk_32_method_1_code 3 (.astore_n 0) 1 4 := ⟨by decide +kernel, rfl⟩
theorem oe_4 : Dc jdk_32_method_1_code 4 (.aload_n 0) 1 5 := ⟨by decide +kernel, rfl⟩
theorem oe_5 : Dc jdk_32_method_1_code 5 (.areturn) 1 6 := ⟨by decide +kernel, rfl⟩
theorem oo_0 : Dc jdk_32_method_15_code 0 (.aload_n 0) 1 1 := ⟨by decide +kernel, rfl⟩
theorem oo_1 : Dc jdk_32_method_15_code 1 (.getfield 13) 3 4 := ⟨by decide +kernel, rfl⟩
theorem oo_4 : Jp jdk_32_method_15_code 4 (.ifnull 10) (10) 7 14 := ⟨by decide +kernel, rfl, by decide, by decide⟩
theorem oo_7 : Dc jdk_32_method_15_code 7 (.aload_n 0) 1 8 := ⟨by decide +kernel, rfl⟩
theorem oo_8 : Dc jdk_32_method_15_code 8 (.getfield 13) 3 11 := ⟨by decide +kernel, rfl⟩
theorem oo_11 : Jp jdk_32_method_15_code 11 (.goto 4) (4) 14 15 := ⟨by decide +kernel, rfl, by decide, by decide⟩
theorem oo_14 : Dc jdk_32_method_15_code 14 (.aload_n 1) 1 15 := ⟨by decide +kernel, rfl⟩
theorem oo_15 : Dc jdk_32_method_15_code 15 (.areturn) 1 16 := ⟨by decide +kernel, rfl⟩
theorem of_0 : Dc jdk_32_method_3_code 0 (.new 2) 3 3 := ⟨by decide +kernel, rfl⟩
theorem of_3 : Dc jdk_32_method_3_code 3 (.dup) 1 4 := ⟨by decide +kernel, rfl⟩
theorem of_4 : Dc jdk_32_method_3_code 4 (.aload_n 0) 1 5 := ⟨by decide +kernel, rfl⟩
theorem of_5 : Dc jdk_32_method_3_code 5 (.invokestatic 17) 3 8 := ⟨by decide +kernel, rfl⟩
theorem of_8 : Dc jdk_32_method_3_code 8 (.invokespecial 23) 3 11 := ⟨by decide +kernel, rfl⟩
theorem of_11 : Dc jdk_32_method_3_code 11 (.areturn) 1 12 := ⟨by decide +kernel, rfl⟩
theorem oi_0 : Dc jdk_32_method_2_code 0 (.aload_n 0) 1 1 := ⟨by decide +kernel, rfl⟩
theorem oi_1 : Dc jdk_32_method_2_code 1 (.invokespecial 7) 3 4 := ⟨by decide +kernel, rfl⟩
theorem oi_4 : Dc jdk_32_method_2_code 4 (.aload_n 0) 1 5 := ⟨by decide +kernel, rfl⟩
theorem oi_5 : Dc jdk_32_method_2_code 5 (.aload_n 1) 1 6 := ⟨by decide +kernel, rfl⟩
theorem oi_6 : Dc jdk_32_method_2_code 6 (.putfield 13) 3 9 := ⟨by decide +kernel, rfl⟩
theorem oi_9 : Dc jdk_32_method_2_code 9 (.return_) 1 10 := ⟨by decide +kernel, rfl⟩
theorem rn_0 : Dc jdk_31_method_10_code 0 (.aload_n 0) 1 1 := ⟨by decide +kernel, rfl⟩
theorem rn_1 : Jp jdk_31_method_10_code 1 (.ifnonnull 11) (11) 4 12 := ⟨by decide +kernel, rfl, by decide, by decide⟩
theorem rn_4 : Dc jdk_31_method_10_code 4 (.new 84) 3 7 := ⟨by decide +kernel, rfl⟩
theorem rn_7 : Dc jdk_31_method_10_code 7 (.dup) 1 8 := ⟨by decide +kernel, rfl⟩
theorem rn_8 : Dc jdk_31_method_10_code 8 (.invokespecial 86) 3 11 := ⟨by decide +kernel, rfl⟩
theorem rn_11 : Dc jdk_31_method_10_code 11 (.athrow) 1 12 := ⟨by decide +kernel, rfl⟩
theorem rn_12 : Dc jdk_31_method_10_code 12 (.aload_n 0) 1 13 := ⟨by decide +kernel, rfl⟩
theorem rn_13 : Dc jdk_31_method_10_code 13 (.areturn) 1 14 := ⟨by decide +kernel, rfl⟩
theorem lw_0 : Dc code 0 (.bipush 10) 2 2 := ⟨by decide +kernel, rfl⟩
theorem lw_2 : Dc code 2 (.newarray .char) 2 4 := ⟨by decide +kernel, rfl⟩
theorem lw_4 : Dc code 4 (.astore 6) 2 6 := ⟨by decide +kernel, rfl⟩
theorem lw_6 : Dc code 6 (.aload 6) 2 8 := ⟨by decide +kernel, rfl⟩
theorem lw_8 : Dc code 8 (.iconst 0) 1 9 := ⟨by decide +kernel, rfl⟩
theorem lw_9 : Dc code 9 (.lload_n 2) 1 10 := ⟨by decide +kernel, rfl⟩
theorem lw_10 : Dc code 10 (.ldc2_w 7) 3 13 := ⟨by decide +kernel, rfl⟩
theorem lw_13 : Dc code 13 (.land) 1 14 := ⟨by decide +kernel, rfl⟩
theorem lw_14 : Dc code 14 (.l2i) 1 15 := ⟨by decide +kernel, rfl⟩
theorem lw_15 : Dc code 15 (.i2c) 1 16 := ⟨by decide +kernel, rfl⟩
theorem lw_16 : Dc code 16 (.castore) 1 17 := ⟨by decide +kernel, rfl⟩
theorem lw_17 : Dc code 17 (.aload 6) 2 19 := ⟨by decide +kernel, rfl⟩
theorem lw_19 : Dc code 19 (.iconst 1) 1 20 := ⟨by decide +kernel, rfl⟩
theorem lw_20 : Dc code 20 (.lload_n 2) 1 21 := ⟨by decide +kernel, rfl⟩
theorem lw_21 : Dc code 21 (.bipush 8) 2 23 := ⟨by decide +kernel, rfl⟩
theorem lw_23 : Dc code 23 (.lushr) 1 24 := ⟨by decide +kernel, rfl⟩
theorem lw_24 : Dc code 24 (.ldc2_w 7) 3 27 := ⟨by decide +kernel, rfl⟩
theorem lw_27 : Dc code 27 (.land) 1 28 := ⟨by decide +kernel, rfl⟩
theorem lw_28 : Dc code 28 (.l2i) 1 29 := ⟨by decide +kernel, rfl⟩
theorem lw_29 : Dc code 29 (.i2c) 1 30 := ⟨by decide +kernel, rfl⟩
theorem lw_30 : Dc code 30 (.castore) 1 31 := ⟨by decide +kernel, rfl⟩
theorem lw_31 : Dc code 31 (.aload 6) 2 33 := ⟨by decide +kernel, rfl⟩
theorem lw_33 : Dc code 33 (.iconst 2) 1 34 := ⟨by decide +kernel, rfl⟩
theorem lw_34 : Dc code 34 (.lload_n 2) 1 35 := ⟨by decide +kernel, rfl⟩
theorem lw_35 : Dc code 35 (.bipush 16) 2 37 := ⟨by decide +kernel, rfl⟩
theorem lw_37 : Dc code 37 (.lushr) 1 38 := ⟨by decide +kernel, rfl⟩
theorem lw_38 : Dc code 38 (.ldc2_w 7) 3 41 := ⟨by decide +kernel, rfl⟩
theorem lw_41 : Dc code 41 (.land) 1 42 := ⟨by decide +kernel, rfl⟩
theorem lw_42 : Dc code 42 (.l2i) 1 43 := ⟨by decide +kernel, rfl⟩
theorem lw_43 : Dc code 43 (.i2c) 1 44 := ⟨by decide +kernel, rfl⟩
theorem lw_44 : Dc code 44 (.castore) 1 45 := ⟨by decide +kernel, rfl⟩
theorem lw_45 : Dc code 45 (.aload 6) 2 47 := ⟨by decide +kernel, rfl⟩
theorem lw_47 : Dc code 47 (.iconst 3) 1 48 := ⟨by decide +kernel, rfl⟩
theorem lw_48 : Dc code 48 (.lload_n 2) 1 49 := ⟨by decide +kernel, rfl⟩
theorem lw_49 : Dc code 49 (.bipush 24) 2 51 := ⟨by decide +kernel, rfl⟩
theorem lw_51 : Dc code 51 (.lushr) 1 52 := ⟨by decide +kernel, rfl⟩
theorem lw_52 : Dc code 52 (.ldc2_w 7) 3 55 := ⟨by decide +kernel, rfl⟩
theorem lw_55 : Dc code 55 (.land) 1 56 := ⟨by decide +kernel, rfl⟩
theorem lw_56 : Dc code 56 (.l2i) 1 57 := ⟨by decide +kernel, rfl⟩
theorem lw_57 : Dc code 57 (.i2c) 1 58 := ⟨by decide +kernel, rfl⟩
theorem lw_58 : Dc code 58 (.castore) 1 59 := ⟨by decide +kernel, rfl⟩
theorem lw_59 : Dc code 59 (.aload 6) 2 61 := ⟨by decide +kernel, rfl⟩
theorem lw_61 : Dc code 61 (.iconst 4) 1 62 := ⟨by decide +kernel, rfl⟩
theorem lw_62 : Dc code 62 (.lload_n 2) 1 63 := ⟨by decide +kernel, rfl⟩
theorem lw_63 : Dc code 63 (.bipush 32) 2 65 := ⟨by decide +kernel, rfl⟩
theorem lw_65 : Dc code 65 (.lushr) 1 66 := ⟨by decide +kernel, rfl⟩
theorem lw_66 : Dc code 66 (.ldc2_w 7) 3 69 := ⟨by decide +kernel, rfl⟩
theorem lw_69 : Dc code 69 (.land) 1 70 := ⟨by decide +kernel, rfl⟩
theorem lw_70 : Dc code 70 (.l2i) 1 71 := ⟨by decide +kernel, rfl⟩
theorem lw_71 : Dc code 71 (.i2c) 1 72 := ⟨by decide +kernel, rfl⟩
theorem lw_72 : Dc code 72 (.castore) 1 73 := ⟨by decide +kernel, rfl⟩
theorem lw_73 : Dc code 73 (.aload 6) 2 75 := ⟨by decide +kernel, rfl⟩
theorem lw_75 : Dc code 75 (.iconst 5) 1 76 := ⟨by decide +kernel, rfl⟩
theorem lw_76 : Dc code 76 (.lload_n 2) 1 77 := ⟨by decide +kernel, rfl⟩
theorem lw_77 : Dc code 77 (.bipush 40) 2 79 := ⟨by decide +kernel, rfl⟩
theorem lw_79 : Dc code 79 (.lushr) 1 80 := ⟨by decide +kernel, rfl⟩
theorem lw_80 : Dc code 80 (.ldc2_w 7) 3 83 := ⟨by decide +kernel, rfl⟩
theorem lw_83 : Dc code 83 (.land) 1 84 := ⟨by decide +kernel, rfl⟩
theorem lw_84 : Dc code 84 (.l2i) 1 85 := ⟨by decide +kernel, rfl⟩
theorem lw_85 : Dc code 85 (.i2c) 1 86 := ⟨by decide +kernel, rfl⟩
theorem lw_86 : Dc code 86 (.castore) 1 87 := ⟨by decide +kernel, rfl⟩
theorem lw_87 : Dc code 87 (.aload 6) 2 89 := ⟨by decide +kernel, rfl⟩
theorem lw_89 : Dc code 89 (.bipush 6) 2 91 := ⟨by decide +kernel, rfl⟩
theorem lw_91 : Dc code 91 (.lload_n 2) 1 92 := ⟨by decide +kernel, rfl⟩
theorem lw_92 : Dc code 92 (.bipush 48) 2 94 := ⟨by decide +kernel, rfl⟩
theorem lw_94 : Dc code 94 (.lushr) 1 95 := ⟨by decide +kernel, rfl⟩
theorem lw_95 : Dc code 95 (.ldc2_w 7) 3 98 := ⟨by decide +kernel, rfl⟩
theorem lw_98 : Dc code 98 (.land) 1 99 := ⟨by decide +kernel, rfl⟩
theorem lw_99 : Dc code 99 (.l2i) 1 100 := ⟨by decide +kernel, rfl⟩
theorem lw_100 : Dc code 100 (.i2c) 1 101 := ⟨by decide +kernel, rfl⟩
theorem lw_101 : Dc code 101 (.castore) 1 102 := ⟨by decide +kernel, rfl⟩
theorem lw_102 : Dc code 102 (.aload 6) 2 104 := ⟨by decide +kernel, rfl⟩
theorem lw_104 : Dc code 104 (.bipush 7) 2 106 := ⟨by decide +kernel, rfl⟩
theorem lw_106 : Dc code 106 (.lload_n 2) 1 107 := ⟨by decide +kernel, rfl⟩
theorem lw_107 : Dc code 107 (.bipush 56) 2 109 := ⟨by decide +kernel, rfl⟩
theorem lw_109 : Dc code 109 (.lushr) 1 110 := ⟨by decide +kernel, rfl⟩
theorem lw_110 : Dc code 110 (.ldc2_w 7) 3 113 := ⟨by decide +kernel, rfl⟩
theorem lw_113 : Dc code 113 (.land) 1 114 := ⟨by decide +kernel, rfl⟩
theorem lw_114 : Dc code 114 (.l2i) 1 115 := ⟨by decide +kernel, rfl⟩
theorem lw_115 : Dc code 115 (.i2c) 1 116 := ⟨by decide +kernel, rfl⟩
theorem lw_116 : Dc code 116 (.castore) 1 117 := ⟨by decide +kernel, rfl⟩
theorem lw_117 : Dc code 117 (.aload 6) 2 119 := ⟨by decide +kernel, rfl⟩
theorem lw_119 : Dc code 119 (.bipush 8) 2 121 := ⟨by decide +kernel, rfl⟩
theorem lw_121 : Dc code 121 (.lload 4) 2 123 := ⟨by decide +kernel, rfl⟩
theorem lw_123 : Dc code 123 (.ldc2_w 7) 3 126 := ⟨by decide +kernel, rfl⟩
theorem lw_126 : Dc code 126 (.land) 1 127 := ⟨by decide +kernel, rfl⟩
theorem lw_127 : Dc code 127 (.l2i) 1 128 := ⟨by decide +kernel, rfl⟩
theorem lw_128 : Dc code 128 (.i2c) 1 129 := ⟨by decide +kernel, rfl⟩
theorem lw_129 : Dc code 129 (.castore) 1 130 := ⟨by decide +kernel, rfl⟩
theorem lw_130 : Dc code 130 (.aload 6) 2 132 := ⟨by decide +kernel, rfl⟩
theorem lw_132 : Dc code 132 (.bipush 9) 2 134 := ⟨by decide +kernel, rfl⟩
theorem lw_134 : Dc code 134 (.lload 4) 2 136 := ⟨by decide +kernel, rfl⟩
theorem lw_136 : Dc code 136 (.bipush 8) 2 138 := ⟨by decide +kernel, rfl⟩
theorem lw_138 : Dc code 138 (.lushr) 1 139 := ⟨by decide +kernel, rfl⟩
theorem lw_139 : Dc code 139 (.ldc2_w 7) 3 142 := ⟨by decide +kernel, rfl⟩
theorem lw_142 : Dc code 142 (.land) 1 143 := ⟨by decide +kernel, rfl⟩
theorem lw_143 : Dc code 143 (.l2i) 1 144 := ⟨by decide +kernel, rfl⟩
theorem lw_144 : Dc code 144 (.i2c) 1 145 := ⟨by decide +kernel, rfl⟩
theorem lw_145 : Dc code 145 (.castore) 1 146 := ⟨by decide +kernel, rfl⟩
theorem lw_146 : Dc code 146 (.iload_n 0) 1 147 := ⟨by decide +kernel, rfl⟩
theorem lw_147 : Dc code 147 (.iconst 3) 1 148 := ⟨by decide +kernel, rfl⟩
theorem lw_148 : Dc code 148 (.iand) 1 149 := ⟨by decide +kernel, rfl⟩
theorem lw_149 : Dc code 149 (.istore 7) 2 151 := ⟨by decide +kernel, rfl⟩
theorem lw_151 : Dc code 151 (.iload 7) 2 153 := ⟨by decide +kernel, rfl⟩
theorem lw_153 : Dc code 153 (.iconst 3) 1 154 := ⟨by decide +kernel, rfl⟩
theorem lw_154 : Jp code 154 (.if_icmp .ne 17) (17) 157 171 := ⟨by decide +kernel, rfl, by decide, by decide⟩
theorem lw_157 : Dc code 157 (.iload_n 0) 1 158 := ⟨by decide +kernel, rfl⟩
theorem lw_158 : Dc code 158 (.iconst 2) 1 159 := ⟨by decide +kernel, rfl⟩
theorem lw_159 : Dc code 159 (.iushr) 1 160 := ⟨by decide +kernel, rfl⟩
theorem lw_160 : Dc code 160 (.ldc 9) 2 162 := ⟨by decide +kernel, rfl⟩
theorem lw_162 : Dc code 162 (.iand) 1 163 := ⟨by decide +kernel, rfl⟩
theorem lw_163 : Dc code 163 (.bipush 11) 2 165 := ⟨by decide +kernel, rfl⟩
theorem lw_165 : Dc code 165 (.irem) 1 166 := ⟨by decide +kernel, rfl⟩
theorem lw_166 : Dc code 166 (.istore 8) 2 168 := ⟨by decide +kernel, rfl⟩
theorem lw_168 : Jp code 168 (.goto 71) (71) 171 239 := ⟨by decide +kernel, rfl, by decide, by decide⟩
theorem lw_171 : Dc code 171 (.iload 7) 2 173 := ⟨by decide +kernel, rfl⟩
theorem lw_173 : Jp code 173 (.ifCond .ne 8) (8) 176 181 := ⟨by decide +kernel, rfl, by decide, by decide⟩
theorem lw_176 : Dc code 176 (.ldc 10) 2 178 := ⟨by decide +kernel, rfl⟩
theorem lw_178 : Jp code 178 (.goto 16) (16) 181 194 := ⟨by decide +kernel, rfl, by decide, by decide⟩
theorem lw_181 : Dc code 181 (.iload 7) 2 183 := ⟨by decide +kernel, rfl⟩
theorem lw_183 : Dc code 183 (.iconst 1) 1 184 := ⟨by decide +kernel, rfl⟩
theorem lw_184 : Jp code 184 (.if_icmp .ne 8) (8) 187 192 := ⟨by decide +kernel, rfl, by decide, by decide⟩
theorem lw_187 : Dc code 187 (.ldc 12) 2 189 := ⟨by decide +kernel, rfl⟩
theorem lw_189 : Jp code 189 (.goto 5) (5) 192 194 := ⟨by decide +kernel, rfl, by decide, by decide⟩
theorem lw_192 : Dc code 192 (.ldc 14) 2 194 := ⟨by decide +kernel, rfl⟩
theorem lw_194 : Dc code 194 (.astore 9) 2 196 := ⟨by decide +kernel, rfl⟩
theorem lw_196 : Dc code 196 (.aload 6) 2 198 := ⟨by decide +kernel, rfl⟩
theorem lw_198 : Dc code 198 (.aload 9) 2 200 := ⟨by decide +kernel, rfl⟩
theorem lw_200 : Dc code 200 (.invokestatic 16) 3 203 := ⟨by decide +kernel, rfl⟩
theorem lw_203 : Dc code 203 (.iload_n 0) 1 204 := ⟨by decide +kernel, rfl⟩
theorem lw_204 : Dc code 204 (.iconst 2) 1 205 := ⟨by decide +kernel, rfl⟩
theorem lw_205 : Dc code 205 (.iushr) 1 206 := ⟨by decide +kernel, rfl⟩
theorem lw_206 : Dc code 206 (.iconst 3) 1 207 := ⟨by decide +kernel, rfl⟩
theorem lw_207 : Dc code 207 (.iand) 1 208 := ⟨by decide +kernel, rfl⟩
theorem lw_208 : Dc code 208 (.istore 10) 2 210 := ⟨by decide +kernel, rfl⟩
theorem lw_210 : Dc code 210 (.aload 9) 2 212 := ⟨by decide +kernel, rfl⟩
theorem lw_212 : Dc code 212 (.invokevirtual 22) 3 215 := ⟨by decide +kernel, rfl⟩
theorem lw_215 : Dc code 215 (.iload 10) 2 217 := ⟨by decide +kernel, rfl⟩
theorem lw_217 : Dc code 217 (.iconst 1) 1 218 := ⟨by decide +kernel, rfl⟩
theorem lw_218 : Jp code 218 (.if_icmp .ne 7) (7) 221 225 := ⟨by decide +kernel, rfl, by decide, by decide⟩
theorem lw_221 : Dc code 221 (.iconst (-1)) 1 222 := ⟨by decide +kernel, rfl⟩
theorem lw_222 : Jp code 222 (.goto 14) (14) 225 236 := ⟨by decide +kernel, rfl, by decide, by decide⟩
theorem lw_225 : Dc code 225 (.iload 10) 2 227 := ⟨by decide +kernel, rfl⟩
theorem lw_227 : Dc code 227 (.iconst 2) 1 228 := ⟨by decide +kernel, rfl⟩
theorem lw_228 : Jp code 228 (.if_icmp .ne 7) (7) 231 235 := ⟨by decide +kernel, rfl, by decide, by decide⟩
theorem lw_231 : Dc code 231 (.iconst 1) 1 232 := ⟨by decide +kernel, rfl⟩
theorem lw_232 : Jp code 232 (.goto 4) (4) 235 236 := ⟨by decide +kernel, rfl, by decide, by decide⟩
theorem lw_235 : Dc code 235 (.iconst 0) 1 236 := ⟨by decide +kernel, rfl⟩
theorem lw_236 : Dc code 236 (.iadd) 1 237 := ⟨by decide +kernel, rfl⟩
theorem lw_237 : Dc code 237 (.istore 8) 2 239 := ⟨by decide +kernel, rfl⟩
theorem lw_239 : Dc code 239 (.iload_n 1) 1 240 := ⟨by decide +kernel, rfl⟩
theorem lw_240 : Dc code 240 (.iconst 1) 1 241 := ⟨by decide +kernel, rfl⟩
theorem lw_241 : Dc code 241 (.iand) 1 242 := ⟨by decide +kernel, rfl⟩
theorem lw_242 : Jp code 242 (.ifCond .eq 35) (35) 245 277 := ⟨by decide +kernel, rfl, by decide, by decide⟩
theorem lw_245 : Dc code 245 (.iload 8) 2 247 := ⟨by decide +kernel, rfl⟩
theorem lw_247 : Jp code 247 (.ifCond .le 30) (30) 250 277 := ⟨by decide +kernel, rfl, by decide, by decide⟩
theorem lw_250 : Dc code 250 (.iload_n 1) 1 251 := ⟨by decide +kernel, rfl⟩
theorem lw_251 : Dc code 251 (.iconst 1) 1 252 := ⟨by decide +kernel, rfl⟩
theorem lw_252 : Dc code 252 (.iushr) 1 253 := ⟨by decide +kernel, rfl⟩
theorem lw_253 : Dc code 253 (.ldc 9) 2 255 := ⟨by decide +kernel, rfl⟩
theorem lw_255 : Dc code 255 (.iand) 1 256 := ⟨by decide +kernel, rfl⟩
theorem lw_256 : Dc code 256 (.iload 8) 2 258 := ⟨by decide +kernel, rfl⟩
theorem lw_258 : Dc code 258 (.irem) 1 259 := ⟨by decide +kernel, rfl⟩
theorem lw_259 : Dc code 259 (.istore 9) 2 261 := ⟨by decide +kernel, rfl⟩
theorem lw_261 : Dc code 261 (.aload 6) 2 263 := ⟨by decide +kernel, rfl⟩
theorem lw_263 : Dc code 263 (.iload 9) 2 265 := ⟨by decide +kernel, rfl⟩
theorem lw_265 : Dc code 265 (.lload 4) 2 267 := ⟨by decide +kernel, rfl⟩
theorem lw_267 : Dc code 267 (.bipush 16) 2 269 := ⟨by decide +kernel, rfl⟩
theorem lw_269 : Dc code 269 (.lushr) 1 270 := ⟨by decide +kernel, rfl⟩
theorem lw_270 : Dc code 270 (.ldc2_w 7) 3 273 := ⟨by decide +kernel, rfl⟩
theorem lw_273 : Dc code 273 (.land) 1 274 := ⟨by decide +kernel, rfl⟩
theorem lw_274 : Dc code 274 (.l2i) 1 275 := ⟨by decide +kernel, rfl⟩
theorem lw_275 : Dc code 275 (.i2c) 1 276 := ⟨by decide +kernel, rfl⟩
theorem lw_276 : Dc code 276 (.castore) 1 277 := ⟨by decide +kernel, rfl⟩
theorem lw_277 : Dc code 277 (.aload 6) 2 279 := ⟨by decide +kernel, rfl⟩
theorem lw_279 : Dc code 279 (.iload 8) 2 281 := ⟨by decide +kernel, rfl⟩
theorem lw_281 : Dc code 281 (.invokestatic 28) 3 284 := ⟨by decide +kernel, rfl⟩
theorem lw_284 : Dc code 284 (.astore 9) 2 286 := ⟨by decide +kernel, rfl⟩
theorem lw_286 : Dc code 286 (.aconst_null) 1 287 := ⟨by decide +kernel, rfl⟩
theorem lw_287 : Dc code 287 (.astore 10) 2 289 := ⟨by decide +kernel, rfl⟩
theorem lw_289 : Dc code 289 (.aload 9) 2 291 := ⟨by decide +kernel, rfl⟩
theorem lw_291 : Dc code 291 (.ldc 10) 2 293 := ⟨by decide +kernel, rfl⟩
theorem lw_293 : Dc code 293 (.invokevirtual 32) 3 296 := ⟨by decide +kernel, rfl⟩
theorem lw_296 : Jp code 296 (.ifCond .eq 11) (11) 299 307 := ⟨by decide +kernel, rfl, by decide, by decide⟩
theorem lw_299 : Dc code 299 (.getstatic 36) 3 302 := ⟨by decide +kernel, rfl⟩
theorem lw_302 : Dc code 302 (.astore 10) 2 304 := ⟨by decide +kernel, rfl⟩
theorem lw_304 : Jp code 304 (.goto 36) (36) 307 340 := ⟨by decide +kernel, rfl, by decide, by decide⟩
theorem lw_307 : Dc code 307 (.aload 9) 2 309 := ⟨by decide +kernel, rfl⟩
theorem lw_309 : Dc code 309 (.ldc 12) 2 311 := ⟨by decide +kernel, rfl⟩
theorem lw_311 : Dc code 311 (.invokevirtual 32) 3 314 := ⟨by decide +kernel, rfl⟩
theorem lw_314 : Jp code 314 (.ifCond .eq 11) (11) 317 325 := ⟨by decide +kernel, rfl, by decide, by decide⟩
theorem lw_317 : Dc code 317 (.getstatic 42) 3 320 := ⟨by decide +kernel, rfl⟩
theorem lw_320 : Dc code 320 (.astore 10) 2 322 := ⟨by decide +kernel, rfl⟩
theorem lw_322 : Jp code 322 (.goto 18) (18) 325 340 := ⟨by decide +kernel, rfl, by decide, by decide⟩
theorem lw_325 : Dc code 325 (.aload 9) 2 327 := ⟨by decide +kernel, rfl⟩
theorem lw_327 : Dc code 327 (.ldc 14) 2 329 := ⟨by decide +kernel, rfl⟩
theorem lw_329 : Dc code 329 (.invokevirtual 32) 3 332 := ⟨by decide +kernel, rfl⟩
theorem lw_332 : Jp code 332 (.ifCond .eq 8) (8) 335 340 := ⟨by decide +kernel, rfl, by decide, by decide⟩
theorem lw_335 : Dc code 335 (.getstatic 45) 3 338 := ⟨by decide +kernel, rfl⟩
theorem lw_338 : Dc code 338 (.astore 10) 2 340 := ⟨by decide +kernel, rfl⟩
theorem lw_340 : Dc code 340 (.aload 9) 2 342 := ⟨by decide +kernel, rfl⟩
theorem lw_342 : Dc code 342 (.invokestatic 48) 3 345 := ⟨by decide +kernel, rfl⟩
theorem lw_345 : Dc code 345 (.aconst_null) 1 346 := ⟨by decide +kernel, rfl⟩
theorem lw_346 : Dc code 346 (.invokevirtual 52) 3 349 := ⟨by decide +kernel, rfl⟩
theorem lw_349 : Dc code 349 (.checkcast 37) 3 352 := ⟨by decide +kernel, rfl⟩
theorem lw_352 : Dc code 352 (.astore 11) 2 354 := ⟨by decide +kernel, rfl⟩
theorem lw_354 : Dc code 354 (.aload 11) 2 356 := ⟨by decide +kernel, rfl⟩
theorem lw_356 : Dc code 356 (.aload 10) 2 358 := ⟨by decide +kernel, rfl⟩
theorem lw_358 : Jp code 358 (.if_acmp .ne 7) (7) 361 365 := ⟨by decide +kernel, rfl, by decide, by decide⟩
theorem lw_361 : Dc code 361 (.iconst 1) 1 362 := ⟨by decide +kernel, rfl⟩
theorem lw_362 : Jp code 362 (.goto 4) (4) 365 366 := ⟨by decide +kernel, rfl, by decide, by decide⟩
theorem lw_365 : Dc code 365 (.iconst 0) 1 366 := ⟨by decide +kernel, rfl⟩
theorem lw_366 : Dc code 366 (.ireturn) 1 367 := ⟨by decide +kernel, rfl⟩
theorem ef_vl (m : MethodId)  : entryFrame m #[] 0 = fr m 0 [] [] := by first | (simp [entryFrame, mkF, argsToLocals, Value.category]; done) | rfl
theorem ef_oe (m : MethodId)  : entryFrame m #[] 1 = fr m 0 [.unset] [] := by first | (simp [entryFrame, mkF, argsToLocals, Value.category]; done) | rfl
theorem ef_r1 (m : MethodId) (x0 : Addr) : entryFrame m #[(.ref x0)] 1 = fr m 0 [.val (.ref x0)] [] := by first | (simp [entryFrame, mkF, argsToLocals, Value.category]; done) | rfl
theorem ef_rr (m : MethodId) (x0 : Addr) (x1 : Addr) : entryFrame m #[(.ref x0), (.ref x1)] 2 = fr m 0 [.val (.ref x0), .val (.ref x1)] [] := by first | (simp [entryFrame, mkF, argsToLocals, Value.category]; done) | rfl
theorem ef_rv (m : MethodId) (x0 : Addr) (x1 : Value) (q1 : x1.category = 1) : entryFrame m #[(.ref x0), (x1)] 2 = fr m 0 [.val (.ref x0), .val (x1)] [] := by simp [entryFrame, mkF, argsToLocals, cat_int, cat_rf, cat_lng, q1]
theorem ef_nm (m : MethodId) (x0 : Addr) : entryFrame m #[(.ref x0)] 5 = fr m 0 [.val (.ref x0), .unset, .unset, .unset, .unset] [] := by first | (simp [entryFrame, mkF, argsToLocals, Value.category]; done) | rfl
theorem ef_lw (m : MethodId) (x0 : Int32) (x1 : Int32) (x2 : Int64) (x3 : Int64) : entryFrame m #[(.int x0), (.int x1), (.long x2), (.long x3)] 12 = fr m 0 [.val (.int x0), .val (.int x1), .val (.long x2), .second, .val (.long x3), .second, .unset, .unset, .unset, .unset, .unset, .unset] [] := by first | (simp [entryFrame, mkF, argsToLocals, Value.category]; done) | rfl
abbrev EL4 : List (String × Nat) := [(LAW, 10), (LAW, 12), (LAW, 14), (LAW, 62)]
def gW (i : Nat) : Int32 := [87, 101, 98, 65, 112, 112].getD i 0
def gN (i : Nat) : Int32 := [78, 97, 116, 105, 118, 101, 65, 112, 112].getD i 0
def gS (i : Nat) : Int32 := [83, 101, 114, 118, 101, 114, 65, 112, 112].getD i 0
theorem wS_1 {Z : State} {a0 : Array Value} (hw : ∀ d ∈ tables_1, d.before a0 Z = true) : ∀ a ∈ Bundle.stringAtoms, a.before a0 Z = true := by
  intro d hd
  simp only [Bundle.stringAtoms, List.mem_cons, List.not_mem_nil, or_false] at hd
  rcases hd with rfl | rfl | rfl | rfl | rfl | rfl | rfl
  · exact (hw _ (List.mem_of_getElem? (i := 3) rfl))
  · exact (hw _ (List.mem_of_getElem? (i := 4) rfl))
  · exact (hw _ (List.mem_of_getElem? (i := 5) rfl))
  · exact (hw _ (List.mem_of_getElem? (i := 6) rfl))
  · exact (hw _ (List.mem_of_getElem? (i := 7) rfl))
  · exact (hw _ (List.mem_of_getElem? (i := 8) rfl))
  · exact (hw _ (List.mem_of_getElem? (i := 9) rfl))
theorem g_ok : (∀ i : Fin 6, 0 ≤ (gW i.val).toInt ∧ (gW i.val).toInt ≤ 255) ∧ (∀ i : Fin 9, 0 ≤ (gN i.val).toInt ∧ (gN i.val).toInt ≤ 255) ∧ (∀ i : Fin 9, 0 ≤ (gS i.val).toInt ∧ (gS i.val).toInt ≤ 255) := by decide +kernel
theorem gW_ok : ∀ i, i < 6 → 0 ≤ (gW i).toInt ∧ (gW i).toInt ≤ 255 := fun i hi => g_ok.1 ⟨i, hi⟩
theorem gN_ok : ∀ i, i < 9 → 0 ≤ (gN i).toInt ∧ (gN i).toInt ≤ 255 := fun i hi => g_ok.2.1 ⟨i, hi⟩
theorem gS_ok : ∀ i, i < 9 → 0 ≤ (gS i).toInt ∧ (gS i).toInt ≤ 255 := fun i hi => g_ok.2.2 ⟨i, hi⟩
/-- the world that the case describes: the three constants, their names, the empty Optional -/
def Wd (Z : State) (va web nat srv : Addr) (nw nn ns bw bn bs oe : Addr) : Prop :=
  Sta Z Z.heap APP "$VALUES" APA (.ref va) ∧ Exa Z Z.heap va APA ∧ (∃ cl : Cell, Arr Z Z.heap va cl (.object APP) ∧ FitC Z cl ∧ cl.slots.size = 3 ∧ ∀ i, i < 3 → cl.slots[i]? = some ([Value.ref web, .ref nat, .ref srv].getD i .null) ∧ fits (.object APP) ([Value.ref web, .ref nat, .ref srv].getD i .null) = true) ∧
  Sta Z Z.heap APP "WEB_APP" APD (.ref web) ∧ Sta Z Z.heap APP "NATIVE_APP" APD (.ref nat) ∧ Sta Z Z.heap APP "SERVER_APP" APD (.ref srv) ∧ Exa Z Z.heap web APP ∧ Exa Z Z.heap nat APP ∧ Exa Z Z.heap srv APP ∧
  Fld Z Z.heap web APP "apiName" "Ljava/lang/String;" (.ref nw) ∧ Fld Z Z.heap nat APP "apiName" "Ljava/lang/String;" (.ref nn) ∧ Fld Z Z.heap srv APP "apiName" "Ljava/lang/String;" (.ref ns) ∧
  StrL Z Z.heap nw bw 6 gW ∧ StrL Z Z.heap nn bn 9 gN ∧ StrL Z Z.heap ns bs 9 gS ∧
  Sta Z Z.heap OPL "EMPTY" "Ljava/util/Optional;" (.ref oe) ∧ Exa Z Z.heap oe OPL ∧ Fld Z Z.heap oe OPL "value" "Ljava/lang/Object;" .null
theorem StrL.ext {Z : State} {h h' : Heap} {a b : Addr} {n : Nat} {g : Nat → Int32} (X : StrL Z h a b n g) (E : Ext h h') : StrL Z h' a b n g := ⟨X.1.ext E, X.2.1.ext E, X.2.2.1.ext E, X.2.2.2.1.ext E, X.2.2.2.2⟩
theorem met_vl (l : Launch) (Z : State) (a0 : Array Value) (hw : ∀ d ∈ tables_1, d.before a0 Z = true) (nw : Prop) (EL : List (String × Nat)) (hEL : EW Z a0 EL) {va web nat srv n1 n2 n3 b1 b2 b3 oe : Addr} (D : Wd Z va web nat srv n1 n2 n3 b1 b2 b3 oe) (h : Heap) :
    Met l Z nw EL ⟨APP, "values", "()[Lcom/example/clientry/clientry/AppType;"⟩ prog_9_method_1_code 0 (some (.array (.object APP))) ⟨1, 1, 3, 14⟩ #[] h [] (fun v h' => v = some (.ref h.size) ∧ Ext h h' ∧ AR Z h' h.size (.object APP) 3 (fun i => [Value.ref web, .ref nat, .ref srv].getD i .null)) := by
  obtain ⟨D1, D2, ⟨cl, D3, D4, D5, D6⟩, -⟩ := D
  refine Met.mk (a0 := a0) hEL pn_app ?_
  intro p e s m below meth c C hE hS
  rw [ef_vl]
  refine R_getstatic C vl_0 (hw _ (List.mem_of_getElem? (i := 92) rfl)) Via.refl (D1.ext hE) ?_
  refine R_clone C vl_3 (hw _ (List.mem_of_getElem? (i := 94) rfl)) (hw _ (List.mem_of_getElem? (i := 95) rfl)) (hw _ (List.mem_of_getElem? (i := 99) rfl)) (hw _ (List.mem_of_getElem? (i := 97) rfl)) (hw _ (List.mem_of_getElem? (i := 98) rfl)) (hw _ (List.mem_of_getElem? (i := 100) rfl)) (D3.ext hE) D5 (by decide) D6 (D2.ext hE) D4 rfl (Nat.le_of_ble_eq_true rfl) (Nat.le_of_ble_eq_true rfl) (Nat.le_of_ble_eq_true rfl) (Nat.le_of_ble_eq_true rfl) ?_
  intro h1 E1 X1 Sf1
  refine R_checkcast C vl_6 (hw _ (List.mem_of_getElem? (i := 105) rfl)) (RoadKit.Ins.self X1.2) ?_
  exact R_areturn C vl_9 rfl rfl rfl (Nat.le_of_ble_eq_true rfl) (Nat.le_of_ble_eq_true rfl) ⟨rfl, E1, X1.1⟩
theorem met_rn (l : Launch) (Z : State) (a0 : Array Value) (hw : ∀ d ∈ tables_1, d.before a0 Z = true) (nw : Prop) (EL : List (String × Nat)) (hEL : EW Z a0 EL) (h : Heap) (a : Addr) :
    Met l Z nw EL ⟨"java/util/Objects", "requireNonNull", "(Ljava/lang/Object;)Ljava/lang/Object;"⟩ jdk_31_method_10_code 1 (some (.object "java/lang/Object")) ⟨0, 0, 0, 0⟩ #[.ref a] h [] (fun v h' => v = some (.ref a) ∧ h' = h) := by
  refine Met.mk (a0 := a0) hEL pn_obj ?_
  intro p e s m below meth c C hE hS
  rw [ef_r1]
  refine R_aload_n C rn_0 rfl rfl ?_
  refine R_ifnonnull_y C rn_1 ?_
  refine R_aload_n C rn_12 rfl rfl ?_
  exact R_areturn C rn_13 rfl rfl rfl (Nat.le_refl _) (Nat.le_refl _) ⟨rfl, rfl⟩
theorem met_oi (l : Launch) (Z : State) (a0 : Array Value) (hw : ∀ d ∈ tables_1, d.before a0 Z = true) (nw : Prop) (EL : List (String × Nat)) (hEL : EW Z a0 EL) (h : Heap) (a w : Addr) (E : Exa Z h a OPL) (F : Fld Z h a OPL "value" "Ljava/lang/Object;" .null) (ha : Z.heap.size ≤ a) :
    Met l Z nw EL ⟨OPL, "<init>", "(Ljava/lang/Object;)V"⟩ jdk_32_method_2_code 2 none ⟨1, 0, 0, 12⟩ #[.ref a, .ref w] h [] (fun v h' => v = none ∧ Exa Z h' a OPL ∧ Fld Z h' a OPL "value" "Ljava/lang/Object;" (.ref w)) := by
  refine Met.mk (a0 := a0) hEL pn_opl ?_
  intro p e s m below meth c C hE hS
  rw [ef_rr]
  refine R_aload_n C oi_0 rfl rfl ?_
  refine R_initO C oi_1 (hw _ (List.mem_of_getElem? (i := 136) rfl)) (hw _ (List.mem_of_getElem? (i := 62) rfl)) (hw _ (List.mem_of_getElem? (i := 63) rfl)) rfl (Nat.le_of_ble_eq_true rfl) (Nat.le_of_ble_eq_true rfl) ?_
  refine Run.know fun hE1 hW1 _ => ?_
  refine R_aload_n C oi_4 rfl rfl ?_
  refine R_aload_n C oi_5 rfl rfl ?_
  refine R_putfield C oi_6 (hw _ (List.mem_of_getElem? (i := 120) rfl)) Via.refl F E (Or.inr ⟨(hw _ (List.mem_of_getElem? (i := 121) rfl)), rfl, rfl⟩) (hw _ (List.mem_of_getElem? (i := 127) rfl)) (ty := .object "java/lang/Object") (by decide) rfl rfl ha (Safe.exa hW1.alike E (by decide) (by decide)) ?_
  intro h2 W2 Sf2
  exact R_return C oi_9 rfl (Nat.le_refl _) (Nat.le_refl _) ⟨rfl, E.wr W2, F.same W2⟩
theorem met_of (l : Launch) (Z : State) (a0 : Array Value) (hw : ∀ d ∈ tables_1, d.before a0 Z = true) (nw : Prop) (EL : List (String × Nat)) (hEL : EW Z a0 EL) (h : Heap) (w : Addr) :
    Met l Z nw EL ⟨OPL, "of", "(Ljava/lang/Object;)Ljava/util/Optional;"⟩ jdk_32_method_3_code 1 (some (.object OPL)) ⟨2, 1, 1, 26⟩ #[.ref w] h [] (fun v h' => ∃ o, v = some (.ref o) ∧ Exa Z h' o OPL ∧ Fld Z h' o OPL "value" "Ljava/lang/Object;" (.ref w)) := by
  refine Met.mk (a0 := a0) hEL pn_opl ?_
  intro p e s m below meth c C hE hS
  rw [ef_r1]
  refine R_new C of_0 (hw _ (List.mem_of_getElem? (i := 126) rfl)) (hw _ (List.mem_of_getElem? (i := 127) rfl)) (hw _ (List.mem_of_getElem? (i := 112) rfl)) (Nat.le_of_ble_eq_true rfl) (Nat.le_of_ble_eq_true rfl) ?_
  intro h1 E1 X1 S1 _
  obtain ⟨X1, F1⟩ := X1
  refine R_dup C of_3 rfl ?_
  refine R_aload_n C of_4 rfl rfl ?_
  refine R_static C [.ref w] of_5 (met_rn l Z a0 hw True EL hEL h1 w) (by first | exact fun z => z | exact fun _ => trivial) (hw _ (List.mem_of_getElem? (i := 128) rfl)) (hw _ (List.mem_of_getElem? (i := 129) rfl)) (hw _ (List.mem_of_getElem? (i := 130) rfl)) (hw _ (List.mem_of_getElem? (i := 131) rfl)) (by decide) pd_10 rfl rfl rfl (Nat.le_of_ble_eq_true rfl) (Nat.le_of_ble_eq_true rfl) (Nat.le_of_ble_eq_true rfl) (Nat.le_of_ble_eq_true rfl) (fun _ q => nomatch q) ?_
  intro v vm2 h2 hQ hsz2 hSf2 hFr
  obtain ⟨rfl, rfl⟩ := hQ
  simp only [Option.toList_some, List.cons_append, List.nil_append]
  refine R_special C [.ref w] of_8 (met_oi l Z a0 hw nw EL hEL h2 h.size w X1 (F1 (Or.inr (hw _ (List.mem_of_getElem? (i := 121) rfl))) (ty := .object "java/lang/Object") (by decide)) hE.1) (by first | exact fun z => z | exact fun _ => trivial) rfl (hw _ (List.mem_of_getElem? (i := 132) rfl)) (hw _ (List.mem_of_getElem? (i := 133) rfl)) (hw _ (List.mem_of_getElem? (i := 112) rfl)) (hw _ (List.mem_of_getElem? (i := 135) rfl)) (by decide) pd_11 rfl rfl rfl (Nat.le_of_ble_eq_true rfl) (Nat.le_of_ble_eq_true rfl) (Nat.le_of_ble_eq_true rfl) (Nat.le_of_ble_eq_true rfl) (fun _ q => nomatch q) ?_
  intro v vm3 h3 hQ hsz3 hSf3 hFr
  obtain ⟨rfl, X3, F3⟩ := hQ
  simp only [Option.toList_none, List.nil_append]
  exact R_areturn C of_11 rfl rfl rfl (Nat.le_of_ble_eq_true rfl) (Nat.le_of_ble_eq_true rfl) ⟨_, rfl, X3, F3⟩
theorem met_oe (l : Launch) (Z : State) (a0 : Array Value) (hw : ∀ d ∈ tables_1, d.before a0 Z = true) (nw : Prop) (EL : List (String × Nat)) (hEL : EW Z a0 EL) (h : Heap) (o : Addr) (S : Sta Z Z.heap OPL "EMPTY" "Ljava/util/Optional;" (.ref o)) :
    Met l Z nw EL ⟨OPL, "empty", "()Ljava/util/Optional;"⟩ jdk_32_method_1_code 1 (some (.object OPL)) ⟨0, 0, 0, 0⟩ #[] h [] (fun v h' => v = some (.ref o) ∧ h' = h) := by
  refine Met.mk (a0 := a0) hEL pn_opl ?_
  intro p e s m below meth c C hE hS
  rw [ef_oe]
  refine R_getstatic C oe_0 (hw _ (List.mem_of_getElem? (i := 114) rfl)) Via.refl (S.ext hE) ?_
  refine R_astore_n C oe_3 rfl rfl rfl ?_
  simp only [fv0, fv1, fv2, fv3, List.set_cons_zero, List.set_cons_succ]
  refine R_aload_n C oe_4 rfl rfl ?_
  exact R_areturn C oe_5 rfl rfl rfl (Nat.le_refl _) (Nat.le_refl _) ⟨rfl, rfl⟩
theorem met_oo (l : Launch) (Z : State) (a0 : Array Value) (hw : ∀ d ∈ tables_1, d.before a0 Z = true) (nw : Prop) (EL : List (String × Nat)) (hEL : EW Z a0 EL) (h : Heap) (o : Addr) (w : Value) (hwr : w.isRef = true) (F : Fld Z h o OPL "value" "Ljava/lang/Object;" w) :
    Met l Z nw EL ⟨OPL, "orElse", "(Ljava/lang/Object;)Ljava/lang/Object;"⟩ jdk_32_method_15_code 2 (some (.object "java/lang/Object")) ⟨0, 0, 0, 0⟩ #[.ref o, .null] h [] (fun v h' => v = some w ∧ h' = h) := by
  refine Met.mk (a0 := a0) hEL pn_opl ?_
  intro p e s m below meth c C hE hS
  rw [ef_rv m _ _ rfl]
  refine R_aload_n C oo_0 rfl rfl ?_
  refine R_getfield C oo_1 (hw _ (List.mem_of_getElem? (i := 120) rfl)) Via.refl (F) ?_
  rcases ref_cases hwr with rfl | ⟨b, rfl⟩
  · refine R_ifnull_y C oo_4 ?_
    refine R_aload_n C oo_14 rfl rfl ?_
    exact R_areturn C oo_15 rfl rfl rfl (Nat.le_refl _) (Nat.le_refl _) ⟨rfl, rfl⟩
  · refine R_ifnull_n C oo_4 ?_
    refine R_aload_n C oo_7 rfl rfl ?_
    refine R_getfield C oo_8 (hw _ (List.mem_of_getElem? (i := 120) rfl)) Via.refl (F) ?_
    refine R_goto C oo_11 ?_
    exact R_areturn C oo_15 rfl rfl rfl (Nat.le_refl _) (Nat.le_refl _) ⟨rfl, rfl⟩
/-- which constant the text g 0 .. g (n - 1) names -/
def Names (n : Nat) (g : Nat → Int32) (web nat srv : Addr) (w : Value) : Prop := (w = .ref web ∧ Same 6 n gW g) ∨ (w = .ref nat ∧ ¬ Same 6 n gW g ∧ Same 9 n gN g) ∨ (w = .ref srv ∧ ¬ Same 6 n gW g ∧ ¬ Same 9 n gN g ∧ Same 9 n gS g) ∨ (w = .null ∧ ¬ Same 6 n gW g ∧ ¬ Same 9 n gN g ∧ ¬ Same 9 n gS g)
theorem Names.uniq {n : Nat} {g : Nat → Int32} {web nat srv : Addr} {v w : Value} (A : Names n g web nat srv v) (B : Names n g web nat srv w) : v = w := by
  rcases A with ⟨rfl, a⟩ | ⟨rfl, a, a2⟩ | ⟨rfl, a, a2, a3⟩ | ⟨rfl, a, a2, a3⟩ <;> rcases B with ⟨rfl, b⟩ | ⟨rfl, b, b2⟩ | ⟨rfl, b, b2, b3⟩ | ⟨rfl, b, b2, b3⟩ <;> first | rfl | exact absurd b a | exact absurd a b | exact absurd a2 b2 | exact absurd b2 a2 | exact absurd a3 b3 | exact absurd b3 a3
theorem Same.sym {n1 n2 : Nat} {g1 g2 : Nat → Int32} (A : Same n1 n2 g1 g2) : Same n2 n1 g2 g1 := ⟨A.1.symm, fun i hi => (A.2 i (by have := A.1; omega)).symm⟩
theorem met_nm (l : Launch) (Z : State) (a0 : Array Value) (hw : ∀ d ∈ tables_1, d.before a0 Z = true) (nw : Prop) (EL : List (String × Nat)) (hEL : EW Z a0 EL) (cs : Int32) (fm : Value) (S : SS Z cs fm) {va web nat srv n1 n2 n3 b1 b2 b3 oe : Addr} (D : Wd Z va web nat srv n1 n2 n3 b1 b2 b3 oe) (h : Heap) (a b : Addr) (n : Nat) (g : Nat → Int32) (X : StrL Z h a b n g) :
    Met l Z nw EL ⟨APP, "named", "(Ljava/lang/String;)Ljava/util/Optional;"⟩ prog_9_method_4_code 5 (some (.object OPL)) ⟨3, 2, 4, 38⟩ #[.ref a] h [] (fun v h' => ∃ o w, v = some (.ref o) ∧ Exa Z h' o OPL ∧ Fld Z h' o OPL "value" "Ljava/lang/Object;" w ∧ Names n g web nat srv w) := by
  have D0 := D
  obtain ⟨D1, D2, -, -, -, -, Xw, Xn, Xs, Fw, Fn, Fs, Sw, Sn, Ss, De, Xe, Fe⟩ := D
  refine Met.mk (a0 := a0) hEL pn_app ?_
  intro p e s m below meth c C hE hS
  rw [ef_nm]
  refine R_static C [] nm_0 (met_vl l Z a0 hw True EL hEL D0 h) (by first | exact fun z => z | exact fun _ => trivial) (hw _ (List.mem_of_getElem? (i := 89) rfl)) (hw _ (List.mem_of_getElem? (i := 90) rfl)) (hw _ (List.mem_of_getElem? (i := 87) rfl)) (hw _ (List.mem_of_getElem? (i := 91) rfl)) (by decide) pd_12 rfl rfl rfl (Nat.le_of_ble_eq_true rfl) (Nat.le_of_ble_eq_true rfl) (Nat.le_of_ble_eq_true rfl) (Nat.le_of_ble_eq_true rfl) (fun _ q => nomatch q) ?_
  intro v vm1 h1 hQ hsz1 hSf1 hFr
  obtain ⟨rfl, E1, A1⟩ := hQ
  simp only [Option.toList_some, List.cons_append, List.nil_append]
  have hE1 := hE.tr E1
  have X1 := X.ext E1
  refine R_astore_n C nm_3 rfl rfl rfl ?_
  simp only [fv0, fv1, fv2, fv3, List.set_cons_zero, List.set_cons_succ]
  refine R_aload_n C nm_4 rfl rfl ?_
  refine R_arraylength C nm_5 (A1) (w := 3) rfl ?_
  refine R_istore_n C nm_6 rfl ?_
  simp only [fv0, fv1, fv2, fv3, List.set_cons_zero, List.set_cons_succ]
  refine R_iconst C nm_7 (v := 0) rfl ?_
  refine R_istore_n C nm_8 rfl ?_
  simp only [fv0, fv1, fv2, fv3, List.set_cons_zero, List.set_cons_succ]
  refine R_iload_n C nm_9 rfl ?_
  refine R_iload_n C nm_10 rfl ?_
  refine R_icmp C nm_11 (fun (hc : ¬ (0 : Int32) < 3) => absurd (by decide) hc) (fun _ => ?_)
  refine R_aload_n C nm_14 rfl rfl ?_
  refine R_iload_n C nm_15 rfl ?_
  refine R_aaload C 0 nm_16 A1 rfl rfl (by decide) (v := .ref web) rfl ?_
  refine R_astore C nm_17 rfl rfl rfl ?_
  simp only [fv0, fv1, fv2, fv3, List.set_cons_zero, List.set_cons_succ]
  refine R_aload C nm_19 rfl rfl ?_
  refine R_getfield C nm_21 (hw _ (List.mem_of_getElem? (i := 107) rfl)) Via.refl (Fw.ext hE1) ?_
  refine R_aload_n C nm_24 rfl rfl ?_
  refine R_virtual C [.ref a] nm_25 (met_eqL l Z a0 hw nw EL hEL cs fm S h1 n1 a b1 b 6 n gW g (Sw.ext hE1) X1) (by first | exact fun z => z | exact fun _ => trivial) ((Sw.ext hE1).1) (hw _ (List.mem_of_getElem? (i := 109) rfl)) (hw _ (List.mem_of_getElem? (i := 75) rfl)) (hw _ (List.mem_of_getElem? (i := 77) rfl)) (hw _ (List.mem_of_getElem? (i := 76) rfl)) (hw _ (List.mem_of_getElem? (i := 3) rfl)) (hw _ (List.mem_of_getElem? (i := 78) rfl)) (by decide) pd_13 rfl rfl rfl (Nat.le_of_ble_eq_true rfl) (Nat.le_of_ble_eq_true rfl) (Nat.le_of_ble_eq_true rfl) (Nat.le_of_ble_eq_true rfl) (fun _ q => nomatch q) ?_
  intro v vm2 h2 hQ hsz2 hSf2 hFr
  obtain ⟨rfl, ⟨rfl, q1⟩ | ⟨rfl, q1⟩⟩ := hQ
  · simp only [Option.toList_some, List.cons_append, List.nil_append]
    refine R_if C nm_28 (fun (hc : (1 : Int32) = 0) => absurd hc (by decide)) (fun _ => ?_)
    refine R_aload C nm_31 rfl rfl ?_
    refine R_static C [.ref web] nm_33 (met_of l Z a0 hw nw EL hEL h2 web) (by first | exact fun z => z | exact fun _ => trivial) (hw _ (List.mem_of_getElem? (i := 123) rfl)) (hw _ (List.mem_of_getElem? (i := 124) rfl)) (hw _ (List.mem_of_getElem? (i := 112) rfl)) (hw _ (List.mem_of_getElem? (i := 125) rfl)) (by decide) pd_14 rfl rfl rfl (Nat.le_of_ble_eq_true rfl) (Nat.le_of_ble_eq_true rfl) (Nat.le_of_ble_eq_true rfl) (Nat.le_of_ble_eq_true rfl) (fun _ q => nomatch q) ?_
    intro v vm3 h3 hQ hsz3 hSf3 hFr
    obtain ⟨o, rfl, X3, F3⟩ := hQ
    simp only [Option.toList_some, List.cons_append, List.nil_append]
    exact R_areturn C nm_36 rfl rfl rfl (Nat.le_of_ble_eq_true rfl) (Nat.le_of_ble_eq_true rfl) ⟨o, _, rfl, X3, F3, Or.inl ⟨rfl, q1⟩⟩
  · simp only [Option.toList_some, List.cons_append, List.nil_append]
    refine R_if C nm_28 (fun _ => ?_) (fun (hc : ¬ (0 : Int32) = 0) => absurd rfl hc)
    refine R_iinc C nm_37 rfl rfl (dI := 1) rfl (w := 1) rfl ?_
    simp only [fv0, fv1, fv2, fv3, List.set_cons_zero, List.set_cons_succ]
    refine R_goto C nm_40 ?_
    refine R_iload_n C nm_9 rfl ?_
    refine R_iload_n C nm_10 rfl ?_
    refine R_icmp C nm_11 (fun (hc : ¬ (1 : Int32) < 3) => absurd (by decide) hc) (fun _ => ?_)
    refine R_aload_n C nm_14 rfl rfl ?_
    refine R_iload_n C nm_15 rfl ?_
    refine R_aaload C 1 nm_16 A1 rfl rfl (by decide) (v := .ref nat) rfl ?_
    refine R_astore C nm_17 rfl rfl rfl ?_
    simp only [fv0, fv1, fv2, fv3, List.set_cons_zero, List.set_cons_succ]
    refine R_aload C nm_19 rfl rfl ?_
    refine R_getfield C nm_21 (hw _ (List.mem_of_getElem? (i := 107) rfl)) Via.refl (Fn.ext hE1) ?_
    refine R_aload_n C nm_24 rfl rfl ?_
    refine R_virtual C [.ref a] nm_25 (met_eqL l Z a0 hw nw EL hEL cs fm S h2 n2 a b2 b 9 n gN g (Sn.ext hE1) X1) (by first | exact fun z => z | exact fun _ => trivial) ((Sn.ext hE1).1) (hw _ (List.mem_of_getElem? (i := 109) rfl)) (hw _ (List.mem_of_getElem? (i := 75) rfl)) (hw _ (List.mem_of_getElem? (i := 77) rfl)) (hw _ (List.mem_of_getElem? (i := 76) rfl)) (hw _ (List.mem_of_getElem? (i := 3) rfl)) (hw _ (List.mem_of_getElem? (i := 78) rfl)) (by decide) pd_13 rfl rfl rfl (Nat.le_of_ble_eq_true rfl) (Nat.le_of_ble_eq_true rfl) (Nat.le_of_ble_eq_true rfl) (Nat.le_of_ble_eq_true rfl) (fun _ q => nomatch q) ?_
    intro v vm4 h4 hQ hsz4 hSf4 hFr
    obtain ⟨rfl, ⟨rfl, q2⟩ | ⟨rfl, q2⟩⟩ := hQ
    · simp only [Option.toList_some, List.cons_append, List.nil_append]
      refine R_if C nm_28 (fun (hc : (1 : Int32) = 0) => absurd hc (by decide)) (fun _ => ?_)
      refine R_aload C nm_31 rfl rfl ?_
      refine R_static C [.ref nat] nm_33 (met_of l Z a0 hw nw EL hEL h4 nat) (by first | exact fun z => z | exact fun _ => trivial) (hw _ (List.mem_of_getElem? (i := 123) rfl)) (hw _ (List.mem_of_getElem? (i := 124) rfl)) (hw _ (List.mem_of_getElem? (i := 112) rfl)) (hw _ (List.mem_of_getElem? (i := 125) rfl)) (by decide) pd_14 rfl rfl rfl (Nat.le_of_ble_eq_true rfl) (Nat.le_of_ble_eq_true rfl) (Nat.le_of_ble_eq_true rfl) (Nat.le_of_ble_eq_true rfl) (fun _ q => nomatch q) ?_
      intro v vm3 h3 hQ hsz3 hSf3 hFr
      obtain ⟨o, rfl, X3, F3⟩ := hQ
      simp only [Option.toList_some, List.cons_append, List.nil_append]
      exact R_areturn C nm_36 rfl rfl rfl (Nat.le_of_ble_eq_true rfl) (Nat.le_of_ble_eq_true rfl) ⟨o, _, rfl, X3, F3, Or.inr (Or.inl ⟨rfl, q1, q2⟩)⟩
    · simp only [Option.toList_some, List.cons_append, List.nil_append]
      refine R_if C nm_28 (fun _ => ?_) (fun (hc : ¬ (0 : Int32) = 0) => absurd rfl hc)
      refine R_iinc C nm_37 rfl rfl (dI := 1) rfl (w := 2) rfl ?_
      simp only [fv0, fv1, fv2, fv3, List.set_cons_zero, List.set_cons_succ]
      refine R_goto C nm_40 ?_
      refine R_iload_n C nm_9 rfl ?_
      refine R_iload_n C nm_10 rfl ?_
      refine R_icmp C nm_11 (fun (hc : ¬ (2 : Int32) < 3) => absurd (by decide) hc) (fun _ => ?_)
      refine R_aload_n C nm_14 rfl rfl ?_
      refine R_iload_n C nm_15 rfl ?_
      refine R_aaload C 2 nm_16 A1 rfl rfl (by decide) (v := .ref srv) rfl ?_
      refine R_astore C nm_17 rfl rfl rfl ?_
      simp only [fv0, fv1, fv2, fv3, List.set_cons_zero, List.set_cons_succ]
      refine R_aload C nm_19 rfl rfl ?_
      refine R_getfield C nm_21 (hw _ (List.mem_of_getElem? (i := 107) rfl)) Via.refl (Fs.ext hE1) ?_
      refine R_aload_n C nm_24 rfl rfl ?_
      refine R_virtual C [.ref a] nm_25 (met_eqL l Z a0 hw nw EL hEL cs fm S h4 n3 a b3 b 9 n gS g (Ss.ext hE1) X1) (by first | exact fun z => z | exact fun _ => trivial) ((Ss.ext hE1).1) (hw _ (List.mem_of_getElem? (i := 109) rfl)) (hw _ (List.mem_of_getElem? (i := 75) rfl)) (hw _ (List.mem_of_getElem? (i := 77) rfl)) (hw _ (List.mem_of_getElem? (i := 76) rfl)) (hw _ (List.mem_of_getElem? (i := 3) rfl)) (hw _ (List.mem_of_getElem? (i := 78) rfl)) (by decide) pd_13 rfl rfl rfl (Nat.le_of_ble_eq_true rfl) (Nat.le_of_ble_eq_true rfl) (Nat.le_of_ble_eq_true rfl) (Nat.le_of_ble_eq_true rfl) (fun _ q => nomatch q) ?_
      intro v vm5 h5 hQ hsz5 hSf5 hFr
      obtain ⟨rfl, ⟨rfl, q3⟩ | ⟨rfl, q3⟩⟩ := hQ
      · simp only [Option.toList_some, List.cons_append, List.nil_append]
        refine R_if C nm_28 (fun (hc : (1 : Int32) = 0) => absurd hc (by decide)) (fun _ => ?_)
        refine R_aload C nm_31 rfl rfl ?_
        refine R_static C [.ref srv] nm_33 (met_of l Z a0 hw nw EL hEL h5 srv) (by first | exact fun z => z | exact fun _ => trivial) (hw _ (List.mem_of_getElem? (i := 123) rfl)) (hw _ (List.mem_of_getElem? (i := 124) rfl)) (hw _ (List.mem_of_getElem? (i := 112) rfl)) (hw _ (List.mem_of_getElem? (i := 125) rfl)) (by decide) pd_14 rfl rfl rfl (Nat.le_of_ble_eq_true rfl) (Nat.le_of_ble_eq_true rfl) (Nat.le_of_ble_eq_true rfl) (Nat.le_of_ble_eq_true rfl) (fun _ q => nomatch q) ?_
        intro v vm3 h3 hQ hsz3 hSf3 hFr
        obtain ⟨o, rfl, X3, F3⟩ := hQ
        simp only [Option.toList_some, List.cons_append, List.nil_append]
        exact R_areturn C nm_36 rfl rfl rfl (Nat.le_of_ble_eq_true rfl) (Nat.le_of_ble_eq_true rfl) ⟨o, _, rfl, X3, F3, Or.inr (Or.inr (Or.inl ⟨rfl, q1, q2, q3⟩))⟩
      · simp only [Option.toList_some, List.cons_append, List.nil_append]
        refine R_if C nm_28 (fun _ => ?_) (fun (hc : ¬ (0 : Int32) = 0) => absurd rfl hc)
        refine R_iinc C nm_37 rfl rfl (dI := 1) rfl (w := 3) rfl ?_
        simp only [fv0, fv1, fv2, fv3, List.set_cons_zero, List.set_cons_succ]
        refine R_goto C nm_40 ?_
        refine R_iload_n C nm_9 rfl ?_
        refine R_iload_n C nm_10 rfl ?_
        refine R_icmp C nm_11 (fun _ => ?_) (fun (hc : ¬ ¬ (3 : Int32) < 3) => absurd (by decide) hc)
        refine R_static C [] nm_43 (met_oe l Z a0 hw nw EL hEL h5 oe De) (by first | exact fun z => z | exact fun _ => trivial) (hw _ (List.mem_of_getElem? (i := 110) rfl)) (hw _ (List.mem_of_getElem? (i := 111) rfl)) (hw _ (List.mem_of_getElem? (i := 112) rfl)) (hw _ (List.mem_of_getElem? (i := 113) rfl)) (by decide) pd_15 rfl rfl rfl (Nat.le_of_ble_eq_true rfl) (Nat.le_of_ble_eq_true rfl) (Nat.le_of_ble_eq_true rfl) (Nat.le_of_ble_eq_true rfl) (fun _ q => nomatch q) ?_
        intro v vm6 h6 hQ hsz6 hSf6 hFr
        obtain ⟨rfl, rfl⟩ := hQ
        simp only [Option.toList_some, List.cons_append, List.nil_append]
        exact R_areturn C nm_46 rfl rfl rfl (Nat.le_of_ble_eq_true rfl) (Nat.le_of_ble_eq_true rfl) ⟨oe, _, rfl, Xe.ext hE1, Fe.ext hE1, Or.inr (Or.inr (Or.inr ⟨rfl, q1, q2, q3⟩))⟩
theorem nar_small {x : Int32} (h : 0 ≤ x.toInt ∧ x.toInt ≤ 255) : nar .char x = x := nar_char_id h.1 (by omega)
/-- the buffer at buf holds bf 0 .. bf 9, each below 256 -/
def Bf (Z : State) (h : Heap) (buf : Addr) (bf : Nat → Int32) : Prop := AR Z h buf .char 10 (fun i => .int (bf i)) ∧ ∀ i, i < 10 → 0 ≤ (bf i).toInt ∧ (bf i).toInt ≤ 255
def upI (f : Nat → Int32) (j : Nat) (v : Int32) : Nat → Int32 := fun i => if i = j then v else f i
theorem upI_val (f : Nat → Int32) (j : Nat) (v : Int32) (i : Nat) : upd (fun i => Value.int (f i)) j (.int v) i = .int (upI f j v i) := by
  unfold Own.upd upI
  split <;> rfl
theorem Bf.put {Z : State} {h h' : Heap} {buf : Addr} {bf : Nat → Int32} {j : Nat} {v : Int32} (B : Bf Z h buf bf) (hv : 0 ≤ v.toInt ∧ v.toInt ≤ 255) (A : AR Z h' buf .char 10 (upd (fun i => .int (bf i)) j (.int (nar .char v)))) : Bf Z h' buf (upI bf j v) := by
  rw [nar_small hv] at A
  refine ⟨A.cg fun i _ => upI_val _ _ _ _, fun i hi => ?_⟩
  unfold upI
  split
  · exact hv
  · exact B.2 i hi
theorem m255l (y : Int64) : 0 ≤ (nar .char (y &&& 255).toInt32).toInt ∧ (nar .char (y &&& 255).toInt32).toInt ≤ 255 := by
  have h : (y &&& 255).toInt = y.toInt % 256 := i64_mask y 255 (k := 8) (by decide) (by decide)
  have h2 : (y &&& 255).toInt32.toInt = (y &&& 255).toInt := i32_of_i64 (by omega) (by omega)
  rw [nar_char_id (by omega) (by omega)]
  omega
def cpy (k : Nat) (g bf : Nat → Int32) : Nat → Int32 := fun i => if i < k then g i else bf i
theorem Bf.cpy {Z : State} {h : Heap} {buf : Addr} {g bf : Nat → Int32} {k : Nat} (B : Bf Z h buf (upI (cpy k g bf) k (g k))) : Bf Z h buf (Jvm.Pilot.@@N@@.cpy (k + 1) g bf) := by
  have e : upI (Jvm.Pilot.@@N@@.cpy k g bf) k (g k) = Jvm.Pilot.@@N@@.cpy (k + 1) g bf := by
    funext i
    unfold upI Jvm.Pilot.@@N@@.cpy
    by_cases z : i = k
    · subst z; rw [if_pos rfl, if_pos (by omega)]
    · rw [if_neg z]
      by_cases z2 : i < k
      · rw [if_pos z2, if_pos (by omega)]
      · rw [if_neg z2, if_neg (by omega)]
  rw [e] at B
  exact B
theorem met_pn (l : Launch) (Z : State) (a0 : Array Value) (hw : ∀ d ∈ tables_1, d.before a0 Z = true) (nw : Prop) (EL : List (String × Nat)) (hEL : EW Z a0 EL) (cs : Int32) (fm : Value) (S : SS Z cs fm) (h : Heap) (buf a b : Addr) (n : Nat) (g bf : Nat → Int32) (X : StrL Z h a b n g) (B0 : Bf Z h buf bf) (hn : n = 6 ∨ n = 9) (hbuf : Z.heap.size ≤ buf) :
    Met l Z nw EL ⟨LAW, "putName", "([CLjava/lang/String;)V"⟩ method_3_code 2 none ⟨4, 0, 0, 55⟩ #[.ref buf, .ref a] h [] (fun v h' => v = none ∧ Keep h h' [buf] ∧ Bf Z h' buf (cpy n g bf)) := by
  refine Met.mk (a0 := a0) hEL pn_law ?_
  intro p e s m below meth c C hE hS
  rw [ef_rr]
  have h6 : 6 ≤ n := by omega
  have neA : buf ≠ a := B0.1.neExa X.1 (hw _ (List.mem_of_getElem? (i := 4) rfl))
  have neB : buf ≠ b := fun z => by
    obtain ⟨c1, A1, -⟩ := B0.1
    obtain ⟨c2, A2, -⟩ := X.2.2.2.1
    rw [z] at A1
    cases A1.1.symm.trans A2.1
    obtain ⟨-, k1, q1, d1, q2⟩ := A1.2.1
    obtain ⟨-, k2, q3, d2, q4⟩ := A2.2.1
    cases q1.symm.trans q3
    rw [q2] at q4
    cases q4
  have keepS : ∀ {h1 : Heap}, Keep h h1 [buf] → StrL Z h1 a b n g := fun K => ⟨X.1.keep K, X.2.1.keep K (fun z => neA (List.mem_singleton.mp z).symm), X.2.2.1.keep K (fun z => neA (List.mem_singleton.mp z).symm), X.2.2.2.1.keep K (fun z => neB (List.mem_singleton.mp z).symm), X.2.2.2.2⟩
  have c0 : Bf Z h buf (cpy 0 g bf) := ⟨B0.1.cg fun i _ => by unfold cpy; rw [if_neg (Nat.not_lt_zero _)], fun i hi => by unfold cpy; rw [if_neg (Nat.not_lt_zero _)]; exact B0.2 i hi⟩
  have k0 : Keep h h [buf] := Keep.refl _ _
  refine R_aload_n C pn_0 rfl rfl ?_
  refine R_iconst C pn_1 (v := 0) rfl ?_
  refine R_aload_n C pn_2 rfl rfl ?_
  refine R_iconst C pn_3 (v := 0) rfl ?_
  refine R_virtual C [.int 0] pn_4 (met_charAtL l Z a0 hw nw EL hEL cs fm S h a b n g (keepS k0) 0 0 rfl (by omega)) (by first | exact fun z => z | exact fun _ => trivial) ((keepS k0).1) (hw _ (List.mem_of_getElem? (i := 14) rfl)) (hw _ (List.mem_of_getElem? (i := 15) rfl)) (hw _ (List.mem_of_getElem? (i := 17) rfl)) (hw _ (List.mem_of_getElem? (i := 16) rfl)) (hw _ (List.mem_of_getElem? (i := 3) rfl)) (hw _ (List.mem_of_getElem? (i := 18) rfl)) (by decide) pd_16 rfl rfl rfl (Nat.le_of_ble_eq_true rfl) (Nat.le_of_ble_eq_true rfl) (Nat.le_of_ble_eq_true rfl) (Nat.le_of_ble_eq_true rfl) (fun _ q => nomatch q) ?_
  intro v vm1 hb0 hQ hsz hSf hFr
  obtain ⟨rfl, rfl⟩ := hQ
  simp only [Option.toList_some, List.cons_append, List.nil_append]
  refine Run.know fun hE0 hW0 _ => ?_
  refine R_castore C 0 pn_7 c0.1 rfl (by decide) hbuf (c0.1.safe hW0 (by decide)) ?_
  intro ha1 w1 d1 _
  have c1 := (c0.put (X.2.2.2.2 0 (by omega)) d1).cpy
  have k1 := k0.wr w1 (Or.inl (List.mem_singleton.mpr rfl))
  refine R_aload_n C pn_8 rfl rfl ?_
  refine R_iconst C pn_9 (v := 1) rfl ?_
  refine R_aload_n C pn_10 rfl rfl ?_
  refine R_iconst C pn_11 (v := 1) rfl ?_
  refine R_virtual C [.int 1] pn_12 (met_charAtL l Z a0 hw nw EL hEL cs fm S ha1 a b n g (keepS k1) 1 1 rfl (by omega)) (by first | exact fun z => z | exact fun _ => trivial) ((keepS k1).1) (hw _ (List.mem_of_getElem? (i := 14) rfl)) (hw _ (List.mem_of_getElem? (i := 15) rfl)) (hw _ (List.mem_of_getElem? (i := 17) rfl)) (hw _ (List.mem_of_getElem? (i := 16) rfl)) (hw _ (List.mem_of_getElem? (i := 3) rfl)) (hw _ (List.mem_of_getElem? (i := 18) rfl)) (by decide) pd_16 rfl rfl rfl (Nat.le_of_ble_eq_true rfl) (Nat.le_of_ble_eq_true rfl) (Nat.le_of_ble_eq_true rfl) (Nat.le_of_ble_eq_true rfl) (fun _ q => nomatch q) ?_
  intro v vm2 hb1 hQ hsz hSf hFr
  obtain ⟨rfl, rfl⟩ := hQ
  simp only [Option.toList_some, List.cons_append, List.nil_append]
  refine Run.know fun hE1 hW1 _ => ?_
  refine R_castore C 1 pn_15 c1.1 rfl (by decide) hbuf (c1.1.safe hW1 (by decide)) ?_
  intro ha2 w2 d2 _
  have c2 := (c1.put (X.2.2.2.2 1 (by omega)) d2).cpy
  have k2 := k1.wr w2 (Or.inl (List.mem_singleton.mpr rfl))
  refine R_aload_n C pn_16 rfl rfl ?_
  refine R_iconst C pn_17 (v := 2) rfl ?_
  refine R_aload_n C pn_18 rfl rfl ?_
  refine R_iconst C pn_19 (v := 2) rfl ?_
  refine R_virtual C [.int 2] pn_20 (met_charAtL l Z a0 hw nw EL hEL cs fm S ha2 a b n g (keepS k2) 2 2 rfl (by omega)) (by first | exact fun z => z | exact fun _ => trivial) ((keepS k2).1) (hw _ (List.mem_of_getElem? (i := 14) rfl)) (hw _ (List.mem_of_getElem? (i := 15) rfl)) (hw _ (List.mem_of_getElem? (i := 17) rfl)) (hw _ (List.mem_of_getElem? (i := 16) rfl)) (hw _ (List.mem_of_getElem? (i := 3) rfl)) (hw _ (List.mem_of_getElem? (i := 18) rfl)) (by decide) pd_16 rfl rfl rfl (Nat.le_of_ble_eq_true rfl) (Nat.le_of_ble_eq_true rfl) (Nat.le_of_ble_eq_true rfl) (Nat.le_of_ble_eq_true rfl) (fun _ q => nomatch q) ?_
  intro v vm3 hb2 hQ hsz hSf hFr
  obtain ⟨rfl, rfl⟩ := hQ
  simp only [Option.toList_some, List.cons_append, List.nil_append]
  refine Run.know fun hE2 hW2 _ => ?_
  refine R_castore C 2 pn_23 c2.1 rfl (by decide) hbuf (c2.1.safe hW2 (by decide)) ?_
  intro ha3 w3 d3 _
  have c3 := (c2.put (X.2.2.2.2 2 (by omega)) d3).cpy
  have k3 := k2.wr w3 (Or.inl (List.mem_singleton.mpr rfl))
  refine R_aload_n C pn_24 rfl rfl ?_
  refine R_iconst C pn_25 (v := 3) rfl ?_
  refine R_aload_n C pn_26 rfl rfl ?_
  refine R_iconst C pn_27 (v := 3) rfl ?_
  refine R_virtual C [.int 3] pn_28 (met_charAtL l Z a0 hw nw EL hEL cs fm S ha3 a b n g (keepS k3) 3 3 rfl (by omega)) (by first | exact fun z => z | exact fun _ => trivial) ((keepS k3).1) (hw _ (List.mem_of_getElem? (i := 14) rfl)) (hw _ (List.mem_of_getElem? (i := 15) rfl)) (hw _ (List.mem_of_getElem? (i := 17) rfl)) (hw _ (List.mem_of_getElem? (i := 16) rfl)) (hw _ (List.mem_of_getElem? (i := 3) rfl)) (hw _ (List.mem_of_getElem? (i := 18) rfl)) (by decide) pd_16 rfl rfl rfl (Nat.le_of_ble_eq_true rfl) (Nat.le_of_ble_eq_true rfl) (Nat.le_of_ble_eq_true rfl) (Nat.le_of_ble_eq_true rfl) (fun _ q => nomatch q) ?_
  intro v vm4 hb3 hQ hsz hSf hFr
  obtain ⟨rfl, rfl⟩ := hQ
  simp only [Option.toList_some, List.cons_append, List.nil_append]
  refine Run.know fun hE3 hW3 _ => ?_
  refine R_castore C 3 pn_31 c3.1 rfl (by decide) hbuf (c3.1.safe hW3 (by decide)) ?_
  intro ha4 w4 d4 _
  have c4 := (c3.put (X.2.2.2.2 3 (by omega)) d4).cpy
  have k4 := k3.wr w4 (Or.inl (List.mem_singleton.mpr rfl))
  refine R_aload_n C pn_32 rfl rfl ?_
  refine R_iconst C pn_33 (v := 4) rfl ?_
  refine R_aload_n C pn_34 rfl rfl ?_
  refine R_iconst C pn_35 (v := 4) rfl ?_
  refine R_virtual C [.int 4] pn_36 (met_charAtL l Z a0 hw nw EL hEL cs fm S ha4 a b n g (keepS k4) 4 4 rfl (by omega)) (by first | exact fun z => z | exact fun _ => trivial) ((keepS k4).1) (hw _ (List.mem_of_getElem? (i := 14) rfl)) (hw _ (List.mem_of_getElem? (i := 15) rfl)) (hw _ (List.mem_of_getElem? (i := 17) rfl)) (hw _ (List.mem_of_getElem? (i := 16) rfl)) (hw _ (List.mem_of_getElem? (i := 3) rfl)) (hw _ (List.mem_of_getElem? (i := 18) rfl)) (by decide) pd_16 rfl rfl rfl (Nat.le_of_ble_eq_true rfl) (Nat.le_of_ble_eq_true rfl) (Nat.le_of_ble_eq_true rfl) (Nat.le_of_ble_eq_true rfl) (fun _ q => nomatch q) ?_
  intro v vm5 hb4 hQ hsz hSf hFr
  obtain ⟨rfl, rfl⟩ := hQ
  simp only [Option.toList_some, List.cons_append, List.nil_append]
  refine Run.know fun hE4 hW4 _ => ?_
  refine R_castore C 4 pn_39 c4.1 rfl (by decide) hbuf (c4.1.safe hW4 (by decide)) ?_
  intro ha5 w5 d5 _
  have c5 := (c4.put (X.2.2.2.2 4 (by omega)) d5).cpy
  have k5 := k4.wr w5 (Or.inl (List.mem_singleton.mpr rfl))
  refine R_aload_n C pn_40 rfl rfl ?_
  refine R_iconst C pn_41 (v := 5) rfl ?_
  refine R_aload_n C pn_42 rfl rfl ?_
  refine R_iconst C pn_43 (v := 5) rfl ?_
  refine R_virtual C [.int 5] pn_44 (met_charAtL l Z a0 hw nw EL hEL cs fm S ha5 a b n g (keepS k5) 5 5 rfl (by omega)) (by first | exact fun z => z | exact fun _ => trivial) ((keepS k5).1) (hw _ (List.mem_of_getElem? (i := 14) rfl)) (hw _ (List.mem_of_getElem? (i := 15) rfl)) (hw _ (List.mem_of_getElem? (i := 17) rfl)) (hw _ (List.mem_of_getElem? (i := 16) rfl)) (hw _ (List.mem_of_getElem? (i := 3) rfl)) (hw _ (List.mem_of_getElem? (i := 18) rfl)) (by decide) pd_16 rfl rfl rfl (Nat.le_of_ble_eq_true rfl) (Nat.le_of_ble_eq_true rfl) (Nat.le_of_ble_eq_true rfl) (Nat.le_of_ble_eq_true rfl) (fun _ q => nomatch q) ?_
  intro v vm6 hb5 hQ hsz hSf hFr
  obtain ⟨rfl, rfl⟩ := hQ
  simp only [Option.toList_some, List.cons_append, List.nil_append]
  refine Run.know fun hE5 hW5 _ => ?_
  refine R_castore C 5 pn_47 c5.1 rfl (by decide) hbuf (c5.1.safe hW5 (by decide)) ?_
  intro ha6 w6 d6 _
  have c6 := (c5.put (X.2.2.2.2 5 (by omega)) d6).cpy
  have k6 := k5.wr w6 (Or.inl (List.mem_singleton.mpr rfl))
  refine R_aload_n C pn_48 rfl rfl ?_
  refine R_virtual C [] pn_49 (met_lengthL l Z a0 hw nw EL hEL cs fm S ha6 a b n g (keepS k6)) (by first | exact fun z => z | exact fun _ => trivial) ((keepS k6).1) (hw _ (List.mem_of_getElem? (i := 39) rfl)) (hw _ (List.mem_of_getElem? (i := 40) rfl)) (hw _ (List.mem_of_getElem? (i := 42) rfl)) (hw _ (List.mem_of_getElem? (i := 41) rfl)) (hw _ (List.mem_of_getElem? (i := 3) rfl)) (hw _ (List.mem_of_getElem? (i := 43) rfl)) (by decide) pd_17 rfl rfl rfl (Nat.le_of_ble_eq_true rfl) (Nat.le_of_ble_eq_true rfl) (Nat.le_of_ble_eq_true rfl) (Nat.le_of_ble_eq_true rfl) (fun _ q => nomatch q) ?_
  intro v vmL hL hQ hsz hSf hFr
  obtain ⟨rfl, rfl⟩ := hQ
  simp only [Option.toList_some, List.cons_append, List.nil_append]
  have hnI : n.toInt32.toInt = n := len_toInt X.2.2.2.1.small
  refine R_bipush C pn_52 (v := 6) rfl ?_
  refine R_icmp C pn_54 (fun (hc : ¬ (6 : Int32) < n.toInt32) => ?_) (fun (hc : ¬ ¬ (6 : Int32) < n.toInt32) => ?_)
  · rw [Int32.lt_iff_toInt_lt, hnI, show (6 : Int32).toInt = 6 from rfl] at hc
    have z : n = 6 := by omega
    subst z
    exact R_return C pn_87 rfl (Nat.le_refl _) (Nat.le_refl _) ⟨rfl, k6, c6⟩
  · have hc' := Int32.lt_iff_toInt_lt.mp (Decidable.not_not.mp hc)
    rw [hnI, show (6 : Int32).toInt = 6 from rfl] at hc'
    have z : n = 9 := by omega
    subst z
    refine R_aload_n C pn_57 rfl rfl ?_
    refine R_bipush C pn_58 (v := 6) rfl ?_
    refine R_aload_n C pn_60 rfl rfl ?_
    refine R_bipush C pn_61 (v := 6) rfl ?_
    refine R_virtual C [.int 6] pn_63 (met_charAtL l Z a0 hw nw EL hEL cs fm S hL a b 9 g (keepS k6) 6 6 rfl (by omega)) (by first | exact fun z => z | exact fun _ => trivial) ((keepS k6).1) (hw _ (List.mem_of_getElem? (i := 14) rfl)) (hw _ (List.mem_of_getElem? (i := 15) rfl)) (hw _ (List.mem_of_getElem? (i := 17) rfl)) (hw _ (List.mem_of_getElem? (i := 16) rfl)) (hw _ (List.mem_of_getElem? (i := 3) rfl)) (hw _ (List.mem_of_getElem? (i := 18) rfl)) (by decide) pd_16 rfl rfl rfl (Nat.le_of_ble_eq_true rfl) (Nat.le_of_ble_eq_true rfl) (Nat.le_of_ble_eq_true rfl) (Nat.le_of_ble_eq_true rfl) (fun _ q => nomatch q) ?_
    intro v vm7 hb6 hQ hsz hSf hFr
    obtain ⟨rfl, rfl⟩ := hQ
    simp only [Option.toList_some, List.cons_append, List.nil_append]
    refine Run.know fun hE6 hW6 _ => ?_
    refine R_castore C 6 pn_66 c6.1 rfl (by decide) hbuf (c6.1.safe hW6 (by decide)) ?_
    intro ha7 w7 d7 _
    have c7 := (c6.put (X.2.2.2.2 6 (by omega)) d7).cpy
    have k7 := k6.wr w7 (Or.inl (List.mem_singleton.mpr rfl))
    refine R_aload_n C pn_67 rfl rfl ?_
    refine R_bipush C pn_68 (v := 7) rfl ?_
    refine R_aload_n C pn_70 rfl rfl ?_
    refine R_bipush C pn_71 (v := 7) rfl ?_
    refine R_virtual C [.int 7] pn_73 (met_charAtL l Z a0 hw nw EL hEL cs fm S ha7 a b 9 g (keepS k7) 7 7 rfl (by omega)) (by first | exact fun z => z | exact fun _ => trivial) ((keepS k7).1) (hw _ (List.mem_of_getElem? (i := 14) rfl)) (hw _ (List.mem_of_getElem? (i := 15) rfl)) (hw _ (List.mem_of_getElem? (i := 17) rfl)) (hw _ (List.mem_of_getElem? (i := 16) rfl)) (hw _ (List.mem_of_getElem? (i := 3) rfl)) (hw _ (List.mem_of_getElem? (i := 18) rfl)) (by decide) pd_16 rfl rfl rfl (Nat.le_of_ble_eq_true rfl) (Nat.le_of_ble_eq_true rfl) (Nat.le_of_ble_eq_true rfl) (Nat.le_of_ble_eq_true rfl) (fun _ q => nomatch q) ?_
    intro v vm8 hb7 hQ hsz hSf hFr
    obtain ⟨rfl, rfl⟩ := hQ
    simp only [Option.toList_some, List.cons_append, List.nil_append]
    refine Run.know fun hE7 hW7 _ => ?_
    refine R_castore C 7 pn_76 c7.1 rfl (by decide) hbuf (c7.1.safe hW7 (by decide)) ?_
    intro ha8 w8 d8 _
    have c8 := (c7.put (X.2.2.2.2 7 (by omega)) d8).cpy
    have k8 := k7.wr w8 (Or.inl (List.mem_singleton.mpr rfl))
    refine R_aload_n C pn_77 rfl rfl ?_
    refine R_bipush C pn_78 (v := 8) rfl ?_
    refine R_aload_n C pn_80 rfl rfl ?_
    refine R_bipush C pn_81 (v := 8) rfl ?_
    refine R_virtual C [.int 8] pn_83 (met_charAtL l Z a0 hw nw EL hEL cs fm S ha8 a b 9 g (keepS k8) 8 8 rfl (by omega)) (by first | exact fun z => z | exact fun _ => trivial) ((keepS k8).1) (hw _ (List.mem_of_getElem? (i := 14) rfl)) (hw _ (List.mem_of_getElem? (i := 15) rfl)) (hw _ (List.mem_of_getElem? (i := 17) rfl)) (hw _ (List.mem_of_getElem? (i := 16) rfl)) (hw _ (List.mem_of_getElem? (i := 3) rfl)) (hw _ (List.mem_of_getElem? (i := 18) rfl)) (by decide) pd_16 rfl rfl rfl (Nat.le_of_ble_eq_true rfl) (Nat.le_of_ble_eq_true rfl) (Nat.le_of_ble_eq_true rfl) (Nat.le_of_ble_eq_true rfl) (fun _ q => nomatch q) ?_
    intro v vm9 hb8 hQ hsz hSf hFr
    obtain ⟨rfl, rfl⟩ := hQ
    simp only [Option.toList_some, List.cons_append, List.nil_append]
    refine Run.know fun hE8 hW8 _ => ?_
    refine R_castore C 8 pn_86 c8.1 rfl (by decide) hbuf (c8.1.safe hW8 (by decide)) ?_
    intro ha9 w9 d9 _
    have c9 := (c8.put (X.2.2.2.2 8 (by omega)) d9).cpy
    have k9 := k8.wr w9 (Or.inl (List.mem_singleton.mpr rfl))
    exact R_return C pn_87 rfl (Nat.le_refl _) (Nat.le_refl _) ⟨rfl, k9, c9⟩
/-- the first k places of the array being filled hold bf 0 .. bf (k - 1) -/
def Fi (Z : State) (h : Heap) (a : Addr) (N k : Nat) (bf : Nat → Int32) : Prop := ∃ f, AR Z h a .char N f ∧ ∀ i, i < k → f i = .int (bf i)
theorem Fi.put {Z : State} {h' : Heap} {a : Addr} {N k : Nat} {bf : Nat → Int32} {F : Nat → Value} (hF : ∀ i, i < k → F i = .int (bf i)) (hv : 0 ≤ (bf k).toInt ∧ (bf k).toInt ≤ 255) (A : AR Z h' a .char N (upd F k (.int (nar .char (bf k))))) : ∃ G, AR Z h' a .char N G ∧ ∀ i, i < k + 1 → G i = .int (bf i) := by
  rw [nar_small hv] at A
  refine ⟨_, A, fun i hi => ?_⟩
  by_cases z : i = k
  · subst z; rw [upd_eq]
  · rw [upd_ne z]; exact hF i (by omega)
theorem met_st (l : Launch) (Z : State) (a0 : Array Value) (hw : ∀ d ∈ tables_1, d.before a0 Z = true) (hEL : EW Z a0 EL4) (cs : Int32) (fm : Value) (S : SS Z cs fm) (h : Heap) (buf : Addr) (bf : Nat → Int32) (B : Bf Z h buf bf) (nI : Int32) (n : Nat) (hn : nI.toInt = n) (hn10 : n ≤ 10) :
    Met l Z False EL4 ⟨LAW, "str", "([CI)Ljava/lang/String;"⟩ method_4_code 2 (some (.object "java/lang/String")) ⟨4, 3, 24, 66⟩ #[.ref buf, .int nI] h [] (fun v h' => ∃ a b, v = some (.ref a) ∧ StrL Z h' a b n bf) := by
  refine Met.mk (a0 := a0) hEL pn_law ?_
  intro p e s m below meth c C hE hS
  rw [efRI2]
  refine R_iload_n C st_0 rfl ?_
  refine R_if C st_1 (fun (hc0 : ¬ nI = 0) => ?_) (fun (hc0 : ¬ ¬ nI = 0) => ?_)
  rotate_left
  · have z : nI = 0 := Decidable.not_not.mp hc0
    rw [z, Int32.toInt_zero] at hn
    have hn0 : n = 0 := by omega
    subst hn0
    refine R_ldcK C 0 st_4 (fun z => z) (hw _ (List.mem_of_getElem? (i := 139) rfl)) (wS_1 hw) (List.mem_of_getElem? (i := 3) rfl) (vs := []) (z := 0) ⟨by intro c hc; simp at hc, rfl⟩ rfl (Nat.le_of_ble_eq_true rfl) (Nat.le_of_ble_eq_true rfl) (Nat.le_of_ble_eq_true rfl) (Nat.le_of_ble_eq_true rfl) ?_
    intro l1 b1 vm1 h1 E1 X1 C1 V1 A1 Sf1 Ne1
    exact R_areturn C st_6 rfl rfl rfl (Nat.le_of_ble_eq_true rfl) (Nat.le_of_ble_eq_true rfl) ⟨l1, b1, rfl, X1, V1, C1, A1.cg (fun i hi => absurd hi (Nat.not_lt_zero _)), fun i hi => absurd hi (Nat.not_lt_zero _)⟩
  · skip
    refine R_iload_n C st_7 rfl ?_
    refine R_iconst C st_8 (v := 1) rfl ?_
    refine R_icmp C st_9 (fun (hc1 : ¬ nI = 1) => ?_) (fun (hc1 : ¬ ¬ nI = 1) => ?_)
    rotate_left
    · have z : nI = 1 := Decidable.not_not.mp hc1
      have hnj : n = 1 := by
        rw [z, show (1 : Int32).toInt = 1 from rfl] at hn
        omega
      subst hnj
      refine R_new C st_12 (hw _ (List.mem_of_getElem? (i := 53) rfl)) (hw _ (List.mem_of_getElem? (i := 4) rfl)) (hw _ (List.mem_of_getElem? (i := 3) rfl)) (Nat.le_of_ble_eq_true rfl) (Nat.le_of_ble_eq_true rfl) ?_
      intro h1 E1 X1 S1 _
      obtain ⟨X1, F1⟩ := X1
      refine R_dup C st_15 rfl ?_
      refine R_iconst C st_16 (v := 1) rfl ?_
      refine R_newarray C 10 st_17 (hw _ (List.mem_of_getElem? (i := 0) rfl)) (N := 1) rfl (by decide) (by decide) (Nat.le_of_ble_eq_true rfl) (Nat.le_of_ble_eq_true rfl) rfl ?_
      intro h2 E2 D2 S2 Sf2
      have t2 := Sf2 _ S1
      have ne : h.size ≠ h1.size := Nat.ne_of_lt X1.lt
      have nb : buf ≠ h1.size := Nat.ne_of_lt (B.1.ext E1).lt
      have B2 : AR Z h2 buf .char 10 (fun i => .int (bf i)) := (B.1.ext E1).ext E2
      have X2 := X1.ext E2
      have V2 := (F1 (Or.inr (hw _ (List.mem_of_getElem? (i := 6) rfl))) (ty := .array .byte) (by decide)).ext E2
      have C2 := (F1 (Or.inr (hw _ (List.mem_of_getElem? (i := 7) rfl))) (ty := .byte) (by decide)).ext E2
      refine Run.know fun hE2 hW2 _ => ?_
      have hA : Z.heap.size ≤ h1.size := Nat.le_trans hE.1 E1.1
      obtain ⟨f2, D2, G2⟩ : ∃ f, AR Z h2 h1.size .char 1 f ∧ ∀ i, i < 0 → f i = .int (bf i) := ⟨_, D2, fun i hi => absurd hi (Nat.not_lt_zero _)⟩
      refine R_dup C st_19 rfl ?_
      refine R_iconst C st_20 (v := 0) rfl ?_
      refine R_aload_n C st_21 rfl rfl ?_
      refine R_iconst C st_22 (v := 0) rfl ?_
      refine R_caload C 0 st_23 B2 rfl (by decide) rfl ?_
      refine R_castore C 0 st_24 D2 rfl (by decide) hA (D2.safe hW2 (by decide)) ?_
      intro h3 W3 D3 Sf3
      have B3 := B2.other W3 nb
      have X3 := X2.wr W3
      have V3 := V2.other W3 (Or.inl ne)
      have C3 := C2.other W3 (Or.inl ne)
      have t3 := Sf3 _ t2
      obtain ⟨f3, D3, G3⟩ := Fi.put G2 (B.2 0 (by decide)) D3
      refine R_special C [.ref h1.size] st_25 (met_i2L l Z a0 hw False EL4 hEL cs fm S h3 h.size h1.size 1 10 bf (D3.cg (fun i hi => G3 i hi)) (by decide) (by decide) (by decide) (fun i hi => B.2 i (by omega)) X3 V3 C3 hE.1) (by first | exact fun z => z | exact fun _ => trivial) rfl (hw _ (List.mem_of_getElem? (i := 54) rfl)) (hw _ (List.mem_of_getElem? (i := 55) rfl)) (hw _ (List.mem_of_getElem? (i := 3) rfl)) (hw _ (List.mem_of_getElem? (i := 56) rfl)) (by decide) pd_18 rfl rfl rfl (Nat.le_of_ble_eq_true rfl) (Nat.le_of_ble_eq_true rfl) (Nat.le_of_ble_eq_true rfl) (Nat.le_of_ble_eq_true rfl) (fun z hz => by cases List.mem_singleton.mp hz; exact t3) ?_
      intro v vm5 hh5 hQ hsz5 hSf5 hFr
      obtain ⟨rfl, K5, b5, X5⟩ := hQ
      exact R_areturn C st_28 rfl rfl rfl (Nat.le_of_ble_eq_true rfl) (Nat.le_of_ble_eq_true rfl) ⟨_, b5, rfl, X5⟩
    refine R_iload_n C st_29 rfl ?_
    refine R_iconst C st_30 (v := 2) rfl ?_
    refine R_icmp C st_31 (fun (hc2 : ¬ nI = 2) => ?_) (fun (hc2 : ¬ ¬ nI = 2) => ?_)
    rotate_left
    · have z : nI = 2 := Decidable.not_not.mp hc2
      have hnj : n = 2 := by
        rw [z, show (2 : Int32).toInt = 2 from rfl] at hn
        omega
      subst hnj
      refine R_new C st_34 (hw _ (List.mem_of_getElem? (i := 53) rfl)) (hw _ (List.mem_of_getElem? (i := 4) rfl)) (hw _ (List.mem_of_getElem? (i := 3) rfl)) (Nat.le_of_ble_eq_true rfl) (Nat.le_of_ble_eq_true rfl) ?_
      intro h1 E1 X1 S1 _
      obtain ⟨X1, F1⟩ := X1
      refine R_dup C st_37 rfl ?_
      refine R_iconst C st_38 (v := 2) rfl ?_
      refine R_newarray C 10 st_39 (hw _ (List.mem_of_getElem? (i := 0) rfl)) (N := 2) rfl (by decide) (by decide) (Nat.le_of_ble_eq_true rfl) (Nat.le_of_ble_eq_true rfl) rfl ?_
      intro h2 E2 D2 S2 Sf2
      have t2 := Sf2 _ S1
      have ne : h.size ≠ h1.size := Nat.ne_of_lt X1.lt
      have nb : buf ≠ h1.size := Nat.ne_of_lt (B.1.ext E1).lt
      have B2 : AR Z h2 buf .char 10 (fun i => .int (bf i)) := (B.1.ext E1).ext E2
      have X2 := X1.ext E2
      have V2 := (F1 (Or.inr (hw _ (List.mem_of_getElem? (i := 6) rfl))) (ty := .array .byte) (by decide)).ext E2
      have C2 := (F1 (Or.inr (hw _ (List.mem_of_getElem? (i := 7) rfl))) (ty := .byte) (by decide)).ext E2
      refine Run.know fun hE2 hW2 _ => ?_
      have hA : Z.heap.size ≤ h1.size := Nat.le_trans hE.1 E1.1
      obtain ⟨f2, D2, G2⟩ : ∃ f, AR Z h2 h1.size .char 2 f ∧ ∀ i, i < 0 → f i = .int (bf i) := ⟨_, D2, fun i hi => absurd hi (Nat.not_lt_zero _)⟩
      refine R_dup C st_41 rfl ?_
      refine R_iconst C st_42 (v := 0) rfl ?_
      refine R_aload_n C st_43 rfl rfl ?_
      refine R_iconst C st_44 (v := 0) rfl ?_
      refine R_caload C 0 st_45 B2 rfl (by decide) rfl ?_
      refine R_castore C 0 st_46 D2 rfl (by decide) hA (D2.safe hW2 (by decide)) ?_
      intro h3 W3 D3 Sf3
      have B3 := B2.other W3 nb
      have X3 := X2.wr W3
      have V3 := V2.other W3 (Or.inl ne)
      have C3 := C2.other W3 (Or.inl ne)
      have t3 := Sf3 _ t2
      obtain ⟨f3, D3, G3⟩ := Fi.put G2 (B.2 0 (by decide)) D3
      refine R_dup C st_47 rfl ?_
      refine R_iconst C st_48 (v := 1) rfl ?_
      refine R_aload_n C st_49 rfl rfl ?_
      refine R_iconst C st_50 (v := 1) rfl ?_
      refine R_caload C 1 st_51 B3 rfl (by decide) rfl ?_
      refine R_castore C 1 st_52 D3 rfl (by decide) hA (D3.safe hW2 (by decide)) ?_
      intro h4 W4 D4 Sf4
      have B4 := B3.other W4 nb
      have X4 := X3.wr W4
      have V4 := V3.other W4 (Or.inl ne)
      have C4 := C3.other W4 (Or.inl ne)
      have t4 := Sf4 _ t3
      obtain ⟨f4, D4, G4⟩ := Fi.put G3 (B.2 1 (by decide)) D4
      refine R_special C [.ref h1.size] st_53 (met_i2L l Z a0 hw False EL4 hEL cs fm S h4 h.size h1.size 2 10 bf (D4.cg (fun i hi => G4 i hi)) (by decide) (by decide) (by decide) (fun i hi => B.2 i (by omega)) X4 V4 C4 hE.1) (by first | exact fun z => z | exact fun _ => trivial) rfl (hw _ (List.mem_of_getElem? (i := 54) rfl)) (hw _ (List.mem_of_getElem? (i := 55) rfl)) (hw _ (List.mem_of_getElem? (i := 3) rfl)) (hw _ (List.mem_of_getElem? (i := 56) rfl)) (by decide) pd_18 rfl rfl rfl (Nat.le_of_ble_eq_true rfl) (Nat.le_of_ble_eq_true rfl) (Nat.le_of_ble_eq_true rfl) (Nat.le_of_ble_eq_true rfl) (fun z hz => by cases List.mem_singleton.mp hz; exact t4) ?_
      intro v vm5 hh5 hQ hsz5 hSf5 hFr
      obtain ⟨rfl, K5, b5, X5⟩ := hQ
      exact R_areturn C st_56 rfl rfl rfl (Nat.le_of_ble_eq_true rfl) (Nat.le_of_ble_eq_true rfl) ⟨_, b5, rfl, X5⟩
    refine R_iload_n C st_57 rfl ?_
    refine R_iconst C st_58 (v := 3) rfl ?_
    refine R_icmp C st_59 (fun (hc3 : ¬ nI = 3) => ?_) (fun (hc3 : ¬ ¬ nI = 3) => ?_)
    rotate_left
    · have z : nI = 3 := Decidable.not_not.mp hc3
      have hnj : n = 3 := by
        rw [z, show (3 : Int32).toInt = 3 from rfl] at hn
        omega
      subst hnj
      refine R_new C st_62 (hw _ (List.mem_of_getElem? (i := 53) rfl)) (hw _ (List.mem_of_getElem? (i := 4) rfl)) (hw _ (List.mem_of_getElem? (i := 3) rfl)) (Nat.le_of_ble_eq_true rfl) (Nat.le_of_ble_eq_true rfl) ?_
      intro h1 E1 X1 S1 _
      obtain ⟨X1, F1⟩ := X1
      refine R_dup C st_65 rfl ?_
      refine R_iconst C st_66 (v := 3) rfl ?_
      refine R_newarray C 10 st_67 (hw _ (List.mem_of_getElem? (i := 0) rfl)) (N := 3) rfl (by decide) (by decide) (Nat.le_of_ble_eq_true rfl) (Nat.le_of_ble_eq_true rfl) rfl ?_
      intro h2 E2 D2 S2 Sf2
      have t2 := Sf2 _ S1
      have ne : h.size ≠ h1.size := Nat.ne_of_lt X1.lt
      have nb : buf ≠ h1.size := Nat.ne_of_lt (B.1.ext E1).lt
      have B2 : AR Z h2 buf .char 10 (fun i => .int (bf i)) := (B.1.ext E1).ext E2
      have X2 := X1.ext E2
      have V2 := (F1 (Or.inr (hw _ (List.mem_of_getElem? (i := 6) rfl))) (ty := .array .byte) (by decide)).ext E2
      have C2 := (F1 (Or.inr (hw _ (List.mem_of_getElem? (i := 7) rfl))) (ty := .byte) (by decide)).ext E2
      refine Run.know fun hE2 hW2 _ => ?_
      have hA : Z.heap.size ≤ h1.size := Nat.le_trans hE.1 E1.1
      obtain ⟨f2, D2, G2⟩ : ∃ f, AR Z h2 h1.size .char 3 f ∧ ∀ i, i < 0 → f i = .int (bf i) := ⟨_, D2, fun i hi => absurd hi (Nat.not_lt_zero _)⟩
      refine R_dup C st_69 rfl ?_
      refine R_iconst C st_70 (v := 0) rfl ?_
      refine R_aload_n C st_71 rfl rfl ?_
      refine R_iconst C st_72 (v := 0) rfl ?_
      refine R_caload C 0 st_73 B2 rfl (by decide) rfl ?_
      refine R_castore C 0 st_74 D2 rfl (by decide) hA (D2.safe hW2 (by decide)) ?_
      intro h3 W3 D3 Sf3
      have B3 := B2.other W3 nb
      have X3 := X2.wr W3
      have V3 := V2.other W3 (Or.inl ne)
      have C3 := C2.other W3 (Or.inl ne)
      have t3 := Sf3 _ t2
      obtain ⟨f3, D3, G3⟩ := Fi.put G2 (B.2 0 (by decide)) D3
      refine R_dup C st_75 rfl ?_
      refine R_iconst C st_76 (v := 1) rfl ?_
      refine R_aload_n C st_77 rfl rfl ?_
      refine R_iconst C st_78 (v := 1) rfl ?_
      refine R_caload C 1 st_79 B3 rfl (by decide) rfl ?_
      refine R_castore C 1 st_80 D3 rfl (by decide) hA (D3.safe hW2 (by decide)) ?_
      intro h4 W4 D4 Sf4
      have B4 := B3.other W4 nb
      have X4 := X3.wr W4
      have V4 := V3.other W4 (Or.inl ne)
      have C4 := C3.other W4 (Or.inl ne)
      have t4 := Sf4 _ t3
      obtain ⟨f4, D4, G4⟩ := Fi.put G3 (B.2 1 (by decide)) D4
      refine R_dup C st_81 rfl ?_
      refine R_iconst C st_82 (v := 2) rfl ?_
      refine R_aload_n C st_83 rfl rfl ?_
      refine R_iconst C st_84 (v := 2) rfl ?_
      refine R_caload C 2 st_85 B4 rfl (by decide) rfl ?_
      refine R_castore C 2 st_86 D4 rfl (by decide) hA (D4.safe hW2 (by decide)) ?_
      intro h5 W5 D5 Sf5
      have B5 := B4.other W5 nb
      have X5 := X4.wr W5
      have V5 := V4.other W5 (Or.inl ne)
      have C5 := C4.other W5 (Or.inl ne)
      have t5 := Sf5 _ t4
      obtain ⟨f5, D5, G5⟩ := Fi.put G4 (B.2 2 (by decide)) D5
      refine R_special C [.ref h1.size] st_87 (met_i2L l Z a0 hw False EL4 hEL cs fm S h5 h.size h1.size 3 10 bf (D5.cg (fun i hi => G5 i hi)) (by decide) (by decide) (by decide) (fun i hi => B.2 i (by omega)) X5 V5 C5 hE.1) (by first | exact fun z => z | exact fun _ => trivial) rfl (hw _ (List.mem_of_getElem? (i := 54) rfl)) (hw _ (List.mem_of_getElem? (i := 55) rfl)) (hw _ (List.mem_of_getElem? (i := 3) rfl)) (hw _ (List.mem_of_getElem? (i := 56) rfl)) (by decide) pd_18 rfl rfl rfl (Nat.le_of_ble_eq_true rfl) (Nat.le_of_ble_eq_true rfl) (Nat.le_of_ble_eq_true rfl) (Nat.le_of_ble_eq_true rfl) (fun z hz => by cases List.mem_singleton.mp hz; exact t5) ?_
      intro v vm5 hh5 hQ hsz5 hSf5 hFr
      obtain ⟨rfl, K5, b5, X5⟩ := hQ
      exact R_areturn C st_90 rfl rfl rfl (Nat.le_of_ble_eq_true rfl) (Nat.le_of_ble_eq_true rfl) ⟨_, b5, rfl, X5⟩
    refine R_iload_n C st_91 rfl ?_
    refine R_iconst C st_92 (v := 4) rfl ?_
    refine R_icmp C st_93 (fun (hc4 : ¬ nI = 4) => ?_) (fun (hc4 : ¬ ¬ nI = 4) => ?_)
    rotate_left
    · have z : nI = 4 := Decidable.not_not.mp hc4
      have hnj : n = 4 := by
        rw [z, show (4 : Int32).toInt = 4 from rfl] at hn
        omega
      subst hnj
      refine R_new C st_96 (hw _ (List.mem_of_getElem? (i := 53) rfl)) (hw _ (List.mem_of_getElem? (i := 4) rfl)) (hw _ (List.mem_of_getElem? (i := 3) rfl)) (Nat.le_of_ble_eq_true rfl) (Nat.le_of_ble_eq_true rfl) ?_
      intro h1 E1 X1 S1 _
      obtain ⟨X1, F1⟩ := X1
      refine R_dup C st_99 rfl ?_
      refine R_iconst C st_100 (v := 4) rfl ?_
      refine R_newarray C 10 st_101 (hw _ (List.mem_of_getElem? (i := 0) rfl)) (N := 4) rfl (by decide) (by decide) (Nat.le_of_ble_eq_true rfl) (Nat.le_of_ble_eq_true rfl) rfl ?_
      intro h2 E2 D2 S2 Sf2
      have t2 := Sf2 _ S1
      have ne : h.size ≠ h1.size := Nat.ne_of_lt X1.lt
      have nb : buf ≠ h1.size := Nat.ne_of_lt (B.1.ext E1).lt
      have B2 : AR Z h2 buf .char 10 (fun i => .int (bf i)) := (B.1.ext E1).ext E2
      have X2 := X1.ext E2
      have V2 := (F1 (Or.inr (hw _ (List.mem_of_getElem? (i := 6) rfl))) (ty := .array .byte) (by decide)).ext E2
      have C2 := (F1 (Or.inr (hw _ (List.mem_of_getElem? (i := 7) rfl))) (ty := .byte) (by decide)).ext E2
      refine Run.know fun hE2 hW2 _ => ?_
      have hA : Z.heap.size ≤ h1.size := Nat.le_trans hE.1 E1.1
      obtain ⟨f2, D2, G2⟩ : ∃ f, AR Z h2 h1.size .char 4 f ∧ ∀ i, i < 0 → f i = .int (bf i) := ⟨_, D2, fun i hi => absurd hi (Nat.not_lt_zero _)⟩
      refine R_dup C st_103 rfl ?_
      refine R_iconst C st_104 (v := 0) rfl ?_
      refine R_aload_n C st_105 rfl rfl ?_
      refine R_iconst C st_106 (v := 0) rfl ?_
      refine R_caload C 0 st_107 B2 rfl (by decide) rfl ?_
      refine R_castore C 0 st_108 D2 rfl (by decide) hA (D2.safe hW2 (by decide)) ?_
      intro h3 W3 D3 Sf3
      have B3 := B2.other W3 nb
      have X3 := X2.wr W3
      have V3 := V2.other W3 (Or.inl ne)
      have C3 := C2.other W3 (Or.inl ne)
      have t3 := Sf3 _ t2
      obtain ⟨f3, D3, G3⟩ := Fi.put G2 (B.2 0 (by decide)) D3
      refine R_dup C st_109 rfl ?_
      refine R_iconst C st_110 (v := 1) rfl ?_
      refine R_aload_n C st_111 rfl rfl ?_
      refine R_iconst C st_112 (v := 1) rfl ?_
      refine R_caload C 1 st_113 B3 rfl (by decide) rfl ?_
      refine R_castore C 1 st_114 D3 rfl (by decide) hA (D3.safe hW2 (by decide)) ?_
      intro h4 W4 D4 Sf4
      have B4 := B3.other W4 nb
      have X4 := X3.wr W4
      have V4 := V3.other W4 (Or.inl ne)
      have C4 := C3.other W4 (Or.inl ne)
      have t4 := Sf4 _ t3
      obtain ⟨f4, D4, G4⟩ := Fi.put G3 (B.2 1 (by decide)) D4
      refine R_dup C st_115 rfl ?_
      refine R_iconst C st_116 (v := 2) rfl ?_
      refine R_aload_n C st_117 rfl rfl ?_
      refine R_iconst C st_118 (v := 2) rfl ?_
      refine R_caload C 2 st_119 B4 rfl (by decide) rfl ?_
      refine R_castore C 2 st_120 D4 rfl (by decide) hA (D4.safe hW2 (by decide)) ?_
      intro h5 W5 D5 Sf5
      have B5 := B4.other W5 nb
      have X5 := X4.wr W5
      have V5 := V4.other W5 (Or.inl ne)
      have C5 := C4.other W5 (Or.inl ne)
      have t5 := Sf5 _ t4
      obtain ⟨f5, D5, G5⟩ := Fi.put G4 (B.2 2 (by decide)) D5
      refine R_dup C st_121 rfl ?_
      refine R_iconst C st_122 (v := 3) rfl ?_
      refine R_aload_n C st_123 rfl rfl ?_
      refine R_iconst C st_124 (v := 3) rfl ?_
      refine R_caload C 3 st_125 B5 rfl (by decide) rfl ?_
      refine R_castore C 3 st_126 D5 rfl (by decide) hA (D5.safe hW2 (by decide)) ?_
      intro h6 W6 D6 Sf6
      have B6 := B5.other W6 nb
      have X6 := X5.wr W6
      have V6 := V5.other W6 (Or.inl ne)
      have C6 := C5.other W6 (Or.inl ne)
      have t6 := Sf6 _ t5
      obtain ⟨f6, D6, G6⟩ := Fi.put G5 (B.2 3 (by decide)) D6
      refine R_special C [.ref h1.size] st_127 (met_i2L l Z a0 hw False EL4 hEL cs fm S h6 h.size h1.size 4 10 bf (D6.cg (fun i hi => G6 i hi)) (by decide) (by decide) (by decide) (fun i hi => B.2 i (by omega)) X6 V6 C6 hE.1) (by first | exact fun z => z | exact fun _ => trivial) rfl (hw _ (List.mem_of_getElem? (i := 54) rfl)) (hw _ (List.mem_of_getElem? (i := 55) rfl)) (hw _ (List.mem_of_getElem? (i := 3) rfl)) (hw _ (List.mem_of_getElem? (i := 56) rfl)) (by decide) pd_18 rfl rfl rfl (Nat.le_of_ble_eq_true rfl) (Nat.le_of_ble_eq_true rfl) (Nat.le_of_ble_eq_true rfl) (Nat.le_of_ble_eq_true rfl) (fun z hz => by cases List.mem_singleton.mp hz; exact t6) ?_
      intro v vm5 hh5 hQ hsz5 hSf5 hFr
      obtain ⟨rfl, K5, b5, X5⟩ := hQ
      exact R_areturn C st_130 rfl rfl rfl (Nat.le_of_ble_eq_true rfl) (Nat.le_of_ble_eq_true rfl) ⟨_, b5, rfl, X5⟩
    refine R_iload_n C st_131 rfl ?_
    refine R_iconst C st_132 (v := 5) rfl ?_
    refine R_icmp C st_133 (fun (hc5 : ¬ nI = 5) => ?_) (fun (hc5 : ¬ ¬ nI = 5) => ?_)
    rotate_left
    · have z : nI = 5 := Decidable.not_not.mp hc5
      have hnj : n = 5 := by
        rw [z, show (5 : Int32).toInt = 5 from rfl] at hn
        omega
      subst hnj
      refine R_new C st_136 (hw _ (List.mem_of_getElem? (i := 53) rfl)) (hw _ (List.mem_of_getElem? (i := 4) rfl)) (hw _ (List.mem_of_getElem? (i := 3) rfl)) (Nat.le_of_ble_eq_true rfl) (Nat.le_of_ble_eq_true rfl) ?_
      intro h1 E1 X1 S1 _
      obtain ⟨X1, F1⟩ := X1
      refine R_dup C st_139 rfl ?_
      refine R_iconst C st_140 (v := 5) rfl ?_
      refine R_newarray C 10 st_141 (hw _ (List.mem_of_getElem? (i := 0) rfl)) (N := 5) rfl (by decide) (by decide) (Nat.le_of_ble_eq_true rfl) (Nat.le_of_ble_eq_true rfl) rfl ?_
      intro h2 E2 D2 S2 Sf2
      have t2 := Sf2 _ S1
      have ne : h.size ≠ h1.size := Nat.ne_of_lt X1.lt
      have nb : buf ≠ h1.size := Nat.ne_of_lt (B.1.ext E1).lt
      have B2 : AR Z h2 buf .char 10 (fun i => .int (bf i)) := (B.1.ext E1).ext E2
      have X2 := X1.ext E2
      have V2 := (F1 (Or.inr (hw _ (List.mem_of_getElem? (i := 6) rfl))) (ty := .array .byte) (by decide)).ext E2
      have C2 := (F1 (Or.inr (hw _ (List.mem_of_getElem? (i := 7) rfl))) (ty := .byte) (by decide)).ext E2
      refine Run.know fun hE2 hW2 _ => ?_
      have hA : Z.heap.size ≤ h1.size := Nat.le_trans hE.1 E1.1
      obtain ⟨f2, D2, G2⟩ : ∃ f, AR Z h2 h1.size .char 5 f ∧ ∀ i, i < 0 → f i = .int (bf i) := ⟨_, D2, fun i hi => absurd hi (Nat.not_lt_zero _)⟩
      refine R_dup C st_143 rfl ?_
      refine R_iconst C st_144 (v := 0) rfl ?_
      refine R_aload_n C st_145 rfl rfl ?_
      refine R_iconst C st_146 (v := 0) rfl ?_
      refine R_caload C 0 st_147 B2 rfl (by decide) rfl ?_
      refine R_castore C 0 st_148 D2 rfl (by decide) hA (D2.safe hW2 (by decide)) ?_
      intro h3 W3 D3 Sf3
      have B3 := B2.other W3 nb
      have X3 := X2.wr W3
      have V3 := V2.other W3 (Or.inl ne)
      have C3 := C2.other W3 (Or.inl ne)
      have t3 := Sf3 _ t2
      obtain ⟨f3, D3, G3⟩ := Fi.put G2 (B.2 0 (by decide)) D3
      refine R_dup C st_149 rfl ?_
      refine R_iconst C st_150 (v := 1) rfl ?_
      refine R_aload_n C st_151 rfl rfl ?_
      refine R_iconst C st_152 (v := 1) rfl ?_
      refine R_caload C 1 st_153 B3 rfl (by decide) rfl ?_
      refine R_castore C 1 st_154 D3 rfl (by decide) hA (D3.safe hW2 (by decide)) ?_
      intro h4 W4 D4 Sf4
      have B4 := B3.other W4 nb
      have X4 := X3.wr W4
      have V4 := V3.other W4 (Or.inl ne)
      have C4 := C3.other W4 (Or.inl ne)
      have t4 := Sf4 _ t3
      obtain ⟨f4, D4, G4⟩ := Fi.put G3 (B.2 1 (by decide)) D4
      refine R_dup C st_155 rfl ?_
      refine R_iconst C st_156 (v := 2) rfl ?_
      refine R_aload_n C st_157 rfl rfl ?_
      refine R_iconst C st_158 (v := 2) rfl ?_
      refine R_caload C 2 st_159 B4 rfl (by decide) rfl ?_
      refine R_castore C 2 st_160 D4 rfl (by decide) hA (D4.safe hW2 (by decide)) ?_
      intro h5 W5 D5 Sf5
      have B5 := B4.other W5 nb
      have X5 := X4.wr W5
      have V5 := V4.other W5 (Or.inl ne)
      have C5 := C4.other W5 (Or.inl ne)
      have t5 := Sf5 _ t4
      obtain ⟨f5, D5, G5⟩ := Fi.put G4 (B.2 2 (by decide)) D5
      refine R_dup C st_161 rfl ?_
      refine R_iconst C st_162 (v := 3) rfl ?_
      refine R_aload_n C st_163 rfl rfl ?_
      refine R_iconst C st_164 (v := 3) rfl ?_
      refine R_caload C 3 st_165 B5 rfl (by decide) rfl ?_
      refine R_castore C 3 st_166 D5 rfl (by decide) hA (D5.safe hW2 (by decide)) ?_
      intro h6 W6 D6 Sf6
      have B6 := B5.other W6 nb
      have X6 := X5.wr W6
      have V6 := V5.other W6 (Or.inl ne)
      have C6 := C5.other W6 (Or.inl ne)
      have t6 := Sf6 _ t5
      obtain ⟨f6, D6, G6⟩ := Fi.put G5 (B.2 3 (by decide)) D6
      refine R_dup C st_167 rfl ?_
      refine R_iconst C st_168 (v := 4) rfl ?_
      refine R_aload_n C st_169 rfl rfl ?_
      refine R_iconst C st_170 (v := 4) rfl ?_
      refine R_caload C 4 st_171 B6 rfl (by decide) rfl ?_
      refine R_castore C 4 st_172 D6 rfl (by decide) hA (D6.safe hW2 (by decide)) ?_
      intro h7 W7 D7 Sf7
      have B7 := B6.other W7 nb
      have X7 := X6.wr W7
      have V7 := V6.other W7 (Or.inl ne)
      have C7 := C6.other W7 (Or.inl ne)
      have t7 := Sf7 _ t6
      obtain ⟨f7, D7, G7⟩ := Fi.put G6 (B.2 4 (by decide)) D7
      refine R_special C [.ref h1.size] st_173 (met_i2L l Z a0 hw False EL4 hEL cs fm S h7 h.size h1.size 5 10 bf (D7.cg (fun i hi => G7 i hi)) (by decide) (by decide) (by decide) (fun i hi => B.2 i (by omega)) X7 V7 C7 hE.1) (by first | exact fun z => z | exact fun _ => trivial) rfl (hw _ (List.mem_of_getElem? (i := 54) rfl)) (hw _ (List.mem_of_getElem? (i := 55) rfl)) (hw _ (List.mem_of_getElem? (i := 3) rfl)) (hw _ (List.mem_of_getElem? (i := 56) rfl)) (by decide) pd_18 rfl rfl rfl (Nat.le_of_ble_eq_true rfl) (Nat.le_of_ble_eq_true rfl) (Nat.le_of_ble_eq_true rfl) (Nat.le_of_ble_eq_true rfl) (fun z hz => by cases List.mem_singleton.mp hz; exact t7) ?_
      intro v vm5 hh5 hQ hsz5 hSf5 hFr
      obtain ⟨rfl, K5, b5, X5⟩ := hQ
      exact R_areturn C st_176 rfl rfl rfl (Nat.le_of_ble_eq_true rfl) (Nat.le_of_ble_eq_true rfl) ⟨_, b5, rfl, X5⟩
    refine R_iload_n C st_177 rfl ?_
    refine R_bipush C st_178 (v := 6) rfl ?_
    refine R_icmp C st_180 (fun (hc6 : ¬ nI = 6) => ?_) (fun (hc6 : ¬ ¬ nI = 6) => ?_)
    rotate_left
    · have z : nI = 6 := Decidable.not_not.mp hc6
      have hnj : n = 6 := by
        rw [z, show (6 : Int32).toInt = 6 from rfl] at hn
        omega
      subst hnj
      refine R_new C st_183 (hw _ (List.mem_of_getElem? (i := 53) rfl)) (hw _ (List.mem_of_getElem? (i := 4) rfl)) (hw _ (List.mem_of_getElem? (i := 3) rfl)) (Nat.le_of_ble_eq_true rfl) (Nat.le_of_ble_eq_true rfl) ?_
      intro h1 E1 X1 S1 _
      obtain ⟨X1, F1⟩ := X1
      refine R_dup C st_186 rfl ?_
      refine R_bipush C st_187 (v := 6) rfl ?_
      refine R_newarray C 10 st_189 (hw _ (List.mem_of_getElem? (i := 0) rfl)) (N := 6) rfl (by decide) (by decide) (Nat.le_of_ble_eq_true rfl) (Nat.le_of_ble_eq_true rfl) rfl ?_
      intro h2 E2 D2 S2 Sf2
      have t2 := Sf2 _ S1
      have ne : h.size ≠ h1.size := Nat.ne_of_lt X1.lt
      have nb : buf ≠ h1.size := Nat.ne_of_lt (B.1.ext E1).lt
      have B2 : AR Z h2 buf .char 10 (fun i => .int (bf i)) := (B.1.ext E1).ext E2
      have X2 := X1.ext E2
      have V2 := (F1 (Or.inr (hw _ (List.mem_of_getElem? (i := 6) rfl))) (ty := .array .byte) (by decide)).ext E2
      have C2 := (F1 (Or.inr (hw _ (List.mem_of_getElem? (i := 7) rfl))) (ty := .byte) (by decide)).ext E2
      refine Run.know fun hE2 hW2 _ => ?_
      have hA : Z.heap.size ≤ h1.size := Nat.le_trans hE.1 E1.1
      obtain ⟨f2, D2, G2⟩ : ∃ f, AR Z h2 h1.size .char 6 f ∧ ∀ i, i < 0 → f i = .int (bf i) := ⟨_, D2, fun i hi => absurd hi (Nat.not_lt_zero _)⟩
      refine R_dup C st_191 rfl ?_
      refine R_iconst C st_192 (v := 0) rfl ?_
      refine R_aload_n C st_193 rfl rfl ?_
      refine R_iconst C st_194 (v := 0) rfl ?_
      refine R_caload C 0 st_195 B2 rfl (by decide) rfl ?_
      refine R_castore C 0 st_196 D2 rfl (by decide) hA (D2.safe hW2 (by decide)) ?_
      intro h3 W3 D3 Sf3
      have B3 := B2.other W3 nb
      have X3 := X2.wr W3
      have V3 := V2.other W3 (Or.inl ne)
      have C3 := C2.other W3 (Or.inl ne)
      have t3 := Sf3 _ t2
      obtain ⟨f3, D3, G3⟩ := Fi.put G2 (B.2 0 (by decide)) D3
      refine R_dup C st_197 rfl ?_
      refine R_iconst C st_198 (v := 1) rfl ?_
      refine R_aload_n C st_199 rfl rfl ?_
      refine R_iconst C st_200 (v := 1) rfl ?_
      refine R_caload C 1 st_201 B3 rfl (by decide) rfl ?_
      refine R_castore C 1 st_202 D3 rfl (by decide) hA (D3.safe hW2 (by decide)) ?_
      intro h4 W4 D4 Sf4
      have B4 := B3.other W4 nb
      have X4 := X3.wr W4
      have V4 := V3.other W4 (Or.inl ne)
      have C4 := C3.other W4 (Or.inl ne)
      have t4 := Sf4 _ t3
      obtain ⟨f4, D4, G4⟩ := Fi.put G3 (B.2 1 (by decide)) D4
      refine R_dup C st_203 rfl ?_
      refine R_iconst C st_204 (v := 2) rfl ?_
      refine R_aload_n C st_205 rfl rfl ?_
      refine R_iconst C st_206 (v := 2) rfl ?_
      refine R_caload C 2 st_207 B4 rfl (by decide) rfl ?_
      refine R_castore C 2 st_208 D4 rfl (by decide) hA (D4.safe hW2 (by decide)) ?_
      intro h5 W5 D5 Sf5
      have B5 := B4.other W5 nb
      have X5 := X4.wr W5
      have V5 := V4.other W5 (Or.inl ne)
      have C5 := C4.other W5 (Or.inl ne)
      have t5 := Sf5 _ t4
      obtain ⟨f5, D5, G5⟩ := Fi.put G4 (B.2 2 (by decide)) D5
      refine R_dup C st_209 rfl ?_
      refine R_iconst C st_210 (v := 3) rfl ?_
      refine R_aload_n C st_211 rfl rfl ?_
      refine R_iconst C st_212 (v := 3) rfl ?_
      refine R_caload C 3 st_213 B5 rfl (by decide) rfl ?_
      refine R_castore C 3 st_214 D5 rfl (by decide) hA (D5.safe hW2 (by decide)) ?_
      intro h6 W6 D6 Sf6
      have B6 := B5.other W6 nb
      have X6 := X5.wr W6
      have V6 := V5.other W6 (Or.inl ne)
      have C6 := C5.other W6 (Or.inl ne)
      have t6 := Sf6 _ t5
      obtain ⟨f6, D6, G6⟩ := Fi.put G5 (B.2 3 (by decide)) D6
      refine R_dup C st_215 rfl ?_
      refine R_iconst C st_216 (v := 4) rfl ?_
      refine R_aload_n C st_217 rfl rfl ?_
      refine R_iconst C st_218 (v := 4) rfl ?_
      refine R_caload C 4 st_219 B6 rfl (by decide) rfl ?_
      refine R_castore C 4 st_220 D6 rfl (by decide) hA (D6.safe hW2 (by decide)) ?_
      intro h7 W7 D7 Sf7
      have B7 := B6.other W7 nb
      have X7 := X6.wr W7
      have V7 := V6.other W7 (Or.inl ne)
      have C7 := C6.other W7 (Or.inl ne)
      have t7 := Sf7 _ t6
      obtain ⟨f7, D7, G7⟩ := Fi.put G6 (B.2 4 (by decide)) D7
      refine R_dup C st_221 rfl ?_
      refine R_iconst C st_222 (v := 5) rfl ?_
      refine R_aload_n C st_223 rfl rfl ?_
      refine R_iconst C st_224 (v := 5) rfl ?_
      refine R_caload C 5 st_225 B7 rfl (by decide) rfl ?_
      refine R_castore C 5 st_226 D7 rfl (by decide) hA (D7.safe hW2 (by decide)) ?_
      intro h8 W8 D8 Sf8
      have B8 := B7.other W8 nb
      have X8 := X7.wr W8
      have V8 := V7.other W8 (Or.inl ne)
      have C8 := C7.other W8 (Or.inl ne)
      have t8 := Sf8 _ t7
      obtain ⟨f8, D8, G8⟩ := Fi.put G7 (B.2 5 (by decide)) D8
      refine R_special C [.ref h1.size] st_227 (met_i2L l Z a0 hw False EL4 hEL cs fm S h8 h.size h1.size 6 10 bf (D8.cg (fun i hi => G8 i hi)) (by decide) (by decide) (by decide) (fun i hi => B.2 i (by omega)) X8 V8 C8 hE.1) (by first | exact fun z => z | exact fun _ => trivial) rfl (hw _ (List.mem_of_getElem? (i := 54) rfl)) (hw _ (List.mem_of_getElem? (i := 55) rfl)) (hw _ (List.mem_of_getElem? (i := 3) rfl)) (hw _ (List.mem_of_getElem? (i := 56) rfl)) (by decide) pd_18 rfl rfl rfl (Nat.le_of_ble_eq_true rfl) (Nat.le_of_ble_eq_true rfl) (Nat.le_of_ble_eq_true rfl) (Nat.le_of_ble_eq_true rfl) (fun z hz => by cases List.mem_singleton.mp hz; exact t8) ?_
      intro v vm5 hh5 hQ hsz5 hSf5 hFr
      obtain ⟨rfl, K5, b5, X5⟩ := hQ
      exact R_areturn C st_230 rfl rfl rfl (Nat.le_of_ble_eq_true rfl) (Nat.le_of_ble_eq_true rfl) ⟨_, b5, rfl, X5⟩
    refine R_iload_n C st_231 rfl ?_
    refine R_bipush C st_232 (v := 7) rfl ?_
    refine R_icmp C st_234 (fun (hc7 : ¬ nI = 7) => ?_) (fun (hc7 : ¬ ¬ nI = 7) => ?_)
    rotate_left
    · have z : nI = 7 := Decidable.not_not.mp hc7
      have hnj : n = 7 := by
        rw [z, show (7 : Int32).toInt = 7 from rfl] at hn
        omega
      subst hnj
      refine R_new C st_237 (hw _ (List.mem_of_getElem? (i := 53) rfl)) (hw _ (List.mem_of_getElem? (i := 4) rfl)) (hw _ (List.mem_of_getElem? (i := 3) rfl)) (Nat.le_of_ble_eq_true rfl) (Nat.le_of_ble_eq_true rfl) ?_
      intro h1 E1 X1 S1 _
      obtain ⟨X1, F1⟩ := X1
      refine R_dup C st_240 rfl ?_
      refine R_bipush C st_241 (v := 7) rfl ?_
      refine R_newarray C 10 st_243 (hw _ (List.mem_of_getElem? (i := 0) rfl)) (N := 7) rfl (by decide) (by decide) (Nat.le_of_ble_eq_true rfl) (Nat.le_of_ble_eq_true rfl) rfl ?_
      intro h2 E2 D2 S2 Sf2
      have t2 := Sf2 _ S1
      have ne : h.size ≠ h1.size := Nat.ne_of_lt X1.lt
      have nb : buf ≠ h1.size := Nat.ne_of_lt (B.1.ext E1).lt
      have B2 : AR Z h2 buf .char 10 (fun i => .int (bf i)) := (B.1.ext E1).ext E2
      have X2 := X1.ext E2
      have V2 := (F1 (Or.inr (hw _ (List.mem_of_getElem? (i := 6) rfl))) (ty := .array .byte) (by decide)).ext E2
      have C2 := (F1 (Or.inr (hw _ (List.mem_of_getElem? (i := 7) rfl))) (ty := .byte) (by decide)).ext E2
      refine Run.know fun hE2 hW2 _ => ?_
      have hA : Z.heap.size ≤ h1.size := Nat.le_trans hE.1 E1.1
      obtain ⟨f2, D2, G2⟩ : ∃ f, AR Z h2 h1.size .char 7 f ∧ ∀ i, i < 0 → f i = .int (bf i) := ⟨_, D2, fun i hi => absurd hi (Nat.not_lt_zero _)⟩
      refine R_dup C st_245 rfl ?_
      refine R_iconst C st_246 (v := 0) rfl ?_
      refine R_aload_n C st_247 rfl rfl ?_
      refine R_iconst C st_248 (v := 0) rfl ?_
      refine R_caload C 0 st_249 B2 rfl (by decide) rfl ?_
      refine R_castore C 0 st_250 D2 rfl (by decide) hA (D2.safe hW2 (by decide)) ?_
      intro h3 W3 D3 Sf3
      have B3 := B2.other W3 nb
      have X3 := X2.wr W3
      have V3 := V2.other W3 (Or.inl ne)
      have C3 := C2.other W3 (Or.inl ne)
      have t3 := Sf3 _ t2
      obtain ⟨f3, D3, G3⟩ := Fi.put G2 (B.2 0 (by decide)) D3
      refine R_dup C st_251 rfl ?_
      refine R_iconst C st_252 (v := 1) rfl ?_
      refine R_aload_n C st_253 rfl rfl ?_
      refine R_iconst C st_254 (v := 1) rfl ?_
      refine R_caload C 1 st_255 B3 rfl (by decide) rfl ?_
      refine R_castore C 1 st_256 D3 rfl (by decide) hA (D3.safe hW2 (by decide)) ?_
      intro h4 W4 D4 Sf4
      have B4 := B3.other W4 nb
      have X4 := X3.wr W4
      have V4 := V3.other W4 (Or.inl ne)
      have C4 := C3.other W4 (Or.inl ne)
      have t4 := Sf4 _ t3
      obtain ⟨f4, D4, G4⟩ := Fi.put G3 (B.2 1 (by decide)) D4
      refine R_dup C st_257 rfl ?_
      refine R_iconst C st_258 (v := 2) rfl ?_
      refine R_aload_n C st_259 rfl rfl ?_
      refine R_iconst C st_260 (v := 2) rfl ?_
      refine R_caload C 2 st_261 B4 rfl (by decide) rfl ?_
      refine R_castore C 2 st_262 D4 rfl (by decide) hA (D4.safe hW2 (by decide)) ?_
      intro h5 W5 D5 Sf5
      have B5 := B4.other W5 nb
      have X5 := X4.wr W5
      have V5 := V4.other W5 (Or.inl ne)
      have C5 := C4.other W5 (Or.inl ne)
      have t5 := Sf5 _ t4
      obtain ⟨f5, D5, G5⟩ := Fi.put G4 (B.2 2 (by decide)) D5
      refine R_dup C st_263 rfl ?_
      refine R_iconst C st_264 (v := 3) rfl ?_
      refine R_aload_n C st_265 rfl rfl ?_
      refine R_iconst C st_266 (v := 3) rfl ?_
      refine R_caload C 3 st_267 B5 rfl (by decide) rfl ?_
      refine R_castore C 3 st_268 D5 rfl (by decide) hA (D5.safe hW2 (by decide)) ?_
      intro h6 W6 D6 Sf6
      have B6 := B5.other W6 nb
      have X6 := X5.wr W6
      have V6 := V5.other W6 (Or.inl ne)
      have C6 := C5.other W6 (Or.inl ne)
      have t6 := Sf6 _ t5
      obtain ⟨f6, D6, G6⟩ := Fi.put G5 (B.2 3 (by decide)) D6
      refine R_dup C st_269 rfl ?_
      refine R_iconst C st_270 (v := 4) rfl ?_
      refine R_aload_n C st_271 rfl rfl ?_
      refine R_iconst C st_272 (v := 4) rfl ?_
      refine R_caload C 4 st_273 B6 rfl (by decide) rfl ?_
      refine R_castore C 4 st_274 D6 rfl (by decide) hA (D6.safe hW2 (by decide)) ?_
      intro h7 W7 D7 Sf7
      have B7 := B6.other W7 nb
      have X7 := X6.wr W7
      have V7 := V6.other W7 (Or.inl ne)
      have C7 := C6.other W7 (Or.inl ne)
      have t7 := Sf7 _ t6
      obtain ⟨f7, D7, G7⟩ := Fi.put G6 (B.2 4 (by decide)) D7
      refine R_dup C st_275 rfl ?_
      refine R_iconst C st_276 (v := 5) rfl ?_
      refine R_aload_n C st_277 rfl rfl ?_
      refine R_iconst C st_278 (v := 5) rfl ?_
      refine R_caload C 5 st_279 B7 rfl (by decide) rfl ?_
      refine R_castore C 5 st_280 D7 rfl (by decide) hA (D7.safe hW2 (by decide)) ?_
      intro h8 W8 D8 Sf8
      have B8 := B7.other W8 nb
      have X8 := X7.wr W8
      have V8 := V7.other W8 (Or.inl ne)
      have C8 := C7.other W8 (Or.inl ne)
      have t8 := Sf8 _ t7
      obtain ⟨f8, D8, G8⟩ := Fi.put G7 (B.2 5 (by decide)) D8
      refine R_dup C st_281 rfl ?_
      refine R_bipush C st_282 (v := 6) rfl ?_
      refine R_aload_n C st_284 rfl rfl ?_
      refine R_bipush C st_285 (v := 6) rfl ?_
      refine R_caload C 6 st_287 B8 rfl (by decide) rfl ?_
      refine R_castore C 6 st_288 D8 rfl (by decide) hA (D8.safe hW2 (by decide)) ?_
      intro h9 W9 D9 Sf9
      have B9 := B8.other W9 nb
      have X9 := X8.wr W9
      have V9 := V8.other W9 (Or.inl ne)
      have C9 := C8.other W9 (Or.inl ne)
      have t9 := Sf9 _ t8
      obtain ⟨f9, D9, G9⟩ := Fi.put G8 (B.2 6 (by decide)) D9
      refine R_special C [.ref h1.size] st_289 (met_i2L l Z a0 hw False EL4 hEL cs fm S h9 h.size h1.size 7 10 bf (D9.cg (fun i hi => G9 i hi)) (by decide) (by decide) (by decide) (fun i hi => B.2 i (by omega)) X9 V9 C9 hE.1) (by first | exact fun z => z | exact fun _ => trivial) rfl (hw _ (List.mem_of_getElem? (i := 54) rfl)) (hw _ (List.mem_of_getElem? (i := 55) rfl)) (hw _ (List.mem_of_getElem? (i := 3) rfl)) (hw _ (List.mem_of_getElem? (i := 56) rfl)) (by decide) pd_18 rfl rfl rfl (Nat.le_of_ble_eq_true rfl) (Nat.le_of_ble_eq_true rfl) (Nat.le_of_ble_eq_true rfl) (Nat.le_of_ble_eq_true rfl) (fun z hz => by cases List.mem_singleton.mp hz; exact t9) ?_
      intro v vm5 hh5 hQ hsz5 hSf5 hFr
      obtain ⟨rfl, K5, b5, X5⟩ := hQ
      exact R_areturn C st_292 rfl rfl rfl (Nat.le_of_ble_eq_true rfl) (Nat.le_of_ble_eq_true rfl) ⟨_, b5, rfl, X5⟩
    refine R_iload_n C st_293 rfl ?_
    refine R_bipush C st_294 (v := 8) rfl ?_
    refine R_icmp C st_296 (fun (hc8 : ¬ nI = 8) => ?_) (fun (hc8 : ¬ ¬ nI = 8) => ?_)
    rotate_left
    · have z : nI = 8 := Decidable.not_not.mp hc8
      have hnj : n = 8 := by
        rw [z, show (8 : Int32).toInt = 8 from rfl] at hn
        omega
      subst hnj
      refine R_new C st_299 (hw _ (List.mem_of_getElem? (i := 53) rfl)) (hw _ (List.mem_of_getElem? (i := 4) rfl)) (hw _ (List.mem_of_getElem? (i := 3) rfl)) (Nat.le_of_ble_eq_true rfl) (Nat.le_of_ble_eq_true rfl) ?_
      intro h1 E1 X1 S1 _
      obtain ⟨X1, F1⟩ := X1
      refine R_dup C st_302 rfl ?_
      refine R_bipush C st_303 (v := 8) rfl ?_
      refine R_newarray C 10 st_305 (hw _ (List.mem_of_getElem? (i := 0) rfl)) (N := 8) rfl (by decide) (by decide) (Nat.le_of_ble_eq_true rfl) (Nat.le_of_ble_eq_true rfl) rfl ?_
      intro h2 E2 D2 S2 Sf2
      have t2 := Sf2 _ S1
      have ne : h.size ≠ h1.size := Nat.ne_of_lt X1.lt
      have nb : buf ≠ h1.size := Nat.ne_of_lt (B.1.ext E1).lt
      have B2 : AR Z h2 buf .char 10 (fun i => .int (bf i)) := (B.1.ext E1).ext E2
      have X2 := X1.ext E2
      have V2 := (F1 (Or.inr (hw _ (List.mem_of_getElem? (i := 6) rfl))) (ty := .array .byte) (by decide)).ext E2
      have C2 := (F1 (Or.inr (hw _ (List.mem_of_getElem? (i := 7) rfl))) (ty := .byte) (by decide)).ext E2
      refine Run.know fun hE2 hW2 _ => ?_
      have hA : Z.heap.size ≤ h1.size := Nat.le_trans hE.1 E1.1
      obtain ⟨f2, D2, G2⟩ : ∃ f, AR Z h2 h1.size .char 8 f ∧ ∀ i, i < 0 → f i = .int (bf i) := ⟨_, D2, fun i hi => absurd hi (Nat.not_lt_zero _)⟩
      refine R_dup C st_307 rfl ?_
      refine R_iconst C st_308 (v := 0) rfl ?_
      refine R_aload_n C st_309 rfl rfl ?_
      refine R_iconst C st_310 (v := 0) rfl ?_
      refine R_caload C 0 st_311 B2 rfl (by decide) rfl ?_
      refine R_castore C 0 st_312 D2 rfl (by decide) hA (D2.safe hW2 (by decide)) ?_
      intro h3 W3 D3 Sf3
      have B3 := B2.other W3 nb
      have X3 := X2.wr W3
      have V3 := V2.other W3 (Or.inl ne)
      have C3 := C2.other W3 (Or.inl ne)
      have t3 := Sf3 _ t2
      obtain ⟨f3, D3, G3⟩ := Fi.put G2 (B.2 0 (by decide)) D3
      refine R_dup C st_313 rfl ?_
      refine R_iconst C st_314 (v := 1) rfl ?_
      refine R_aload_n C st_315 rfl rfl ?_
      refine R_iconst C st_316 (v := 1) rfl ?_
      refine R_caload C 1 st_317 B3 rfl (by decide) rfl ?_
      refine R_castore C 1 st_318 D3 rfl (by decide) hA (D3.safe hW2 (by decide)) ?_
      intro h4 W4 D4 Sf4
      have B4 := B3.other W4 nb
      have X4 := X3.wr W4
      have V4 := V3.other W4 (Or.inl ne)
      have C4 := C3.other W4 (Or.inl ne)
      have t4 := Sf4 _ t3
      obtain ⟨f4, D4, G4⟩ := Fi.put G3 (B.2 1 (by decide)) D4
      refine R_dup C st_319 rfl ?_
      refine R_iconst C st_320 (v := 2) rfl ?_
      refine R_aload_n C st_321 rfl rfl ?_
      refine R_iconst C st_322 (v := 2) rfl ?_
      refine R_caload C 2 st_323 B4 rfl (by decide) rfl ?_
      refine R_castore C 2 st_324 D4 rfl (by decide) hA (D4.safe hW2 (by decide)) ?_
      intro h5 W5 D5 Sf5
      have B5 := B4.other W5 nb
      have X5 := X4.wr W5
      have V5 := V4.other W5 (Or.inl ne)
      have C5 := C4.other W5 (Or.inl ne)
      have t5 := Sf5 _ t4
      obtain ⟨f5, D5, G5⟩ := Fi.put G4 (B.2 2 (by decide)) D5
      refine R_dup C st_325 rfl ?_
      refine R_iconst C st_326 (v := 3) rfl ?_
      refine R_aload_n C st_327 rfl rfl ?_
      refine R_iconst C st_328 (v := 3) rfl ?_
      refine R_caload C 3 st_329 B5 rfl (by decide) rfl ?_
      refine R_castore C 3 st_330 D5 rfl (by decide) hA (D5.safe hW2 (by decide)) ?_
      intro h6 W6 D6 Sf6
      have B6 := B5.other W6 nb
      have X6 := X5.wr W6
      have V6 := V5.other W6 (Or.inl ne)
      have C6 := C5.other W6 (Or.inl ne)
      have t6 := Sf6 _ t5
      obtain ⟨f6, D6, G6⟩ := Fi.put G5 (B.2 3 (by decide)) D6
      refine R_dup C st_331 rfl ?_
      refine R_iconst C st_332 (v := 4) rfl ?_
      refine R_aload_n C st_333 rfl rfl ?_
      refine R_iconst C st_334 (v := 4) rfl ?_
      refine R_caload C 4 st_335 B6 rfl (by decide) rfl ?_
      refine R_castore C 4 st_336 D6 rfl (by decide) hA (D6.safe hW2 (by decide)) ?_
      intro h7 W7 D7 Sf7
      have B7 := B6.other W7 nb
      have X7 := X6.wr W7
      have V7 := V6.other W7 (Or.inl ne)
      have C7 := C6.other W7 (Or.inl ne)
      have t7 := Sf7 _ t6
      obtain ⟨f7, D7, G7⟩ := Fi.put G6 (B.2 4 (by decide)) D7
      refine R_dup C st_337 rfl ?_
      refine R_iconst C st_338 (v := 5) rfl ?_
      refine R_aload_n C st_339 rfl rfl ?_
      refine R_iconst C st_340 (v := 5) rfl ?_
      refine R_caload C 5 st_341 B7 rfl (by decide) rfl ?_
      refine R_castore C 5 st_342 D7 rfl (by decide) hA (D7.safe hW2 (by decide)) ?_
      intro h8 W8 D8 Sf8
      have B8 := B7.other W8 nb
      have X8 := X7.wr W8
      have V8 := V7.other W8 (Or.inl ne)
      have C8 := C7.other W8 (Or.inl ne)
      have t8 := Sf8 _ t7
      obtain ⟨f8, D8, G8⟩ := Fi.put G7 (B.2 5 (by decide)) D8
      refine R_dup C st_343 rfl ?_
      refine R_bipush C st_344 (v := 6) rfl ?_
      refine R_aload_n C st_346 rfl rfl ?_
      refine R_bipush C st_347 (v := 6) rfl ?_
      refine R_caload C 6 st_349 B8 rfl (by decide) rfl ?_
      refine R_castore C 6 st_350 D8 rfl (by decide) hA (D8.safe hW2 (by decide)) ?_
      intro h9 W9 D9 Sf9
      have B9 := B8.other W9 nb
      have X9 := X8.wr W9
      have V9 := V8.other W9 (Or.inl ne)
      have C9 := C8.other W9 (Or.inl ne)
      have t9 := Sf9 _ t8
      obtain ⟨f9, D9, G9⟩ := Fi.put G8 (B.2 6 (by decide)) D9
      refine R_dup C st_351 rfl ?_
      refine R_bipush C st_352 (v := 7) rfl ?_
      refine R_aload_n C st_354 rfl rfl ?_
      refine R_bipush C st_355 (v := 7) rfl ?_
      refine R_caload C 7 st_357 B9 rfl (by decide) rfl ?_
      refine R_castore C 7 st_358 D9 rfl (by decide) hA (D9.safe hW2 (by decide)) ?_
      intro h10 W10 D10 Sf10
      have B10 := B9.other W10 nb
      have X10 := X9.wr W10
      have V10 := V9.other W10 (Or.inl ne)
      have C10 := C9.other W10 (Or.inl ne)
      have t10 := Sf10 _ t9
      obtain ⟨f10, D10, G10⟩ := Fi.put G9 (B.2 7 (by decide)) D10
      refine R_special C [.ref h1.size] st_359 (met_i2L l Z a0 hw False EL4 hEL cs fm S h10 h.size h1.size 8 10 bf (D10.cg (fun i hi => G10 i hi)) (by decide) (by decide) (by decide) (fun i hi => B.2 i (by omega)) X10 V10 C10 hE.1) (by first | exact fun z => z | exact fun _ => trivial) rfl (hw _ (List.mem_of_getElem? (i := 54) rfl)) (hw _ (List.mem_of_getElem? (i := 55) rfl)) (hw _ (List.mem_of_getElem? (i := 3) rfl)) (hw _ (List.mem_of_getElem? (i := 56) rfl)) (by decide) pd_18 rfl rfl rfl (Nat.le_of_ble_eq_true rfl) (Nat.le_of_ble_eq_true rfl) (Nat.le_of_ble_eq_true rfl) (Nat.le_of_ble_eq_true rfl) (fun z hz => by cases List.mem_singleton.mp hz; exact t10) ?_
      intro v vm5 hh5 hQ hsz5 hSf5 hFr
      obtain ⟨rfl, K5, b5, X5⟩ := hQ
      exact R_areturn C st_362 rfl rfl rfl (Nat.le_of_ble_eq_true rfl) (Nat.le_of_ble_eq_true rfl) ⟨_, b5, rfl, X5⟩
    refine R_iload_n C st_363 rfl ?_
    refine R_bipush C st_364 (v := 9) rfl ?_
    refine R_icmp C st_366 (fun (hc9 : ¬ nI = 9) => ?_) (fun (hc9 : ¬ ¬ nI = 9) => ?_)
    rotate_left
    · have z : nI = 9 := Decidable.not_not.mp hc9
      have hnj : n = 9 := by
        rw [z, show (9 : Int32).toInt = 9 from rfl] at hn
        omega
      subst hnj
      refine R_new C st_369 (hw _ (List.mem_of_getElem? (i := 53) rfl)) (hw _ (List.mem_of_getElem? (i := 4) rfl)) (hw _ (List.mem_of_getElem? (i := 3) rfl)) (Nat.le_of_ble_eq_true rfl) (Nat.le_of_ble_eq_true rfl) ?_
      intro h1 E1 X1 S1 _
      obtain ⟨X1, F1⟩ := X1
      refine R_dup C st_372 rfl ?_
      refine R_bipush C st_373 (v := 9) rfl ?_
      refine R_newarray C 10 st_375 (hw _ (List.mem_of_getElem? (i := 0) rfl)) (N := 9) rfl (by decide) (by decide) (Nat.le_of_ble_eq_true rfl) (Nat.le_of_ble_eq_true rfl) rfl ?_
      intro h2 E2 D2 S2 Sf2
      have t2 := Sf2 _ S1
      have ne : h.size ≠ h1.size := Nat.ne_of_lt X1.lt
      have nb : buf ≠ h1.size := Nat.ne_of_lt (B.1.ext E1).lt
      have B2 : AR Z h2 buf .char 10 (fun i => .int (bf i)) := (B.1.ext E1).ext E2
      have X2 := X1.ext E2
      have V2 := (F1 (Or.inr (hw _ (List.mem_of_getElem? (i := 6) rfl))) (ty := .array .byte) (by decide)).ext E2
      have C2 := (F1 (Or.inr (hw _ (List.mem_of_getElem? (i := 7) rfl))) (ty := .byte) (by decide)).ext E2
      refine Run.know fun hE2 hW2 _ => ?_
      have hA : Z.heap.size ≤ h1.size := Nat.le_trans hE.1 E1.1
      obtain ⟨f2, D2, G2⟩ : ∃ f, AR Z h2 h1.size .char 9 f ∧ ∀ i, i < 0 → f i = .int (bf i) := ⟨_, D2, fun i hi => absurd hi (Nat.not_lt_zero _)⟩
      refine R_dup C st_377 rfl ?_
      refine R_iconst C st_378 (v := 0) rfl ?_
      refine R_aload_n C st_379 rfl rfl ?_
      refine R_iconst C st_380 (v := 0) rfl ?_
      refine R_caload C 0 st_381 B2 rfl (by decide) rfl ?_
      refine R_castore C 0 st_382 D2 rfl (by decide) hA (D2.safe hW2 (by decide)) ?_
      intro h3 W3 D3 Sf3
      have B3 := B2.other W3 nb
      have X3 := X2.wr W3
      have V3 := V2.other W3 (Or.inl ne)
      have C3 := C2.other W3 (Or.inl ne)
      have t3 := Sf3 _ t2
      obtain ⟨f3, D3, G3⟩ := Fi.put G2 (B.2 0 (by decide)) D3
      refine R_dup C st_383 rfl ?_
      refine R_iconst C st_384 (v := 1) rfl ?_
      refine R_aload_n C st_385 rfl rfl ?_
      refine R_iconst C st_386 (v := 1) rfl ?_
      refine R_caload C 1 st_387 B3 rfl (by decide) rfl ?_
      refine R_castore C 1 st_388 D3 rfl (by decide) hA (D3.safe hW2 (by decide)) ?_
      intro h4 W4 D4 Sf4
      have B4 := B3.other W4 nb
      have X4 := X3.wr W4
      have V4 := V3.other W4 (Or.inl ne)
      have C4 := C3.other W4 (Or.inl ne)
      have t4 := Sf4 _ t3
      obtain ⟨f4, D4, G4⟩ := Fi.put G3 (B.2 1 (by decide)) D4
      refine R_dup C st_389 rfl ?_
      refine R_iconst C st_390 (v := 2) rfl ?_
      refine R_aload_n C st_391 rfl rfl ?_
      refine R_iconst C st_392 (v := 2) rfl ?_
      refine R_caload C 2 st_393 B4 rfl (by decide) rfl ?_
      refine R_castore C 2 st_394 D4 rfl (by decide) hA (D4.safe hW2 (by decide)) ?_
      intro h5 W5 D5 Sf5
      have B5 := B4.other W5 nb
      have X5 := X4.wr W5
      have V5 := V4.other W5 (Or.inl ne)
      have C5 := C4.other W5 (Or.inl ne)
      have t5 := Sf5 _ t4
      obtain ⟨f5, D5, G5⟩ := Fi.put G4 (B.2 2 (by decide)) D5
      refine R_dup C st_395 rfl ?_
      refine R_iconst C st_396 (v := 3) rfl ?_
      refine R_aload_n C st_397 rfl rfl ?_
      refine R_iconst C st_398 (v := 3) rfl ?_
      refine R_caload C 3 st_399 B5 rfl (by decide) rfl ?_
      refine R_castore C 3 st_400 D5 rfl (by decide) hA (D5.safe hW2 (by decide)) ?_
      intro h6 W6 D6 Sf6
      have B6 := B5.other W6 nb
      have X6 := X5.wr W6
      have V6 := V5.other W6 (Or.inl ne)
      have C6 := C5.other W6 (Or.inl ne)
      have t6 := Sf6 _ t5
      obtain ⟨f6, D6, G6⟩ := Fi.put G5 (B.2 3 (by decide)) D6
      refine R_dup C st_401 rfl ?_
      refine R_iconst C st_402 (v := 4) rfl ?_
      refine R_aload_n C st_403 rfl rfl ?_
      refine R_iconst C st_404 (v := 4) rfl ?_
      refine R_caload C 4 st_405 B6 rfl (by decide) rfl ?_
      refine R_castore C 4 st_406 D6 rfl (by decide) hA (D6.safe hW2 (by decide)) ?_
      intro h7 W7 D7 Sf7
      have B7 := B6.other W7 nb
      have X7 := X6.wr W7
      have V7 := V6.other W7 (Or.inl ne)
      have C7 := C6.other W7 (Or.inl ne)
      have t7 := Sf7 _ t6
      obtain ⟨f7, D7, G7⟩ := Fi.put G6 (B.2 4 (by decide)) D7
      refine R_dup C st_407 rfl ?_
      refine R_iconst C st_408 (v := 5) rfl ?_
      refine R_aload_n C st_409 rfl rfl ?_
      refine R_iconst C st_410 (v := 5) rfl ?_
      refine R_caload C 5 st_411 B7 rfl (by decide) rfl ?_
      refine R_castore C 5 st_412 D7 rfl (by decide) hA (D7.safe hW2 (by decide)) ?_
      intro h8 W8 D8 Sf8
      have B8 := B7.other W8 nb
      have X8 := X7.wr W8
      have V8 := V7.other W8 (Or.inl ne)
      have C8 := C7.other W8 (Or.inl ne)
      have t8 := Sf8 _ t7
      obtain ⟨f8, D8, G8⟩ := Fi.put G7 (B.2 5 (by decide)) D8
      refine R_dup C st_413 rfl ?_
      refine R_bipush C st_414 (v := 6) rfl ?_
      refine R_aload_n C st_416 rfl rfl ?_
      refine R_bipush C st_417 (v := 6) rfl ?_
      refine R_caload C 6 st_419 B8 rfl (by decide) rfl ?_
      refine R_castore C 6 st_420 D8 rfl (by decide) hA (D8.safe hW2 (by decide)) ?_
      intro h9 W9 D9 Sf9
      have B9 := B8.other W9 nb
      have X9 := X8.wr W9
      have V9 := V8.other W9 (Or.inl ne)
      have C9 := C8.other W9 (Or.inl ne)
      have t9 := Sf9 _ t8
      obtain ⟨f9, D9, G9⟩ := Fi.put G8 (B.2 6 (by decide)) D9
      refine R_dup C st_421 rfl ?_
      refine R_bipush C st_422 (v := 7) rfl ?_
      refine R_aload_n C st_424 rfl rfl ?_
      refine R_bipush C st_425 (v := 7) rfl ?_
      refine R_caload C 7 st_427 B9 rfl (by decide) rfl ?_
      refine R_castore C 7 st_428 D9 rfl (by decide) hA (D9.safe hW2 (by decide)) ?_
      intro h10 W10 D10 Sf10
      have B10 := B9.other W10 nb
      have X10 := X9.wr W10
      have V10 := V9.other W10 (Or.inl ne)
      have C10 := C9.other W10 (Or.inl ne)
      have t10 := Sf10 _ t9
      obtain ⟨f10, D10, G10⟩ := Fi.put G9 (B.2 7 (by decide)) D10
      refine R_dup C st_429 rfl ?_
      refine R_bipush C st_430 (v := 8) rfl ?_
      refine R_aload_n C st_432 rfl rfl ?_
      refine R_bipush C st_433 (v := 8) rfl ?_
      refine R_caload C 8 st_435 B10 rfl (by decide) rfl ?_
      refine R_castore C 8 st_436 D10 rfl (by decide) hA (D10.safe hW2 (by decide)) ?_
      intro h11 W11 D11 Sf11
      have B11 := B10.other W11 nb
      have X11 := X10.wr W11
      have V11 := V10.other W11 (Or.inl ne)
      have C11 := C10.other W11 (Or.inl ne)
      have t11 := Sf11 _ t10
      obtain ⟨f11, D11, G11⟩ := Fi.put G10 (B.2 8 (by decide)) D11
      refine R_special C [.ref h1.size] st_437 (met_i2L l Z a0 hw False EL4 hEL cs fm S h11 h.size h1.size 9 10 bf (D11.cg (fun i hi => G11 i hi)) (by decide) (by decide) (by decide) (fun i hi => B.2 i (by omega)) X11 V11 C11 hE.1) (by first | exact fun z => z | exact fun _ => trivial) rfl (hw _ (List.mem_of_getElem? (i := 54) rfl)) (hw _ (List.mem_of_getElem? (i := 55) rfl)) (hw _ (List.mem_of_getElem? (i := 3) rfl)) (hw _ (List.mem_of_getElem? (i := 56) rfl)) (by decide) pd_18 rfl rfl rfl (Nat.le_of_ble_eq_true rfl) (Nat.le_of_ble_eq_true rfl) (Nat.le_of_ble_eq_true rfl) (Nat.le_of_ble_eq_true rfl) (fun z hz => by cases List.mem_singleton.mp hz; exact t11) ?_
      intro v vm5 hh5 hQ hsz5 hSf5 hFr
      obtain ⟨rfl, K5, b5, X5⟩ := hQ
      exact R_areturn C st_440 rfl rfl rfl (Nat.le_of_ble_eq_true rfl) (Nat.le_of_ble_eq_true rfl) ⟨_, b5, rfl, X5⟩
    have hnt : n = 10 := by
      have y0 : n ≠ 0 := fun z => hc0 (Int32.toInt_inj.mp (by rw [hn, z]; rfl))
      have y1 : n ≠ 1 := fun z => hc1 (Int32.toInt_inj.mp (by rw [hn, z]; rfl))
      have y2 : n ≠ 2 := fun z => hc2 (Int32.toInt_inj.mp (by rw [hn, z]; rfl))
      have y3 : n ≠ 3 := fun z => hc3 (Int32.toInt_inj.mp (by rw [hn, z]; rfl))
      have y4 : n ≠ 4 := fun z => hc4 (Int32.toInt_inj.mp (by rw [hn, z]; rfl))
      have y5 : n ≠ 5 := fun z => hc5 (Int32.toInt_inj.mp (by rw [hn, z]; rfl))
      have y6 : n ≠ 6 := fun z => hc6 (Int32.toInt_inj.mp (by rw [hn, z]; rfl))
      have y7 : n ≠ 7 := fun z => hc7 (Int32.toInt_inj.mp (by rw [hn, z]; rfl))
      have y8 : n ≠ 8 := fun z => hc8 (Int32.toInt_inj.mp (by rw [hn, z]; rfl))
      have y9 : n ≠ 9 := fun z => hc9 (Int32.toInt_inj.mp (by rw [hn, z]; rfl))
      omega
    subst hnt
    refine R_new C st_441 (hw _ (List.mem_of_getElem? (i := 53) rfl)) (hw _ (List.mem_of_getElem? (i := 4) rfl)) (hw _ (List.mem_of_getElem? (i := 3) rfl)) (Nat.le_of_ble_eq_true rfl) (Nat.le_of_ble_eq_true rfl) ?_
    intro h1 E1 X1 S1 _
    obtain ⟨X1, F1⟩ := X1
    refine R_dup C st_444 rfl ?_
    refine R_bipush C st_445 (v := 10) rfl ?_
    refine R_newarray C 10 st_447 (hw _ (List.mem_of_getElem? (i := 0) rfl)) (N := 10) rfl (by decide) (by decide) (Nat.le_of_ble_eq_true rfl) (Nat.le_of_ble_eq_true rfl) rfl ?_
    intro h2 E2 D2 S2 Sf2
    have t2 := Sf2 _ S1
    have ne : h.size ≠ h1.size := Nat.ne_of_lt X1.lt
    have nb : buf ≠ h1.size := Nat.ne_of_lt (B.1.ext E1).lt
    have B2 : AR Z h2 buf .char 10 (fun i => .int (bf i)) := (B.1.ext E1).ext E2
    have X2 := X1.ext E2
    have V2 := (F1 (Or.inr (hw _ (List.mem_of_getElem? (i := 6) rfl))) (ty := .array .byte) (by decide)).ext E2
    have C2 := (F1 (Or.inr (hw _ (List.mem_of_getElem? (i := 7) rfl))) (ty := .byte) (by decide)).ext E2
    refine Run.know fun hE2 hW2 _ => ?_
    have hA : Z.heap.size ≤ h1.size := Nat.le_trans hE.1 E1.1
    obtain ⟨f2, D2, G2⟩ : ∃ f, AR Z h2 h1.size .char 10 f ∧ ∀ i, i < 0 → f i = .int (bf i) := ⟨_, D2, fun i hi => absurd hi (Nat.not_lt_zero _)⟩
    refine R_dup C st_449 rfl ?_
    refine R_iconst C st_450 (v := 0) rfl ?_
    refine R_aload_n C st_451 rfl rfl ?_
    refine R_iconst C st_452 (v := 0) rfl ?_
    refine R_caload C 0 st_453 B2 rfl (by decide) rfl ?_
    refine R_castore C 0 st_454 D2 rfl (by decide) hA (D2.safe hW2 (by decide)) ?_
    intro h3 W3 D3 Sf3
    have B3 := B2.other W3 nb
    have X3 := X2.wr W3
    have V3 := V2.other W3 (Or.inl ne)
    have C3 := C2.other W3 (Or.inl ne)
    have t3 := Sf3 _ t2
    obtain ⟨f3, D3, G3⟩ := Fi.put G2 (B.2 0 (by decide)) D3
    refine R_dup C st_455 rfl ?_
    refine R_iconst C st_456 (v := 1) rfl ?_
    refine R_aload_n C st_457 rfl rfl ?_
    refine R_iconst C st_458 (v := 1) rfl ?_
    refine R_caload C 1 st_459 B3 rfl (by decide) rfl ?_
    refine R_castore C 1 st_460 D3 rfl (by decide) hA (D3.safe hW2 (by decide)) ?_
    intro h4 W4 D4 Sf4
    have B4 := B3.other W4 nb
    have X4 := X3.wr W4
    have V4 := V3.other W4 (Or.inl ne)
    have C4 := C3.other W4 (Or.inl ne)
    have t4 := Sf4 _ t3
    obtain ⟨f4, D4, G4⟩ := Fi.put G3 (B.2 1 (by decide)) D4
    refine R_dup C st_461 rfl ?_
    refine R_iconst C st_462 (v := 2) rfl ?_
    refine R_aload_n C st_463 rfl rfl ?_
    refine R_iconst C st_464 (v := 2) rfl ?_
    refine R_caload C 2 st_465 B4 rfl (by decide) rfl ?_
    refine R_castore C 2 st_466 D4 rfl (by decide) hA (D4.safe hW2 (by decide)) ?_
    intro h5 W5 D5 Sf5
    have B5 := B4.other W5 nb
    have X5 := X4.wr W5
    have V5 := V4.other W5 (Or.inl ne)
    have C5 := C4.other W5 (Or.inl ne)
    have t5 := Sf5 _ t4
    obtain ⟨f5, D5, G5⟩ := Fi.put G4 (B.2 2 (by decide)) D5
    refine R_dup C st_467 rfl ?_
    refine R_iconst C st_468 (v := 3) rfl ?_
    refine R_aload_n C st_469 rfl rfl ?_
    refine R_iconst C st_470 (v := 3) rfl ?_
    refine R_caload C 3 st_471 B5 rfl (by decide) rfl ?_
    refine R_castore C 3 st_472 D5 rfl (by decide) hA (D5.safe hW2 (by decide)) ?_
    intro h6 W6 D6 Sf6
    have B6 := B5.other W6 nb
    have X6 := X5.wr W6
    have V6 := V5.other W6 (Or.inl ne)
    have C6 := C5.other W6 (Or.inl ne)
    have t6 := Sf6 _ t5
    obtain ⟨f6, D6, G6⟩ := Fi.put G5 (B.2 3 (by decide)) D6
    refine R_dup C st_473 rfl ?_
    refine R_iconst C st_474 (v := 4) rfl ?_
    refine R_aload_n C st_475 rfl rfl ?_
    refine R_iconst C st_476 (v := 4) rfl ?_
    refine R_caload C 4 st_477 B6 rfl (by decide) rfl ?_
    refine R_castore C 4 st_478 D6 rfl (by decide) hA (D6.safe hW2 (by decide)) ?_
    intro h7 W7 D7 Sf7
    have B7 := B6.other W7 nb
    have X7 := X6.wr W7
    have V7 := V6.other W7 (Or.inl ne)
    have C7 := C6.other W7 (Or.inl ne)
    have t7 := Sf7 _ t6
    obtain ⟨f7, D7, G7⟩ := Fi.put G6 (B.2 4 (by decide)) D7
    refine R_dup C st_479 rfl ?_
    refine R_iconst C st_480 (v := 5) rfl ?_
    refine R_aload_n C st_481 rfl rfl ?_
    refine R_iconst C st_482 (v := 5) rfl ?_
    refine R_caload C 5 st_483 B7 rfl (by decide) rfl ?_
    refine R_castore C 5 st_484 D7 rfl (by decide) hA (D7.safe hW2 (by decide)) ?_
    intro h8 W8 D8 Sf8
    have B8 := B7.other W8 nb
    have X8 := X7.wr W8
    have V8 := V7.other W8 (Or.inl ne)
    have C8 := C7.other W8 (Or.inl ne)
    have t8 := Sf8 _ t7
    obtain ⟨f8, D8, G8⟩ := Fi.put G7 (B.2 5 (by decide)) D8
    refine R_dup C st_485 rfl ?_
    refine R_bipush C st_486 (v := 6) rfl ?_
    refine R_aload_n C st_488 rfl rfl ?_
    refine R_bipush C st_489 (v := 6) rfl ?_
    refine R_caload C 6 st_491 B8 rfl (by decide) rfl ?_
    refine R_castore C 6 st_492 D8 rfl (by decide) hA (D8.safe hW2 (by decide)) ?_
    intro h9 W9 D9 Sf9
    have B9 := B8.other W9 nb
    have X9 := X8.wr W9
    have V9 := V8.other W9 (Or.inl ne)
    have C9 := C8.other W9 (Or.inl ne)
    have t9 := Sf9 _ t8
    obtain ⟨f9, D9, G9⟩ := Fi.put G8 (B.2 6 (by decide)) D9
    refine R_dup C st_493 rfl ?_
    refine R_bipush C st_494 (v := 7) rfl ?_
    refine R_aload_n C st_496 rfl rfl ?_
    refine R_bipush C st_497 (v := 7) rfl ?_
    refine R_caload C 7 st_499 B9 rfl (by decide) rfl ?_
    refine R_castore C 7 st_500 D9 rfl (by decide) hA (D9.safe hW2 (by decide)) ?_
    intro h10 W10 D10 Sf10
    have B10 := B9.other W10 nb
    have X10 := X9.wr W10
    have V10 := V9.other W10 (Or.inl ne)
    have C10 := C9.other W10 (Or.inl ne)
    have t10 := Sf10 _ t9
    obtain ⟨f10, D10, G10⟩ := Fi.put G9 (B.2 7 (by decide)) D10
    refine R_dup C st_501 rfl ?_
    refine R_bipush C st_502 (v := 8) rfl ?_
    refine R_aload_n C st_504 rfl rfl ?_
    refine R_bipush C st_505 (v := 8) rfl ?_
    refine R_caload C 8 st_507 B10 rfl (by decide) rfl ?_
    refine R_castore C 8 st_508 D10 rfl (by decide) hA (D10.safe hW2 (by decide)) ?_
    intro h11 W11 D11 Sf11
    have B11 := B10.other W11 nb
    have X11 := X10.wr W11
    have V11 := V10.other W11 (Or.inl ne)
    have C11 := C10.other W11 (Or.inl ne)
    have t11 := Sf11 _ t10
    obtain ⟨f11, D11, G11⟩ := Fi.put G10 (B.2 8 (by decide)) D11
    refine R_dup C st_509 rfl ?_
    refine R_bipush C st_510 (v := 9) rfl ?_
    refine R_aload_n C st_512 rfl rfl ?_
    refine R_bipush C st_513 (v := 9) rfl ?_
    refine R_caload C 9 st_515 B11 rfl (by decide) rfl ?_
    refine R_castore C 9 st_516 D11 rfl (by decide) hA (D11.safe hW2 (by decide)) ?_
    intro h12 W12 D12 Sf12
    have B12 := B11.other W12 nb
    have X12 := X11.wr W12
    have V12 := V11.other W12 (Or.inl ne)
    have C12 := C11.other W12 (Or.inl ne)
    have t12 := Sf12 _ t11
    obtain ⟨f12, D12, G12⟩ := Fi.put G11 (B.2 9 (by decide)) D12
    refine R_special C [.ref h1.size] st_517 (met_i2L l Z a0 hw False EL4 hEL cs fm S h12 h.size h1.size 10 10 bf (D12.cg (fun i hi => G12 i hi)) (by decide) (by decide) (by decide) (fun i hi => B.2 i (by omega)) X12 V12 C12 hE.1) (by first | exact fun z => z | exact fun _ => trivial) rfl (hw _ (List.mem_of_getElem? (i := 54) rfl)) (hw _ (List.mem_of_getElem? (i := 55) rfl)) (hw _ (List.mem_of_getElem? (i := 3) rfl)) (hw _ (List.mem_of_getElem? (i := 56) rfl)) (by decide) pd_18 rfl rfl rfl (Nat.le_of_ble_eq_true rfl) (Nat.le_of_ble_eq_true rfl) (Nat.le_of_ble_eq_true rfl) (Nat.le_of_ble_eq_true rfl) (fun z hz => by cases List.mem_singleton.mp hz; exact t12) ?_
    intro v vm5 hh5 hQ hsz5 hSf5 hFr
    obtain ⟨rfl, K5, b5, X5⟩ := hQ
    exact R_areturn C st_520 rfl rfl rfl (Nat.le_of_ble_eq_true rfl) (Nat.le_of_ble_eq_true rfl) ⟨_, b5, rfl, X5⟩
theorem litW : ∀ i, i < 6 → ([.int 87, .int 101, .int 98, .int 65, .int 112, .int 112] : List Value).getD i (.int 0) = by8 (gW i) := by
  intro i hi
  have z : ∀ k : Fin 6, ([.int 87, .int 101, .int 98, .int 65, .int 112, .int 112] : List Value).getD k.val (.int 0) = by8 (gW k.val) := by decide +kernel
  exact z ⟨i, hi⟩
theorem litWt : (∀ c ∈ "WebApp".toList, c.toNat < 256) ∧ "WebApp".toList.map (fun c => Value.int (Jvm.Lit.byteI c.toNat.toUInt16)) = [.int 87, .int 101, .int 98, .int 65, .int 112, .int 112] := by decide +kernel
theorem litN : ∀ i, i < 9 → ([.int 78, .int 97, .int 116, .int 105, .int 118, .int 101, .int 65, .int 112, .int 112] : List Value).getD i (.int 0) = by8 (gN i) := by
  intro i hi
  have z : ∀ k : Fin 9, ([.int 78, .int 97, .int 116, .int 105, .int 118, .int 101, .int 65, .int 112, .int 112] : List Value).getD k.val (.int 0) = by8 (gN k.val) := by decide +kernel
  exact z ⟨i, hi⟩
theorem litNt : (∀ c ∈ "NativeApp".toList, c.toNat < 256) ∧ "NativeApp".toList.map (fun c => Value.int (Jvm.Lit.byteI c.toNat.toUInt16)) = [.int 78, .int 97, .int 116, .int 105, .int 118, .int 101, .int 65, .int 112, .int 112] := by decide +kernel
theorem litS : ∀ i, i < 9 → ([.int 83, .int 101, .int 114, .int 118, .int 101, .int 114, .int 65, .int 112, .int 112] : List Value).getD i (.int 0) = by8 (gS i) := by
  intro i hi
  have z : ∀ k : Fin 9, ([.int 83, .int 101, .int 114, .int 118, .int 101, .int 114, .int 65, .int 112, .int 112] : List Value).getD k.val (.int 0) = by8 (gS k.val) := by decide +kernel
  exact z ⟨i, hi⟩
theorem litSt : (∀ c ∈ "ServerApp".toList, c.toNat < 256) ∧ "ServerApp".toList.map (fun c => Value.int (Jvm.Lit.byteI c.toNat.toUInt16)) = [.int 83, .int 101, .int 114, .int 118, .int 101, .int 114, .int 65, .int 112, .int 112] := by decide +kernel
theorem met_law (l : Launch) (Z : State) (a0 : Array Value) (hw : ∀ d ∈ tables_1, d.before a0 Z = true) (hEL : EW Z a0 EL4) (cs : Int32) (fm : Value) (SC : SS Z cs fm) {va web nat srv n1 n2 n3 b1 b2 b3 oe : Addr} (D : Wd Z va web nat srv n1 n2 n3 b1 b2 b3 oe) (x0 x1 : Int32) (x2 x3 : Int64) :
    Met l Z False EL4 x code 12 (some .boolean) room_1 #[.int x0, .int x1, .long x2, .long x3] Z.heap [] (fun v h' => v = some (.int 1)) := by
  have D0 := D
  obtain ⟨D1, D2, -, Tw, Tn, Ts, Xw, Xn, Xs, Fw, Fn, Fs, Sw, Sn, Ss, De, Xe, Fe⟩ := D
  refine Met.mk (a0 := a0) hEL pn_law ?_
  intro p e s m below meth c C hE hS
  rw [ef_lw]
  have end_ : ∀ (vm : Vm) (h : Heap) (cells slots : Nat) (kd lI : Int32) (n : Nat) (g : Nat → Int32) (a b : Addr) (w : Value), cells ≤ 12 → slots ≤ 210 → StrL Z h a b n g → Names n g web nat srv w → w.isRef = true → Ext Z.heap h →
      Run p l e room_1 s m #[.int x0, .int x1, .long x2, .long x3] below meth c Z False EL4 (Kf s Z False EL4 room_1 (fun v h' => v = some (.int 1))) vm h cells slots (fr m 340 [.val (.int x0), .val (.int x1), .val (.long x2), .second, .val (.long x3), .second, .val (.ref Z.heap.size), .val (.int kd), .val (.int lI), .val (.ref a), .val w, .unset] []) := by
    intro vm h cells slots kd lI n g a b w hc hs X Nw hwr hEh
    refine Run.more hc hs ?_
    refine R_aload C lw_340 rfl rfl ?_
    refine R_static C [.ref a] lw_342 (met_nm l Z a0 hw True EL4 hEL cs fm SC D0 h a b n g X) (by first | exact fun z => z | exact fun _ => trivial) (hw _ (List.mem_of_getElem? (i := 85) rfl)) (hw _ (List.mem_of_getElem? (i := 86) rfl)) (hw _ (List.mem_of_getElem? (i := 87) rfl)) (hw _ (List.mem_of_getElem? (i := 88) rfl)) (by decide) pd_19 rfl rfl rfl (Nat.le_of_ble_eq_true rfl) (Nat.le_of_ble_eq_true rfl) (Nat.le_of_ble_eq_true rfl) (Nat.le_of_ble_eq_true rfl) (fun _ q => nomatch q) ?_
    intro v vm2 h2 hQ hsz2 hSf2 hFr
    obtain ⟨o, w2, rfl, X2, F2, N2⟩ := hQ
    have hw2 : w2 = w := N2.uniq Nw
    subst hw2
    simp only [Option.toList_some, List.cons_append, List.nil_append]
    refine R_aconst_null C lw_345 ?_
    refine R_virtual C [.null] lw_346 (met_oo l Z a0 hw True EL4 hEL h2 o w2 hwr F2) (by first | exact fun z => z | exact fun _ => trivial) (X2) (hw _ (List.mem_of_getElem? (i := 115) rfl)) (hw _ (List.mem_of_getElem? (i := 116) rfl)) (hw _ (List.mem_of_getElem? (i := 118) rfl)) (hw _ (List.mem_of_getElem? (i := 117) rfl)) (hw _ (List.mem_of_getElem? (i := 112) rfl)) (hw _ (List.mem_of_getElem? (i := 119) rfl)) (by decide) pd_10 rfl rfl rfl (Nat.le_of_ble_eq_true rfl) (Nat.le_of_ble_eq_true rfl) (Nat.le_of_ble_eq_true rfl) (Nat.le_of_ble_eq_true rfl) (fun _ q => nomatch q) ?_
    intro v vm3 h3 hQ hsz3 hSf3 hFr
    obtain ⟨rfl, rfl⟩ := hQ
    simp only [Option.toList_some, List.cons_append, List.nil_append]
    have fin : Run p l e room_1 s m #[.int x0, .int x1, .long x2, .long x3] below meth c Z False EL4 (Kf s Z False EL4 room_1 (fun v h' => v = some (.int 1))) vm3 h3 (12 + 2 + 0) (210 + 4 + 0) (fr m 352 [.val (.int x0), .val (.int x1), .val (.long x2), .second, .val (.long x3), .second, .val (.ref Z.heap.size), .val (.int kd), .val (.int lI), .val (.ref a), .val w2, .unset] [w2]) := by
      refine R_astore C lw_352 hwr (cat_ref hwr) rfl ?_
      simp only [List.set_cons_zero, List.set_cons_succ]
      refine R_aload C lw_354 rfl hwr ?_
      refine R_aload C lw_356 rfl hwr ?_
      refine R_acmp_ne C lw_358 hwr hwr (fun z => absurd rfl z) (fun _ => ?_)
      refine R_iconst C lw_361 (v := 1) rfl ?_
      refine R_goto C lw_362 ?_
      exact R_retN C lw_366 rfl (Or.inl rfl) (Nat.le_of_ble_eq_true rfl) (Nat.le_of_ble_eq_true rfl) rfl
    refine Run.know fun hE3 hW3 _ => ?_
    rcases Nw with ⟨rfl, -⟩ | ⟨rfl, -⟩ | ⟨rfl, -⟩ | ⟨rfl, -⟩
    · exact R_checkcast C lw_349 (hw _ (List.mem_of_getElem? (i := 137) rfl)) (RoadKit.Ins.self (Xw.ext hE3)) fin
    · exact R_checkcast C lw_349 (hw _ (List.mem_of_getElem? (i := 137) rfl)) (RoadKit.Ins.self (Xn.ext hE3)) fin
    · exact R_checkcast C lw_349 (hw _ (List.mem_of_getElem? (i := 137) rfl)) (RoadKit.Ins.self (Xs.ext hE3)) fin
    · exact R_checkcast_null C lw_349 fin
  have tail : ∀ (vm : Vm) (h : Heap) (cells slots : Nat) (kd lI : Int32) (n : Nat) (bf : Nat → Int32) (s9 s10 : Slot), cells ≤ 3 → slots ≤ 66 → lI.toInt = n → n ≤ 10 → okSlot s9 = true → okSlot s10 = true → Bf Z h Z.heap.size bf →
      Run p l e room_1 s m #[.int x0, .int x1, .long x2, .long x3] below meth c Z False EL4 (Kf s Z False EL4 room_1 (fun v h' => v = some (.int 1))) vm h cells slots (fr m 277 [.val (.int x0), .val (.int x1), .val (.long x2), .second, .val (.long x3), .second, .val (.ref Z.heap.size), .val (.int kd), .val (.int lI), s9, s10, .unset] []) := by
    intro vm h cells slots kd lI n bf s9 s10 hc hs hl hn o9 o10 Bu
    refine Run.more hc hs ?_
    refine R_aload C lw_277 rfl rfl ?_
    refine R_iload C lw_279 rfl ?_
    refine R_static C [.ref Z.heap.size, .int lI] lw_281 (met_st l Z a0 hw hEL cs fm SC h Z.heap.size bf Bu lI n hl hn) (by first | exact fun z => z | exact fun _ => trivial) (hw _ (List.mem_of_getElem? (i := 50) rfl)) (hw _ (List.mem_of_getElem? (i := 51) rfl)) (hw _ (List.mem_of_getElem? (i := 12) rfl)) (hw _ (List.mem_of_getElem? (i := 52) rfl)) (by decide) pd_20 rfl rfl rfl (Nat.le_of_ble_eq_true rfl) (Nat.le_of_ble_eq_true rfl) (Nat.le_of_ble_eq_true rfl) (Nat.le_of_ble_eq_true rfl) (fun _ q => nomatch q) ?_
    intro v vm2 h2 hQ hsz2 hSf2 hFr
    obtain ⟨a, b, rfl, X2⟩ := hQ
    simp only [Option.toList_some, List.cons_append, List.nil_append]
    refine R_astore C lw_284 rfl rfl o9 ?_
    simp only [fv0, fv1, fv2, fv3, List.set_cons_zero, List.set_cons_succ]
    refine R_aconst_null C lw_286 ?_
    refine R_astore C lw_287 rfl rfl o10 ?_
    simp only [fv0, fv1, fv2, fv3, List.set_cons_zero, List.set_cons_succ]
    refine R_aload C lw_289 rfl rfl ?_
    refine Run.know fun hE2 _ _ => ?_
    refine R_ldcK C 24 lw_291 (fun z => z) (hw _ (List.mem_of_getElem? (i := 2) rfl)) (wS_1 hw) (List.mem_of_getElem? (i := 0) rfl) (vs := [.int 87, .int 101, .int 98, .int 65, .int 112, .int 112]) (z := 6) litWt rfl (by decide) (by decide) (Nat.le_of_ble_eq_true rfl) (Nat.le_of_ble_eq_true rfl) ?_
    intro la lb vml hl El Xl Cl Vl Al Sfl Nel
    have Yl : StrL Z hl la lb 6 gW := ⟨Xl, Vl, Cl, Al.cg litW, gW_ok⟩
    refine R_virtual C [.ref la] lw_293 (met_eqL l Z a0 hw True EL4 hEL cs fm SC hl a la b lb n 6 bf gW (X2.ext El) Yl) (by first | exact fun z => z | exact fun _ => trivial) (X2.1.ext El) (hw _ (List.mem_of_getElem? (i := 74) rfl)) (hw _ (List.mem_of_getElem? (i := 75) rfl)) (hw _ (List.mem_of_getElem? (i := 77) rfl)) (hw _ (List.mem_of_getElem? (i := 76) rfl)) (hw _ (List.mem_of_getElem? (i := 3) rfl)) (hw _ (List.mem_of_getElem? (i := 78) rfl)) (by decide) pd_13 rfl rfl rfl (Nat.le_of_ble_eq_true rfl) (Nat.le_of_ble_eq_true rfl) (Nat.le_of_ble_eq_true rfl) (Nat.le_of_ble_eq_true rfl) (fun _ q => nomatch q) ?_
    intro v vm3 h3 hQ hsz3 hSf3 hFr
    obtain ⟨rfl, ⟨rfl, q1⟩ | ⟨rfl, q1⟩⟩ := hQ
    · simp only [Option.toList_some, List.cons_append, List.nil_append]
      refine R_if C lw_296 (fun (hc : (1 : Int32) = 0) => absurd hc (by decide)) (fun _ => ?_)
      refine R_getstatic C lw_299 (hw _ (List.mem_of_getElem? (i := 140) rfl)) Via.refl (Tw.ext (hE2.tr El)) ?_
      refine R_astore C lw_302 rfl rfl rfl ?_
      simp only [fv0, fv1, fv2, fv3, List.set_cons_zero, List.set_cons_succ]
      refine R_goto C lw_304 ?_
      exact end_ _ _ _ _ _ _ n bf a b _ (Nat.le_of_ble_eq_true rfl) (Nat.le_of_ble_eq_true rfl) (X2.ext El) (Or.inl ⟨rfl, q1.sym⟩) rfl (hE2.tr El)
    · simp only [Option.toList_some, List.cons_append, List.nil_append]
      refine R_if C lw_296 (fun _ => ?_) (fun (hc : ¬ (0 : Int32) = 0) => absurd rfl hc)
      have X3 := X2.ext El
      have hE3 := hE2.tr El
      clear Yl Nel Sfl Al Vl Cl Xl El
      refine R_aload C lw_307 rfl rfl ?_
      refine R_ldcK C 36 lw_309 (fun z => z) (hw _ (List.mem_of_getElem? (i := 83) rfl)) (wS_1 hw) (List.mem_of_getElem? (i := 1) rfl) (vs := [.int 78, .int 97, .int 116, .int 105, .int 118, .int 101, .int 65, .int 112, .int 112]) (z := 9) litNt rfl (by decide) (by decide) (Nat.le_of_ble_eq_true rfl) (Nat.le_of_ble_eq_true rfl) ?_
      intro la lb vml hl El Xl Cl Vl Al Sfl Nel
      have Yl : StrL Z hl la lb 9 gN := ⟨Xl, Vl, Cl, Al.cg litN, gN_ok⟩
      refine R_virtual C [.ref la] lw_311 (met_eqL l Z a0 hw True EL4 hEL cs fm SC hl a la b lb n 9 bf gN (X3.ext El) Yl) (by first | exact fun z => z | exact fun _ => trivial) (X3.1.ext El) (hw _ (List.mem_of_getElem? (i := 74) rfl)) (hw _ (List.mem_of_getElem? (i := 75) rfl)) (hw _ (List.mem_of_getElem? (i := 77) rfl)) (hw _ (List.mem_of_getElem? (i := 76) rfl)) (hw _ (List.mem_of_getElem? (i := 3) rfl)) (hw _ (List.mem_of_getElem? (i := 78) rfl)) (by decide) pd_13 rfl rfl rfl (Nat.le_of_ble_eq_true rfl) (Nat.le_of_ble_eq_true rfl) (Nat.le_of_ble_eq_true rfl) (Nat.le_of_ble_eq_true rfl) (fun _ q => nomatch q) ?_
      intro v vm4 h4 hQ hsz4 hSf4 hFr
      obtain ⟨rfl, ⟨rfl, q2⟩ | ⟨rfl, q2⟩⟩ := hQ
      · simp only [Option.toList_some, List.cons_append, List.nil_append]
        refine R_if C lw_314 (fun (hc : (1 : Int32) = 0) => absurd hc (by decide)) (fun _ => ?_)
        refine R_getstatic C lw_317 (hw _ (List.mem_of_getElem? (i := 141) rfl)) Via.refl (Tn.ext (hE3.tr El)) ?_
        refine R_astore C lw_320 rfl rfl rfl ?_
        simp only [fv0, fv1, fv2, fv3, List.set_cons_zero, List.set_cons_succ]
        refine R_goto C lw_322 ?_
        exact end_ _ _ _ _ _ _ n bf a b _ (Nat.le_of_ble_eq_true rfl) (Nat.le_of_ble_eq_true rfl) (X3.ext El) (Or.inr (Or.inl ⟨rfl, fun z => q1 z.sym, q2.sym⟩)) rfl (hE3.tr El)
      · simp only [Option.toList_some, List.cons_append, List.nil_append]
        refine R_if C lw_314 (fun _ => ?_) (fun (hc : ¬ (0 : Int32) = 0) => absurd rfl hc)
        have X4 := X3.ext El
        have hE4 := hE3.tr El
        clear Yl Nel Sfl Al Vl Cl Xl El
        refine R_aload C lw_325 rfl rfl ?_
        refine R_ldcK C 36 lw_327 (fun z => z) (hw _ (List.mem_of_getElem? (i := 84) rfl)) (wS_1 hw) (List.mem_of_getElem? (i := 2) rfl) (vs := [.int 83, .int 101, .int 114, .int 118, .int 101, .int 114, .int 65, .int 112, .int 112]) (z := 9) litSt rfl (by decide) (by decide) (Nat.le_of_ble_eq_true rfl) (Nat.le_of_ble_eq_true rfl) ?_
        intro la lb vml hl El Xl Cl Vl Al Sfl Nel
        have Yl : StrL Z hl la lb 9 gS := ⟨Xl, Vl, Cl, Al.cg litS, gS_ok⟩
        refine R_virtual C [.ref la] lw_329 (met_eqL l Z a0 hw True EL4 hEL cs fm SC hl a la b lb n 9 bf gS (X4.ext El) Yl) (by first | exact fun z => z | exact fun _ => trivial) (X4.1.ext El) (hw _ (List.mem_of_getElem? (i := 74) rfl)) (hw _ (List.mem_of_getElem? (i := 75) rfl)) (hw _ (List.mem_of_getElem? (i := 77) rfl)) (hw _ (List.mem_of_getElem? (i := 76) rfl)) (hw _ (List.mem_of_getElem? (i := 3) rfl)) (hw _ (List.mem_of_getElem? (i := 78) rfl)) (by decide) pd_13 rfl rfl rfl (Nat.le_of_ble_eq_true rfl) (Nat.le_of_ble_eq_true rfl) (Nat.le_of_ble_eq_true rfl) (Nat.le_of_ble_eq_true rfl) (fun _ q => nomatch q) ?_
        intro v vm5 h5 hQ hsz5 hSf5 hFr
        obtain ⟨rfl, ⟨rfl, q3⟩ | ⟨rfl, q3⟩⟩ := hQ
        · simp only [Option.toList_some, List.cons_append, List.nil_append]
          refine R_if C lw_332 (fun (hc : (1 : Int32) = 0) => absurd hc (by decide)) (fun _ => ?_)
          refine R_getstatic C lw_335 (hw _ (List.mem_of_getElem? (i := 122) rfl)) Via.refl (Ts.ext (hE4.tr El)) ?_
          refine R_astore C lw_338 rfl rfl rfl ?_
          simp only [fv0, fv1, fv2, fv3, List.set_cons_zero, List.set_cons_succ]
          exact end_ _ _ _ _ _ _ n bf a b _ (Nat.le_of_ble_eq_true rfl) (Nat.le_of_ble_eq_true rfl) (X4.ext El) (Or.inr (Or.inr (Or.inl ⟨rfl, fun z => q1 z.sym, fun z => q2 z.sym, q3.sym⟩))) rfl (hE4.tr El)
        · simp only [Option.toList_some, List.cons_append, List.nil_append]
          refine R_if C lw_332 (fun _ => ?_) (fun (hc : ¬ (0 : Int32) = 0) => absurd rfl hc)
          exact end_ _ _ _ _ _ _ n bf a b _ (Nat.le_of_ble_eq_true rfl) (Nat.le_of_ble_eq_true rfl) (X4.ext El) (Or.inr (Or.inr (Or.inr ⟨rfl, fun z => q1 z.sym, fun z => q2 z.sym, fun z => q3 z.sym⟩))) rfl (hE4.tr El)
  have edit : ∀ (vm : Vm) (h : Heap) (cells slots : Nat) (kd lI : Int32) (n : Nat) (bf : Nat → Int32) (s9 s10 : Slot), cells ≤ 3 → slots ≤ 66 → lI.toInt = n → n ≤ 10 → okSlot s9 = true → okSlot s10 = true → Bf Z h Z.heap.size bf →
      Run p l e room_1 s m #[.int x0, .int x1, .long x2, .long x3] below meth c Z False EL4 (Kf s Z False EL4 room_1 (fun v h' => v = some (.int 1))) vm h cells slots (fr m 239 [.val (.int x0), .val (.int x1), .val (.long x2), .second, .val (.long x3), .second, .val (.ref Z.heap.size), .val (.int kd), .val (.int lI), s9, s10, .unset] []) := by
    intro vm h cells slots kd lI n bf s9 s10 hc hs hl hn o9 o10 Bu
    refine R_iload_n C lw_239 rfl ?_
    refine R_iconst C lw_240 (v := 1) rfl ?_
    refine R_iand C lw_241 ?_
    refine R_if C lw_242 (fun _ => ?_) (fun _ => ?_)
    · exact tail _ _ _ _ _ _ n bf _ _ hc hs hl hn o9 o10 Bu
    · refine R_iload C lw_245 rfl ?_
      refine R_if C lw_247 (fun _ => ?_) (fun (hc2 : ¬ ¬ (0 : Int32) < lI) => ?_)
      · exact tail _ _ _ _ _ _ n bf _ _ hc hs hl hn o9 o10 Bu
      · have hpos := Int32.lt_iff_toInt_lt.mp (Decidable.not_not.mp hc2)
        rw [Int32.toInt_zero] at hpos
        have hne : lI ≠ 0 := fun z => by rw [z, Int32.toInt_zero] at hpos; omega
        have q1 : (XT.ushr x1 1 &&& 2147483647).toInt = _ := i32_mask (XT.ushr x1 1) 2147483647 (k := 31) (by decide) (by decide)
        have q2 := i32_rem_nonneg (x := XT.ushr x1 1 &&& 2147483647) (y := lI) (by omega)
        have q3 : 0 ≤ ((XT.ushr x1 1 &&& 2147483647) % lI).toInt ∧ ((XT.ushr x1 1 &&& 2147483647) % lI).toInt < n := by
          rw [q2, hl]
          exact ⟨Int.emod_nonneg _ (by omega), Int.emod_lt_of_pos _ (by omega)⟩
        refine Run.know fun hEh hWh _ => ?_
        refine R_iload_n C lw_250 rfl ?_
        refine R_iconst C lw_251 (v := 1) rfl ?_
        refine R_iushr C lw_252 ?_
        refine R_ldcInt C lw_253 (hw _ (List.mem_of_getElem? (i := 49) rfl)) ?_
        refine R_iand C lw_255 ?_
        refine R_iload C lw_256 rfl ?_
        refine R_irem C lw_258 (hne) ?_
        refine R_istore C lw_259 o9 ?_
        simp only [fv0, fv1, fv2, fv3, List.set_cons_zero, List.set_cons_succ]
        refine R_aload C lw_261 rfl rfl ?_
        refine R_iload C lw_263 rfl ?_
        refine R_lload C lw_265 rfl ?_
        refine R_bipush C lw_267 (v := 16) rfl ?_
        refine R_lushr C lw_269 ?_
        refine R_ldc2Long C lw_270 (hw _ (List.mem_of_getElem? (i := 1) rfl)) ?_
        refine R_land C lw_273 ?_
        refine R_l2i C lw_274 ?_
        refine R_i2c C lw_275 ?_
        refine R_castore C ((XT.ushr x1 1 &&& 2147483647) % lI).toInt.toNat lw_276 Bu.1 (by omega) (by omega) (Nat.le_refl _) (Bu.1.safe hWh (by decide)) ?_
        intro h2 W2 A2 _
        exact tail _ _ _ _ _ _ n _ _ _ hc hs hl hn rfl o10 (Bu.put (m255l _) A2)
  refine R_bipush C lw_0 (v := 10) rfl ?_
  refine R_newarray C 10 lw_2 (hw _ (List.mem_of_getElem? (i := 0) rfl)) (N := 10) rfl (Nat.le_refl _) (by decide) (Nat.le_of_ble_eq_true rfl) (Nat.le_of_ble_eq_true rfl) rfl ?_
  intro h1 E1 A1 S1 Sf1
  refine Run.know fun hE1 hW1 _ => ?_
  have B1 : Bf Z h1 Z.heap.size (fun _ => 0) := ⟨A1, fun i hi => by show 0 ≤ (0 : Int32).toInt ∧ (0 : Int32).toInt ≤ 255; decide⟩
  refine R_astore C lw_4 rfl rfl rfl ?_
  simp only [fv0, fv1, fv2, fv3, List.set_cons_zero, List.set_cons_succ]
  refine R_aload C lw_6 rfl rfl ?_
  refine R_iconst C lw_8 (v := 0) rfl ?_
  refine R_lload_n C lw_9 rfl ?_
  refine R_ldc2Long C lw_10 (hw _ (List.mem_of_getElem? (i := 1) rfl)) ?_
  refine R_land C lw_13 ?_
  refine R_l2i C lw_14 ?_
  refine R_i2c C lw_15 ?_
  refine R_castore C 0 lw_16 B1.1 rfl (by decide) (Nat.le_refl _) (B1.1.safe hW1 (by decide)) ?_
  intro h2 W2 A2 _
  have B2 := B1.put (m255l _) A2
  refine R_aload C lw_17 rfl rfl ?_
  refine R_iconst C lw_19 (v := 1) rfl ?_
  refine R_lload_n C lw_20 rfl ?_
  refine R_bipush C lw_21 (v := 8) rfl ?_
  refine R_lushr C lw_23 ?_
  refine R_ldc2Long C lw_24 (hw _ (List.mem_of_getElem? (i := 1) rfl)) ?_
  refine R_land C lw_27 ?_
  refine R_l2i C lw_28 ?_
  refine R_i2c C lw_29 ?_
  refine R_castore C 1 lw_30 B2.1 rfl (by decide) (Nat.le_refl _) (B2.1.safe hW1 (by decide)) ?_
  intro h3 W3 A3 _
  have B3 := B2.put (m255l _) A3
  refine R_aload C lw_31 rfl rfl ?_
  refine R_iconst C lw_33 (v := 2) rfl ?_
  refine R_lload_n C lw_34 rfl ?_
  refine R_bipush C lw_35 (v := 16) rfl ?_
  refine R_lushr C lw_37 ?_
  refine R_ldc2Long C lw_38 (hw _ (List.mem_of_getElem? (i := 1) rfl)) ?_
  refine R_land C lw_41 ?_
  refine R_l2i C lw_42 ?_
  refine R_i2c C lw_43 ?_
  refine R_castore C 2 lw_44 B3.1 rfl (by decide) (Nat.le_refl _) (B3.1.safe hW1 (by decide)) ?_
  intro h4 W4 A4 _
  have B4 := B3.put (m255l _) A4
  refine R_aload C lw_45 rfl rfl ?_
  refine R_iconst C lw_47 (v := 3) rfl ?_
  refine R_lload_n C lw_48 rfl ?_
  refine R_bipush C lw_49 (v := 24) rfl ?_
  refine R_lushr C lw_51 ?_
  refine R_ldc2Long C lw_52 (hw _ (List.mem_of_getElem? (i := 1) rfl)) ?_
  refine R_land C lw_55 ?_
  refine R_l2i C lw_56 ?_
  refine R_i2c C lw_57 ?_
  refine R_castore C 3 lw_58 B4.1 rfl (by decide) (Nat.le_refl _) (B4.1.safe hW1 (by decide)) ?_
  intro h5 W5 A5 _
  have B5 := B4.put (m255l _) A5
  refine R_aload C lw_59 rfl rfl ?_
  refine R_iconst C lw_61 (v := 4) rfl ?_
  refine R_lload_n C lw_62 rfl ?_
  refine R_bipush C lw_63 (v := 32) rfl ?_
  refine R_lushr C lw_65 ?_
  refine R_ldc2Long C lw_66 (hw _ (List.mem_of_getElem? (i := 1) rfl)) ?_
  refine R_land C lw_69 ?_
  refine R_l2i C lw_70 ?_
  refine R_i2c C lw_71 ?_
  refine R_castore C 4 lw_72 B5.1 rfl (by decide) (Nat.le_refl _) (B5.1.safe hW1 (by decide)) ?_
  intro h6 W6 A6 _
  have B6 := B5.put (m255l _) A6
  refine R_aload C lw_73 rfl rfl ?_
  refine R_iconst C lw_75 (v := 5) rfl ?_
  refine R_lload_n C lw_76 rfl ?_
  refine R_bipush C lw_77 (v := 40) rfl ?_
  refine R_lushr C lw_79 ?_
  refine R_ldc2Long C lw_80 (hw _ (List.mem_of_getElem? (i := 1) rfl)) ?_
  refine R_land C lw_83 ?_
  refine R_l2i C lw_84 ?_
  refine R_i2c C lw_85 ?_
  refine R_castore C 5 lw_86 B6.1 rfl (by decide) (Nat.le_refl _) (B6.1.safe hW1 (by decide)) ?_
  intro h7 W7 A7 _
  have B7 := B6.put (m255l _) A7
  refine R_aload C lw_87 rfl rfl ?_
  refine R_bipush C lw_89 (v := 6) rfl ?_
  refine R_lload_n C lw_91 rfl ?_
  refine R_bipush C lw_92 (v := 48) rfl ?_
  refine R_lushr C lw_94 ?_
  refine R_ldc2Long C lw_95 (hw _ (List.mem_of_getElem? (i := 1) rfl)) ?_
  refine R_land C lw_98 ?_
  refine R_l2i C lw_99 ?_
  refine R_i2c C lw_100 ?_
  refine R_castore C 6 lw_101 B7.1 rfl (by decide) (Nat.le_refl _) (B7.1.safe hW1 (by decide)) ?_
  intro h8 W8 A8 _
  have B8 := B7.put (m255l _) A8
  refine R_aload C lw_102 rfl rfl ?_
  refine R_bipush C lw_104 (v := 7) rfl ?_
  refine R_lload_n C lw_106 rfl ?_
  refine R_bipush C lw_107 (v := 56) rfl ?_
  refine R_lushr C lw_109 ?_
  refine R_ldc2Long C lw_110 (hw _ (List.mem_of_getElem? (i := 1) rfl)) ?_
  refine R_land C lw_113 ?_
  refine R_l2i C lw_114 ?_
  refine R_i2c C lw_115 ?_
  refine R_castore C 7 lw_116 B8.1 rfl (by decide) (Nat.le_refl _) (B8.1.safe hW1 (by decide)) ?_
  intro h9 W9 A9 _
  have B9 := B8.put (m255l _) A9
  refine R_aload C lw_117 rfl rfl ?_
  refine R_bipush C lw_119 (v := 8) rfl ?_
  refine R_lload C lw_121 rfl ?_
  refine R_ldc2Long C lw_123 (hw _ (List.mem_of_getElem? (i := 1) rfl)) ?_
  refine R_land C lw_126 ?_
  refine R_l2i C lw_127 ?_
  refine R_i2c C lw_128 ?_
  refine R_castore C 8 lw_129 B9.1 rfl (by decide) (Nat.le_refl _) (B9.1.safe hW1 (by decide)) ?_
  intro h10 W10 A10 _
  have B10 := B9.put (m255l _) A10
  refine R_aload C lw_130 rfl rfl ?_
  refine R_bipush C lw_132 (v := 9) rfl ?_
  refine R_lload C lw_134 rfl ?_
  refine R_bipush C lw_136 (v := 8) rfl ?_
  refine R_lushr C lw_138 ?_
  refine R_ldc2Long C lw_139 (hw _ (List.mem_of_getElem? (i := 1) rfl)) ?_
  refine R_land C lw_142 ?_
  refine R_l2i C lw_143 ?_
  refine R_i2c C lw_144 ?_
  refine R_castore C 9 lw_145 B10.1 rfl (by decide) (Nat.le_refl _) (B10.1.safe hW1 (by decide)) ?_
  intro h11 W11 A11 _
  have B11 := B10.put (m255l _) A11
  refine R_iload_n C lw_146 rfl ?_
  refine R_iconst C lw_147 (v := 3) rfl ?_
  refine R_iand C lw_148 ?_
  refine R_istore C lw_149 rfl ?_
  simp only [fv0, fv1, fv2, fv3, List.set_cons_zero, List.set_cons_succ]
  refine R_iload C lw_151 rfl ?_
  refine R_iconst C lw_153 (v := 3) rfl ?_
  refine R_icmp C lw_154 (fun _ => ?_) (fun _ => ?_)
  · have base : ∀ (vm : Vm) (hh : Heap) (cells slots n : Nat) (g : Nat → Int32) (a b : Addr) (bf : Nat → Int32), cells ≤ 3 → slots ≤ 66 → StrL Z hh a b n g → (n = 6 ∨ n = 9) → Bf Z hh Z.heap.size bf →
        Run p l e room_1 s m #[.int x0, .int x1, .long x2, .long x3] below meth c Z False EL4 (Kf s Z False EL4 room_1 (fun v h' => v = some (.int 1))) vm hh cells slots (fr m 194 [.val (.int x0), .val (.int x1), .val (.long x2), .second, .val (.long x3), .second, .val (.ref Z.heap.size), .val (.int (x0 &&& 3)), .unset, .unset, .unset, .unset] [.ref a]) := by
      intro vm hh cells slots n g a b bf hc hs X hn Bu
      refine Run.more hc hs ?_
      refine R_astore C lw_194 rfl rfl rfl ?_
      simp only [fv0, fv1, fv2, fv3, List.set_cons_zero, List.set_cons_succ]
      refine R_aload C lw_196 rfl rfl ?_
      refine R_aload C lw_198 rfl rfl ?_
      refine R_static C [.ref Z.heap.size, .ref a] lw_200 (met_pn l Z a0 hw True EL4 hEL cs fm SC hh Z.heap.size a b n g bf X Bu hn (Nat.le_refl _)) (by first | exact fun z => z | exact fun _ => trivial) (hw _ (List.mem_of_getElem? (i := 10) rfl)) (hw _ (List.mem_of_getElem? (i := 11) rfl)) (hw _ (List.mem_of_getElem? (i := 12) rfl)) (hw _ (List.mem_of_getElem? (i := 13) rfl)) (by decide) pd_21 rfl rfl rfl (Nat.le_of_ble_eq_true rfl) (Nat.le_of_ble_eq_true rfl) (Nat.le_of_ble_eq_true rfl) (Nat.le_of_ble_eq_true rfl) (fun _ q => nomatch q) ?_
      intro v vm2 h2 hQ hsz2 hSf2 hFr
      obtain ⟨rfl, K2, B2⟩ := hQ
      simp only [Option.toList_none, List.nil_append]
      have neA : Z.heap.size ≠ a := Bu.1.neExa X.1 (hw _ (List.mem_of_getElem? (i := 4) rfl))
      have neB : Z.heap.size ≠ b := fun z => by
        obtain ⟨c1, A1, -⟩ := Bu.1
        obtain ⟨c2, A2, -⟩ := X.2.2.2.1
        rw [z] at A1
        cases A1.1.symm.trans A2.1
        obtain ⟨-, k1, q1, d1, q2⟩ := A1.2.1
        obtain ⟨-, k2, q3, d2, q4⟩ := A2.2.1
        cases q1.symm.trans q3
        rw [q2] at q4
        cases q4
      have X2 : StrL Z h2 a b n g := ⟨X.1.keep K2, X.2.1.keep K2 (fun z => neA (List.mem_singleton.mp z).symm), X.2.2.1.keep K2 (fun z => neA (List.mem_singleton.mp z).symm), X.2.2.2.1.keep K2 (fun z => neB (List.mem_singleton.mp z).symm), X.2.2.2.2⟩
      have hnI : n.toInt32.toInt = n := len_toInt X.2.2.2.1.small
      have m1 : (-1 : Int32).toInt = -1 := rfl
      have p1 : (1 : Int32).toInt = 1 := rfl
      have z0 : (0 : Int32).toInt = 0 := rfl
      refine R_iload_n C lw_203 rfl ?_
      refine R_iconst C lw_204 (v := 2) rfl ?_
      refine R_iushr C lw_205 ?_
      refine R_iconst C lw_206 (v := 3) rfl ?_
      refine R_iand C lw_207 ?_
      refine R_istore C lw_208 rfl ?_
      simp only [fv0, fv1, fv2, fv3, List.set_cons_zero, List.set_cons_succ]
      refine R_aload C lw_210 rfl rfl ?_
      refine R_virtual C [] lw_212 (met_lengthL l Z a0 hw True EL4 hEL cs fm SC h2 a b n g X2) (by first | exact fun z => z | exact fun _ => trivial) (X2.1) (hw _ (List.mem_of_getElem? (i := 39) rfl)) (hw _ (List.mem_of_getElem? (i := 40) rfl)) (hw _ (List.mem_of_getElem? (i := 42) rfl)) (hw _ (List.mem_of_getElem? (i := 41) rfl)) (hw _ (List.mem_of_getElem? (i := 3) rfl)) (hw _ (List.mem_of_getElem? (i := 43) rfl)) (by decide) pd_17 rfl rfl rfl (Nat.le_of_ble_eq_true rfl) (Nat.le_of_ble_eq_true rfl) (Nat.le_of_ble_eq_true rfl) (Nat.le_of_ble_eq_true rfl) (fun _ q => nomatch q) ?_
      intro v vm3 h3 hQ hsz3 hSf3 hFr
      obtain ⟨rfl, rfl⟩ := hQ
      simp only [Option.toList_some, List.cons_append, List.nil_append]
      refine R_iload C lw_215 rfl ?_
      refine R_iconst C lw_217 (v := 1) rfl ?_
      refine R_icmp C lw_218 (fun _ => ?_) (fun _ => ?_)
      · refine R_iload C lw_225 rfl ?_
        refine R_iconst C lw_227 (v := 2) rfl ?_
        refine R_icmp C lw_228 (fun _ => ?_) (fun _ => ?_)
        · refine R_iconst C lw_235 (v := 0) rfl ?_
          refine R_iadd C lw_236 ?_
          refine R_istore C lw_237 rfl ?_
          simp only [fv0, fv1, fv2, fv3, List.set_cons_zero, List.set_cons_succ]
          have q := Jvm.Kit.i32_add (p := n.toInt32) (q := 0) (by omega) (by omega)
          exact edit _ _ _ _ _ _ n _ _ _ (Nat.le_of_ble_eq_true rfl) (Nat.le_of_ble_eq_true rfl) (by omega) (by omega) rfl rfl B2
        · refine R_iconst C lw_231 (v := 1) rfl ?_
          refine R_goto C lw_232 ?_
          refine R_iadd C lw_236 ?_
          refine R_istore C lw_237 rfl ?_
          simp only [fv0, fv1, fv2, fv3, List.set_cons_zero, List.set_cons_succ]
          have q := Jvm.Kit.i32_add (p := n.toInt32) (q := 1) (by omega) (by omega)
          exact edit _ _ _ _ _ _ (n + 1) _ _ _ (Nat.le_of_ble_eq_true rfl) (Nat.le_of_ble_eq_true rfl) (by omega) (by omega) rfl rfl B2
      · refine R_iconst C lw_221 (v := (-1)) rfl ?_
        refine R_goto C lw_222 ?_
        refine R_iadd C lw_236 ?_
        refine R_istore C lw_237 rfl ?_
        simp only [fv0, fv1, fv2, fv3, List.set_cons_zero, List.set_cons_succ]
        have q := Jvm.Kit.i32_add (p := n.toInt32) (q := -1) (by omega) (by omega)
        exact edit _ _ _ _ _ _ (n - 1) _ _ _ (Nat.le_of_ble_eq_true rfl) (Nat.le_of_ble_eq_true rfl) (by omega) (by omega) rfl rfl B2
    refine R_iload C lw_171 rfl ?_
    refine R_if C lw_173 (fun _ => ?_) (fun _ => ?_)
    · refine R_iload C lw_181 rfl ?_
      refine R_iconst C lw_183 (v := 1) rfl ?_
      refine R_icmp C lw_184 (fun _ => ?_) (fun _ => ?_)
      · refine R_ldcK C 36 lw_192 (fun z => z) (hw _ (List.mem_of_getElem? (i := 84) rfl)) (wS_1 hw) (List.mem_of_getElem? (i := 2) rfl) (vs := [.int 83, .int 101, .int 114, .int 118, .int 101, .int 114, .int 65, .int 112, .int 112]) (z := 9) litSt rfl (by decide) (by decide) (Nat.le_of_ble_eq_true rfl) (Nat.le_of_ble_eq_true rfl) ?_
        intro la lb vml hl El Xl Cl Vl Al Sfl Nel
        have Yl : StrL Z hl la lb 9 gS := ⟨Xl, Vl, Cl, Al.cg litS, gS_ok⟩
        exact base _ _ _ _ 9 gS la lb _ (Nat.le_of_ble_eq_true rfl) (Nat.le_of_ble_eq_true rfl) Yl (Or.inr rfl) ⟨B11.1.ext El, B11.2⟩
      · refine R_ldcK C 36 lw_187 (fun z => z) (hw _ (List.mem_of_getElem? (i := 83) rfl)) (wS_1 hw) (List.mem_of_getElem? (i := 1) rfl) (vs := [.int 78, .int 97, .int 116, .int 105, .int 118, .int 101, .int 65, .int 112, .int 112]) (z := 9) litNt rfl (by decide) (by decide) (Nat.le_of_ble_eq_true rfl) (Nat.le_of_ble_eq_true rfl) ?_
        intro la lb vml hl El Xl Cl Vl Al Sfl Nel
        have Yl : StrL Z hl la lb 9 gN := ⟨Xl, Vl, Cl, Al.cg litN, gN_ok⟩
        refine R_goto C lw_189 ?_
        exact base _ _ _ _ 9 gN la lb _ (Nat.le_of_ble_eq_true rfl) (Nat.le_of_ble_eq_true rfl) Yl (Or.inr rfl) ⟨B11.1.ext El, B11.2⟩
    · refine R_ldcK C 24 lw_176 (fun z => z) (hw _ (List.mem_of_getElem? (i := 2) rfl)) (wS_1 hw) (List.mem_of_getElem? (i := 0) rfl) (vs := [.int 87, .int 101, .int 98, .int 65, .int 112, .int 112]) (z := 6) litWt rfl (by decide) (by decide) (Nat.le_of_ble_eq_true rfl) (Nat.le_of_ble_eq_true rfl) ?_
      intro la lb vml hl El Xl Cl Vl Al Sfl Nel
      have Yl : StrL Z hl la lb 6 gW := ⟨Xl, Vl, Cl, Al.cg litW, gW_ok⟩
      refine R_goto C lw_178 ?_
      exact base _ _ _ _ 6 gW la lb _ (Nat.le_of_ble_eq_true rfl) (Nat.le_of_ble_eq_true rfl) Yl (Or.inl rfl) ⟨B11.1.ext El, B11.2⟩
  · have q1 : (XT.ushr x0 2 &&& 2147483647).toInt = _ := i32_mask (XT.ushr x0 2) 2147483647 (k := 31) (by decide) (by decide)
    have q2 := i32_rem_nonneg (x := XT.ushr x0 2 &&& 2147483647) (y := 11) (by omega)
    rw [show (11 : Int32).toInt = 11 from rfl] at q2
    refine R_iload_n C lw_157 rfl ?_
    refine R_iconst C lw_158 (v := 2) rfl ?_
    refine R_iushr C lw_159 ?_
    refine R_ldcInt C lw_160 (hw _ (List.mem_of_getElem? (i := 49) rfl)) ?_
    refine R_iand C lw_162 ?_
    refine R_bipush C lw_163 (v := 11) rfl ?_
    refine R_irem C lw_165 (by decide) ?_
    refine R_istore C lw_166 rfl ?_
    simp only [fv0, fv1, fv2, fv3, List.set_cons_zero, List.set_cons_succ]
    refine R_goto C lw_168 ?_
    exact edit _ _ _ _ _ _ ((XT.ushr x0 2 &&& 2147483647) % 11).toInt.toNat _ _ _ (Nat.le_of_ble_eq_true rfl) (Nat.le_of_ble_eq_true rfl) (by omega) (by omega) rfl rfl B11
theorem ref_eq {args : Array Value} {Z : State} {t u : Term} {a : Addr} (q : (Cond.eq t u).value args Z none Z [] = some true) (e : u.eval args Z none [] Z = some (.ref a)) : t.eval args Z none [] Z = some (.ref a) := by
  simp only [Cond.value, e] at q
  cases ht : t.eval args Z none [] Z with
  | none => simp [ht] at q
  | some x => cases x <;> simp [ht] at q ⊢ <;> exact q
theorem strAt {args : Array Value} {Z : State} (hf : Fit Z) {t : Term} {a : Addr} {w : Int32} {n : Nat} {g : Nat → Int32} (ev : t.eval args Z none [] Z = some (.ref a)) (x1 : (Cond.exactly t STR).value args Z none Z [] = some true)
    (x2 : (Cond.eq (.field t STR "coder" "B") (.int 0)).value args Z none Z [] = some true) (x3 : (Cond.arrayOf (.field t STR "value" "[B") .byte).value args Z none Z [] = some true)
    (x4 : (Cond.eq (.length (.field t STR "value" "[B")) (.int w)).value args Z none Z [] = some true) (hw : w.toInt = n) (hg : ∀ i, i < n → 0 ≤ (g i).toInt ∧ (g i).toInt ≤ 255)
    (hb : ∀ (b : Addr) (cl : Cell), (Term.field t STR "value" "[B").eval args Z none [] Z = some (.ref b) → Arr Z Z.heap b cl .byte → ∀ i, i < n → cl.slots.getD i .null = by8 (g i)) : ∃ b, StrL Z Z.heap a b n g := by
  obtain ⟨b, e3⟩ := arr_v x3
  obtain ⟨cl, Ar, A⟩ := AR.start hf e3 x3 x4 hw
  refine ⟨b, Exa.start ev x1, Fld.start ((fld_at ev).symm.trans e3), Fld.start ((fld_at ev).symm.trans (int_lit x2)), A.cg fun i hi => hb b cl e3 Ar i hi, hg⟩
set_option maxRecDepth 65536 in
theorem comes_1 {Post : Tables → Env → Array Value → State → Outcome → State → Prop} (hpost : ∀ tb e args s v u, (limb_1_1.after args s (.returned v) u = true ∧ limb_1_2.after args s (.returned v) u = true ∧ True) → ReturnedEndW s (.returned v) u (Jvm.fieldLocs frame_1_writes args s ++ Jvm.arrayLocs frame_1_arrays args s ++ Jvm.staticLocs frame_1_statics s) 32 4288 → Post tb e args s (.returned v) u) :
    ArmFor flags0 classFile x code maxLocals ret World_1 tables_1 room_1 Calls_1 rest_1 Pre_1 Post := by
  intro l hfl _ _ p e ha hc hk s m args below hf hA hF happ hP
  obtain ⟨hcalls, hrest, hpre⟩ := hP
  obtain ⟨-, -, -, hnamed, -, -, -, hat⟩ := (Spec.applies_iff hf).mp happ
  obtain ⟨hg, hn⟩ := and_e (Cond.before_iff.mp (show (Jvm.Cond.and given_1 narrow_1).before args s = true from hpre))
  obtain ⟨h1, h2⟩ := and_e hg
  obtain ⟨g0, h2⟩ := and_e h2
  obtain ⟨g1, h2⟩ := and_e h2
  obtain ⟨g2, g3⟩ := and_e h2
  obtain ⟨w0, w1, w2, w3, rfl⟩ : ∃ w0 w1 w2 w3 : Value, args = #[w0, w1, w2, w3] := by
    have hs : args.size = 4 := by simpa [Cond.value, given_1] using h1
    obtain ⟨L⟩ := args
    match L, hs with
    | [w0, w1, w2, w3], _ => exact ⟨w0, w1, w2, w3, rfl⟩
  have hw := fun d (hd : d ∈ tables_1) => atoms_spec (ws := Jvm.Cond.code x code maxLocals ret :: tables_1) hat d (List.mem_cons_of_mem _ hd)
  have hfit : Fit s := fun {y c} hc i hi => by
    obtain ⟨ha, rfl⟩ := Array.getElem?_eq_some_iff.mp hc
    have q := List.all_eq_true.mp ((Array.all_eq_true_iff_forall_mem.mp hF) _ (Array.getElem_mem ha)) i (List.mem_range.mpr hi)
    simpa [Array.getElem?_eq_getElem hi] using q
  obtain ⟨i0, e0⟩ := is_v g0
  obtain rfl : w0 = (.int i0) := Option.some.inj e0
  obtain ⟨i1, e1⟩ := is_v g1
  obtain rfl : w1 = (.int i1) := Option.some.inj e1
  obtain ⟨i2, e2⟩ := isL_v g2
  obtain rfl : w2 = (.long i2) := Option.some.inj e2
  obtain ⟨i3, e3⟩ := isL_v g3
  obtain rfl : w3 = (.long i3) := Option.some.inj e3
  obtain ⟨hsets, hown0⟩ := atoms_of _ (rest_1_c_eq ▸ (show rest_1_c.before _ s = true from hrest))
  have m3 := not_v (Cond.before_iff.mp (hsets _ (List.mem_of_getElem? (i := 2) rfl)))
  obtain ⟨cs, c1⟩ := is_v (Cond.before_iff.mp (hsets _ (List.mem_of_getElem? (i := 1) rfl)))
  have S8 : Sta s s.heap STR "COMPACT_STRINGS" "Z" (.int cs) := Sta.start c1 (Or.inl (hsets _ (List.mem_of_getElem? (i := 0) rfl)))
  obtain ⟨fm, c2, c3⟩ := isR_v (Cond.before_iff.mp (hsets _ (List.mem_of_getElem? (i := 8) rfl)))
  have S12 : Sta s s.heap PRE "SIOOBE_FORMATTER" BIF fm := Sta.start c2 (Or.inl (hsets _ (List.mem_of_getElem? (i := 7) rfl)))
  have SC : SS s cs fm := ⟨gotF (Cond.eq_ints c1 (Term.int_eval (0))) m3, S8, c3, S12⟩
  obtain ⟨n0, hn⟩ := and_e hn
  obtain ⟨n1, hn⟩ := and_e hn
  obtain ⟨n2, hn⟩ := and_e hn
  obtain ⟨n3, hn⟩ := and_e hn
  obtain ⟨n4, hn⟩ := and_e hn
  obtain ⟨n5, hn⟩ := and_e hn
  obtain ⟨n6, hn⟩ := and_e hn
  obtain ⟨n7, hn⟩ := and_e hn
  obtain ⟨n8, hn⟩ := and_e hn
  obtain ⟨n9, hn⟩ := and_e hn
  obtain ⟨n10, hn⟩ := and_e hn
  obtain ⟨n11, hn⟩ := and_e hn
  obtain ⟨n12, hn⟩ := and_e hn
  obtain ⟨n13, hn⟩ := and_e hn
  obtain ⟨n14, hn⟩ := and_e hn
  obtain ⟨n15, hn⟩ := and_e hn
  obtain ⟨n16, hn⟩ := and_e hn
  obtain ⟨n17, hn⟩ := and_e hn
  obtain ⟨n18, hn⟩ := and_e hn
  obtain ⟨n19, hn⟩ := and_e hn
  obtain ⟨n20, hn⟩ := and_e hn
  obtain ⟨n21, hn⟩ := and_e hn
  obtain ⟨n22, hn⟩ := and_e hn
  obtain ⟨n23, hn⟩ := and_e hn
  obtain ⟨n24, hn⟩ := and_e hn
  obtain ⟨n25, hn⟩ := and_e hn
  obtain ⟨n26, hn⟩ := and_e hn
  obtain ⟨n27, hn⟩ := and_e hn
  obtain ⟨n28, hn⟩ := and_e hn
  obtain ⟨n29, hn⟩ := and_e hn
  obtain ⟨n30, hn⟩ := and_e hn
  obtain ⟨n31, hn⟩ := and_e hn
  obtain ⟨n32, hn⟩ := and_e hn
  obtain ⟨n33, hn⟩ := and_e hn
  obtain ⟨n34, hn⟩ := and_e hn
  obtain ⟨n35, hn⟩ := and_e hn
  obtain ⟨n36, hn⟩ := and_e hn
  obtain ⟨n37, hn⟩ := and_e hn
  obtain ⟨n38, hn⟩ := and_e hn
  obtain ⟨n39, hn⟩ := and_e hn
  obtain ⟨n40, hn⟩ := and_e hn
  obtain ⟨n41, hn⟩ := and_e hn
  obtain ⟨n42, hn⟩ := and_e hn
  obtain ⟨n43, n44⟩ := and_e hn
  obtain ⟨va, v0⟩ := arr_v n0
  obtain ⟨web, v1⟩ := exa_v n3
  obtain ⟨nat, v2⟩ := exa_v n5
  obtain ⟨srv, v3⟩ := exa_v n7
  obtain ⟨sw, v4⟩ := exa_v n9
  obtain ⟨sn, v5⟩ := exa_v n13
  obtain ⟨ss, v6⟩ := exa_v n17
  obtain ⟨bW, XW⟩ := strAt (g := gW) hfit v4 n9 n10 n11 n12 (n := 6) rfl gW_ok (by
    intro b cl eb Ar i hi
    match i, hi with
    | 0, _ => exact elem_lit eb Ar (k := 0) rfl n21
    | 1, _ => exact elem_lit eb Ar (k := 1) rfl n22
    | 2, _ => exact elem_lit eb Ar (k := 2) rfl n23
    | 3, _ => exact elem_lit eb Ar (k := 3) rfl n24
    | 4, _ => exact elem_lit eb Ar (k := 4) rfl n25
    | 5, _ => exact elem_lit eb Ar (k := 5) rfl n26
    | i + 6, hi => omega)
  obtain ⟨bN, XN⟩ := strAt (g := gN) hfit v5 n13 n14 n15 n16 (n := 9) rfl gN_ok (by
    intro b cl eb Ar i hi
    match i, hi with
    | 0, _ => exact elem_lit eb Ar (k := 0) rfl n27
    | 1, _ => exact elem_lit eb Ar (k := 1) rfl n28
    | 2, _ => exact elem_lit eb Ar (k := 2) rfl n29
    | 3, _ => exact elem_lit eb Ar (k := 3) rfl n30
    | 4, _ => exact elem_lit eb Ar (k := 4) rfl n31
    | 5, _ => exact elem_lit eb Ar (k := 5) rfl n32
    | 6, _ => exact elem_lit eb Ar (k := 6) rfl n33
    | 7, _ => exact elem_lit eb Ar (k := 7) rfl n34
    | 8, _ => exact elem_lit eb Ar (k := 8) rfl n35
    | i + 9, hi => omega)
  obtain ⟨bS, XS'⟩ := strAt (g := gS) hfit v6 n17 n18 n19 n20 (n := 9) rfl gS_ok (by
    intro b cl eb Ar i hi
    match i, hi with
    | 0, _ => exact elem_lit eb Ar (k := 0) rfl n36
    | 1, _ => exact elem_lit eb Ar (k := 1) rfl n37
    | 2, _ => exact elem_lit eb Ar (k := 2) rfl n38
    | 3, _ => exact elem_lit eb Ar (k := 3) rfl n39
    | 4, _ => exact elem_lit eb Ar (k := 4) rfl n40
    | 5, _ => exact elem_lit eb Ar (k := 5) rfl n41
    | 6, _ => exact elem_lit eb Ar (k := 6) rfl n42
    | 7, _ => exact elem_lit eb Ar (k := 7) rfl n43
    | 8, _ => exact elem_lit eb Ar (k := 8) rfl n44
    | i + 9, hi => omega)
  obtain ⟨cl, Ar, A⟩ := AR.start hfit v0 n0 n2 (N := 3) rfl
  obtain ⟨oe, o1⟩ := exa_v (Cond.before_iff.mp (hsets _ (List.mem_of_getElem? (i := 11) rfl)))
  have o2 := null_v (Cond.before_iff.mp (hsets _ (List.mem_of_getElem? (i := 12) rfl)))
  have D : Wd s va web nat srv sw sn ss bW bN bS oe := by
    refine ⟨Sta.start v0 (Or.inl (hw _ (List.mem_of_getElem? (i := 104) rfl))), Exa.start v0 n1, ⟨cl, Ar, FitC.start hfit Ar, ?_, ?_⟩, Sta.start v1 (Or.inr ⟨(hw _ (List.mem_of_getElem? (i := 87) rfl)), (hw _ (List.mem_of_getElem? (i := 101) rfl))⟩), Sta.start v2 (Or.inr ⟨(hw _ (List.mem_of_getElem? (i := 87) rfl)), (hw _ (List.mem_of_getElem? (i := 102) rfl))⟩), Sta.start v3 (Or.inr ⟨(hw _ (List.mem_of_getElem? (i := 87) rfl)), (hw _ (List.mem_of_getElem? (i := 103) rfl))⟩), Exa.start v1 n3, Exa.start v2 n5, Exa.start v3 n7, Fld.start ((fld_at v1).symm.trans v4), Fld.start ((fld_at v2).symm.trans v5), Fld.start ((fld_at v3).symm.trans v6), XW, XN, XS', Sta.start o1 (Or.inl (hsets _ (List.mem_of_getElem? (i := 10) rfl))), Exa.start o1 (Cond.before_iff.mp (hsets _ (List.mem_of_getElem? (i := 11) rfl))), Fld.start ((fld_at o1).symm.trans o2)⟩
    · obtain ⟨c2, A2, h2, -⟩ := A
      cases Ar.1.symm.trans A2.1
      exact h2
    · intro i hi
      match i, hi with
      | 0, _ => exact ⟨(elem_in (ref_eq n4 v1) v0 (Term.int_eval 0) Ar.1).2, rfl⟩
      | 1, _ => exact ⟨(elem_in (ref_eq n6 v2) v0 (Term.int_eval 1) Ar.1).2, rfl⟩
      | 2, _ => exact ⟨(elem_in (ref_eq n8 v3) v0 (Term.int_eval 2) Ar.1).2, rfl⟩
      | i + 3, hi => omega
  have hEL : EW s _ EL4 := EW.cons (hw _ (List.mem_of_getElem? (i := 2) rfl)) litWt.1 (EW.cons (hw _ (List.mem_of_getElem? (i := 83) rfl)) litNt.1 (EW.cons (hw _ (List.mem_of_getElem? (i := 84) rfl)) litSt.1 (EW.cons (hw _ (List.mem_of_getElem? (i := 139) rfl)) (by intro c hc; simp at hc) EW.nil)))
  have hCH : CHv s EL4 s.vm s.heap := CHv.start hEL (fun p hp => hcalls.1 p hp) (hsets _ (List.mem_of_getElem? (i := 2) rfl)) (hw _ (List.mem_of_getElem? (i := 5) rfl)) (hw _ (List.mem_of_getElem? (i := 4) rfl))
  obtain ⟨n, o, h1, h2, h3, v, L, rfl, hv, N, -, -, hR, hWm⟩ := met_law l s _ hw hEL cs fm SC D i0 i1 i2 i3 tables_1 p e ha hc hk s m _ below hf ((Spec.applies_iff_loose hf).mp happ).1 ⟨rfl, State.Warmed39.refl s, rfl, hCH, Ext.rfl', fun _ q => nomatch q⟩ trivial
  subst hv
  refine ⟨n, _, h1, h2, h3, hpost _ _ _ _ _ _ ⟨Cond.after_iff.mpr rfl, Cond.after_iff.mpr (eq_i res_at (Term.int_eval (1)) rfl), trivial⟩ ⟨hR.1, hR.2.1, hR.2.2.1, (hR.2.2.2.sift fun y hy => Or.inr (N y hy)).mono (by decide) (by decide)⟩⟩
theorem main_1_1 : Claimed_1_1 := comes_1 fun _ _ _ _ _ _ h hF => ⟨h.1, hF⟩
theorem main_1_2 : Claimed_1_2 := comes_1 fun _ _ _ _ _ _ h hF => ⟨h.2.1, hF⟩
end Jvm.Pilot.@@N@@
namespace Jvm.Pilot.@@N@@
open Jvm Jvm.ClassFile Sem Op Lib Jvm.Free Jvm.Stand Jvm.Pilot.@@N@@.Jvm.D
/-! MADE BY PROGRAM (witnessworld.py) out of the Statement's table words and the real class files: 24 classes; the members and pool entries that the words name. The judged class is class 1, her method 1. -/
namespace start1
open Jvm.ClassFile
def u (s : String) : CpInfo := .utf8 (stringToUtf16 s)
/-- a pool by its gaps: so many unusable entries, then the entry; so many at the end -/
def gap : Nat → List CpInfo → List CpInfo
  | 0, r => r
  | n + 1, r => .unusable :: gap n r
def poolList (es : List (Nat × CpInfo)) (last : Nat) : List CpInfo := es.foldr (fun e r => gap e.1 (e.2 :: r)) (gap last [])
def pool (es : List (Nat × CpInfo)) (last : Nat) : Array CpInfo := ⟨poolList es last⟩
def fileOf (pool : Array CpInfo) (this : Nat) (attrs : Array Attribute := #[]) (ms : Array MethodInfo := #[]) (fl : Nat := 33) (sup : Nat := 0) (ifs : Array Nat := #[]) (fds : Array FieldInfo := #[]) : ClassFile where
  minorVersion := 0
  majorVersion := 65
  constantPool := pool
  accessFlags := fl
  thisClass := this
  superClass := sup
  interfaces := ifs
  fields := fds
  methods := ms
  attributes := attrs
def plain (name : String) (sup : Option ClassId) : Class where
  name := name
  kind := .ordinary
  loader := none
  accessFlags := 33
  super := sup
  interfaces := #[]
  cf := none
  fields := #[]
  methods := #[]
  instanceTypes := #[]
  staticTypes := #[]
  resolved := #[]
  callSites := []
  init := .initialized
  statics := none
  mirror := none

def pool0 : Array CpInfo := pool [(5, u "<init>"), (0, u "()V"), (1, .class_ 10), (1, u "java/lang/Object"), (85, u "clone"), (0, u "()Ljava/lang/Object;")] 26

def k0c0 : Code := { maxStack := 0, maxLocals := 1, code := object_method_1_code, exceptionTable := #[], attributes := #[] }
def k0m0 : Method := { name := "<init>", desc := "()V", sig := { parameters := [], returnType := none }, accessFlags := 1, code := some k0c0 }
def k0m1 : Method := { name := "clone", desc := "()Ljava/lang/Object;", sig := { parameters := [], returnType := some (.object "java/lang/Object") }, accessFlags := 260, code := none }
/-- java/lang/Object -/
def k0 : Class := { plain "java/lang/Object" none with
  accessFlags := 33
  interfaces := #[]
  cf := some (fileOf pool0 8 #[] #[{ accessFlags := 1, nameIndex := 5, descriptorIndex := 6, attributes := #[] }, { accessFlags := 260, nameIndex := 96, descriptorIndex := 97, attributes := #[] }] 33 0 #[] #[])
  fields := #[]
  methods := #[k0m0, k0m1]
  instanceTypes := #[]
  staticTypes := #[]
  resolved := Array.replicate 124 none
  statics := none }

def pool1 : Array CpInfo := pool [(2, .class_ 4), (1, u "java/lang/Object"), (0, u "<init>"), (0, u "()V"), (0, .long 255), (1, .integer 2147483647), (0, .string 11), (0, u "WebApp"), (0, .string 13), (0, u "NativeApp"), (0, .string 15), (0, u "ServerApp"), (0, .methodref 17 18), (0, .class_ 19), (0, .nameAndType 20 21), (0, u "com/example/clientry/clientry/AppTypeNamedPinLaw"), (0, u "putName"), (0, u "([CLjava/lang/String;)V"), (0, .methodref 23 24), (0, .class_ 25), (0, .nameAndType 26 27), (0, u "java/lang/String"), (0, u "length"), (0, u "()I"), (0, .methodref 17 29), (0, .nameAndType 30 31), (0, u "str"), (0, u "([CI)Ljava/lang/String;"), (0, .methodref 23 33), (0, .nameAndType 34 35), (0, u "equals"), (0, u "(Ljava/lang/Object;)Z"), (0, .fieldref 37 38), (0, .class_ 39), (0, .nameAndType 40 41), (0, u "com/example/clientry/clientry/AppType"), (0, u "WEB_APP"), (0, u "Lcom/example/clientry/clientry/AppType;"), (0, .fieldref 37 43), (0, .nameAndType 44 41), (0, u "NATIVE_APP"), (0, .fieldref 37 46), (0, .nameAndType 47 41), (0, u "SERVER_APP"), (0, .methodref 37 49), (0, .nameAndType 50 51), (0, u "named"), (0, u "(Ljava/lang/String;)Ljava/util/Optional;"), (0, .methodref 53 54), (0, .class_ 55), (0, .nameAndType 56 57), (0, u "java/util/Optional"), (0, u "orElse"), (0, u "(Ljava/lang/Object;)Ljava/lang/Object;"), (0, .methodref 23 59), (0, .nameAndType 60 61), (0, u "charAt"), (0, u "(I)C"), (0, .string 63), (0, u ""), (0, .methodref 23 65), (0, .nameAndType 5 66), (0, u "([C)V"), (2, u "law"), (0, u "(IIJJ)Z")] 5

def k1m0 : Method := { name := "<init>", desc := "()V", sig := { parameters := [], returnType := none }, accessFlags := 1, code := none }
def k1c1 : Code := { maxStack := 6, maxLocals := 12, code := code, exceptionTable := #[], attributes := #[] }
def k1m1 : Method := { name := "law", desc := "(IIJJ)Z", sig := { parameters := [.int, .int, .long, .long], returnType := some .boolean }, accessFlags := 9, code := some k1c1 }
def k1c2 : Code := { maxStack := 4, maxLocals := 2, code := method_3_code, exceptionTable := #[], attributes := #[] }
def k1m2 : Method := { name := "putName", desc := "([CLjava/lang/String;)V", sig := { parameters := [(.array .char), (.object "java/lang/String")], returnType := none }, accessFlags := 10, code := some k1c2 }
def k1c3 : Code := { maxStack := 7, maxLocals := 2, code := method_4_code, exceptionTable := #[], attributes := #[] }
def k1m3 : Method := { name := "str", desc := "([CI)Ljava/lang/String;", sig := { parameters := [(.array .char), .int], returnType := some (.object "java/lang/String") }, accessFlags := 10, code := some k1c3 }
/-- com/example/clientry/clientry/AppTypeNamedPinLaw -/
def k1 : Class := { plain "com/example/clientry/clientry/AppTypeNamedPinLaw" (some 0) with
  accessFlags := 49
  interfaces := #[]
  cf := some (fileOf pool1 17 #[] #[{ accessFlags := 1, nameIndex := 5, descriptorIndex := 6, attributes := #[] }, { accessFlags := 9, nameIndex := 69, descriptorIndex := 70, attributes := #[] }, { accessFlags := 10, nameIndex := 20, descriptorIndex := 21, attributes := #[] }, { accessFlags := 10, nameIndex := 30, descriptorIndex := 31, attributes := #[] }] 49 2 #[] #[])
  fields := #[]
  methods := #[k1m0, k1m1, k1m2, k1m3]
  instanceTypes := #[]
  staticTypes := #[]
  resolved := Array.replicate 76 none
  statics := none }

def pool2 : Array CpInfo := pool [(1, .class_ 2), (0, u "java/io/Serializable"), (0, .class_ 4), (0, u "java/lang/Object")] 2

/-- java/io/Serializable -/
def k2 : Class := { plain "java/io/Serializable" (some 0) with
  accessFlags := 1537
  interfaces := #[]
  cf := some (fileOf pool2 1 #[] #[] 1537 3 #[] #[])
  fields := #[]
  methods := #[]
  instanceTypes := #[]
  staticTypes := #[]
  resolved := Array.replicate 7 none
  statics := none }

def pool3 : Array CpInfo := pool [(1, .class_ 2), (0, u "java/lang/Comparable"), (0, .class_ 4), (0, u "java/lang/Object")] 7

/-- java/lang/Comparable -/
def k3 : Class := { plain "java/lang/Comparable" (some 0) with
  accessFlags := 1537
  interfaces := #[]
  cf := some (fileOf pool3 1 #[] #[] 1537 3 #[] #[])
  fields := #[]
  methods := #[]
  instanceTypes := #[]
  staticTypes := #[]
  resolved := Array.replicate 12 none
  statics := none }

def pool4 : Array CpInfo := pool [(2, .class_ 4), (1, u "java/lang/CharSequence"), (42, .class_ 48), (0, u "java/lang/CharSequence$1CodePointIterator"), (10, .class_ 60), (0, u "java/lang/CharSequence$1CharIterator"), (5, .class_ 67), (0, u "java/lang/Object")] 63

/-- java/lang/CharSequence -/
def k4 : Class := { plain "java/lang/CharSequence" (some 0) with
  accessFlags := 1537
  interfaces := #[]
  cf := some (fileOf pool4 2 #[.nestMembers #[47, 59]] #[] 1537 66 #[] #[])
  fields := #[]
  methods := #[]
  instanceTypes := #[]
  staticTypes := #[]
  resolved := Array.replicate 131 none
  statics := none }

def pool5 : Array CpInfo := pool [(1, .class_ 2), (0, u "java/lang/constant/Constable"), (0, .class_ 4), (0, u "java/lang/Object")] 6

/-- java/lang/constant/Constable -/
def k5 : Class := { plain "java/lang/constant/Constable" (some 0) with
  accessFlags := 1537
  interfaces := #[]
  cf := some (fileOf pool5 1 #[] #[] 1537 3 #[] #[])
  fields := #[]
  methods := #[]
  instanceTypes := #[]
  staticTypes := #[]
  resolved := Array.replicate 11 none
  statics := none }

def pool6 : Array CpInfo := pool [(1, .class_ 2), (0, u "java/lang/constant/ConstantDesc"), (0, .class_ 4), (0, u "java/lang/Object")] 32

/-- java/lang/constant/ConstantDesc -/
def k6 : Class := { plain "java/lang/constant/ConstantDesc" (some 0) with
  accessFlags := 1537
  interfaces := #[]
  cf := some (fileOf pool6 1 #[] #[] 1537 3 #[] #[])
  fields := #[]
  methods := #[]
  instanceTypes := #[]
  staticTypes := #[]
  resolved := Array.replicate 37 none
  statics := none }

def pool7 : Array CpInfo := pool [(1, .methodref 2 3), (0, .class_ 4), (0, .nameAndType 5 6), (0, u "java/lang/Object"), (0, u "<init>"), (0, u "()V"), (2, .fieldref 10 11), (0, .class_ 12), (0, .nameAndType 13 14), (0, u "java/lang/String"), (0, u "value"), (0, u "[B"), (0, .fieldref 10 16), (0, .nameAndType 17 18), (0, u "coder"), (0, u "B"), (2, u "hash"), (0, u "I"), (2, u "hashIsZero"), (0, u "Z"), (0, .methodref 10 28), (0, .nameAndType 5 29), (0, u "([CIILjava/lang/Void;)V"), (8, .fieldref 10 39), (0, .nameAndType 40 26), (0, u "COMPACT_STRINGS"), (1, .class_ 44), (1, u "java/lang/StringUTF16"), (0, u "compress"), (1, .methodref 42 48), (0, .nameAndType 49 50), (0, u "coderFromArrayLen"), (0, u "([BI)B"), (56, .class_ 109), (1, u "java/lang/StringLatin1"), (32, u "()Z"), (34, .methodref 42 178), (0, .nameAndType 45 179), (0, u "([CII)[B"), (154, u "()I"), (0, .methodref 10 336), (0, .nameAndType 17 337), (0, u "()B"), (25, u "([BI)C"), (27, u "(II)V"), (35, u "(I)C"), (64, .methodref 10 493), (0, .nameAndType 494 142), (0, u "isLatin1"), (0, .methodref 107 496), (0, .nameAndType 497 363), (0, u "charAt"), (3, u "checkIndex"), (5, u "length"), (33, .methodref 107 542), (0, .nameAndType 543 544), (0, u "equals"), (0, u "([B[B)Z"), (28, u "(Ljava/lang/Object;)Z"), (1, .class_ 576), (0, u "java/lang/CharSequence"), (22, u "CASE_INSENSITIVE_ORDER"), (0, u "Ljava/util/Comparator;"), (409, u "([C)V"), (42, .fieldref 1054 1055), (0, .class_ 1056), (0, .nameAndType 1057 1058), (0, u "jdk/internal/util/Preconditions"), (0, u "SIOOBE_FORMATTER"), (0, u "Ljava/util/function/BiFunction;"), (0, .methodref 1054 1060), (0, .nameAndType 501 1061), (0, u "(IILjava/util/function/BiFunction;)I"), (39, u "serialPersistentFields"), (0, u "[Ljava/io/ObjectStreamField;"), (0, .class_ 1104), (0, u "java/lang/String$CaseInsensitiveComparator"), (1, .class_ 1107), (0, u "java/io/Serializable"), (0, .class_ 1109), (0, u "java/lang/Comparable"), (0, .class_ 1111), (0, u "java/lang/constant/Constable"), (0, .class_ 1113), (0, u "java/lang/constant/ConstantDesc"), (2, u "serialVersionUID"), (0, u "J"), (3, u "REPL"), (0, u "C"), (2, u "LATIN1"), (1, u "UTF16")] 323

def k7m0 : Method := { name := "<init>", desc := "()V", sig := { parameters := [], returnType := none }, accessFlags := 1, code := none }
def k7c1 : Code := { maxStack := 5, maxLocals := 2, code := jdk_42_method_3_code, exceptionTable := #[], attributes := #[] }
def k7m1 : Method := { name := "<init>", desc := "([C)V", sig := { parameters := [(.array .char)], returnType := none }, accessFlags := 1, code := some k7c1 }
def k7c2 : Code := { maxStack := 2, maxLocals := 1, code := jdk_42_method_54_code, exceptionTable := #[], attributes := #[] }
def k7m2 : Method := { name := "length", desc := "()I", sig := { parameters := [], returnType := some .int }, accessFlags := 1, code := some k7c2 }
def k7c3 : Code := { maxStack := 2, maxLocals := 2, code := jdk_42_method_56_code, exceptionTable := #[], attributes := #[] }
def k7m3 : Method := { name := "charAt", desc := "(I)C", sig := { parameters := [.int], returnType := some .char }, accessFlags := 1, code := some k7c3 }
def k7c4 : Code := { maxStack := 2, maxLocals := 3, code := jdk_42_method_66_code, exceptionTable := #[], attributes := #[] }
def k7m4 : Method := { name := "equals", desc := "(Ljava/lang/Object;)Z", sig := { parameters := [(.object "java/lang/Object")], returnType := some .boolean }, accessFlags := 1, code := some k7c4 }
def k7c5 : Code := { maxStack := 4, maxLocals := 6, code := jdk_42_method_149_code, exceptionTable := #[], attributes := #[] }
def k7m5 : Method := { name := "<init>", desc := "([CIILjava/lang/Void;)V", sig := { parameters := [(.array .char), .int, .int, (.object "java/lang/Void")], returnType := none }, accessFlags := 2, code := some k7c5 }
def k7c6 : Code := { maxStack := 1, maxLocals := 1, code := jdk_42_method_152_code, exceptionTable := #[], attributes := #[] }
def k7m6 : Method := { name := "coder", desc := "()B", sig := { parameters := [], returnType := some .byte }, accessFlags := 0, code := some k7c6 }
def k7c7 : Code := { maxStack := 1, maxLocals := 1, code := jdk_42_method_154_code, exceptionTable := #[], attributes := #[] }
def k7m7 : Method := { name := "isLatin1", desc := "()Z", sig := { parameters := [], returnType := some .boolean }, accessFlags := 0, code := some k7c7 }
def k7c8 : Code := { maxStack := 3, maxLocals := 2, code := jdk_42_method_155_code, exceptionTable := #[], attributes := #[] }
def k7m8 : Method := { name := "checkIndex", desc := "(II)V", sig := { parameters := [.int, .int], returnType := none }, accessFlags := 8, code := some k7c8 }
/-- java/lang/String -/
def k7 : Class := { plain "java/lang/String" (some 0) with
  accessFlags := 49
  interfaces := #[2, 3, 4, 5, 6]
  cf := some (fileOf pool7 10 #[.nestMembers #[1103]] #[{ accessFlags := 1, nameIndex := 5, descriptorIndex := 6, attributes := #[] }, { accessFlags := 1, nameIndex := 5, descriptorIndex := 1010, attributes := #[] }, { accessFlags := 1, nameIndex := 507, descriptorIndex := 334, attributes := #[] }, { accessFlags := 1, nameIndex := 497, descriptorIndex := 427, attributes := #[] }, { accessFlags := 1, nameIndex := 543, descriptorIndex := 573, attributes := #[] }, { accessFlags := 2, nameIndex := 5, descriptorIndex := 29, attributes := #[] }, { accessFlags := 0, nameIndex := 17, descriptorIndex := 337, attributes := #[] }, { accessFlags := 0, nameIndex := 494, descriptorIndex := 142, attributes := #[] }, { accessFlags := 8, nameIndex := 501, descriptorIndex := 391, attributes := #[] }] 49 2 #[1106, 1108, 575, 1110, 1112] #[{ accessFlags := 18, nameIndex := 13, descriptorIndex := 14, attributes := #[] }, { accessFlags := 18, nameIndex := 17, descriptorIndex := 18, attributes := #[] }, { accessFlags := 2, nameIndex := 21, descriptorIndex := 22, attributes := #[] }, { accessFlags := 2, nameIndex := 25, descriptorIndex := 26, attributes := #[] }, { accessFlags := 26, nameIndex := 1116, descriptorIndex := 1117, attributes := #[] }, { accessFlags := 24, nameIndex := 40, descriptorIndex := 26, attributes := #[] }, { accessFlags := 26, nameIndex := 1101, descriptorIndex := 1102, attributes := #[] }, { accessFlags := 26, nameIndex := 1121, descriptorIndex := 1122, attributes := #[] }, { accessFlags := 25, nameIndex := 599, descriptorIndex := 600, attributes := #[] }, { accessFlags := 24, nameIndex := 1125, descriptorIndex := 18, attributes := #[] }, { accessFlags := 24, nameIndex := 1127, descriptorIndex := 18, attributes := #[] }])
  fields := #[{ name := "value", type := (.array .byte), accessFlags := 18, slot := 0, constantValue := 0 }, { name := "coder", type := .byte, accessFlags := 18, slot := 1, constantValue := 0 }, { name := "hash", type := .int, accessFlags := 2, slot := 2, constantValue := 0 }, { name := "hashIsZero", type := .boolean, accessFlags := 2, slot := 3, constantValue := 0 }, { name := "serialVersionUID", type := .long, accessFlags := 26, slot := 0, constantValue := 0 }, { name := "COMPACT_STRINGS", type := .boolean, accessFlags := 24, slot := 1, constantValue := 0 }, { name := "serialPersistentFields", type := (.array (.object "java/io/ObjectStreamField")), accessFlags := 26, slot := 2, constantValue := 0 }, { name := "REPL", type := .char, accessFlags := 26, slot := 3, constantValue := 0 }, { name := "CASE_INSENSITIVE_ORDER", type := (.object "java/util/Comparator"), accessFlags := 25, slot := 4, constantValue := 0 }, { name := "LATIN1", type := .byte, accessFlags := 24, slot := 5, constantValue := 0 }, { name := "UTF16", type := .byte, accessFlags := 24, slot := 6, constantValue := 0 }]
  methods := #[k7m0, k7m1, k7m2, k7m3, k7m4, k7m5, k7m6, k7m7, k7m8]
  instanceTypes := #[(.array .byte), .byte, .int, .boolean]
  staticTypes := #[.long, .boolean, (.array (.object "java/io/ObjectStreamField")), .char, (.object "java/util/Comparator"), .byte, .byte]
  resolved := Array.replicate 1451 none
  statics := some 0 }

def pool8 : Array CpInfo := pool [(1, .class_ 2), (0, u "java/lang/String"), (1, .class_ 6), (1, u "java/lang/Object"), (0, u "<init>"), (0, u "()V"), (0, .methodref 1 10), (0, .nameAndType 11 12), (0, u "checkIndex"), (0, u "(II)V"), (1, .class_ 16), (1, u "java/lang/StringLatin1"), (36, u "([BI)C"), (67, u "$assertionsDisabled"), (0, u "Z"), (98, .class_ 223), (1, u "java/lang/StringLatin1$LinesSpliterator"), (28, u "charAt"), (28, u "equals"), (0, u "([B[B)Z"), (107, .class_ 391), (0, u "java/lang/StringLatin1$CharsSpliterator")] 3

def k8m0 : Method := { name := "<init>", desc := "()V", sig := { parameters := [], returnType := none }, accessFlags := 0, code := none }
def k8c1 : Code := { maxStack := 2, maxLocals := 2, code := jdk_43_method_2_code, exceptionTable := #[], attributes := #[] }
def k8m1 : Method := { name := "charAt", desc := "([BI)C", sig := { parameters := [(.array .byte), .int], returnType := some .char }, accessFlags := 9, code := some k8c1 }
def k8c2 : Code := { maxStack := 3, maxLocals := 3, code := jdk_43_method_13_code, exceptionTable := #[], attributes := #[] }
def k8m2 : Method := { name := "equals", desc := "([B[B)Z", sig := { parameters := [(.array .byte), (.array .byte)], returnType := some .boolean }, accessFlags := 9, code := some k8c2 }
/-- java/lang/StringLatin1 -/
def k8 : Class := { plain "java/lang/StringLatin1" (some 0) with
  accessFlags := 48
  interfaces := #[]
  cf := some (fileOf pool8 14 #[.nestMembers #[390, 221]] #[{ accessFlags := 0, nameIndex := 7, descriptorIndex := 8, attributes := #[] }, { accessFlags := 9, nameIndex := 252, descriptorIndex := 53, attributes := #[] }, { accessFlags := 9, nameIndex := 281, descriptorIndex := 282, attributes := #[] }] 48 4 #[] #[{ accessFlags := 4120, nameIndex := 121, descriptorIndex := 122, attributes := #[] }])
  fields := #[{ name := "$assertionsDisabled", type := .boolean, accessFlags := 4120, slot := 0, constantValue := 0 }]
  methods := #[k8m0, k8m1, k8m2]
  instanceTypes := #[]
  staticTypes := #[.boolean]
  resolved := Array.replicate 395 none
  statics := none }

def pool9 : Array CpInfo := pool [(2, .class_ 4), (1, u "java/lang/Object"), (0, u "<init>"), (0, u "()V"), (17, .class_ 26), (1, u "jdk/internal/util/Preconditions"), (6, u "checkIndex"), (21, .class_ 56), (0, u "jdk/internal/util/Preconditions$4"), (57, .class_ 115), (0, u "jdk/internal/util/Preconditions$1"), (7, u "SIOOBE_FORMATTER"), (0, u "Ljava/util/function/BiFunction;"), (0, .class_ 126), (0, u "jdk/internal/util/Preconditions$2"), (3, u "AIOOBE_FORMATTER"), (0, .class_ 132), (0, u "jdk/internal/util/Preconditions$3"), (3, u "IOOBE_FORMATTER"), (41, u "(IILjava/util/function/BiFunction;)I")] 15

def k9m0 : Method := { name := "<init>", desc := "()V", sig := { parameters := [], returnType := none }, accessFlags := 1, code := none }
def k9c1 : Code := { maxStack := 3, maxLocals := 3, code := jdk_41_method_11_code, exceptionTable := #[], attributes := #[] }
def k9m1 : Method := { name := "checkIndex", desc := "(IILjava/util/function/BiFunction;)I", sig := { parameters := [.int, .int, (.object "java/util/function/BiFunction")], returnType := some .int }, accessFlags := 9, code := some k9c1 }
/-- jdk/internal/util/Preconditions -/
def k9 : Class := { plain "jdk/internal/util/Preconditions" (some 0) with
  accessFlags := 33
  interfaces := #[]
  cf := some (fileOf pool9 24 #[.nestMembers #[55, 131, 125, 114]] #[{ accessFlags := 1, nameIndex := 5, descriptorIndex := 6, attributes := #[] }, { accessFlags := 9, nameIndex := 33, descriptorIndex := 178, attributes := #[] }] 33 2 #[] #[{ accessFlags := 25, nameIndex := 123, descriptorIndex := 124, attributes := #[] }, { accessFlags := 25, nameIndex := 130, descriptorIndex := 124, attributes := #[] }, { accessFlags := 25, nameIndex := 136, descriptorIndex := 124, attributes := #[] }])
  fields := #[{ name := "SIOOBE_FORMATTER", type := (.object "java/util/function/BiFunction"), accessFlags := 25, slot := 0, constantValue := 0 }, { name := "AIOOBE_FORMATTER", type := (.object "java/util/function/BiFunction"), accessFlags := 25, slot := 1, constantValue := 0 }, { name := "IOOBE_FORMATTER", type := (.object "java/util/function/BiFunction"), accessFlags := 25, slot := 2, constantValue := 0 }]
  methods := #[k9m0, k9m1]
  instanceTypes := #[]
  staticTypes := #[(.object "java/util/function/BiFunction"), (.object "java/util/function/BiFunction"), (.object "java/util/function/BiFunction")]
  resolved := Array.replicate 194 none
  statics := some 1 }

def pool10 : Array CpInfo := pool [(6, .class_ 8), (1, u "java/lang/Object"), (0, u "<init>"), (0, u "()V"), (1, .class_ 14), (1, u "java/lang/StringUTF16"), (31, u "$assertionsDisabled"), (0, u "Z"), (13, u "HI_BYTE_SHIFT"), (0, u "I"), (2, u "LO_BYTE_SHIFT"), (49, .methodref 12 116), (0, .nameAndType 117 118), (0, u "compress"), (0, u "([CI[BII)I"), (3, u "([CII)[B"), (138, u "coderFromArrayLen"), (0, u "([BI)B"), (106, .class_ 371), (1, u "java/lang/StringUTF16$LinesSpliterator"), (58, u "MAX_LENGTH"), (196, .class_ 628), (0, u "java/lang/StringUTF16$CodePointsSpliterator"), (0, .class_ 630), (0, u "java/lang/StringUTF16$CharsSpliterator")] 4

def k10m0 : Method := { name := "<init>", desc := "()V", sig := { parameters := [], returnType := none }, accessFlags := 0, code := none }
def k10c1 : Code := { maxStack := 2, maxLocals := 2, code := jdk_52_method_15_code, exceptionTable := #[], attributes := #[] }
def k10m1 : Method := { name := "coderFromArrayLen", desc := "([BI)B", sig := { parameters := [(.array .byte), .int], returnType := some .byte }, accessFlags := 8, code := some k10c1 }
def k10c2 : Code := { maxStack := 5, maxLocals := 6, code := jdk_52_method_16_code, exceptionTable := #[], attributes := #[] }
def k10m2 : Method := { name := "compress", desc := "([CII)[B", sig := { parameters := [(.array .char), .int, .int], returnType := some (.array .byte) }, accessFlags := 9, code := some k10c2 }
def k10c3 : Code := { maxStack := 3, maxLocals := 7, code := jdk_52_method_21_code, exceptionTable := #[], attributes := #[] }
def k10m3 : Method := { name := "compress", desc := "([CI[BII)I", sig := { parameters := [(.array .char), .int, (.array .byte), .int, .int], returnType := some .int }, accessFlags := 9, code := some k10c3 }
/-- java/lang/StringUTF16 -/
def k10 : Class := { plain "java/lang/StringUTF16" (some 0) with
  accessFlags := 48
  interfaces := #[]
  cf := some (fileOf pool10 12 #[.nestMembers #[627, 629, 369]] #[{ accessFlags := 0, nameIndex := 9, descriptorIndex := 10, attributes := #[] }, { accessFlags := 8, nameIndex := 261, descriptorIndex := 262, attributes := #[] }, { accessFlags := 9, nameIndex := 117, descriptorIndex := 122, attributes := #[] }, { accessFlags := 9, nameIndex := 117, descriptorIndex := 118, attributes := #[] }] 48 6 #[] #[{ accessFlags := 26, nameIndex := 61, descriptorIndex := 62, attributes := #[] }, { accessFlags := 26, nameIndex := 65, descriptorIndex := 62, attributes := #[] }, { accessFlags := 24, nameIndex := 430, descriptorIndex := 62, attributes := #[] }, { accessFlags := 4120, nameIndex := 46, descriptorIndex := 47, attributes := #[] }])
  fields := #[{ name := "HI_BYTE_SHIFT", type := .int, accessFlags := 26, slot := 0, constantValue := 0 }, { name := "LO_BYTE_SHIFT", type := .int, accessFlags := 26, slot := 1, constantValue := 0 }, { name := "MAX_LENGTH", type := .int, accessFlags := 24, slot := 2, constantValue := 0 }, { name := "$assertionsDisabled", type := .boolean, accessFlags := 4120, slot := 3, constantValue := 0 }]
  methods := #[k10m0, k10m1, k10m2, k10m3]
  instanceTypes := #[]
  staticTypes := #[.int, .int, .int, .boolean]
  resolved := Array.replicate 635 none
  statics := none }

def pool11 : Array CpInfo := pool [(2, .class_ 4), (1, u "java/lang/Enum"), (0, u "name"), (0, u "Ljava/lang/String;"), (2, u "ordinal"), (0, u "I"), (1, .class_ 14), (1, u "java/lang/Object"), (4, u "hash"), (86, .class_ 108), (1, u "java/lang/Enum$EnumDesc"), (2, .class_ 112), (0, u "java/lang/constant/Constable"), (0, .class_ 114), (0, u "java/lang/Comparable"), (0, .class_ 116), (0, u "java/io/Serializable")] 87

/-- java/lang/Enum -/
def k11 : Class := { plain "java/lang/Enum" (some 0) with
  accessFlags := 1057
  interfaces := #[5, 3, 2]
  cf := some (fileOf pool11 2 #[.nestMembers #[106]] #[] 1057 12 #[111, 113, 115] #[{ accessFlags := 18, nameIndex := 5, descriptorIndex := 6, attributes := #[] }, { accessFlags := 18, nameIndex := 9, descriptorIndex := 10, attributes := #[] }, { accessFlags := 2, nameIndex := 19, descriptorIndex := 10, attributes := #[] }])
  fields := #[{ name := "name", type := (.object "java/lang/String"), accessFlags := 18, slot := 0, constantValue := 0 }, { name := "ordinal", type := .int, accessFlags := 18, slot := 1, constantValue := 0 }, { name := "hash", type := .int, accessFlags := 2, slot := 2, constantValue := 0 }]
  methods := #[]
  instanceTypes := #[(.object "java/lang/String"), .int, .int]
  staticTypes := #[]
  resolved := Array.replicate 204 none
  statics := none }

def pool12 : Array CpInfo := pool [(1, .class_ 2), (0, u "com/example/clientry/clientry/AppType"), (2, u "WEB_APP"), (0, u "Lcom/example/clientry/clientry/AppType;"), (2, u "NATIVE_APP"), (2, u "SERVER_APP"), (0, .fieldref 1 14), (0, .nameAndType 15 16), (0, u "$VALUES"), (0, u "[Lcom/example/clientry/clientry/AppType;"), (0, .methodref 18 19), (0, .class_ 16), (0, .nameAndType 20 21), (0, u "clone"), (0, u "()Ljava/lang/Object;"), (1, .class_ 25), (1, u "java/lang/Enum"), (6, .fieldref 1 33), (0, .nameAndType 34 35), (0, u "apiName"), (0, u "Ljava/lang/String;"), (2, u "confidential"), (0, u "Z"), (2, u "multiTenantByDefault"), (2, u "defaultRefreshTokenValidity"), (0, u "I"), (0, .methodref 1 48), (0, .nameAndType 49 50), (0, u "values"), (0, u "()[Lcom/example/clientry/clientry/AppType;"), (0, .methodref 52 53), (0, .class_ 54), (0, .nameAndType 55 56), (0, u "java/lang/String"), (0, u "equals"), (0, u "(Ljava/lang/Object;)Z"), (0, .methodref 58 59), (0, .class_ 60), (0, .nameAndType 61 62), (0, u "java/util/Optional"), (0, u "of"), (0, u "(Ljava/lang/Object;)Ljava/util/Optional;"), (0, .methodref 58 64), (0, .nameAndType 65 66), (0, u "empty"), (0, u "()Ljava/util/Optional;"), (51, u "named"), (0, u "(Ljava/lang/String;)Ljava/util/Optional;")] 34

def k12c0 : Code := { maxStack := 1, maxLocals := 0, code := prog_9_method_1_code, exceptionTable := #[], attributes := #[] }
def k12m0 : Method := { name := "values", desc := "()[Lcom/example/clientry/clientry/AppType;", sig := { parameters := [], returnType := some (.array (.object "com/example/clientry/clientry/AppType")) }, accessFlags := 9, code := some k12c0 }
def k12c1 : Code := { maxStack := 2, maxLocals := 5, code := prog_9_method_4_code, exceptionTable := #[], attributes := #[] }
def k12m1 : Method := { name := "named", desc := "(Ljava/lang/String;)Ljava/util/Optional;", sig := { parameters := [(.object "java/lang/String")], returnType := some (.object "java/util/Optional") }, accessFlags := 8, code := some k12c1 }
/-- com/example/clientry/clientry/AppType -/
def k12 : Class := { plain "com/example/clientry/clientry/AppType" (some 11) with
  accessFlags := 16432
  interfaces := #[]
  cf := some (fileOf pool12 1 #[] #[{ accessFlags := 9, nameIndex := 49, descriptorIndex := 50, attributes := #[] }, { accessFlags := 8, nameIndex := 118, descriptorIndex := 119, attributes := #[] }] 16432 23 #[] #[{ accessFlags := 16409, nameIndex := 5, descriptorIndex := 6, attributes := #[] }, { accessFlags := 16409, nameIndex := 9, descriptorIndex := 6, attributes := #[] }, { accessFlags := 16409, nameIndex := 12, descriptorIndex := 6, attributes := #[] }, { accessFlags := 18, nameIndex := 34, descriptorIndex := 35, attributes := #[] }, { accessFlags := 18, nameIndex := 38, descriptorIndex := 39, attributes := #[] }, { accessFlags := 18, nameIndex := 42, descriptorIndex := 39, attributes := #[] }, { accessFlags := 18, nameIndex := 45, descriptorIndex := 46, attributes := #[] }, { accessFlags := 4122, nameIndex := 15, descriptorIndex := 16, attributes := #[] }])
  fields := #[{ name := "WEB_APP", type := (.object "com/example/clientry/clientry/AppType"), accessFlags := 16409, slot := 0, constantValue := 0 }, { name := "NATIVE_APP", type := (.object "com/example/clientry/clientry/AppType"), accessFlags := 16409, slot := 1, constantValue := 0 }, { name := "SERVER_APP", type := (.object "com/example/clientry/clientry/AppType"), accessFlags := 16409, slot := 2, constantValue := 0 }, { name := "apiName", type := (.object "java/lang/String"), accessFlags := 18, slot := 3, constantValue := 0 }, { name := "confidential", type := .boolean, accessFlags := 18, slot := 4, constantValue := 0 }, { name := "multiTenantByDefault", type := .boolean, accessFlags := 18, slot := 5, constantValue := 0 }, { name := "defaultRefreshTokenValidity", type := .int, accessFlags := 18, slot := 6, constantValue := 0 }, { name := "$VALUES", type := (.array (.object "com/example/clientry/clientry/AppType")), accessFlags := 4122, slot := 3, constantValue := 0 }]
  methods := #[k12m0, k12m1]
  instanceTypes := #[(.object "java/lang/String"), .int, .int, (.object "java/lang/String"), .boolean, .boolean, .int]
  staticTypes := #[(.object "com/example/clientry/clientry/AppType"), (.object "com/example/clientry/clientry/AppType"), (.object "com/example/clientry/clientry/AppType"), (.array (.object "com/example/clientry/clientry/AppType"))]
  resolved := Array.replicate 154 none
  statics := some 2 }

def pool13 : Array CpInfo := pool [(1, .class_ 2), (0, u "java/lang/Cloneable"), (0, .class_ 4), (0, u "java/lang/Object")] 2

/-- java/lang/Cloneable -/
def k13 : Class := { plain "java/lang/Cloneable" (some 0) with
  accessFlags := 1537
  interfaces := #[]
  cf := some (fileOf pool13 1 #[] #[] 1537 3 #[] #[])
  fields := #[]
  methods := #[]
  instanceTypes := #[]
  staticTypes := #[]
  resolved := Array.replicate 7 none
  statics := none }

def pool14 : Array CpInfo := pool [(1, .fieldref 2 3), (0, .class_ 4), (0, .nameAndType 5 6), (0, u "java/util/Optional"), (0, u "EMPTY"), (0, u "Ljava/util/Optional;"), (0, .methodref 8 9), (0, .class_ 10), (0, .nameAndType 11 12), (0, u "java/lang/Object"), (0, u "<init>"), (0, u "()V"), (0, .fieldref 2 14), (0, .nameAndType 15 16), (0, u "value"), (0, u "Ljava/lang/Object;"), (0, .methodref 18 19), (0, .class_ 20), (0, .nameAndType 21 22), (0, u "java/util/Objects"), (0, u "requireNonNull"), (0, u "(Ljava/lang/Object;)Ljava/lang/Object;"), (0, .methodref 2 24), (0, .nameAndType 11 25), (0, u "(Ljava/lang/Object;)V"), (29, u "empty"), (0, u "()Ljava/util/Optional;"), (8, u "(Ljava/lang/Object;)Ljava/util/Optional;"), (16, u "of"), (82, u "orElse")] 21

def k14c0 : Code := { maxStack := 1, maxLocals := 1, code := jdk_32_method_1_code, exceptionTable := #[], attributes := #[] }
def k14m0 : Method := { name := "empty", desc := "()Ljava/util/Optional;", sig := { parameters := [], returnType := some (.object "java/util/Optional") }, accessFlags := 9, code := some k14c0 }
def k14c1 : Code := { maxStack := 2, maxLocals := 2, code := jdk_32_method_2_code, exceptionTable := #[], attributes := #[] }
def k14m1 : Method := { name := "<init>", desc := "(Ljava/lang/Object;)V", sig := { parameters := [(.object "java/lang/Object")], returnType := none }, accessFlags := 2, code := some k14c1 }
def k14c2 : Code := { maxStack := 3, maxLocals := 1, code := jdk_32_method_3_code, exceptionTable := #[], attributes := #[] }
def k14m2 : Method := { name := "of", desc := "(Ljava/lang/Object;)Ljava/util/Optional;", sig := { parameters := [(.object "java/lang/Object")], returnType := some (.object "java/util/Optional") }, accessFlags := 9, code := some k14c2 }
def k14c3 : Code := { maxStack := 1, maxLocals := 2, code := jdk_32_method_15_code, exceptionTable := #[], attributes := #[] }
def k14m3 : Method := { name := "orElse", desc := "(Ljava/lang/Object;)Ljava/lang/Object;", sig := { parameters := [(.object "java/lang/Object")], returnType := some (.object "java/lang/Object") }, accessFlags := 1, code := some k14c3 }
/-- java/util/Optional -/
def k14 : Class := { plain "java/util/Optional" (some 0) with
  accessFlags := 49
  interfaces := #[]
  cf := some (fileOf pool14 2 #[] #[{ accessFlags := 9, nameIndex := 55, descriptorIndex := 56, attributes := #[] }, { accessFlags := 2, nameIndex := 11, descriptorIndex := 25, attributes := #[] }, { accessFlags := 9, nameIndex := 82, descriptorIndex := 65, attributes := #[] }, { accessFlags := 1, nameIndex := 165, descriptorIndex := 22, attributes := #[] }] 49 8 #[] #[{ accessFlags := 26, nameIndex := 5, descriptorIndex := 6, attributes := #[] }, { accessFlags := 18, nameIndex := 15, descriptorIndex := 16, attributes := #[] }])
  fields := #[{ name := "EMPTY", type := (.object "java/util/Optional"), accessFlags := 26, slot := 0, constantValue := 0 }, { name := "value", type := (.object "java/lang/Object"), accessFlags := 18, slot := 0, constantValue := 0 }]
  methods := #[k14m0, k14m1, k14m2, k14m3]
  instanceTypes := #[(.object "java/lang/Object")]
  staticTypes := #[(.object "java/util/Optional")]
  resolved := Array.replicate 187 none
  statics := some 3 }

def pool15 : Array CpInfo := pool [(2, .class_ 4), (1, u "java/lang/Object"), (0, u "<init>"), (0, u "()V"), (35, .class_ 44), (1, u "java/util/Objects"), (0, u "requireNonNull"), (0, u "(Ljava/lang/Object;)Ljava/lang/Object;")] 137

def k15m0 : Method := { name := "<init>", desc := "()V", sig := { parameters := [], returnType := none }, accessFlags := 2, code := none }
def k15c1 : Code := { maxStack := 2, maxLocals := 1, code := jdk_31_method_10_code, exceptionTable := #[], attributes := #[] }
def k15m1 : Method := { name := "requireNonNull", desc := "(Ljava/lang/Object;)Ljava/lang/Object;", sig := { parameters := [(.object "java/lang/Object")], returnType := some (.object "java/lang/Object") }, accessFlags := 9, code := some k15c1 }
/-- java/util/Objects -/
def k15 : Class := { plain "java/util/Objects" (some 0) with
  accessFlags := 49
  interfaces := #[]
  cf := some (fileOf pool15 42 #[] #[{ accessFlags := 2, nameIndex := 5, descriptorIndex := 6, attributes := #[] }, { accessFlags := 9, nameIndex := 45, descriptorIndex := 46, attributes := #[] }] 49 2 #[] #[])
  fields := #[]
  methods := #[k15m0, k15m1]
  instanceTypes := #[]
  staticTypes := #[]
  resolved := Array.replicate 184 none
  statics := none }

def pool16 : Array CpInfo := pool [(9, u "<init>"), (6, .class_ 18), (1, u "java/lang/Object"), (0, u "()V"), (1, .class_ 23), (1, u "jdk/internal/util/ArraysSupport"), (0, u "LOG2_ARRAY_LONG_INDEX_SCALE"), (0, u "I"), (2, u "U"), (0, u "Ljdk/internal/misc/Unsafe;"), (8, u "BIG_ENDIAN"), (0, u "Z"), (8, u "LOG2_BYTE_BIT_SIZE"), (4, u "LOG2_ARRAY_INT_INDEX_SCALE"), (54, u "JLA"), (0, u "Ljdk/internal/access/JavaLangAccess;"), (11, u "LOG2_ARRAY_BOOLEAN_INDEX_SCALE"), (9, u "LOG2_ARRAY_BYTE_INDEX_SCALE"), (5, u "LOG2_ARRAY_CHAR_INDEX_SCALE"), (5, u "LOG2_ARRAY_SHORT_INDEX_SCALE"), (18, u "LOG2_ARRAY_FLOAT_INDEX_SCALE"), (24, u "LOG2_ARRAY_DOUBLE_INDEX_SCALE"), (89, u "T_BOOLEAN"), (2, u "T_CHAR"), (1, u "T_FLOAT"), (1, u "T_DOUBLE"), (1, u "T_BYTE"), (1, u "T_SHORT"), (1, u "T_INT"), (1, u "T_LONG"), (1, u "SOFT_MAX_ARRAY_LENGTH")] 83

def k16m0 : Method := { name := "<init>", desc := "()V", sig := { parameters := [], returnType := none }, accessFlags := 2, code := none }
/-- jdk/internal/util/ArraysSupport -/
def k16 : Class := { plain "jdk/internal/util/ArraysSupport" (some 0) with
  accessFlags := 33
  interfaces := #[]
  cf := some (fileOf pool16 21 #[] #[{ accessFlags := 2, nameIndex := 9, descriptorIndex := 19, attributes := #[] }] 33 16 #[] #[{ accessFlags := 24, nameIndex := 28, descriptorIndex := 29, attributes := #[] }, { accessFlags := 26, nameIndex := 38, descriptorIndex := 39, attributes := #[] }, { accessFlags := 25, nameIndex := 121, descriptorIndex := 25, attributes := #[] }, { accessFlags := 25, nameIndex := 131, descriptorIndex := 25, attributes := #[] }, { accessFlags := 25, nameIndex := 137, descriptorIndex := 25, attributes := #[] }, { accessFlags := 25, nameIndex := 143, descriptorIndex := 25, attributes := #[] }, { accessFlags := 25, nameIndex := 53, descriptorIndex := 25, attributes := #[] }, { accessFlags := 25, nameIndex := 24, descriptorIndex := 25, attributes := #[] }, { accessFlags := 25, nameIndex := 162, descriptorIndex := 25, attributes := #[] }, { accessFlags := 25, nameIndex := 187, descriptorIndex := 25, attributes := #[] }, { accessFlags := 26, nameIndex := 48, descriptorIndex := 25, attributes := #[] }, { accessFlags := 25, nameIndex := 277, descriptorIndex := 25, attributes := #[] }, { accessFlags := 25, nameIndex := 280, descriptorIndex := 25, attributes := #[] }, { accessFlags := 25, nameIndex := 282, descriptorIndex := 25, attributes := #[] }, { accessFlags := 25, nameIndex := 284, descriptorIndex := 25, attributes := #[] }, { accessFlags := 25, nameIndex := 286, descriptorIndex := 25, attributes := #[] }, { accessFlags := 25, nameIndex := 288, descriptorIndex := 25, attributes := #[] }, { accessFlags := 25, nameIndex := 290, descriptorIndex := 25, attributes := #[] }, { accessFlags := 25, nameIndex := 292, descriptorIndex := 25, attributes := #[] }, { accessFlags := 26, nameIndex := 108, descriptorIndex := 109, attributes := #[] }, { accessFlags := 25, nameIndex := 294, descriptorIndex := 25, attributes := #[] }])
  fields := #[{ name := "U", type := (.object "jdk/internal/misc/Unsafe"), accessFlags := 24, slot := 0, constantValue := 0 }, { name := "BIG_ENDIAN", type := .boolean, accessFlags := 26, slot := 1, constantValue := 0 }, { name := "LOG2_ARRAY_BOOLEAN_INDEX_SCALE", type := .int, accessFlags := 25, slot := 2, constantValue := 0 }, { name := "LOG2_ARRAY_BYTE_INDEX_SCALE", type := .int, accessFlags := 25, slot := 3, constantValue := 0 }, { name := "LOG2_ARRAY_CHAR_INDEX_SCALE", type := .int, accessFlags := 25, slot := 4, constantValue := 0 }, { name := "LOG2_ARRAY_SHORT_INDEX_SCALE", type := .int, accessFlags := 25, slot := 5, constantValue := 0 }, { name := "LOG2_ARRAY_INT_INDEX_SCALE", type := .int, accessFlags := 25, slot := 6, constantValue := 0 }, { name := "LOG2_ARRAY_LONG_INDEX_SCALE", type := .int, accessFlags := 25, slot := 7, constantValue := 0 }, { name := "LOG2_ARRAY_FLOAT_INDEX_SCALE", type := .int, accessFlags := 25, slot := 8, constantValue := 0 }, { name := "LOG2_ARRAY_DOUBLE_INDEX_SCALE", type := .int, accessFlags := 25, slot := 9, constantValue := 0 }, { name := "LOG2_BYTE_BIT_SIZE", type := .int, accessFlags := 26, slot := 10, constantValue := 0 }, { name := "T_BOOLEAN", type := .int, accessFlags := 25, slot := 11, constantValue := 0 }, { name := "T_CHAR", type := .int, accessFlags := 25, slot := 12, constantValue := 0 }, { name := "T_FLOAT", type := .int, accessFlags := 25, slot := 13, constantValue := 0 }, { name := "T_DOUBLE", type := .int, accessFlags := 25, slot := 14, constantValue := 0 }, { name := "T_BYTE", type := .int, accessFlags := 25, slot := 15, constantValue := 0 }, { name := "T_SHORT", type := .int, accessFlags := 25, slot := 16, constantValue := 0 }, { name := "T_INT", type := .int, accessFlags := 25, slot := 17, constantValue := 0 }, { name := "T_LONG", type := .int, accessFlags := 25, slot := 18, constantValue := 0 }, { name := "JLA", type := (.object "jdk/internal/access/JavaLangAccess"), accessFlags := 26, slot := 19, constantValue := 0 }, { name := "SOFT_MAX_ARRAY_LENGTH", type := .int, accessFlags := 25, slot := 20, constantValue := 0 }]
  methods := #[k16m0]
  instanceTypes := #[]
  staticTypes := #[(.object "jdk/internal/misc/Unsafe"), .boolean, .int, .int, .int, .int, .int, .int, .int, .int, .int, .int, .int, .int, .int, .int, .int, .int, .int, (.object "jdk/internal/access/JavaLangAccess"), .int]
  resolved := Array.replicate 378 none
  statics := none }

/-- the primitive byte -/
def k17 : Class := { plain "byte" none with kind := .primitive 'B', accessFlags := 0x411 }
/-- [B -/
def k18 : Class := { plain "[B" (some 0) with kind := .array 17 .byte, interfaces := #[13, 2], accessFlags := 1041 }

/-- the primitive char -/
def k19 : Class := { plain "char" none with kind := .primitive 'C', accessFlags := 0x411 }
/-- [C -/
def k20 : Class := { plain "[C" (some 0) with kind := .array 19 .char, interfaces := #[13, 2], accessFlags := 1041 }

/-- the primitive int -/
def k21 : Class := { plain "int" none with kind := .primitive 'I', accessFlags := 0x411 }
/-- [I -/
def k22 : Class := { plain "[I" (some 0) with kind := .array 21 .int, interfaces := #[13, 2], accessFlags := 1041 }

/-- [Lcom/example/clientry/clientry/AppType; -/
def k23 : Class := { plain "[Lcom/example/clientry/clientry/AppType;" (some 0) with kind := .array 12 (.object "com/example/clientry/clientry/AppType"), interfaces := #[13, 2], accessFlags := 1041 }

def heap : Heap := #[{ cls := 7, slots := #[.long 0, .int 1, .null, .int 0, .null, .int 0, .int 0], vm := .statics 7 },
  { cls := 9, slots := #[.null, .null, .null], vm := .statics 9 },
  { cls := 12, slots := #[.ref 5, .ref 6, .ref 7, .ref 4], vm := .statics 12 },
  { cls := 14, slots := #[.ref 14], vm := .statics 14 },
  { cls := 23, slots := #[.ref 5, .ref 6, .ref 7], vm := .none },
  { cls := 12, slots := #[.null, .int 0, .int 0, .ref 8, .int 0, .int 0, .int 0], vm := .none },
  { cls := 12, slots := #[.null, .int 1, .int 0, .ref 9, .int 0, .int 0, .int 0], vm := .none },
  { cls := 12, slots := #[.null, .int 2, .int 0, .ref 10, .int 0, .int 0, .int 0], vm := .none },
  { cls := 7, slots := #[.ref 11, .int 0, .int 0, .int 0], vm := .none },
  { cls := 7, slots := #[.ref 12, .int 0, .int 0, .int 0], vm := .none },
  { cls := 7, slots := #[.ref 13, .int 0, .int 0, .int 0], vm := .none },
  { cls := 18, slots := #[.int 87, .int 101, .int 98, .int 65, .int 112, .int 112], vm := .none },
  { cls := 18, slots := #[.int 78, .int 97, .int 116, .int 105, .int 118, .int 101, .int 65, .int 112, .int 112], vm := .none },
  { cls := 18, slots := #[.int 83, .int 101, .int 114, .int 118, .int 101, .int 114, .int 65, .int 112, .int 112], vm := .none },
  { cls := 14, slots := #[.null], vm := .none }]
def classes : Array Class := #[k0, k1, k2, k3, k4, k5, k6, k7, k8, k9, k10, k11, k12, k13, k14, k15, k16, k17, k18, k19, k20, k21, k22, k23]
def interned : List (Array UInt16 × Addr) := []
def slotsUsed : Nat := 76
def theMethod : MethodId := ⟨1, 1⟩
def args0 : Array Value := #[.int 3, .int 5, .long 6, .long 7]
def aboutOver (below : List Frame) : State where
  vm := { classes := classes, interned := interned.toArray }
  heap := heap
  slotsUsed := slotsUsed
  threads := #[{ frames := .invoking theMethod args0 :: below }]
def below0 : List Frame := [.native { method := ⟨0, 0⟩, args := #[] }]
def about1 : State := aboutOver below0
def p0 : Program := .bare "" "" ""
def e0 : Env := launch0.env 0 0 0
theorem w_frames : about1.frames = Frame.invoking theMethod args0 :: below0 := rfl
set_option maxRecDepth 65536 in
theorem w_args : argsFit about1.vm theMethod args0 = true := by decide +kernel
set_option maxRecDepth 65536 in
theorem w_heap : heapFits about1 = true := by decide +kernel
set_option maxRecDepth 65536 in
theorem w_runnable : about1.curStatus? = some .runnable := by decide +kernel
set_option maxRecDepth 65536 in
theorem w_alone : about1.alone = true := by decide +kernel
set_option maxRecDepth 65536 in
theorem w_named : about1.methodNamed? x = some theMethod := by decide +kernel
set_option maxRecDepth 65536 in
theorem w_hears : about1.hears theMethod below0 = true := by decide +kernel
set_option maxRecDepth 65536 in
theorem w_ripe : about1.ripe theMethod args0 below0 = true := by decide +kernel
theorem w_running : about1.status = .running := rfl
set_option maxRecDepth 65536 in
theorem w_room : about1.hasRoom e0.platform room_1 = true :=
  launch0.hasRoom_least _ room_1 (by decide +kernel) (by decide +kernel) (by decide +kernel) (by decide +kernel) (by decide +kernel) (by decide +kernel)
theorem allAtoms_all (ts : List Jvm.Cond) (a : Array Jvm.Value) (st : Jvm.State) : (allAtoms ts).before a st = ts.all (fun c => c.before a st) := by
  induction ts with
  | nil => rfl
  | cons c t ih =>
    show (Jvm.Cond.and c (allAtoms t)).before a st = _
    rw [Jvm.Cond.before_and, ih, List.all_cons]
def words1 : List Jvm.Cond := Jvm.Cond.code x code maxLocals ret :: tables_1
/-- a 'code' word, met by the world's own term for the bytes: nothing is compared byte by byte -/
theorem code_word {y : MethodName} {bytes : ByteArray} {mx : Nat} {rt : Option FieldType} {a : Array Value} {s : State} {m : MethodId} {meth : Method} {c : Code} (h1 : s.methodNamed? y = some m) (h2 : s.vm.method? m = some meth) (h3 : meth.code = some c) (h4 : c.code = bytes)
    (h5 : (c.maxLocals == mx && c.exceptionTable.isEmpty && decide (c.maxStack ≤ mostOperands) && decide (meth.sig.returnType = rt) && !meth.locks && decide (parseMethodDescriptor y.desc = some meth.sig)) = true) : (Jvm.Cond.code y bytes mx rt).before a s = true := by
  simp only [Bool.and_eq_true, beq_iff_eq, Bool.not_eq_true', decide_eq_true_eq] at h5
  obtain ⟨⟨⟨⟨⟨g1, g2⟩, g3⟩, g4⟩, g5⟩, g6⟩ := h5
  simp [Cond.before, Cond.holds, Cond.value, h1, h2, h3, h4, g1, g2, g3, g4, g5, g6]
def isCode : Jvm.Cond → Bool
  | .code _ _ _ _ => true
  | _ => false
theorem all_split {L : List Jvm.Cond} {P : Jvm.Cond → Bool} (h1 : L.all (fun c => isCode c || P c) = true) (h2 : ∀ c ∈ L.filter isCode, P c = true) : L.all P = true := by
  refine List.all_eq_true.mpr fun c hc => ?_
  have h := List.all_eq_true.mp h1 c hc
  rcases Bool.eq_false_or_eq_true (isCode c) with hi | hi
  · exact h2 c (List.mem_filter.mpr ⟨hc, hi⟩)
  · simpa [hi] using h
set_option maxRecDepth 65536 in
theorem w_c0 : (Jvm.Cond.code x code maxLocals ret).before args0 about1 = true := code_word (m := ⟨1, 1⟩) (meth := k1m1) (c := k1c1) (by decide +kernel) rfl rfl rfl (by decide +kernel)
set_option maxRecDepth 65536 in
theorem w_c1 : (Jvm.Cond.code ({ cls := "com/example/clientry/clientry/AppTypeNamedPinLaw", name := "putName", desc := "([CLjava/lang/String;)V" } : Jvm.MethodName) method_3_code (2 : Nat) (Option.none : Option Jvm.ClassFile.FieldType)).before args0 about1 = true := code_word (m := ⟨1, 2⟩) (meth := k1m2) (c := k1c2) (by decide +kernel) rfl rfl rfl (by decide +kernel)
set_option maxRecDepth 65536 in
theorem w_c2 : (Jvm.Cond.code ({ cls := "java/lang/String", name := "charAt", desc := "(I)C" } : Jvm.MethodName) jdk_42_method_56_code (2 : Nat) (Option.some Jvm.ClassFile.FieldType.char)).before args0 about1 = true := code_word (m := ⟨7, 3⟩) (meth := k7m3) (c := k7c3) (by decide +kernel) rfl rfl rfl (by decide +kernel)
set_option maxRecDepth 65536 in
theorem w_c3 : (Jvm.Cond.code ({ cls := "java/lang/String", name := "isLatin1", desc := "()Z" } : Jvm.MethodName) jdk_42_method_154_code (1 : Nat) (Option.some Jvm.ClassFile.FieldType.boolean)).before args0 about1 = true := code_word (m := ⟨7, 7⟩) (meth := k7m7) (c := k7c7) (by decide +kernel) rfl rfl rfl (by decide +kernel)
set_option maxRecDepth 65536 in
theorem w_c4 : (Jvm.Cond.code ({ cls := "java/lang/StringLatin1", name := "charAt", desc := "([BI)C" } : Jvm.MethodName) jdk_43_method_2_code (2 : Nat) (Option.some Jvm.ClassFile.FieldType.char)).before args0 about1 = true := code_word (m := ⟨8, 1⟩) (meth := k8m1) (c := k8c1) (by decide +kernel) rfl rfl rfl (by decide +kernel)
set_option maxRecDepth 65536 in
theorem w_c5 : (Jvm.Cond.code ({ cls := "java/lang/String", name := "checkIndex", desc := "(II)V" } : Jvm.MethodName) jdk_42_method_155_code (2 : Nat) (Option.none : Option Jvm.ClassFile.FieldType)).before args0 about1 = true := code_word (m := ⟨7, 8⟩) (meth := k7m8) (c := k7c8) (by decide +kernel) rfl rfl rfl (by decide +kernel)
set_option maxRecDepth 65536 in
theorem w_c6 : (Jvm.Cond.code ({ cls := "jdk/internal/util/Preconditions", name := "checkIndex", desc := "(IILjava/util/function/BiFunction;)I" } : Jvm.MethodName) jdk_41_method_11_code (3 : Nat) (Option.some Jvm.ClassFile.FieldType.int)).before args0 about1 = true := code_word (m := ⟨9, 1⟩) (meth := k9m1) (c := k9c1) (by decide +kernel) rfl rfl rfl (by decide +kernel)
set_option maxRecDepth 65536 in
theorem w_c7 : (Jvm.Cond.code ({ cls := "java/lang/String", name := "length", desc := "()I" } : Jvm.MethodName) jdk_42_method_54_code (1 : Nat) (Option.some Jvm.ClassFile.FieldType.int)).before args0 about1 = true := code_word (m := ⟨7, 2⟩) (meth := k7m2) (c := k7c2) (by decide +kernel) rfl rfl rfl (by decide +kernel)
set_option maxRecDepth 65536 in
theorem w_c8 : (Jvm.Cond.code ({ cls := "java/lang/String", name := "coder", desc := "()B" } : Jvm.MethodName) jdk_42_method_152_code (1 : Nat) (Option.some Jvm.ClassFile.FieldType.byte)).before args0 about1 = true := code_word (m := ⟨7, 6⟩) (meth := k7m6) (c := k7c6) (by decide +kernel) rfl rfl rfl (by decide +kernel)
set_option maxRecDepth 65536 in
theorem w_c9 : (Jvm.Cond.code ({ cls := "com/example/clientry/clientry/AppTypeNamedPinLaw", name := "str", desc := "([CI)Ljava/lang/String;" } : Jvm.MethodName) method_4_code (2 : Nat) (Option.some (Jvm.ClassFile.FieldType.object "java/lang/String"))).before args0 about1 = true := code_word (m := ⟨1, 3⟩) (meth := k1m3) (c := k1c3) (by decide +kernel) rfl rfl rfl (by decide +kernel)
set_option maxRecDepth 65536 in
theorem w_c10 : (Jvm.Cond.code ({ cls := "java/lang/String", name := "<init>", desc := "([C)V" } : Jvm.MethodName) jdk_42_method_3_code (2 : Nat) (Option.none : Option Jvm.ClassFile.FieldType)).before args0 about1 = true := code_word (m := ⟨7, 1⟩) (meth := k7m1) (c := k7c1) (by decide +kernel) rfl rfl rfl (by decide +kernel)
set_option maxRecDepth 65536 in
theorem w_c11 : (Jvm.Cond.code ({ cls := "java/lang/String", name := "<init>", desc := "([CIILjava/lang/Void;)V" } : Jvm.MethodName) jdk_42_method_149_code (6 : Nat) (Option.none : Option Jvm.ClassFile.FieldType)).before args0 about1 = true := code_word (m := ⟨7, 5⟩) (meth := k7m5) (c := k7c5) (by decide +kernel) rfl rfl rfl (by decide +kernel)
set_option maxRecDepth 65536 in
theorem w_c12 : (Jvm.Cond.code ({ cls := "java/lang/Object", name := "<init>", desc := "()V" } : Jvm.MethodName) object_method_1_code (1 : Nat) (Option.none : Option Jvm.ClassFile.FieldType)).before args0 about1 = true := code_word (m := ⟨0, 0⟩) (meth := k0m0) (c := k0c0) (by decide +kernel) rfl rfl rfl (by decide +kernel)
set_option maxRecDepth 65536 in
theorem w_c13 : (Jvm.Cond.code ({ cls := "java/lang/StringUTF16", name := "compress", desc := "([CII)[B" } : Jvm.MethodName) jdk_52_method_16_code (6 : Nat) (Option.some (Jvm.ClassFile.FieldType.array Jvm.ClassFile.FieldType.byte))).before args0 about1 = true := code_word (m := ⟨10, 2⟩) (meth := k10m2) (c := k10c2) (by decide +kernel) rfl rfl rfl (by decide +kernel)
set_option maxRecDepth 65536 in
theorem w_c14 : (Jvm.Cond.code ({ cls := "java/lang/StringUTF16", name := "compress", desc := "([CI[BII)I" } : Jvm.MethodName) jdk_52_method_21_code (7 : Nat) (Option.some Jvm.ClassFile.FieldType.int)).before args0 about1 = true := code_word (m := ⟨10, 3⟩) (meth := k10m3) (c := k10c3) (by decide +kernel) rfl rfl rfl (by decide +kernel)
set_option maxRecDepth 65536 in
theorem w_c15 : (Jvm.Cond.code ({ cls := "java/lang/StringUTF16", name := "coderFromArrayLen", desc := "([BI)B" } : Jvm.MethodName) jdk_52_method_15_code (2 : Nat) (Option.some Jvm.ClassFile.FieldType.byte)).before args0 about1 = true := code_word (m := ⟨10, 1⟩) (meth := k10m1) (c := k10c1) (by decide +kernel) rfl rfl rfl (by decide +kernel)
set_option maxRecDepth 65536 in
theorem w_c16 : (Jvm.Cond.code ({ cls := "java/lang/String", name := "equals", desc := "(Ljava/lang/Object;)Z" } : Jvm.MethodName) jdk_42_method_66_code (3 : Nat) (Option.some Jvm.ClassFile.FieldType.boolean)).before args0 about1 = true := code_word (m := ⟨7, 4⟩) (meth := k7m4) (c := k7c4) (by decide +kernel) rfl rfl rfl (by decide +kernel)
set_option maxRecDepth 65536 in
theorem w_c17 : (Jvm.Cond.code ({ cls := "java/lang/StringLatin1", name := "equals", desc := "([B[B)Z" } : Jvm.MethodName) jdk_43_method_13_code (3 : Nat) (Option.some Jvm.ClassFile.FieldType.boolean)).before args0 about1 = true := code_word (m := ⟨8, 2⟩) (meth := k8m2) (c := k8c2) (by decide +kernel) rfl rfl rfl (by decide +kernel)
set_option maxRecDepth 65536 in
theorem w_c18 : (Jvm.Cond.code ({ cls := "com/example/clientry/clientry/AppType", name := "named", desc := "(Ljava/lang/String;)Ljava/util/Optional;" } : Jvm.MethodName) prog_9_method_4_code (5 : Nat) (Option.some (Jvm.ClassFile.FieldType.object "java/util/Optional"))).before args0 about1 = true := code_word (m := ⟨12, 1⟩) (meth := k12m1) (c := k12c1) (by decide +kernel) rfl rfl rfl (by decide +kernel)
set_option maxRecDepth 65536 in
theorem w_c19 : (Jvm.Cond.code ({ cls := "com/example/clientry/clientry/AppType", name := "values", desc := "()[Lcom/example/clientry/clientry/AppType;" } : Jvm.MethodName) prog_9_method_1_code (0 : Nat) (Option.some (Jvm.ClassFile.FieldType.array (Jvm.ClassFile.FieldType.object "com/example/clientry/clientry/AppType")))).before args0 about1 = true := code_word (m := ⟨12, 0⟩) (meth := k12m0) (c := k12c0) (by decide +kernel) rfl rfl rfl (by decide +kernel)
set_option maxRecDepth 65536 in
theorem w_c20 : (Jvm.Cond.code ({ cls := "java/util/Optional", name := "empty", desc := "()Ljava/util/Optional;" } : Jvm.MethodName) jdk_32_method_1_code (1 : Nat) (Option.some (Jvm.ClassFile.FieldType.object "java/util/Optional"))).before args0 about1 = true := code_word (m := ⟨14, 0⟩) (meth := k14m0) (c := k14c0) (by decide +kernel) rfl rfl rfl (by decide +kernel)
set_option maxRecDepth 65536 in
theorem w_c21 : (Jvm.Cond.code ({ cls := "java/util/Optional", name := "orElse", desc := "(Ljava/lang/Object;)Ljava/lang/Object;" } : Jvm.MethodName) jdk_32_method_15_code (2 : Nat) (Option.some (Jvm.ClassFile.FieldType.object "java/lang/Object"))).before args0 about1 = true := code_word (m := ⟨14, 3⟩) (meth := k14m3) (c := k14c3) (by decide +kernel) rfl rfl rfl (by decide +kernel)
set_option maxRecDepth 65536 in
theorem w_c22 : (Jvm.Cond.code ({ cls := "java/util/Optional", name := "of", desc := "(Ljava/lang/Object;)Ljava/util/Optional;" } : Jvm.MethodName) jdk_32_method_3_code (1 : Nat) (Option.some (Jvm.ClassFile.FieldType.object "java/util/Optional"))).before args0 about1 = true := code_word (m := ⟨14, 2⟩) (meth := k14m2) (c := k14c2) (by decide +kernel) rfl rfl rfl (by decide +kernel)
set_option maxRecDepth 65536 in
theorem w_c23 : (Jvm.Cond.code ({ cls := "java/util/Objects", name := "requireNonNull", desc := "(Ljava/lang/Object;)Ljava/lang/Object;" } : Jvm.MethodName) jdk_31_method_10_code (1 : Nat) (Option.some (Jvm.ClassFile.FieldType.object "java/lang/Object"))).before args0 about1 = true := code_word (m := ⟨15, 1⟩) (meth := k15m1) (c := k15c1) (by decide +kernel) rfl rfl rfl (by decide +kernel)
set_option maxRecDepth 65536 in
theorem w_c24 : (Jvm.Cond.code ({ cls := "java/util/Optional", name := "<init>", desc := "(Ljava/lang/Object;)V" } : Jvm.MethodName) jdk_32_method_2_code (2 : Nat) (Option.none : Option Jvm.ClassFile.FieldType)).before args0 about1 = true := code_word (m := ⟨14, 1⟩) (meth := k14m1) (c := k14c1) (by decide +kernel) rfl rfl rfl (by decide +kernel)
def codes1 : List Jvm.Cond := [Jvm.Cond.code x code maxLocals ret, Jvm.Cond.code ({ cls := "com/example/clientry/clientry/AppTypeNamedPinLaw", name := "putName", desc := "([CLjava/lang/String;)V" } : Jvm.MethodName) method_3_code (2 : Nat) (Option.none : Option Jvm.ClassFile.FieldType), Jvm.Cond.code ({ cls := "java/lang/String", name := "charAt", desc := "(I)C" } : Jvm.MethodName) jdk_42_method_56_code (2 : Nat) (Option.some Jvm.ClassFile.FieldType.char), Jvm.Cond.code ({ cls := "java/lang/String", name := "isLatin1", desc := "()Z" } : Jvm.MethodName) jdk_42_method_154_code (1 : Nat) (Option.some Jvm.ClassFile.FieldType.boolean), Jvm.Cond.code ({ cls := "java/lang/StringLatin1", name := "charAt", desc := "([BI)C" } : Jvm.MethodName) jdk_43_method_2_code (2 : Nat) (Option.some Jvm.ClassFile.FieldType.char), Jvm.Cond.code ({ cls := "java/lang/String", name := "checkIndex", desc := "(II)V" } : Jvm.MethodName) jdk_42_method_155_code (2 : Nat) (Option.none : Option Jvm.ClassFile.FieldType), Jvm.Cond.code ({ cls := "jdk/internal/util/Preconditions", name := "checkIndex", desc := "(IILjava/util/function/BiFunction;)I" } : Jvm.MethodName) jdk_41_method_11_code (3 : Nat) (Option.some Jvm.ClassFile.FieldType.int), Jvm.Cond.code ({ cls := "java/lang/String", name := "length", desc := "()I" } : Jvm.MethodName) jdk_42_method_54_code (1 : Nat) (Option.some Jvm.ClassFile.FieldType.int), Jvm.Cond.code ({ cls := "java/lang/String", name := "coder", desc := "()B" } : Jvm.MethodName) jdk_42_method_152_code (1 : Nat) (Option.some Jvm.ClassFile.FieldType.byte), Jvm.Cond.code ({ cls := "com/example/clientry/clientry/AppTypeNamedPinLaw", name := "str", desc := "([CI)Ljava/lang/String;" } : Jvm.MethodName) method_4_code (2 : Nat) (Option.some (Jvm.ClassFile.FieldType.object "java/lang/String")), Jvm.Cond.code ({ cls := "java/lang/String", name := "<init>", desc := "([C)V" } : Jvm.MethodName) jdk_42_method_3_code (2 : Nat) (Option.none : Option Jvm.ClassFile.FieldType), Jvm.Cond.code ({ cls := "java/lang/String", name := "<init>", desc := "([CIILjava/lang/Void;)V" } : Jvm.MethodName) jdk_42_method_149_code (6 : Nat) (Option.none : Option Jvm.ClassFile.FieldType), Jvm.Cond.code ({ cls := "java/lang/Object", name := "<init>", desc := "()V" } : Jvm.MethodName) object_method_1_code (1 : Nat) (Option.none : Option Jvm.ClassFile.FieldType), Jvm.Cond.code ({ cls := "java/lang/StringUTF16", name := "compress", desc := "([CII)[B" } : Jvm.MethodName) jdk_52_method_16_code (6 : Nat) (Option.some (Jvm.ClassFile.FieldType.array Jvm.ClassFile.FieldType.byte)), Jvm.Cond.code ({ cls := "java/lang/StringUTF16", name := "compress", desc := "([CI[BII)I" } : Jvm.MethodName) jdk_52_method_21_code (7 : Nat) (Option.some Jvm.ClassFile.FieldType.int), Jvm.Cond.code ({ cls := "java/lang/StringUTF16", name := "coderFromArrayLen", desc := "([BI)B" } : Jvm.MethodName) jdk_52_method_15_code (2 : Nat) (Option.some Jvm.ClassFile.FieldType.byte), Jvm.Cond.code ({ cls := "java/lang/String", name := "equals", desc := "(Ljava/lang/Object;)Z" } : Jvm.MethodName) jdk_42_method_66_code (3 : Nat) (Option.some Jvm.ClassFile.FieldType.boolean), Jvm.Cond.code ({ cls := "java/lang/StringLatin1", name := "equals", desc := "([B[B)Z" } : Jvm.MethodName) jdk_43_method_13_code (3 : Nat) (Option.some Jvm.ClassFile.FieldType.boolean), Jvm.Cond.code ({ cls := "com/example/clientry/clientry/AppType", name := "named", desc := "(Ljava/lang/String;)Ljava/util/Optional;" } : Jvm.MethodName) prog_9_method_4_code (5 : Nat) (Option.some (Jvm.ClassFile.FieldType.object "java/util/Optional")), Jvm.Cond.code ({ cls := "com/example/clientry/clientry/AppType", name := "values", desc := "()[Lcom/example/clientry/clientry/AppType;" } : Jvm.MethodName) prog_9_method_1_code (0 : Nat) (Option.some (Jvm.ClassFile.FieldType.array (Jvm.ClassFile.FieldType.object "com/example/clientry/clientry/AppType"))), Jvm.Cond.code ({ cls := "java/util/Optional", name := "empty", desc := "()Ljava/util/Optional;" } : Jvm.MethodName) jdk_32_method_1_code (1 : Nat) (Option.some (Jvm.ClassFile.FieldType.object "java/util/Optional")), Jvm.Cond.code ({ cls := "java/util/Optional", name := "orElse", desc := "(Ljava/lang/Object;)Ljava/lang/Object;" } : Jvm.MethodName) jdk_32_method_15_code (2 : Nat) (Option.some (Jvm.ClassFile.FieldType.object "java/lang/Object")), Jvm.Cond.code ({ cls := "java/util/Optional", name := "of", desc := "(Ljava/lang/Object;)Ljava/util/Optional;" } : Jvm.MethodName) jdk_32_method_3_code (1 : Nat) (Option.some (Jvm.ClassFile.FieldType.object "java/util/Optional")), Jvm.Cond.code ({ cls := "java/util/Objects", name := "requireNonNull", desc := "(Ljava/lang/Object;)Ljava/lang/Object;" } : Jvm.MethodName) jdk_31_method_10_code (1 : Nat) (Option.some (Jvm.ClassFile.FieldType.object "java/lang/Object")), Jvm.Cond.code ({ cls := "java/util/Optional", name := "<init>", desc := "(Ljava/lang/Object;)V" } : Jvm.MethodName) jdk_32_method_2_code (2 : Nat) (Option.none : Option Jvm.ClassFile.FieldType)]
set_option maxRecDepth 65536 in
theorem codes_eq : words1.filter isCode = codes1 := rfl
theorem w_codes : ∀ c ∈ words1.filter isCode, c.before args0 about1 = true := by
  rw [codes_eq]
  intro c hc
  simp only [codes1, List.mem_cons, List.not_mem_nil, or_false] at hc
  rcases hc with rfl | rfl | rfl | rfl | rfl | rfl | rfl | rfl | rfl | rfl | rfl | rfl | rfl | rfl | rfl | rfl | rfl | rfl | rfl | rfl | rfl | rfl | rfl | rfl | rfl
  · exact w_c0
  · exact w_c1
  · exact w_c2
  · exact w_c3
  · exact w_c4
  · exact w_c5
  · exact w_c6
  · exact w_c7
  · exact w_c8
  · exact w_c9
  · exact w_c10
  · exact w_c11
  · exact w_c12
  · exact w_c13
  · exact w_c14
  · exact w_c15
  · exact w_c16
  · exact w_c17
  · exact w_c18
  · exact w_c19
  · exact w_c20
  · exact w_c21
  · exact w_c22
  · exact w_c23
  · exact w_c24
set_option maxRecDepth 65536 in
theorem w_t1 : (words1.take 24).all (fun c => isCode c || c.before args0 about1) = true := by decide +kernel
set_option maxRecDepth 65536 in
theorem w_t2 : ((words1.drop 24).take 24).all (fun c => isCode c || c.before args0 about1) = true := by decide +kernel
set_option maxRecDepth 65536 in
theorem w_t3 : (((words1.drop 24).drop 24).take 24).all (fun c => isCode c || c.before args0 about1) = true := by decide +kernel
set_option maxRecDepth 65536 in
theorem w_t4 : ((((words1.drop 24).drop 24).drop 24).take 24).all (fun c => isCode c || c.before args0 about1) = true := by decide +kernel
set_option maxRecDepth 65536 in
theorem w_t5 : (((((words1.drop 24).drop 24).drop 24).drop 24).take 24).all (fun c => isCode c || c.before args0 about1) = true := by decide +kernel
set_option maxRecDepth 65536 in
theorem w_t6 : (((((words1.drop 24).drop 24).drop 24).drop 24).drop 24).all (fun c => isCode c || c.before args0 about1) = true := by decide +kernel
theorem w_tables : (allAtoms (Jvm.Cond.code x code maxLocals ret :: tables_1)).before args0 about1 = true := by
  rw [allAtoms_all]
  show words1.all (fun c => c.before args0 about1) = true
  refine all_split ?_ w_codes
  rw [← List.take_append_drop 24 words1, List.all_append, w_t1, ← List.take_append_drop 24 (words1.drop 24), List.all_append, w_t2, ← List.take_append_drop 24 ((words1.drop 24).drop 24), List.all_append, w_t3, ← List.take_append_drop 24 (((words1.drop 24).drop 24).drop 24), List.all_append, w_t4, ← List.take_append_drop 24 ((((words1.drop 24).drop 24).drop 24).drop 24), List.all_append, w_t5, w_t6]
  rfl
set_option maxRecDepth 65536 in
theorem w_rest : rest_1_c.before args0 about1 = true := by decide +kernel
set_option maxRecDepth 65536 in
theorem w_case : (Jvm.Cond.and given_1 narrow_1).before args0 about1 = true := by decide +kernel
set_option maxRecDepth 65536 in
theorem w_consts : constsHeld consts_1 about1 := Jvm.Lit.constsHeldB_iff.mp (by decide +kernel)
theorem w_applies : (headSpec (Jvm.Cond.code x code maxLocals ret :: tables_1) room_1).applies x e0.platform about1 = true :=
  (Spec.applies_iff w_frames).mpr ⟨w_running, w_runnable, w_alone, w_named, w_hears, w_ripe, w_room, w_tables⟩
theorem atStart : AtStart classFile x code maxLocals ret World_1 tables_1 room_1 Calls_1 rest_1 Pre_1 launch0 p0 e0 about1 theMethod args0 below0 :=
  ⟨lists_1, trivial, launch0.admits_env _ _ _, launch0.least_env, fairChoices_fair.cas, fairChoices_fair.clock, w_frames, w_args, w_heap, w_applies, ⟨w_consts, trivial⟩, w_rest, w_case⟩
end start1
theorem witness_1 : WitnessClaimed_1 := ⟨start1.p0, start1.e0, start1.about1, start1.theMethod, start1.args0, start1.below0, start1.atStart⟩
end Jvm.Pilot.@@N@@
