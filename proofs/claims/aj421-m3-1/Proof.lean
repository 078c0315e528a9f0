import JvmDerived
import JvmDerived.Pilot.@@N@@Statement
import JvmDerived.Pilot.@@N@@Code
set_option linter.unusedVariables false
set_option linter.unusedSimpArgs false
@@BLOCK:NumsL.lean.txt@@
namespace Jvm.RoadKit
open Sem ClassFile Op Lib Bundle Jvm.Stand Jvm.Free Jvm.LawKit
theorem Ext.rfl' {h : Heap} : Ext h h := ⟨Nat.le_refl _, fun _ _ q => q⟩
theorem Ext.tr {h h1 h2 : Heap} (A : Ext h h1) (B : Ext h1 h2) : Ext h h2 := ⟨Nat.le_trans A.1 B.1, fun a c q => B.2 a c (A.2 a c q)⟩
theorem Ext.wr' {h0 h h' : Heap} {a : Addr} {sl : Nat} {v : Value} (A : Ext h0 h) (W : Wr h h' a sl v) (ha : h0.size ≤ a) : Ext h0 h' := by
  obtain ⟨cl, -, -, -, rfl⟩ := W
  refine ⟨by simpa using A.1, fun b c q => ?_⟩
  have hb : b < h0.size := (Array.getElem?_eq_some_iff.mp q).1
  rw [Array.getElem?_setIfInBounds_ne (show a ≠ b from fun z => Nat.not_lt.mpr ha (z ▸ hb))]
  exact A.2 b c q
theorem Ext.keep' {h0 h h' : Heap} {ws : List Addr} (A : Ext h0 h) (K : Keep h h' ws) (q : ∀ x ∈ ws, h0.size ≤ x) : Ext h0 h' :=
  ⟨Nat.le_trans A.1 K.1, fun x c r => K.2.1 x c (A.2 x c r) fun z => absurd (Array.getElem?_eq_some_iff.mp r).1 (Nat.not_lt.mpr (q x z))⟩
end Jvm.RoadKit
namespace Jvm.Own
open Sem ClassFile Op Lib Bundle Jvm.Stand Jvm.Free Jvm.LawKit Jvm.RoadKit
/-! The own layer: a walk is a goal `Run .. vm h cells slots (fr m pc L st)`; each instruction is one lemma that turns the goal behind it into the goal ahead of it. -/
abbrev fr (m : MethodId) (pc : Nat) (L : List Slot) (st : List Value) : JFrame := mkF m pc ⟨L⟩ st
def Ends (tb : Tables) (e : Env) (below : List Frame) (K : State → Outcome → Prop) (T : State) (g : JFrame) : Prop :=
  ∃ s₂ o, Steps tb e below (T.setTop g) s₂ ∧ s₂.status = .running ∧ Ended s₂ below o ∧ K s₂ o
theorem Ends.go {tb : Tables} {e : Env} {below : List Frame} {K : State → Outcome → Prop} {T T' : State} {g g' : JFrame} (st : ∀ t, Steps tb e below (T'.setTop g') t → Steps tb e below (T.setTop g) t) (k : Ends tb e below K T' g') : Ends tb e below K T g := by
  obtain ⟨s₂, o, h1, h2⟩ := k
  exact ⟨s₂, o, st _ h1, h2⟩
/-- one decoded instruction and the pc behind it -/
def Dc (B : ByteArray) (pc : Nat) (i : Instr) (len q : Nat) : Prop := decode B pc = .ok (i, len) ∧ pc + len = q
/-- one decoded branch, the pc behind it and its target -/
def Jp (B : ByteArray) (pc : Nat) (i : Instr) (o : Int) (q t : Nat) : Prop := decode B pc = .ok (i, 3) ∧ pc + 3 = q ∧ 0 ≤ (pc : Int) + o ∧ ((pc : Int) + o).toNat = t
/-- CHr, and in a walk that interns nothing no cell more is a constant's -/
def CHs (nw : Prop) (Z : State) (EL : List (String × Nat)) (vm : Vm) (h : Heap) (vm' : Vm) (h' : Heap) : Prop := CHr Z EL vm h vm' h' ∧ (nw → ∀ y, Bk Z EL vm' h' y → Bk Z EL vm h y)
/-- where the walk stands -/
def Pnt (p : Program) (l : Launch) (e : Env) (R : Room) (s : State) (m : MethodId) (args : Array Value) (below : List Frame) (meth : Method) (c : Code) (Z : State) (nw : Prop) (EL : List (String × Nat)) (vm : Vm) (h : Heap) (cells slots : Nat) (T : State) : Prop :=
  ∃ (k : Nat) (locs : List Loc), Stand p l e R (s.setVm vm) m args below meth c T locs cells slots ∧ T.heap = h ∧ Fr Z.heap.size locs ∧ Ext Z.heap h ∧ s.Since vm k ∧ k ≤ h.size ∧ Z.Warmed39 vm ∧ CHs nw Z EL s.vm s.heap vm h ∧ (nw → s.WarmedH vm)
def Run (p : Program) (l : Launch) (e : Env) (R : Room) (s : State) (m : MethodId) (args : Array Value) (below : List Frame) (meth : Method) (c : Code) (Z : State) (nw : Prop) (EL : List (String × Nat)) (K : State → Outcome → Prop) (vm : Vm) (h : Heap) (cells slots : Nat) (g : JFrame) : Prop :=
  ∀ T, Pnt p l e R s m args below meth c Z nw EL vm h cells slots T → Ends p.tables e below K T g
/-- what never changes in a body's walk -/
def Cx (p : Program) (s : State) (m : MethodId) (meth : Method) (c : Code) (Z : State) (a0 : Array Value) (EL : List (String × Nat)) (own : String) (B : ByteArray) (n : Nat) (nm : String) (ret : Option FieldType) : Prop :=
  p.tables.exec = Jvm.exec ∧ c.code = B ∧ s.vm.findClass own = some m.cls ∧ c.maxLocals = n ∧ meth.locks = false ∧ meth.name = nm ∧ meth.sig.returnType = ret ∧ EW Z a0 EL
/-- how a body ends -/
def Kf (s Z : State) (nw : Prop) (EL : List (String × Nat)) (rm : Room) (Q : Option Value → Heap → Prop) (s₂ : State) (o : Outcome) : Prop :=
  ∃ v L, o = .returned v ∧ Q v s₂.heap ∧ Fr Z.heap.size L ∧ Ext Z.heap s₂.heap ∧ CHs nw Z EL s.vm s.heap s₂.vm s₂.heap ∧ ReturnedEndW s o s₂ L rm.cells rm.slots ∧ (nw → s.WarmedH s₂.vm)
/-- a body's contract -/
def Met (l : Launch) (Z : State) (nw : Prop) (EL : List (String × Nat)) (y : MethodName) (B : ByteArray) (n : Nat) (ret : Option FieldType) (rm : Room) (as : Array Value) (h : Heap) (sf : List Addr) (Q : Option Value → Heap → Prop) : Prop :=
  ∀ ws : List Jvm.Cond, MetFree l y (head1 (Cond.code y B n ret :: ws) rm) (fun a U => a = as ∧ Z.Warmed39 U.vm ∧ U.heap = h ∧ CHv Z EL U.vm h ∧ Ext Z.heap h ∧ ∀ x ∈ sf, Safe Z EL U.vm h x) (fun _ _ _ _ _ => True)
    (fun _ U o U' => Kf U Z nw EL rm Q U' o)
theorem Safe.nil {Z : State} {vm : Vm} {h : Heap} {x : Addr} : Safe Z [] vm h x := fun B => by
  obtain ⟨p, hp, -⟩ := B
  cases hp
theorem CHr.keepSafe {Z : State} {EL : List (String × Nat)} {vm vm1 : Vm} {h h' : Heap} (A : CHr Z EL vm h vm1 h') {x : Addr} (hx : x < h.size) (S : Safe Z EL vm h x) : Safe Z EL vm1 h' x := CHr.safe A hx S
theorem rew_mono {s t : State} {o : Outcome} {L : List Loc} {k n k' n' : Nat} (h : ReturnedEndW s o t L k n) (hk : k ≤ k') (hn : n ≤ n') : ReturnedEndW s o t L k' n' := by
  obtain ⟨h1, h2, h3, h4⟩ := h
  exact ⟨h1, h2, h3, h4.mono hk hn⟩
theorem CHs.refl {nw : Prop} {Z : State} {EL : List (String × Nat)} {vm : Vm} {h : Heap} (H : CHv Z EL vm h) : CHs nw Z EL vm h vm h := ⟨CHr.refl H, fun _ _ q => q⟩
theorem CHs.trans {nw : Prop} {Z : State} {EL : List (String × Nat)} {vm vm1 vm2 : Vm} {h h1 h2 : Heap} (A : CHs nw Z EL vm h vm1 h1) (B : CHs nw Z EL vm1 h1 vm2 h2) : CHs nw Z EL vm h vm2 h2 := ⟨A.1.trans B.1, fun z y q => A.2 z y (B.2 z y q)⟩
theorem CHs.wr {nw : Prop} {Z : State} {EL : List (String × Nat)} {vm : Vm} {h h' : Heap} {a : Addr} {sl : Nat} {v : Value} (W : Wr h h' a sl v) (S : Safe Z EL vm h a) (H : CHv Z EL vm h) : CHs nw Z EL vm h vm h' := ⟨CHr.wr W S H, fun _ => (H.wrStep W S).2⟩
theorem CHs.ext {nw : Prop} {Z : State} {EL : List (String × Nat)} {vm : Vm} {h h' : Heap} (E : Ext h h') (H : CHv Z EL vm h) : CHs nw Z EL vm h vm h' := ⟨CHr.ext E H, fun _ => (H.step fun _ _ _ q => E.2 _ _ q).2⟩
theorem CHs.keep {nw : Prop} {Z : State} {EL : List (String × Nat)} {vm : Vm} {h h' : Heap} {ws : List Addr} (K : Keep h h' ws) (hs : ∀ x ∈ ws, Safe Z EL vm h x) (H : CHv Z EL vm h) : CHs nw Z EL vm h vm h' := ⟨CHr.keep K hs H, fun _ => (H.keepStep K hs).2⟩
theorem CHs.of {nw : Prop} {Z : State} {EL : List (String × Nat)} {vm vm1 : Vm} {h : Heap} (A : CHr Z EL vm h vm1 h) : CHs nw Z EL vm h vm1 h := ⟨A, fun _ y q => by
  rcases A.2.2 y q with z | z
  · exact z
  · obtain ⟨cell, z2⟩ := q.there
    exact absurd (Array.getElem?_eq_some_iff.mp z2).1 (Nat.not_lt.mpr z)⟩
theorem CHs.cold {nw : Prop} {Z : State} {EL : List (String × Nat)} {vm vm1 : Vm} {h h' : Heap} (A : CHr Z EL vm h vm1 h') (hn : ¬ nw) : CHs nw Z EL vm h vm1 h' := ⟨A, fun z => absurd z hn⟩
theorem CHs.mono {nw nw' : Prop} {Z : State} {EL : List (String × Nat)} {vm vm1 : Vm} {h h' : Heap} (A : CHs nw' Z EL vm h vm1 h') (hn : nw → nw') : CHs nw Z EL vm h vm1 h' := ⟨A.1, fun z => A.2 (hn z)⟩
theorem CHs.fresh {nw : Prop} {Z : State} {EL : List (String × Nat)} {vm vm1 : Vm} {h h' : Heap} (A : CHs nw Z EL vm h vm1 h') (z : nw) {x : Addr} (hx : h.size ≤ x) : Safe Z EL vm1 h' x := fun B => by
  obtain ⟨cell, z2⟩ := (A.2 z x B).there
  exact absurd (Array.getElem?_eq_some_iff.mp z2).1 (Nat.not_lt.mpr hx)
section Body
variable {p : Program} {l : Launch} {e : Env} {R : Room} {s : State} {m : MethodId} {args : Array Value} {below : List Frame} {meth : Method} {c : Code} {Z : State} {a0 : Array Value} {nw : Prop} {EL : List (String × Nat)} {K : State → Outcome → Prop} {vm : Vm} {h : Heap} {cells slots : Nat} {own nm : String} {B : ByteArray} {n : Nat} {ret : Option FieldType}
theorem Run.plain {g g' : JFrame} (st : ∀ T, At T m c below → ∀ t, Steps p.tables e below (T.setTop g') t → Steps p.tables e below (T.setTop g) t) (k : Run p l e R s m args below meth c Z nw EL K vm h cells slots g') : Run p l e R s m args below meth c Z nw EL K vm h cells slots g := by
  intro T P
  have P' := P
  obtain ⟨kk, locs, X, -⟩ := P'
  exact Ends.go (st T X.here) (k T P)
/-- what the walk knows at every point -/
theorem Run.know {g : JFrame} (k : Ext Z.heap h → Z.Warmed39 vm → CHv Z EL vm h → Run p l e R s m args below meth c Z nw EL K vm h cells slots g) : Run p l e R s m args below meth c Z nw EL K vm h cells slots g := by
  intro T P
  have P' := P
  obtain ⟨kk, locs, X, e1, e2, e3, e4, e5, e6, e7, e8⟩ := P'
  exact k e3 e6 e7.1.1 T P
theorem Run.warm (C : Cx p s m meth c Z a0 EL own B n nm ret) {g g' : JFrame}
    (st : ∀ T locs, Stand p l e R (s.setVm vm) m args below meth c T locs cells slots → T.heap = h → Z.Warmed39 (s.setVm vm).vm → (s.setVm vm).vm.findClass own = some m.cls → ∃ T', Stand p l e R (s.setVm vm) m args below meth c T' locs cells slots ∧ T'.heap = h ∧ ∀ t, Steps p.tables e below (T'.setTop g') t → Steps p.tables e below (T.setTop g) t)
    (k : Run p l e R s m args below meth c Z nw EL K vm h cells slots g') : Run p l e R s m args below meth c Z nw EL K vm h cells slots g := by
  intro T P
  obtain ⟨kk, locs, X, e1, e2, e3, e4, e5, e6, e7, e8⟩ := P
  obtain ⟨T', X', e1', hst⟩ := st T locs X e1 e6 ((e4.1.alike.findClass _ _).trans C.2.2.1)
  exact Ends.go hst (k T' ⟨kk, locs, X', e1', e2, e3, e4, e5, e6, e7, e8⟩)
theorem Run.write (C : Cx p s m meth c Z a0 EL own B n nm ret) {g g' : JFrame} {a : Addr} {sl : Nat} {v : Value}
    (st : ∀ T locs, Stand p l e R (s.setVm vm) m args below meth c T locs cells slots → T.heap = h → Z.Warmed39 (s.setVm vm).vm → (s.setVm vm).vm.findClass own = some m.cls → ∃ T' h', Stand p l e R (s.setVm vm) m args below meth c T' (locs ++ [⟨a, sl⟩]) cells slots ∧ T'.heap = h' ∧ Wr h h' a sl v ∧ ∀ t, Steps p.tables e below (T'.setTop g') t → Steps p.tables e below (T.setTop g) t)
    (ha : Z.heap.size ≤ a) (hs : Safe Z EL vm h a)
    (k : ∀ h', Wr h h' a sl v → (∀ x, Safe Z EL vm h x → Safe Z EL vm h' x) → Run p l e R s m args below meth c Z nw EL K vm h' cells slots g') : Run p l e R s m args below meth c Z nw EL K vm h cells slots g := by
  intro T P
  obtain ⟨kk, locs, X, e1, e2, e3, e4, e5, e6, e7, e8⟩ := P
  obtain ⟨T', h', X', e1', W, hst⟩ := st T locs X e1 e6 ((e4.1.alike.findClass _ _).trans C.2.2.1)
  refine Ends.go hst (k h' W (fun x S => Safe.wr W hs e7.1.1 S) T' ⟨kk, _, X', e1', Fr.snoc X' e2 ha, Ext.wr' e3 W ha, e4, ?_, e6, e7.trans (CHs.wr W hs e7.1.1), e8⟩)
  rw [W.size]; exact e5
theorem Run.grow (C : Cx p s m meth c Z a0 EL own B n nm ret) {g g' : JFrame} {nn : Nat} {F : Heap → Prop}
    (st : ∀ T locs, Stand p l e R (s.setVm vm) m args below meth c T locs cells slots → T.heap = h → Z.Warmed39 (s.setVm vm).vm → (s.setVm vm).vm.findClass own = some m.cls → ∃ T' h', Stand p l e R (s.setVm vm) m args below meth c T' locs (cells + 1) (slots + nn) ∧ T'.heap = h' ∧ Ext h h' ∧ F h' ∧ ∀ t, Steps p.tables e below (T'.setTop g') t → Steps p.tables e below (T.setTop g) t)
    (k : ∀ h', Ext h h' → F h' → CHv Z EL vm h → (∀ x, Safe Z EL vm h x → Safe Z EL vm h' x) → Run p l e R s m args below meth c Z nw EL K vm h' (cells + 1) (slots + nn) g') : Run p l e R s m args below meth c Z nw EL K vm h cells slots g := by
  intro T P
  obtain ⟨kk, locs, X, e1, e2, e3, e4, e5, e6, e7, e8⟩ := P
  obtain ⟨T', h', X', e1', E, hF, hst⟩ := st T locs X e1 e6 ((e4.1.alike.findClass _ _).trans C.2.2.1)
  exact Ends.go hst (k h' E hF e7.1.1 (fun x S => Safe.ext E e7.1.1 S) T' ⟨kk, _, X', e1', e2, Ext.tr e3 E, e4, Nat.le_trans e5 E.1, e6, e7.trans (CHs.ext E e7.1.1), e8⟩)
/-- a bound on what was made may grow -/
theorem Run.more {g : JFrame} {cells' slots' : Nat} (hc : cells ≤ cells') (hs : slots ≤ slots') (k : Run p l e R s m args below meth c Z nw EL K vm h cells' slots' g) : Run p l e R s m args below meth c Z nw EL K vm h cells slots g := by
  intro T P
  obtain ⟨kk, locs, X, r⟩ := P
  exact k T ⟨kk, locs, X.more hc hs, r⟩
/-- the end of a body -/
theorem Run.out (C : Cx p s m meth c Z a0 EL own B n nm ret) {rm : Room} {Q : Option Value → Heap → Prop} {v : Option Value} {g : JFrame} (hv : ret = none → v = none) (hQ : Q v h) (hc : cells ≤ rm.cells) (hs : slots ≤ rm.slots)
    (st : ∀ T locs, Stand p l e R (s.setVm vm) m args below meth c T locs cells slots → ∀ fs : List Frame, (∀ (f : JFrame) (acts : List Action), f.method = m → f.locked = none → f.entered = [] → (doReturn e (T.setTop f) acts v).1 = T.setFrames fs) → Steps p.tables e below (T.setTop g) (T.setFrames fs)) :
    Run p l e R s m args below meth c Z nw EL (Kf s Z nw EL rm Q) vm h cells slots g := by
  intro T P
  obtain ⟨kk, locs, X, e1, e2, e3, e4, e5, e6, e7, e8⟩ := P
  obtain ⟨fs, hr, hrun, hended, hW⟩ := X.leaveW e4 (by rw [e1]; exact e5) (v := v) (fun q => hv (C.2.2.2.2.2.2.1.symm.trans q)) C.2.2.2.2.1
  refine ⟨_, _, st T locs X fs hr, hrun, hended, v, locs, rfl, ?_, e2, ?_, ?_, rew_mono hW hc hs, fun z => State.WarmedH.trans (t := s.setVm vm) (e8 z) X.warmed⟩
  · show Q v T.heap
    rw [e1]; exact hQ
  · show Ext Z.heap T.heap
    rw [e1]; exact e3
  · show CHs nw Z EL s.vm s.heap T.vm T.heap
    rw [e1]
    exact e7.trans (CHs.of (CHv.at X e6 C.2.2.2.2.2.2.2 e7.1.1))
/-- a body's walk gives its contract; the entry's heap named -/
theorem Met.mkH {y : MethodName} {rm : Room} {as : Array Value} {sf : List Addr} {Q : Option Value → Heap → Prop} (hw : EW Z a0 EL) (hpn : plainFor y = true)
    (body : ∀ (p : Program) (e : Env) (s : State) (m : MethodId) (below : List Frame) (meth : Method) (c : Code), Cx p s m meth c Z a0 EL y.cls B n y.name ret → s.heap = h → Ext Z.heap h → (∀ x ∈ sf, Safe Z EL s.vm h x) →
      Run p l e rm s m as below meth c Z nw EL (Kf s Z nw EL rm Q) s.vm h 0 0 (entryFrame m as n)) : Met l Z nw EL y B n ret rm as h sf Q := by
  intro ws
  refine MetFree.of_bodySF hpn hisR ?_
  intro p e s m args below meth c s₁ Bd hml0 hP hK
  obtain ⟨rfl, hZ, hh, hC, hE, hS⟩ := hP
  have X0 : Stand p l e rm s m args below meth c s₁ [] 0 0 := Stand.of_body Bd
  have e0 : s₁.heap = h := by rw [← hh, Bd.state]; rfl
  have hlk : meth.locks = false := BodyLoose.notSynchronized Bd
  have C : Cx p s m meth c Z a0 EL y.cls B n y.name ret := ⟨Bd.exec, Bd.bytes, findClass_of_methodNamed Bd.named, hml0, hlk, (name_of_methodNamed Bd.named Bd.method).1, Bd.returns, hw⟩
  exact body p e s m below meth c C hh hE hS s₁ ⟨h.size, [], X0, e0, Fr.nil _, hE, (State.WarmedH.refl s).since _, Nat.le_refl _, hZ, by rw [hh]; exact CHs.refl hC, fun _ => State.WarmedH.refl s⟩
/-- a body's walk gives its contract -/
theorem Met.mk {y : MethodName} {rm : Room} {as : Array Value} {sf : List Addr} {Q : Option Value → Heap → Prop} (hw : EW Z a0 EL) (hpn : plainName y.cls = true)
    (body : ∀ (p : Program) (e : Env) (s : State) (m : MethodId) (below : List Frame) (meth : Method) (c : Code), Cx p s m meth c Z a0 EL y.cls B n y.name ret → Ext Z.heap h → (∀ x ∈ sf, Safe Z EL s.vm h x) →
      Run p l e rm s m as below meth c Z nw EL (Kf s Z nw EL rm Q) s.vm h 0 0 (entryFrame m as n)) : Met l Z nw EL y B n ret rm as h sf Q :=
  Met.mkH hw (plainFor_of_name hpn) fun p e s m below meth c C _ hE hS => body p e s m below meth c C hE hS
theorem backM {y : MethodName} {B' : ByteArray} {n' : Nat} {ret' : Option FieldType} {rm : Room} {len W : Nat} {as : Array Value} {sf : List Addr} {Q : Option Value → Heap → Prop} (M : Met l Z nw EL y B' n' ret' rm as h sf Q)
    (hZ : Z.Warmed39 vm) (wc : (Cond.code y B' n' ret').before a0 Z = true) (wz : (Cond.initialized y.cls).before a0 Z = true) (hf : rm.frames + 1 ≤ R.frames) (hl : W + (n' + 11) + rm.locals ≤ R.locals) (hEL : EW Z a0 EL) (H : CHv Z EL vm h) (hE : Ext Z.heap h) (hsf : ∀ x ∈ sf, Safe Z EL vm h x) :
    BackS l R p e below (s.setVm vm) args y len W (fun A a => a = as ∧ A.U.heap = h ∧ A.cells + rm.cells ≤ R.cells ∧ A.slots + rm.slots ≤ R.slots)
      (fun A _ v Bp => ∃ L, Q v Bp.U.heap ∧ Fr Z.heap.size L ∧ Ext Z.heap Bp.U.heap ∧ Bp.locs = A.locs ++ L ∧ Bp.cells = A.cells + rm.cells ∧ Bp.slots = A.slots + rm.slots ∧ CHs nw Z EL vm h Bp.U.vm Bp.U.heap ∧ (nw → (s.setVm vm).WarmedH Bp.U.vm)) :=
  BackS.of_freeW (bytes := B') (maxL := n') (ret := ret') (E := fun _ first o t L k n => k = rm.cells ∧ n = rm.slots ∧ (∃ v, o = .returned v ∧ Q v t.heap) ∧ Fr Z.heap.size L ∧ Ext Z.heap t.heap ∧ CHs nw Z EL first.vm first.heap t.vm t.heap ∧ (nw → first.WarmedH t.vm)) (M []) hf hl
    (fun m meth c A a Y hp => have hU : Z.Warmed39 A.U.vm := wtrans (s := s.setVm vm) hZ Y.warmed
      ⟨by show (Cond.and _ .tt).before a A.U = true; rw [Cond.before_and, mv hU wc]; rfl, mv hU wc, mv hU wz, hp.2.2.1, hp.2.2.2⟩)
    (fun m meth c A a g mk Y hp => by
      have q := CHv.at Y hZ hEL H
      exact ⟨hp.1, wtrans (s := s.setVm vm) hZ Y.warmed, hp.2.1, q.1, hE, fun x hx => (Nat.lt_or_ge x h.size).elim (fun z => CHr.safe q z (hsf x hx)) (fun z => Safe.new z)⟩) (fun _ _ _ _ _ _ _ _ _ => trivial)
    (fun _ _ _ _ ⟨v, L, h1, h2, h3, h4, h5, h6, h7⟩ => ⟨L, _, _, h6, rfl, rfl, ⟨v, h1, h2⟩, h3, h4, h5, h7⟩)
    (fun m meth c A a g mk v t L k n Y hp _ _ ⟨e1, e2, ⟨v', e3, e4⟩, e5, e6, e7, e8⟩ => by
      cases e3; subst e1 e2
      refine ⟨L, e4, e5, e6, rfl, rfl, rfl, (CHs.of (CHv.at Y hZ hEL H)).trans ?_, fun z => State.WarmedH.trans (t := A.U.calling g mk a) Y.warmed (e8 z)⟩
      rw [← hp.2.1]; exact e7)
/-- behind any call of a contract -/
theorem Run.back (C : Cx p s m meth c Z a0 EL own B n nm ret) {nw' : Prop} (hnn : nw → nw') {g : JFrame} {q : Nat} {rm : Room} {Q : Option Value → Heap → Prop} {g' : Option Value → JFrame}
    (st : ∀ k T locs, Stand p l e R (s.setVm vm) m args below meth c T locs cells slots → T.heap = h → Z.Warmed39 vm → (s.setVm vm).vm.findClass own = some m.cls → CHv Z EL vm h → Ext Z.heap h → s.Since vm k → k ≤ h.size →
      ∃ (v : Option Value) (Bp : Pt), Stand p l e R (s.setVm Bp.U.vm) m args below meth c Bp.U Bp.locs Bp.cells Bp.slots ∧ (s.setVm vm).Since Bp.U.vm Bp.U.heap.size ∧ T.heap.size ≤ Bp.U.heap.size ∧ (∃ L, Q v Bp.U.heap ∧ Fr Z.heap.size L ∧ Ext Z.heap Bp.U.heap ∧ Bp.locs = locs ++ L ∧ Bp.cells = cells + rm.cells ∧ Bp.slots = slots + rm.slots ∧ CHs nw' Z EL vm h Bp.U.vm Bp.U.heap ∧ (nw' → (s.setVm vm).WarmedH Bp.U.vm)) ∧
        Steps p.tables e below (T.setTop g) (Bp.U.setTop (g' v)))
    (k : ∀ v vm' h', Q v h' → h.size ≤ h'.size → (∀ x, x < h.size → Safe Z EL vm h x → Safe Z EL vm' h' x) → (nw' → ∀ x, h.size ≤ x → Safe Z EL vm' h' x) → Run p l e R s m args below meth c Z nw EL K vm' h' (cells + rm.cells) (slots + rm.slots) (g' v)) :
    Run p l e R s m args below meth c Z nw EL K vm h cells slots g := by
  intro T P
  obtain ⟨kk, locs, X, e1, e2, e3, e4, e5, e6, e7, e8⟩ := P
  obtain ⟨v, Bp, X', hS, hg, ⟨L, hQ, hFr, hE, l1, l2, l3, hC, hN⟩, hst⟩ := st kk T locs X e1 e6 ((e4.1.alike.findClass _ _).trans C.2.2.1) e7.1.1 e3 e4 e5
  obtain ⟨U, ls, c1, s1⟩ := Bp
  dsimp only [Pt.U, Pt.locs, Pt.cells, Pt.slots] at X' hS hg hQ hE l1 l2 l3 hC hN hst
  subst l1 l2 l3
  have hk : kk ≤ T.heap.size := by rw [e1]; exact e5
  refine Ends.go (fun t z => hst.trans z) (k v U.vm U.heap hQ (by rw [← e1]; exact hg) (fun x hx S => CHr.safe hC.1 hx S) (fun z x hx => hC.fresh z hx) U ⟨U.heap.size, _, X', rfl, Fr.app e2 hFr, hE, e4.trans hS (Nat.le_trans hk hg), Nat.le_refl _, State.Warmed39.trans (t := s.setVm vm) e6 hS.1, e7.trans (hC.mono hnn), fun z => State.WarmedH.trans (t := s.setVm vm) (e8 z) (hN (hnn z))⟩)
end Body
theorem Met.room {l : Launch} {Z : State} {nw : Prop} {EL : List (String × Nat)} {y : MethodName} {B : ByteArray} {n : Nat} {ret : Option FieldType} {rm rm' : Room} {as : Array Value} {h : Heap} {sf : List Addr} {Q : Option Value → Heap → Prop} (M : Met l Z nw EL y B n ret rm as h sf Q) (h1 : rm.frames ≤ rm'.frames) (h2 : rm.cells ≤ rm'.cells) (h3 : rm.slots ≤ rm'.slots) (h4 : rm.locals ≤ rm'.locals) : Met l Z nw EL y B n ret rm' as h sf Q := by
  intro ws p e ha hc hk s m args below hf happ hP hK
  obtain ⟨a1, a2, a3, a4, a5, a6, a7, a8⟩ := (Spec.appliesLoose_iff hf).mp happ
  obtain ⟨k, o, b1, b2, b3, v, L, b4, b5, b6, b7, b8, b9, b10⟩ := M ws p e ha hc hk s m args below hf ((Spec.appliesLoose_iff hf).mpr ⟨a1, a2, a3, a4, a5, a6, hasRoom_mono h1 h4 h2 h3 a7, a8⟩) hP hK
  exact ⟨k, o, b1, b2, b3, v, L, b4, b5, b6, b7, b8, rew_mono b9 h2 h3, b10⟩
/-- what is promised may be weakened -/
theorem Met.imp {l : Launch} {Z : State} {nw : Prop} {EL : List (String × Nat)} {y : MethodName} {B : ByteArray} {n : Nat} {ret : Option FieldType} {rm : Room} {as : Array Value} {h : Heap} {sf : List Addr} {Q Q' : Option Value → Heap → Prop} (M : Met l Z nw EL y B n ret rm as h sf Q) (hq : ∀ v h', Q v h' → Q' v h') : Met l Z nw EL y B n ret rm as h sf Q' := by
  intro ws p e ha hc hk s m args below hf happ hP hK
  obtain ⟨k, o, b1, b2, b3, v, L, b4, b5, b6, b7, b8, b9, b10⟩ := M ws p e ha hc hk s m args below hf happ hP hK
  exact ⟨k, o, b1, b2, b3, v, L, b4, hq _ _ b5, b6, b7, b8, b9, b10⟩
section Steps
variable {p : Program} {l : Launch} {e : Env} {R : Room} {s : State} {m : MethodId} {args : Array Value} {below : List Frame} {meth : Method} {c : Code} {Z : State} {a0 : Array Value} {nw : Prop} {EL : List (String × Nat)} {K : State → Outcome → Prop} {vm : Vm} {h : Heap} {cells slots : Nat} {own nm : String} {B : ByteArray} {n : Nat} {ret : Option FieldType} {pc q tq : Nat} {L : List Slot} {r : List Value} {a : Addr}
theorem R_iadd (C : Cx p s m meth c Z a0 EL own B n nm ret) {x y : Int32} (hd : Dc B pc (.iadd) 1 q) 
    (k : Run p l e R s m args below meth c Z nw EL K vm h cells slots (fr m q L (.int (x + y) :: r))) : Run p l e R s m args below meth c Z nw EL K vm h cells slots (fr m pc L (.int y :: .int x :: r)) := by
  obtain ⟨hd, rfl⟩ := hd
  exact Run.plain (fun T A t st => XS.iadd A C.1 rfl (hb C.2.1 hd) rfl st) k
theorem R_isub (C : Cx p s m meth c Z a0 EL own B n nm ret) {x y : Int32} (hd : Dc B pc (.isub) 1 q) 
    (k : Run p l e R s m args below meth c Z nw EL K vm h cells slots (fr m q L (.int (x - y) :: r))) : Run p l e R s m args below meth c Z nw EL K vm h cells slots (fr m pc L (.int y :: .int x :: r)) := by
  obtain ⟨hd, rfl⟩ := hd
  exact Run.plain (fun T A t st => XS.isub A C.1 rfl (hb C.2.1 hd) rfl st) k
theorem R_imul (C : Cx p s m meth c Z a0 EL own B n nm ret) {x y : Int32} (hd : Dc B pc (.imul) 1 q) 
    (k : Run p l e R s m args below meth c Z nw EL K vm h cells slots (fr m q L (.int (x * y) :: r))) : Run p l e R s m args below meth c Z nw EL K vm h cells slots (fr m pc L (.int y :: .int x :: r)) := by
  obtain ⟨hd, rfl⟩ := hd
  exact Run.plain (fun T A t st => XS.imul A C.1 rfl (hb C.2.1 hd) rfl st) k
theorem R_iand (C : Cx p s m meth c Z a0 EL own B n nm ret) {x y : Int32} (hd : Dc B pc (.iand) 1 q) 
    (k : Run p l e R s m args below meth c Z nw EL K vm h cells slots (fr m q L (.int (x &&& y) :: r))) : Run p l e R s m args below meth c Z nw EL K vm h cells slots (fr m pc L (.int y :: .int x :: r)) := by
  obtain ⟨hd, rfl⟩ := hd
  exact Run.plain (fun T A t st => XS.iand A C.1 rfl (hb C.2.1 hd) rfl st) k
theorem R_ior (C : Cx p s m meth c Z a0 EL own B n nm ret) {x y : Int32} (hd : Dc B pc (.ior) 1 q) 
    (k : Run p l e R s m args below meth c Z nw EL K vm h cells slots (fr m q L (.int (x ||| y) :: r))) : Run p l e R s m args below meth c Z nw EL K vm h cells slots (fr m pc L (.int y :: .int x :: r)) := by
  obtain ⟨hd, rfl⟩ := hd
  exact Run.plain (fun T A t st => XT.ior A C.1 rfl (hb C.2.1 hd) rfl st) k
theorem R_ixor (C : Cx p s m meth c Z a0 EL own B n nm ret) {x y : Int32} (hd : Dc B pc (.ixor) 1 q) 
    (k : Run p l e R s m args below meth c Z nw EL K vm h cells slots (fr m q L (.int (x ^^^ y) :: r))) : Run p l e R s m args below meth c Z nw EL K vm h cells slots (fr m pc L (.int y :: .int x :: r)) := by
  obtain ⟨hd, rfl⟩ := hd
  exact Run.plain (fun T A t st => XT.ixor A C.1 rfl (hb C.2.1 hd) rfl st) k
theorem R_ishl (C : Cx p s m meth c Z a0 EL own B n nm ret) {x y : Int32} (hd : Dc B pc (.ishl) 1 q) 
    (k : Run p l e R s m args below meth c Z nw EL K vm h cells slots (fr m q L (.int (x <<< (y &&& 31)) :: r))) : Run p l e R s m args below meth c Z nw EL K vm h cells slots (fr m pc L (.int y :: .int x :: r)) := by
  obtain ⟨hd, rfl⟩ := hd
  exact Run.plain (fun T A t st => XT.ishl A C.1 rfl (hb C.2.1 hd) rfl st) k
theorem R_ishr (C : Cx p s m meth c Z a0 EL own B n nm ret) {x y : Int32} (hd : Dc B pc (.ishr) 1 q) 
    (k : Run p l e R s m args below meth c Z nw EL K vm h cells slots (fr m q L (.int (x >>> (y &&& 31)) :: r))) : Run p l e R s m args below meth c Z nw EL K vm h cells slots (fr m pc L (.int y :: .int x :: r)) := by
  obtain ⟨hd, rfl⟩ := hd
  exact Run.plain (fun T A t st => XT.ishr A C.1 rfl (hb C.2.1 hd) rfl st) k
theorem R_iushr (C : Cx p s m meth c Z a0 EL own B n nm ret) {x y : Int32} (hd : Dc B pc (.iushr) 1 q) 
    (k : Run p l e R s m args below meth c Z nw EL K vm h cells slots (fr m q L (.int (XT.ushr x y) :: r))) : Run p l e R s m args below meth c Z nw EL K vm h cells slots (fr m pc L (.int y :: .int x :: r)) := by
  obtain ⟨hd, rfl⟩ := hd
  exact Run.plain (fun T A t st => XT.iushr A C.1 rfl (hb C.2.1 hd) rfl st) k
theorem R_ineg (C : Cx p s m meth c Z a0 EL own B n nm ret) {x : Int32} (hd : Dc B pc (.ineg) 1 q) 
    (k : Run p l e R s m args below meth c Z nw EL K vm h cells slots (fr m q L (.int (-x) :: r))) : Run p l e R s m args below meth c Z nw EL K vm h cells slots (fr m pc L (.int x :: r)) := by
  obtain ⟨hd, rfl⟩ := hd
  exact Run.plain (fun T A t st => XS.ineg A C.1 rfl (hb C.2.1 hd) rfl st) k
theorem R_idiv (C : Cx p s m meth c Z a0 EL own B n nm ret) {x y : Int32} (hd : Dc B pc (.idiv) 1 q) (hy : y ≠ 0)
    (k : Run p l e R s m args below meth c Z nw EL K vm h cells slots (fr m q L (.int (x / y) :: r))) : Run p l e R s m args below meth c Z nw EL K vm h cells slots (fr m pc L (.int y :: .int x :: r)) := by
  obtain ⟨hd, rfl⟩ := hd
  exact Run.plain (fun T A t st => XS.idiv A C.1 rfl (hb C.2.1 hd) rfl hy st) k
theorem R_irem (C : Cx p s m meth c Z a0 EL own B n nm ret) {x y : Int32} (hd : Dc B pc (.irem) 1 q) (hy : y ≠ 0)
    (k : Run p l e R s m args below meth c Z nw EL K vm h cells slots (fr m q L (.int (x % y) :: r))) : Run p l e R s m args below meth c Z nw EL K vm h cells slots (fr m pc L (.int y :: .int x :: r)) := by
  obtain ⟨hd, rfl⟩ := hd
  refine Run.plain (fun T A t st => XS.irem A C.1 rfl (hb C.2.1 hd) rfl hy ?_) k
  have q : x - x / y * y = x % y := irem_eq_mod x y
  rw [q]; exact st
theorem R_ladd (C : Cx p s m meth c Z a0 EL own B n nm ret) {x y : Int64} (hd : Dc B pc (.ladd) 1 q) 
    (k : Run p l e R s m args below meth c Z nw EL K vm h cells slots (fr m q L (.long (x + y) :: r))) : Run p l e R s m args below meth c Z nw EL K vm h cells slots (fr m pc L (.long y :: .long x :: r)) := by
  obtain ⟨hd, rfl⟩ := hd
  exact Run.plain (fun T A t st => XT.ladd A C.1 rfl (hb C.2.1 hd) rfl st) k
theorem R_lsub (C : Cx p s m meth c Z a0 EL own B n nm ret) {x y : Int64} (hd : Dc B pc (.lsub) 1 q) 
    (k : Run p l e R s m args below meth c Z nw EL K vm h cells slots (fr m q L (.long (x - y) :: r))) : Run p l e R s m args below meth c Z nw EL K vm h cells slots (fr m pc L (.long y :: .long x :: r)) := by
  obtain ⟨hd, rfl⟩ := hd
  exact Run.plain (fun T A t st => XT.lsub A C.1 rfl (hb C.2.1 hd) rfl st) k
theorem R_lmul (C : Cx p s m meth c Z a0 EL own B n nm ret) {x y : Int64} (hd : Dc B pc (.lmul) 1 q) 
    (k : Run p l e R s m args below meth c Z nw EL K vm h cells slots (fr m q L (.long (x * y) :: r))) : Run p l e R s m args below meth c Z nw EL K vm h cells slots (fr m pc L (.long y :: .long x :: r)) := by
  obtain ⟨hd, rfl⟩ := hd
  exact Run.plain (fun T A t st => XT.lmul A C.1 rfl (hb C.2.1 hd) rfl st) k
theorem R_land (C : Cx p s m meth c Z a0 EL own B n nm ret) {x y : Int64} (hd : Dc B pc (.land) 1 q) 
    (k : Run p l e R s m args below meth c Z nw EL K vm h cells slots (fr m q L (.long (x &&& y) :: r))) : Run p l e R s m args below meth c Z nw EL K vm h cells slots (fr m pc L (.long y :: .long x :: r)) := by
  obtain ⟨hd, rfl⟩ := hd
  exact Run.plain (fun T A t st => XT.land A C.1 rfl (hb C.2.1 hd) rfl st) k
theorem R_lor (C : Cx p s m meth c Z a0 EL own B n nm ret) {x y : Int64} (hd : Dc B pc (.lor) 1 q) 
    (k : Run p l e R s m args below meth c Z nw EL K vm h cells slots (fr m q L (.long (x ||| y) :: r))) : Run p l e R s m args below meth c Z nw EL K vm h cells slots (fr m pc L (.long y :: .long x :: r)) := by
  obtain ⟨hd, rfl⟩ := hd
  exact Run.plain (fun T A t st => XT.lor A C.1 rfl (hb C.2.1 hd) rfl st) k
theorem R_lxor (C : Cx p s m meth c Z a0 EL own B n nm ret) {x y : Int64} (hd : Dc B pc (.lxor) 1 q) 
    (k : Run p l e R s m args below meth c Z nw EL K vm h cells slots (fr m q L (.long (x ^^^ y) :: r))) : Run p l e R s m args below meth c Z nw EL K vm h cells slots (fr m pc L (.long y :: .long x :: r)) := by
  obtain ⟨hd, rfl⟩ := hd
  exact Run.plain (fun T A t st => XT.lxor A C.1 rfl (hb C.2.1 hd) rfl st) k
theorem R_lushr (C : Cx p s m meth c Z a0 EL own B n nm ret) {x : Int64} {y : Int32} (hd : Dc B pc (.lushr) 1 q) 
    (k : Run p l e R s m args below meth c Z nw EL K vm h cells slots (fr m q L (.long (XT.ushrL x y) :: r))) : Run p l e R s m args below meth c Z nw EL K vm h cells slots (fr m pc L (.int y :: .long x :: r)) := by
  obtain ⟨hd, rfl⟩ := hd
  exact Run.plain (fun T A t st => XT.lushr A C.1 rfl (hb C.2.1 hd) rfl st) k
theorem R_lcmp (C : Cx p s m meth c Z a0 EL own B n nm ret) {x y : Int64} (hd : Dc B pc (.lcmp) 1 q) 
    (k : Run p l e R s m args below meth c Z nw EL K vm h cells slots (fr m q L (.int (XT.cmpL x y) :: r))) : Run p l e R s m args below meth c Z nw EL K vm h cells slots (fr m pc L (.long y :: .long x :: r)) := by
  obtain ⟨hd, rfl⟩ := hd
  exact Run.plain (fun T A t st => XT.lcmp A C.1 rfl (hb C.2.1 hd) rfl st) k
theorem R_i2l (C : Cx p s m meth c Z a0 EL own B n nm ret) {x : Int32} (hd : Dc B pc (.i2l) 1 q) 
    (k : Run p l e R s m args below meth c Z nw EL K vm h cells slots (fr m q L (.long x.toInt64 :: r))) : Run p l e R s m args below meth c Z nw EL K vm h cells slots (fr m pc L (.int x :: r)) := by
  obtain ⟨hd, rfl⟩ := hd
  exact Run.plain (fun T A t st => XT.i2l A C.1 rfl (hb C.2.1 hd) rfl st) k
theorem R_l2i (C : Cx p s m meth c Z a0 EL own B n nm ret) {x : Int64} (hd : Dc B pc (.l2i) 1 q) 
    (k : Run p l e R s m args below meth c Z nw EL K vm h cells slots (fr m q L (.int x.toInt32 :: r))) : Run p l e R s m args below meth c Z nw EL K vm h cells slots (fr m pc L (.long x :: r)) := by
  obtain ⟨hd, rfl⟩ := hd
  exact Run.plain (fun T A t st => XT.l2i A C.1 rfl (hb C.2.1 hd) rfl st) k
theorem R_i2b (C : Cx p s m meth c Z a0 EL own B n nm ret) {x : Int32} (hd : Dc B pc (.i2b) 1 q) 
    (k : Run p l e R s m args below meth c Z nw EL K vm h cells slots (fr m q L (.int x.toInt8.toInt32 :: r))) : Run p l e R s m args below meth c Z nw EL K vm h cells slots (fr m pc L (.int x :: r)) := by
  obtain ⟨hd, rfl⟩ := hd
  exact Run.plain (fun T A t st => XT.i2b A C.1 rfl (hb C.2.1 hd) rfl st) k
theorem R_i2c (C : Cx p s m meth c Z a0 EL own B n nm ret) {x : Int32} (hd : Dc B pc (.i2c) 1 q) 
    (k : Run p l e R s m args below meth c Z nw EL K vm h cells slots (fr m q L (.int (nar .char x) :: r))) : Run p l e R s m args below meth c Z nw EL K vm h cells slots (fr m pc L (.int x :: r)) := by
  obtain ⟨hd, rfl⟩ := hd
  exact Run.plain (fun T A t st => XT.i2c A C.1 rfl (hb C.2.1 hd) rfl st) k
theorem R_dup (C : Cx p s m meth c Z a0 EL own B n nm ret) {v : Value} (hd : Dc B pc (.dup) 1 q) (hc : v.category = 1)
    (k : Run p l e R s m args below meth c Z nw EL K vm h cells slots (fr m q L (v :: v :: r))) : Run p l e R s m args below meth c Z nw EL K vm h cells slots (fr m pc L (v :: r)) := by
  obtain ⟨hd, rfl⟩ := hd
  exact Run.plain (fun T A t st => XS.dup A C.1 rfl (hb C.2.1 hd) rfl hc st) k
theorem R_pop (C : Cx p s m meth c Z a0 EL own B n nm ret) {v : Value} (hd : Dc B pc (.pop) 1 q) (hc : v.category = 1)
    (k : Run p l e R s m args below meth c Z nw EL K vm h cells slots (fr m q L (r))) : Run p l e R s m args below meth c Z nw EL K vm h cells slots (fr m pc L (v :: r)) := by
  obtain ⟨hd, rfl⟩ := hd
  exact Run.plain (fun T A t st => XT.pop A C.1 rfl (hb C.2.1 hd) rfl hc st) k
theorem R_dup_x1 (C : Cx p s m meth c Z a0 EL own B n nm ret) {v w : Value} (hd : Dc B pc (.dup_x1) 1 q) (hc : v.category = 1) (hc' : w.category = 1)
    (k : Run p l e R s m args below meth c Z nw EL K vm h cells slots (fr m q L (v :: w :: v :: r))) : Run p l e R s m args below meth c Z nw EL K vm h cells slots (fr m pc L (v :: w :: r)) := by
  obtain ⟨hd, rfl⟩ := hd
  exact Run.plain (fun T A t st => XT.dupX1 A C.1 rfl (hb C.2.1 hd) rfl hc hc' st) k
theorem R_dup2 (C : Cx p s m meth c Z a0 EL own B n nm ret) {v w : Value} (hd : Dc B pc (.dup2) 1 q) (hc : v.category = 1) (hc' : w.category = 1)
    (k : Run p l e R s m args below meth c Z nw EL K vm h cells slots (fr m q L (v :: w :: v :: w :: r))) : Run p l e R s m args below meth c Z nw EL K vm h cells slots (fr m pc L (v :: w :: r)) := by
  obtain ⟨hd, rfl⟩ := hd
  exact Run.plain (fun T A t st => XT.dup2 A C.1 rfl (hb C.2.1 hd) rfl hc hc' st) k
theorem R_aconst_null (C : Cx p s m meth c Z a0 EL own B n nm ret)  (hd : Dc B pc (.aconst_null) 1 q) 
    (k : Run p l e R s m args below meth c Z nw EL K vm h cells slots (fr m q L (.null :: r))) : Run p l e R s m args below meth c Z nw EL K vm h cells slots (fr m pc L (r)) := by
  obtain ⟨hd, rfl⟩ := hd
  exact Run.plain (fun T A t st => XS.aconstNull A C.1 rfl (hb C.2.1 hd)  st) k
theorem R_iconst (C : Cx p s m meth c Z a0 EL own B n nm ret) {i : Int} {v : Int32} (hd : Dc B pc (.iconst i) 1 q) (hv : Int32.ofInt i = v)
    (k : Run p l e R s m args below meth c Z nw EL K vm h cells slots (fr m q L (.int v :: r))) : Run p l e R s m args below meth c Z nw EL K vm h cells slots (fr m pc L r) := by
  obtain ⟨hd, rfl⟩ := hd
  subst hv
  exact Run.plain (fun T A t st => XS.iconst A C.1 rfl (hb C.2.1 hd) st) k
theorem R_bipush (C : Cx p s m meth c Z a0 EL own B n nm ret) {i : Int} {v : Int32} (hd : Dc B pc (.bipush i) 2 q) (hv : (Int8.ofInt i).toInt32 = v)
    (k : Run p l e R s m args below meth c Z nw EL K vm h cells slots (fr m q L (.int v :: r))) : Run p l e R s m args below meth c Z nw EL K vm h cells slots (fr m pc L r) := by
  obtain ⟨hd, rfl⟩ := hd
  subst hv
  exact Run.plain (fun T A t st => XS.bipush A C.1 rfl (hb C.2.1 hd) st) k
theorem R_sipush (C : Cx p s m meth c Z a0 EL own B n nm ret) {i : Int} {v : Int32} (hd : Dc B pc (.sipush i) 3 q) (hv : (Int16.ofInt i).toInt32 = v)
    (k : Run p l e R s m args below meth c Z nw EL K vm h cells slots (fr m q L (.int v :: r))) : Run p l e R s m args below meth c Z nw EL K vm h cells slots (fr m pc L r) := by
  obtain ⟨hd, rfl⟩ := hd
  subst hv
  exact Run.plain (fun T A t st => XS.sipush A C.1 rfl (hb C.2.1 hd) st) k
theorem R_lconst (C : Cx p s m meth c Z a0 EL own B n nm ret) {i : Fin 2} {v : Int64} (hd : Dc B pc (.lconst i) 1 q) (hv : Int64.ofNat i = v)
    (k : Run p l e R s m args below meth c Z nw EL K vm h cells slots (fr m q L (.long v :: r))) : Run p l e R s m args below meth c Z nw EL K vm h cells slots (fr m pc L r) := by
  obtain ⟨hd, rfl⟩ := hd
  subst hv
  exact Run.plain (fun T A t st => XT.lconst A C.1 rfl (hb C.2.1 hd) st) k
theorem lget {L : List Slot} {k : Nat} {x : Slot} (h : L[k]? = some x) : (⟨L⟩ : Array Slot)[k]? = some x := by simpa using h
theorem R_iload (C : Cx p s m meth c Z a0 EL own B n nm ret) {j : Nat} {v : Int32} (hd : Dc B pc (.iload j) 2 q) (hl : L[j]? = some (.val (.int v)))
    (k : Run p l e R s m args below meth c Z nw EL K vm h cells slots (fr m q L (.int v :: r))) : Run p l e R s m args below meth c Z nw EL K vm h cells slots (fr m pc L r) := by
  obtain ⟨hd, rfl⟩ := hd
  exact Run.plain (fun T A t st => XS.iload A C.1 rfl (hb C.2.1 hd) (lget hl) st) k
theorem R_iload_n (C : Cx p s m meth c Z a0 EL own B n nm ret) {j : Fin 4} {v : Int32} (hd : Dc B pc (.iload_n j) 1 q) (hl : L[j.val]? = some (.val (.int v)))
    (k : Run p l e R s m args below meth c Z nw EL K vm h cells slots (fr m q L (.int v :: r))) : Run p l e R s m args below meth c Z nw EL K vm h cells slots (fr m pc L r) := by
  obtain ⟨hd, rfl⟩ := hd
  exact Run.plain (fun T A t st => XS.iloadN A C.1 rfl (hb C.2.1 hd) (lget hl) st) k
theorem R_lload (C : Cx p s m meth c Z a0 EL own B n nm ret) {j : Nat} {v : Int64} (hd : Dc B pc (.lload j) 2 q) (hl : L[j]? = some (.val (.long v)))
    (k : Run p l e R s m args below meth c Z nw EL K vm h cells slots (fr m q L (.long v :: r))) : Run p l e R s m args below meth c Z nw EL K vm h cells slots (fr m pc L r) := by
  obtain ⟨hd, rfl⟩ := hd
  exact Run.plain (fun T A t st => XT.lload A C.1 rfl (hb C.2.1 hd) (lget hl) st) k
theorem R_lload_n (C : Cx p s m meth c Z a0 EL own B n nm ret) {j : Fin 4} {v : Int64} (hd : Dc B pc (.lload_n j) 1 q) (hl : L[j.val]? = some (.val (.long v)))
    (k : Run p l e R s m args below meth c Z nw EL K vm h cells slots (fr m q L (.long v :: r))) : Run p l e R s m args below meth c Z nw EL K vm h cells slots (fr m pc L r) := by
  obtain ⟨hd, rfl⟩ := hd
  exact Run.plain (fun T A t st => XT.lloadN A C.1 rfl (hb C.2.1 hd) (lget hl) st) k
theorem R_aload (C : Cx p s m meth c Z a0 EL own B n nm ret) {j : Nat} {v : Value} (hd : Dc B pc (.aload j) 2 q) (hl : L[j]? = some (.val v)) (hv : v.isRef = true)
    (k : Run p l e R s m args below meth c Z nw EL K vm h cells slots (fr m q L (v :: r))) : Run p l e R s m args below meth c Z nw EL K vm h cells slots (fr m pc L r) := by
  obtain ⟨hd, rfl⟩ := hd
  exact Run.plain (fun T A t st => XS.aload A C.1 rfl (hb C.2.1 hd) (lget hl) hv st) k
theorem R_aload_n (C : Cx p s m meth c Z a0 EL own B n nm ret) {j : Fin 4} {v : Value} (hd : Dc B pc (.aload_n j) 1 q) (hl : L[j.val]? = some (.val v)) (hv : v.isRef = true)
    (k : Run p l e R s m args below meth c Z nw EL K vm h cells slots (fr m q L (v :: r))) : Run p l e R s m args below meth c Z nw EL K vm h cells slots (fr m pc L r) := by
  obtain ⟨hd, rfl⟩ := hd
  exact Run.plain (fun T A t st => XS.aloadN A C.1 rfl (hb C.2.1 hd) (lget hl) hv st) k
theorem notin1 {x a : Nat} (h : x < a) : x ∉ [a] := fun z => Nat.lt_irrefl _ ((List.mem_singleton.mp z) ▸ h)
theorem notin2 {x a b : Nat} (h1 : x < a) (h2 : x < b) : x ∉ [a, b] := fun z => by
  rcases List.mem_cons.mp z with z | z
  · rw [z] at h1; exact Nat.lt_irrefl _ h1
  · exact notin1 h2 z
theorem cat_int (x : Int32) : (Value.int x).category = 1 := rfl
theorem cat_rf (x : Addr) : (Value.ref x).category = 1 := rfl
theorem cat_lng (x : Int64) : (Value.long x).category = 2 := rfl
theorem fv0 : ((0 : Fin 4) : Nat) = 0 := rfl
theorem fv1 : ((1 : Fin 4) : Nat) = 1 := rfl
theorem fv2 : ((2 : Fin 4) : Nat) = 2 := rfl
theorem fv3 : ((3 : Fin 4) : Nat) = 3 := rfl
def okSlot (x : Slot) : Bool := match x with | .unset => true | .val v => v.category == 1 | .second => false
def okS (L : List Slot) (k : Nat) : Bool := match L[k]? with | some x => okSlot x | none => false
theorem okS_store {L : List Slot} {k : Nat} {v : Value} (h : okS L k = true) (hv : v.category = 1) : storeLocals ⟨L⟩ k v = some ⟨L.set k (.val v)⟩ := by
  have q : (⟨L⟩ : Array Slot).setIfInBounds k (.val v) = ⟨L.set k (.val v)⟩ := by simp
  rw [← q]
  unfold okS at h
  cases e : L[k]? with
  | none => rw [e] at h; cases h
  | some x =>
    rw [e] at h
    cases x with
    | unset => exact XS.store1 (lget e) (Or.inl rfl) hv
    | second => cases h
    | val w => exact XS.store1 (lget e) (Or.inr ⟨w, rfl, by simpa [okSlot] using h⟩) hv
theorem R_istore (C : Cx p s m meth c Z a0 EL own B n nm ret) {j : Nat} {v : Int32} (hd : Dc B pc (.istore j) 2 q) (hl : okS L j = true)
    (k : Run p l e R s m args below meth c Z nw EL K vm h cells slots (fr m q (L.set j (.val (.int v))) r)) : Run p l e R s m args below meth c Z nw EL K vm h cells slots (fr m pc L (.int v :: r)) := by
  obtain ⟨hd, rfl⟩ := hd
  exact Run.plain (fun T A t st => XS.istore A C.1 rfl (hb C.2.1 hd) rfl (okS_store hl rfl) st) k
theorem R_istore_n (C : Cx p s m meth c Z a0 EL own B n nm ret) {j : Fin 4} {v : Int32} (hd : Dc B pc (.istore_n j) 1 q) (hl : okS L j.val = true)
    (k : Run p l e R s m args below meth c Z nw EL K vm h cells slots (fr m q (L.set j.val (.val (.int v))) r)) : Run p l e R s m args below meth c Z nw EL K vm h cells slots (fr m pc L (.int v :: r)) := by
  obtain ⟨hd, rfl⟩ := hd
  exact Run.plain (fun T A t st => XS.istoreN A C.1 rfl (hb C.2.1 hd) rfl (okS_store hl rfl) st) k
theorem R_astore (C : Cx p s m meth c Z a0 EL own B n nm ret) {j : Nat} {v : Value} (hd : Dc B pc (.astore j) 2 q) (hv : v.isRef = true) (hc : v.category = 1) (hl : okS L j = true)
    (k : Run p l e R s m args below meth c Z nw EL K vm h cells slots (fr m q (L.set j (.val v)) r)) : Run p l e R s m args below meth c Z nw EL K vm h cells slots (fr m pc L (v :: r)) := by
  obtain ⟨hd, rfl⟩ := hd
  exact Run.plain (fun T A t st => XS.astore A C.1 rfl (hb C.2.1 hd) rfl hv (okS_store hl hc) st) k
theorem R_astore_n (C : Cx p s m meth c Z a0 EL own B n nm ret) {j : Fin 4} {v : Value} (hd : Dc B pc (.astore_n j) 1 q) (hv : v.isRef = true) (hc : v.category = 1) (hl : okS L j.val = true)
    (k : Run p l e R s m args below meth c Z nw EL K vm h cells slots (fr m q (L.set j.val (.val v)) r)) : Run p l e R s m args below meth c Z nw EL K vm h cells slots (fr m pc L (v :: r)) := by
  obtain ⟨hd, rfl⟩ := hd
  exact Run.plain (fun T A t st => XS.astoreN A C.1 rfl (hb C.2.1 hd) rfl hv (okS_store hl hc) st) k
theorem R_lstore (C : Cx p s m meth c Z a0 EL own B n nm ret) {j : Nat} {v : Int64} {L' : List Slot} (hd : Dc B pc (.lstore j) 2 q) (hl : storeLocals ⟨L⟩ j (.long v) = some ⟨L'⟩)
    (k : Run p l e R s m args below meth c Z nw EL K vm h cells slots (fr m q L' r)) : Run p l e R s m args below meth c Z nw EL K vm h cells slots (fr m pc L (.long v :: r)) := by
  obtain ⟨hd, rfl⟩ := hd
  exact Run.plain (fun T A t st => XT.lstore A C.1 rfl (hb C.2.1 hd) rfl hl st) k
theorem R_iinc (C : Cx p s m meth c Z a0 EL own B n nm ret) {j : Nat} {d : Int} {v w dI : Int32} (hd : Dc B pc (.iinc j d) 3 q) (hl : L[j]? = some (.val (.int v))) (ho : okS L j = true) (hdI : Int32.ofInt d = dI) (hw : v + dI = w)
    (k : Run p l e R s m args below meth c Z nw EL K vm h cells slots (fr m q (L.set j (.val (.int w))) r)) : Run p l e R s m args below meth c Z nw EL K vm h cells slots (fr m pc L r) := by
  obtain ⟨hd, rfl⟩ := hd
  subst hdI hw
  exact Run.plain (fun T A t st => XS.iinc A C.1 rfl (hb C.2.1 hd) (lget hl) (okS_store ho rfl) st) k
theorem R_goto (C : Cx p s m meth c Z a0 EL own B n nm ret) {o : Int} (hd : Jp B pc (.goto o) o q tq)
    (k : Run p l e R s m args below meth c Z nw EL K vm h cells slots (fr m tq L r)) : Run p l e R s m args below meth c Z nw EL K vm h cells slots (fr m pc L r) := by
  obtain ⟨hd, -, h1, h2⟩ := hd
  exact Run.plain (fun T A t st => XS.goto A C.1 rfl rfl (hb C.2.1 hd) h1 h2 st) k
abbrev cpr (cd : ClassFile.Cond) (x y : Int32) : Prop := match cd with | .eq => x = y | .ne => ¬ x = y | .lt => x < y | .ge => ¬ x < y | .gt => y < x | .le => ¬ y < x
theorem cpr_t {cd : ClassFile.Cond} {x y : Int32} (h : cpr cd x y) : if_icmp.holds cd x y = true := by
  cases cd
  · exact (teq h).1
  · exact (feq h).2
  · exact (tlt h).1
  · exact (flt h).2.1
  · exact (tlt h).2.2.1
  · exact (flt h).2.2.2
theorem cpr_f {cd : ClassFile.Cond} {x y : Int32} (h : ¬ cpr cd x y) : if_icmp.holds cd x y = false := by
  cases cd
  · exact (feq h).1
  · exact (teq (Decidable.not_not.mp h)).2
  · exact (flt h).1
  · exact (tlt (Decidable.not_not.mp h)).2.1
  · exact (flt h).2.2.1
  · exact (tlt (Decidable.not_not.mp h)).2.2.2
theorem R_icmp (C : Cx p s m meth c Z a0 EL own B n nm ret) {cd : ClassFile.Cond} {o : Int} {x y : Int32} (hd : Jp B pc (.if_icmp cd o) o q tq)
    (k1 : cpr cd x y → Run p l e R s m args below meth c Z nw EL K vm h cells slots (fr m tq L r)) (k2 : ¬ cpr cd x y → Run p l e R s m args below meth c Z nw EL K vm h cells slots (fr m q L r)) : Run p l e R s m args below meth c Z nw EL K vm h cells slots (fr m pc L (.int y :: .int x :: r)) := by
  obtain ⟨hd, rfl, h1, h2⟩ := hd
  by_cases hc : cpr cd x y
  · exact Run.plain (fun T A t st => XS.icmpYes A C.1 rfl rfl (hb C.2.1 hd) rfl (cpr_t hc) h1 h2 st) (k1 hc)
  · exact Run.plain (fun T A t st => XS.icmpNo A C.1 rfl (hb C.2.1 hd) rfl (cpr_f hc) st) (k2 hc)
theorem R_if (C : Cx p s m meth c Z a0 EL own B n nm ret) {cd : ClassFile.Cond} {o : Int} {x : Int32} (hd : Jp B pc (.ifCond cd o) o q tq)
    (k1 : cpr cd x 0 → Run p l e R s m args below meth c Z nw EL K vm h cells slots (fr m tq L r)) (k2 : ¬ cpr cd x 0 → Run p l e R s m args below meth c Z nw EL K vm h cells slots (fr m q L r)) : Run p l e R s m args below meth c Z nw EL K vm h cells slots (fr m pc L (.int x :: r)) := by
  obtain ⟨hd, rfl, h1, h2⟩ := hd
  by_cases hc : cpr cd x 0
  · exact Run.plain (fun T A t st => XS.ifYes A C.1 rfl rfl (hb C.2.1 hd) rfl ((if0 _ _).trans (cpr_t hc)) h1 h2 st) (k1 hc)
  · exact Run.plain (fun T A t st => XS.ifNo A C.1 rfl (hb C.2.1 hd) rfl ((if0 _ _).trans (cpr_f hc)) st) (k2 hc)
theorem R_ifnull_y (C : Cx p s m meth c Z a0 EL own B n nm ret) {o : Int} (hd : Jp B pc (.ifnull o) o q tq)
    (k : Run p l e R s m args below meth c Z nw EL K vm h cells slots (fr m tq L r)) : Run p l e R s m args below meth c Z nw EL K vm h cells slots (fr m pc L (.null :: r)) := by
  obtain ⟨hd, rfl, h1, h2⟩ := hd
  exact Run.plain (fun T A t st => XS.ifnullYes A C.1 rfl rfl (hb C.2.1 hd) rfl h1 h2 st) k
theorem R_ifnull_n (C : Cx p s m meth c Z a0 EL own B n nm ret) {o : Int} (hd : Jp B pc (.ifnull o) o q tq)
    (k : Run p l e R s m args below meth c Z nw EL K vm h cells slots (fr m q L r)) : Run p l e R s m args below meth c Z nw EL K vm h cells slots (fr m pc L (.ref a :: r)) := by
  obtain ⟨hd, rfl, h1, h2⟩ := hd
  exact Run.plain (fun T A t st => XS.ifnullNo A C.1 rfl (hb C.2.1 hd) rfl st) k
theorem R_ifnonnull_y (C : Cx p s m meth c Z a0 EL own B n nm ret) {o : Int} (hd : Jp B pc (.ifnonnull o) o q tq)
    (k : Run p l e R s m args below meth c Z nw EL K vm h cells slots (fr m tq L r)) : Run p l e R s m args below meth c Z nw EL K vm h cells slots (fr m pc L (.ref a :: r)) := by
  obtain ⟨hd, rfl, h1, h2⟩ := hd
  exact Run.plain (fun T A t st => XT.ifnonnullYes A C.1 rfl rfl (hb C.2.1 hd) rfl h1 h2 st) k
theorem R_ifnonnull_n (C : Cx p s m meth c Z a0 EL own B n nm ret) {o : Int} (hd : Jp B pc (.ifnonnull o) o q tq)
    (k : Run p l e R s m args below meth c Z nw EL K vm h cells slots (fr m q L r)) : Run p l e R s m args below meth c Z nw EL K vm h cells slots (fr m pc L (.null :: r)) := by
  obtain ⟨hd, rfl, h1, h2⟩ := hd
  exact Run.plain (fun T A t st => XT.ifnonnullNo A C.1 rfl (hb C.2.1 hd) rfl st) k
theorem R_acmp_ne (C : Cx p s m meth c Z a0 EL own B n nm ret) {o : Int} {v w : Value} (hd : Jp B pc (.if_acmp .ne o) o q tq) (hv : v.isRef = true) (hw : w.isRef = true)
    (k1 : v ≠ w → Run p l e R s m args below meth c Z nw EL K vm h cells slots (fr m tq L r)) (k2 : v = w → Run p l e R s m args below meth c Z nw EL K vm h cells slots (fr m q L r)) : Run p l e R s m args below meth c Z nw EL K vm h cells slots (fr m pc L (w :: v :: r)) := by
  obtain ⟨hd, rfl, h1, h2⟩ := hd
  by_cases hc : v = w
  · exact Run.plain (fun T A t st => XT.acmpNo A C.1 rfl (hb C.2.1 hd) rfl hv hw (by simp [XT.acmp, hc]) st) (k2 hc)
  · exact Run.plain (fun T A t st => XT.acmpYes A C.1 rfl rfl (hb C.2.1 hd) rfl hv hw (by simp [XT.acmp, hc]) h1 h2 st) (k1 hc)
theorem R_acmp_eq (C : Cx p s m meth c Z a0 EL own B n nm ret) {o : Int} {v w : Value} (hd : Jp B pc (.if_acmp .eq o) o q tq) (hv : v.isRef = true) (hw : w.isRef = true)
    (k1 : v = w → Run p l e R s m args below meth c Z nw EL K vm h cells slots (fr m tq L r)) (k2 : v ≠ w → Run p l e R s m args below meth c Z nw EL K vm h cells slots (fr m q L r)) : Run p l e R s m args below meth c Z nw EL K vm h cells slots (fr m pc L (w :: v :: r)) := by
  obtain ⟨hd, rfl, h1, h2⟩ := hd
  by_cases hc : v = w
  · exact Run.plain (fun T A t st => XT.acmpYes A C.1 rfl rfl (hb C.2.1 hd) rfl hv hw (by simp [XT.acmp, hc]) h1 h2 st) (k1 hc)
  · exact Run.plain (fun T A t st => XT.acmpNo A C.1 rfl (hb C.2.1 hd) rfl hv hw (by simp [XT.acmp, hc]) st) (k2 hc)
theorem R_getfield (C : Cx p s m meth c Z a0 EL own B n nm ret) {idx : Nat} {R0 O f d : String} {v : Value} (hd : Dc B pc (.getfield idx) 3 q) (w : (Cond.fieldLink own idx R0 f d).before a0 Z = true) (via : Via Z R0 O f d) (F : Fld Z h a O f d v)
    (k : Run p l e R s m args below meth c Z nw EL K vm h cells slots (fr m q L (v :: r))) : Run p l e R s m args below meth c Z nw EL K vm h cells slots (fr m pc L (.ref a :: r)) := by
  obtain ⟨hd, rfl⟩ := hd
  exact Run.warm C (fun T locs X e1 hZ hown => getF X C.1 hZ hown (host := "") (Or.inl w) via e1 F (g := fr m pc L (.ref a :: r)) rfl rfl (hb C.2.1 hd)) k
theorem R_getfieldN (C : Cx p s m meth c Z a0 EL own B n nm ret) {idx : Nat} {R0 O f d host : String} {v : Value} (hd : Dc B pc (.getfield idx) 3 q) (w : (Cond.fieldLinkNest own idx R0 f d host).before a0 Z = true) (via : Via Z R0 O f d) (F : Fld Z h a O f d v)
    (k : Run p l e R s m args below meth c Z nw EL K vm h cells slots (fr m q L (v :: r))) : Run p l e R s m args below meth c Z nw EL K vm h cells slots (fr m pc L (.ref a :: r)) := by
  obtain ⟨hd, rfl⟩ := hd
  exact Run.warm C (fun T locs X e1 hZ hown => getF X C.1 hZ hown (Or.inr w) via e1 F (g := fr m pc L (.ref a :: r)) rfl rfl (hb C.2.1 hd)) k
theorem R_putfield (C : Cx p s m meth c Z a0 EL own B n nm ret) {idx kk : Nat} {R0 O f d Cn : String} {ty : FieldType} {v old : Value} (hd : Dc B pc (.putfield idx) 3 q) (w : (Cond.fieldLink own idx R0 f d).before a0 Z = true) (via : Via Z R0 O f d)
    (F : Fld Z h a O f d old) (E : Exa Z h a Cn) (La : (Cond.lays Cn O f d).before a0 Z = true ∨ ((Cond.laysFinal Cn O f d).before a0 Z = true ∧ own = O ∧ nm = "<init>")) (wi : (Cond.instantiable Cn kk).before a0 Z = true)
    (hty : parseFieldDescriptor d = some ty) (hn : narrow ty v = v) (hf : fits ty v = true) (ha : Z.heap.size ≤ a) (hs : Safe Z EL vm h a)
    (k : ∀ h', Wr h h' a (RoadKit.slotOf Z O f d) v → (∀ x, Safe Z EL vm h x → Safe Z EL vm h' x) → Run p l e R s m args below meth c Z nw EL K vm h' cells slots (fr m q L r)) : Run p l e R s m args below meth c Z nw EL K vm h cells slots (fr m pc L (v :: .ref a :: r)) := by
  obtain ⟨hd, rfl⟩ := hd
  exact Run.write C (fun T locs X e1 hZ hown => putF X C.1 hZ hown (host := "") (Or.inl w) via e1 F E (La.imp id fun z => ⟨z.1, z.2.1, C.2.2.2.2.2.1.trans z.2.2⟩) wi hty hn hf (g := fr m pc L (v :: .ref a :: r)) rfl rfl (hb C.2.1 hd)) ha hs k
theorem R_getstatic (C : Cx p s m meth c Z a0 EL own B n nm ret) {idx : Nat} {R0 O f d : String} {v : Value} (hd : Dc B pc (.getstatic idx) 3 q) (w : (Cond.fieldLink own idx R0 f d).before a0 Z = true) (via : Via Z R0 O f d) (F : Sta Z h O f d v)
    (k : Run p l e R s m args below meth c Z nw EL K vm h cells slots (fr m q L (v :: r))) : Run p l e R s m args below meth c Z nw EL K vm h cells slots (fr m pc L r) := by
  obtain ⟨hd, rfl⟩ := hd
  exact Run.warm C (fun T locs X e1 hZ hown => getS X C.1 hZ hown (host := "") w via e1 F (g := fr m pc L r) rfl (hb C.2.1 hd)) k
theorem R_new (C : Cx p s m meth c Z a0 EL own B n nm ret) {idx nn : Nat} {Cn : String} (hd : Dc B pc (.new idx) 3 q) (w : (Cond.classLink own idx Cn).before a0 Z = true) (wi : (Cond.instantiable Cn nn).before a0 Z = true) (wz : (Cond.initialized Cn).before a0 Z = true) (hc : cells + 1 ≤ R.cells) (hl : slots + nn ≤ R.slots)
    (k : ∀ h', Ext h h' → (Exa Z h' h.size Cn ∧ (∀ {O f d : String} {ty : FieldType}, Laid Z a0 Cn O f d → parseFieldDescriptor d = some ty → Fld Z h' h.size O f d (defaultValue ty))) → Safe Z EL vm h' h.size → (∀ x, Safe Z EL vm h x → Safe Z EL vm h' x) → Run p l e R s m args below meth c Z nw EL K vm h' (cells + 1) (slots + nn) (fr m q L (.ref h.size :: r))) : Run p l e R s m args below meth c Z nw EL K vm h cells slots (fr m pc L r) := by
  obtain ⟨hd, rfl⟩ := hd
  refine Run.grow C (F := fun h' => Exa Z h' h.size Cn ∧ (∀ {O f d : String} {ty : FieldType}, Laid Z a0 Cn O f d → parseFieldDescriptor d = some ty → Fld Z h' h.size O f d (defaultValue ty))) (fun T locs X e1 hZ hown => ?_) (fun h' E F H Sf => k h' E F (Safe.ext E H (Safe.new (Nat.le_refl _))) Sf)
  obtain ⟨T', h', X', e2, E, A, D, -, st⟩ := newO X C.1 hZ hown w wi wz e1 (g := fr m pc L r) rfl (hb C.2.1 hd) hc hl
  exact ⟨T', h', X', e2, E, ⟨A, D⟩, st⟩
theorem R_initO (C : Cx p s m meth c Z a0 EL own B n nm ret) {idx : Nat} (hd : Dc B pc (.invokespecial idx) 3 q) (w1 : (Cond.methodLink own idx Lib.objectInit).before a0 Z = true) (w2 : (Cond.instanceMethod Lib.objectInit).before a0 Z = true) (w3 : (Cond.code Lib.objectInit Jvm.Pilot.@@N@@.object_method_1_code 1 none).before a0 Z = true)
    (hz : L.length = n) (hf : 1 ≤ R.frames) (hl : (r.map fun v => v.category).sum + 12 ≤ R.locals)
    (k : Run p l e R s m args below meth c Z nw EL K vm h cells slots (fr m q L r)) : Run p l e R s m args below meth c Z nw EL K vm h cells slots (fr m pc L (.ref a :: r)) := by
  obtain ⟨hd, rfl⟩ := hd
  exact Run.warm C (fun T locs X e1 hZ hown => initO X C.1 hZ hown w1 w2 w3 e1 (g := fr m pc L (.ref a :: r)) rfl (by rw [C.2.2.2.1]; exact hz) rfl (hb C.2.1 hd) hf (W := (r.map fun v => v.category).sum) (by show 2 * 0 + _ ≤ _; omega) hl) k
theorem R_checkcast (C : Cx p s m meth c Z a0 EL own B n nm ret) {idx : Nat} {Kn : String} (hd : Dc B pc (.checkcast idx) 3 q) (w : (Cond.classLink own idx Kn).before a0 Z = true) (F : RoadKit.Ins Z h a Kn true)
    (k : Run p l e R s m args below meth c Z nw EL K vm h cells slots (fr m q L (.ref a :: r))) : Run p l e R s m args below meth c Z nw EL K vm h cells slots (fr m pc L (.ref a :: r)) := by
  obtain ⟨hd, rfl⟩ := hd
  exact Run.warm C (fun T locs X e1 hZ hown => castY X C.1 hZ hown w e1 F (g := fr m pc L (.ref a :: r)) rfl rfl (hb C.2.1 hd)) k
theorem R_instanceof_y (C : Cx p s m meth c Z a0 EL own B n nm ret) {idx : Nat} {Kn : String} (hd : Dc B pc (.instanceof idx) 3 q) (w : (Cond.classLink own idx Kn).before a0 Z = true) (F : RoadKit.Ins Z h a Kn true)
    (k : Run p l e R s m args below meth c Z nw EL K vm h cells slots (fr m q L (.int 1 :: r))) : Run p l e R s m args below meth c Z nw EL K vm h cells slots (fr m pc L (.ref a :: r)) := by
  obtain ⟨hd, rfl⟩ := hd
  exact Run.warm C (fun T locs X e1 hZ hown => instY X C.1 hZ hown w e1 F (g := fr m pc L (.ref a :: r)) rfl rfl (hb C.2.1 hd)) k
theorem R_instanceof_n (C : Cx p s m meth c Z a0 EL own B n nm ret) {idx : Nat} {Kn Cn : String} (hd : Dc B pc (.instanceof idx) 3 q) (w : (Cond.classLink own idx Kn).before a0 Z = true) (F : RoadKit.Ins Z s.heap a Kn false) (E : RoadKit.Exa Z s.heap a Cn)
    (k : Run p l e R s m args below meth c Z nw EL K vm h cells slots (fr m q L (.int 0 :: r))) : Run p l e R s m args below meth c Z nw EL K vm h cells slots (fr m pc L (.ref a :: r)) := by
  obtain ⟨hd, rfl⟩ := hd
  exact Run.warm C (fun T locs X e1 hZ hown => instN X C.1 hZ hown w e1 F E (g := fr m pc L (.ref a :: r)) rfl rfl (hb C.2.1 hd)) k
theorem R_ldcInt (C : Cx p s m meth c Z a0 EL own B n nm ret) {idx : Nat} {v : Int32} (hd : Dc B pc (.ldc idx) 2 q) (w : (Cond.constant own idx v).before a0 Z = true)
    (k : Run p l e R s m args below meth c Z nw EL K vm h cells slots (fr m q L (.int v :: r))) : Run p l e R s m args below meth c Z nw EL K vm h cells slots (fr m pc L r) := by
  obtain ⟨hd, rfl⟩ := hd
  exact Run.warm C (fun T locs X e1 hZ hown => ⟨T, X, e1, X.ldcInt C.1 hown (mvT hZ w) (g := fr m pc L r) rfl (hb C.2.1 hd)⟩) k
theorem R_ldc2Long (C : Cx p s m meth c Z a0 EL own B n nm ret) {idx : Nat} {v : Int64} (hd : Dc B pc (.ldc2_w idx) 3 q) (w : (Cond.constantLong own idx v).before a0 Z = true)
    (k : Run p l e R s m args below meth c Z nw EL K vm h cells slots (fr m q L (.long v :: r))) : Run p l e R s m args below meth c Z nw EL K vm h cells slots (fr m pc L r) := by
  obtain ⟨hd, rfl⟩ := hd
  exact Run.warm C (fun T locs X e1 hZ hown => ⟨T, X, e1, X.ldc2Long C.1 hown (mvT hZ w) (g := fr m pc L r) rfl (hb C.2.1 hd)⟩) k
theorem R_return (C : Cx p s m meth c Z a0 EL own B n nm ret) {rm : Room} {Q : Option Value → Heap → Prop} (hd : Dc B pc (.return_) 1 q) (hr : ret = none) (hc : cells ≤ rm.cells) (hs : slots ≤ rm.slots) (hQ : Q none h) :
    Run p l e R s m args below meth c Z nw EL (Kf s Z nw EL rm Q) vm h cells slots (fr m pc L []) :=
  Run.out C (v := none) (fun _ => rfl) hQ hc hs (fun T locs X fs hl => X.returnOut C.1 (C.2.2.2.2.2.2.1.trans hr) (hb C.2.1 hd.1) hl)
theorem R_retI (C : Cx p s m meth c Z a0 EL own B n nm ret) {rm : Room} {Q : Option Value → Heap → Prop} {v : Int32} (hd : Dc B pc (.ireturn) 1 q) (hr : ret = some .int) (hc : cells ≤ rm.cells) (hs : slots ≤ rm.slots) (hQ : Q (some (.int v)) h) :
    Run p l e R s m args below meth c Z nw EL (Kf s Z nw EL rm Q) vm h cells slots (fr m pc L (.int v :: r)) :=
  Run.out C (v := some (.int v)) (fun z => by rw [hr] at z; cases z) hQ hc hs (fun T locs X fs hl => retOut X C.1 (C.2.2.2.2.2.2.1.trans hr) rfl (Or.inl ⟨rfl, Or.inl rfl, v, rfl⟩) (hb C.2.1 hd.1) hl)
theorem R_retN (C : Cx p s m meth c Z a0 EL own B n nm ret) {rm : Room} {Q : Option Value → Heap → Prop} {v : Int32} {t : FieldType} (hd : Dc B pc (.ireturn) 1 q) (hr : ret = some t) (ht : t = .boolean ∨ t = .byte ∨ t = .char ∨ t = .short) (hc : cells ≤ rm.cells) (hs : slots ≤ rm.slots) (hQ : Q (some (.int (nar t v))) h) :
    Run p l e R s m args below meth c Z nw EL (Kf s Z nw EL rm Q) vm h cells slots (fr m pc L (.int v :: r)) :=
  Run.out C (v := some (.int (nar t v))) (fun z => by rw [hr] at z; cases z) hQ hc hs (fun T locs X fs hl => retN X C.1 (C.2.2.2.2.2.2.1.trans hr) ht (hb C.2.1 hd.1) hl)
theorem R_retL (C : Cx p s m meth c Z a0 EL own B n nm ret) {rm : Room} {Q : Option Value → Heap → Prop} {v : Int64} (hd : Dc B pc (.lreturn) 1 q) (hr : ret = some .long) (hc : cells ≤ rm.cells) (hs : slots ≤ rm.slots) (hQ : Q (some (.long v)) h) :
    Run p l e R s m args below meth c Z nw EL (Kf s Z nw EL rm Q) vm h cells slots (fr m pc L (.long v :: r)) :=
  Run.out C (v := some (.long v)) (fun z => by rw [hr] at z; cases z) hQ hc hs (fun T locs X fs hl => retOut X C.1 (C.2.2.2.2.2.2.1.trans hr) rfl (Or.inr (Or.inl ⟨rfl, rfl, v, rfl⟩)) (hb C.2.1 hd.1) hl)
theorem nar_ref {t : FieldType} {v : Value} (hv : v.isRef = true) : narrow t v = v := by cases t <;> cases v <;> first | rfl | cases hv
theorem R_areturn (C : Cx p s m meth c Z a0 EL own B n nm ret) {rm : Room} {Q : Option Value → Heap → Prop} {v : Value} {t : FieldType} (hd : Dc B pc (.areturn) 1 q) (hr : ret = some t) (ht : t.isReference = true) (hv : v.isRef = true) (hc : cells ≤ rm.cells) (hs : slots ≤ rm.slots) (hQ : Q (some v) h) :
    Run p l e R s m args below meth c Z nw EL (Kf s Z nw EL rm Q) vm h cells slots (fr m pc L (v :: r)) :=
  Run.out C (v := some v) (fun z => by rw [hr] at z; cases z) hQ hc hs (fun T locs X fs hl => retOut X C.1 (C.2.2.2.2.2.2.1.trans hr) (nar_ref hv) (Or.inr (Or.inr (Or.inr (Or.inr ⟨rfl, ht, hv⟩)))) (hb C.2.1 hd.1) hl)
theorem R_static (C : Cx p s m meth c Z a0 EL own B n nm ret) {idx n' : Nat} {y : MethodName} {B' : ByteArray} {ret' : Option FieldType} {rm : Room} {sf : List Addr} {Q : Option Value → Heap → Prop} {ps : List FieldType} {rr : Option FieldType} {st : List Value} (argsL : List Value) (hd : Dc B pc (.invokestatic idx) 3 q)
    {nw' : Prop} (M : Met l Z nw' EL y B' n' ret' rm argsL.toArray h sf Q) (hnn : nw → nw') (w1 : (Cond.methodLink own idx y).before a0 Z = true) (w2 : (Cond.static y).before a0 Z = true) (w3 : (Cond.initialized y.cls).before a0 Z = true) (w4 : (Cond.code y B' n' ret').before a0 Z = true)
    (hy : y.cls ≠ "java/lang/invoke/MethodHandle" ∧ y.cls ≠ "java/lang/invoke/VarHandle") (pd : parseMethodDescriptor y.desc = some ⟨ps, rr⟩) (hlen : argsL.length = ps.length) (hst : st = argsL.reverse ++ r) (hz : L.length = n)
    (rf : rm.frames + 1 ≤ R.frames) (rl : (r.map fun v => v.category).sum + (n' + 11) + rm.locals ≤ R.locals) (rc : cells + rm.cells ≤ R.cells) (rs : slots + rm.slots ≤ R.slots) (hsf : ∀ x ∈ sf, Safe Z EL vm h x)
    (k : ∀ v vm' h', Q v h' → h.size ≤ h'.size → (∀ x, x < h.size → Safe Z EL vm h x → Safe Z EL vm' h' x) → (nw' → ∀ x, h.size ≤ x → Safe Z EL vm' h' x) → Run p l e R s m args below meth c Z nw EL K vm' h' (cells + rm.cells) (slots + rm.slots) (fr m q L (v.toList ++ r))) : Run p l e R s m args below meth c Z nw EL K vm h cells slots (fr m pc L st) := by
  obtain ⟨hd, rfl⟩ := hd
  refine Run.back C hnn (Q := Q) (g' := fun v => fr m (pc + 3) L (v.toList ++ r)) (q := 0) (fun kk T locs X e1 hZ hown H hE hS hk => ?_) k
  obtain ⟨v, vm1, Bp, -, X', hS', hg, hP, hst'⟩ := callSS X C.1 hown (mvT (s := s.setVm vm) hZ w1) (mvT (s := s.setVm vm) hZ w2) (mvT (s := s.setVm vm) hZ w3) (mvT (s := s.setVm vm) hZ w4) hy (backM (W := (r.map fun v => v.category).sum) M hZ w4 w3 rf rl C.2.2.2.2.2.2.2 H hE hsf) (g := fr m pc L st) rfl (by rw [C.2.2.2.1]; exact hz) (argsL := argsL) (rest := r) (lenOf pd hlen) hst (by show 2 * 0 + _ ≤ _; omega) (hb C.2.1 hd) (fun _ _ => ⟨rfl, e1, rc, rs⟩)
  exact ⟨v, Bp, X', hS', hg, hP, hst'⟩
theorem R_special (C : Cx p s m meth c Z a0 EL own B n nm ret) {idx n' : Nat} {y : MethodName} {B' : ByteArray} {rm : Room} {sf : List Addr} {Q : Option Value → Heap → Prop} {ps : List FieldType} {rr : Option FieldType} {st : List Value} (argsL : List Value) (hd : Dc B pc (.invokespecial idx) 3 q)
    {nw' : Prop} (M : Met l Z nw' EL y B' n' none rm (.ref a :: argsL).toArray h sf Q) (hnn : nw → nw') (hy1 : y.name = "<init>") (w1 : (Cond.methodLink own idx y).before a0 Z = true) (w2 : (Cond.instanceMethod y).before a0 Z = true) (w3 : (Cond.initialized y.cls).before a0 Z = true) (w4 : (Cond.code y B' n' none).before a0 Z = true)
    (hy : y.cls ≠ "java/lang/invoke/MethodHandle" ∧ y.cls ≠ "java/lang/invoke/VarHandle") (pd : parseMethodDescriptor y.desc = some ⟨ps, rr⟩) (hlen : argsL.length = ps.length) (hst : st = argsL.reverse ++ .ref a :: r) (hz : L.length = n)
    (rf : rm.frames + 1 ≤ R.frames) (rl : (r.map fun v => v.category).sum + (n' + 11) + rm.locals ≤ R.locals) (rc : cells + rm.cells ≤ R.cells) (rs : slots + rm.slots ≤ R.slots) (hsf : ∀ x ∈ sf, Safe Z EL vm h x)
    (k : ∀ v vm' h', Q v h' → h.size ≤ h'.size → (∀ x, x < h.size → Safe Z EL vm h x → Safe Z EL vm' h' x) → (nw' → ∀ x, h.size ≤ x → Safe Z EL vm' h' x) → Run p l e R s m args below meth c Z nw EL K vm' h' (cells + rm.cells) (slots + rm.slots) (fr m q L (v.toList ++ r))) : Run p l e R s m args below meth c Z nw EL K vm h cells slots (fr m pc L st) := by
  obtain ⟨hd, rfl⟩ := hd
  refine Run.back C hnn (Q := Q) (g' := fun v => fr m (pc + 3) L (v.toList ++ r)) (q := 0) (fun kk T locs X e1 hZ hown H hE hS hk => ?_) k
  obtain ⟨v, vm1, Bp, -, X', hS', hg, hP, hst'⟩ := X.specialBackS C.1 hy1 hown (mvT (s := s.setVm vm) hZ w1) (mvT (s := s.setVm vm) hZ w2) (mvT (s := s.setVm vm) hZ w4) hy (backM (W := (r.map fun v => v.category).sum) M hZ w4 w3 rf rl C.2.2.2.2.2.2.2 H hE hsf) (g := fr m pc L st) rfl (by rw [C.2.2.2.1]; exact hz) (Steps.refl _) (a := a) (argsL := argsL) (rest := r) (lenOf pd hlen) hst (by show 2 * 0 + _ ≤ _; omega) (hb C.2.1 hd) (fun _ _ => ⟨rfl, e1, rc, rs⟩)
  exact ⟨v, Bp, X', hS', hg, hP, hst'⟩
theorem R_virtual (C : Cx p s m meth c Z a0 EL own B n nm ret) {idx n' : Nat} {y : MethodName} {B' : ByteArray} {ret' : Option FieldType} {rm : Room} {sf : List Addr} {Q : Option Value → Heap → Prop} {ps : List FieldType} {rr : Option FieldType} {st : List Value} {Cn : String} (argsL : List Value) (hd : Dc B pc (.invokevirtual idx) 3 q)
    {nw' : Prop} (M : Met l Z nw' EL y B' n' ret' rm (.ref a :: argsL).toArray h sf Q) (hnn : nw → nw') (E : Exa Z h a Cn) (w1 : (Cond.methodLink own idx y).before a0 Z = true) (w2 : (Cond.declares y).before a0 Z = true) (w5 : (Cond.selects Cn y y).before a0 Z = true) (w6 : (Cond.instanceMethod y).before a0 Z = true) (w3 : (Cond.initialized y.cls).before a0 Z = true) (w4 : (Cond.code y B' n' ret').before a0 Z = true)
    (hy : y.cls ≠ "java/lang/invoke/MethodHandle" ∧ y.cls ≠ "java/lang/invoke/VarHandle") (pd : parseMethodDescriptor y.desc = some ⟨ps, rr⟩) (hlen : argsL.length = ps.length) (hst : st = argsL.reverse ++ .ref a :: r) (hz : L.length = n)
    (rf : rm.frames + 1 ≤ R.frames) (rl : (r.map fun v => v.category).sum + (n' + 11) + rm.locals ≤ R.locals) (rc : cells + rm.cells ≤ R.cells) (rs : slots + rm.slots ≤ R.slots) (hsf : ∀ x ∈ sf, Safe Z EL vm h x)
    (k : ∀ v vm' h', Q v h' → h.size ≤ h'.size → (∀ x, x < h.size → Safe Z EL vm h x → Safe Z EL vm' h' x) → (nw' → ∀ x, h.size ≤ x → Safe Z EL vm' h' x) → Run p l e R s m args below meth c Z nw EL K vm' h' (cells + rm.cells) (slots + rm.slots) (fr m q L (v.toList ++ r))) : Run p l e R s m args below meth c Z nw EL K vm h cells slots (fr m pc L st) := by
  obtain ⟨hd, rfl⟩ := hd
  refine Run.back C hnn (Q := Q) (g' := fun v => fr m (pc + 3) L (v.toList ++ r)) (q := 0) (fun kk T locs X e1 hZ hown H hE hS hk => ?_) k
  obtain ⟨cq, kq, qa, qb, qc⟩ := isOf (s := s.setVm vm) hZ e1 E
  obtain ⟨v, vm1, Bp, -, X', hS', hg, hP, hst'⟩ := X.virtualBackS C.1 hown (mvT (s := s.setVm vm) hZ w1) (mvT (s := s.setVm vm) hZ w2) (notFace_of_selects (args := #[]) (mvT (s := s.setVm vm) hZ w5)) (mvT (s := s.setVm vm) hZ w5) (mvT (s := s.setVm vm) hZ w6) hy (backM (W := (r.map fun v => v.category).sum) M hZ w4 w3 rf rl C.2.2.2.2.2.2.2 H hE hsf) qa qc (g := fr m pc L st) rfl (by rw [C.2.2.2.1]; exact hz) (Steps.refl _) (argsL := argsL) (rest := r) (lenOf pd hlen) hst (by show 2 * 0 + _ ≤ _; omega) (hb C.2.1 hd) (fun _ _ => ⟨rfl, e1, rc, rs⟩)
  exact ⟨v, Bp, X', hS', hg, hP, hst'⟩
theorem R_private (C : Cx p s m meth c Z a0 EL own B n nm ret) {idx n' : Nat} {y : MethodName} {B' : ByteArray} {ret' : Option FieldType} {rm : Room} {sf : List Addr} {Q : Option Value → Heap → Prop} {ps : List FieldType} {rr : Option FieldType} {st : List Value} {Cn : String} (argsL : List Value) (hd : Dc B pc (.invokevirtual idx) 3 q)
    {nw' : Prop} (M : Met l Z nw' EL y B' n' ret' rm (.ref a :: argsL).toArray h sf Q) (hnn : nw → nw') (E : Exa Z h a Cn) (w1 : (Cond.methodLink own idx y).before a0 Z = true) (w2 : (Cond.privateMethod y).before a0 Z = true) (w5 : (Cond.selects y.cls y y).before a0 Z = true) (w6 : (Cond.instanceMethod y).before a0 Z = true) (w3 : (Cond.initialized y.cls).before a0 Z = true) (w4 : (Cond.code y B' n' ret').before a0 Z = true)
    (hy : y.cls ≠ "java/lang/invoke/MethodHandle" ∧ y.cls ≠ "java/lang/invoke/VarHandle") (pd : parseMethodDescriptor y.desc = some ⟨ps, rr⟩) (hlen : argsL.length = ps.length) (hst : st = argsL.reverse ++ .ref a :: r) (hz : L.length = n)
    (rf : rm.frames + 1 ≤ R.frames) (rl : (r.map fun v => v.category).sum + (n' + 11) + rm.locals ≤ R.locals) (rc : cells + rm.cells ≤ R.cells) (rs : slots + rm.slots ≤ R.slots) (hsf : ∀ x ∈ sf, Safe Z EL vm h x)
    (k : ∀ v vm' h', Q v h' → h.size ≤ h'.size → (∀ x, x < h.size → Safe Z EL vm h x → Safe Z EL vm' h' x) → (nw' → ∀ x, h.size ≤ x → Safe Z EL vm' h' x) → Run p l e R s m args below meth c Z nw EL K vm' h' (cells + rm.cells) (slots + rm.slots) (fr m q L (v.toList ++ r))) : Run p l e R s m args below meth c Z nw EL K vm h cells slots (fr m pc L st) := by
  obtain ⟨hd, rfl⟩ := hd
  refine Run.back C hnn (Q := Q) (g' := fun v => fr m (pc + 3) L (v.toList ++ r)) (q := 0) (fun kk T locs X e1 hZ hown H hE hS hk => ?_) k
  obtain ⟨cell, hcell, hobj⟩ := E.cell
  obtain ⟨v, vm1, Bp, -, X', hS', hg, hP, hst'⟩ := X.privateBackS C.1 (y := y) hown (mvT (s := s.setVm vm) hZ w1) (mvT (s := s.setVm vm) hZ w6) (mvT (s := s.setVm vm) hZ w5) (Cond.privateMethod_at (mvP (s := s.setVm vm) hZ w2 (args := #[]))) (mvT (s := s.setVm vm) hZ w4) hy (backM (W := (r.map fun v => v.category).sum) M hZ w4 w3 rf rl C.2.2.2.2.2.2.2 H hE hsf) (g := fr m pc L st) rfl (by rw [C.2.2.2.1]; exact hz) (Steps.refl _) (a := a) (by rw [e1]; exact hcell) hobj (argsL := argsL) (rest := r) (lenOf pd hlen) hst (by show 2 * 0 + _ ≤ _; omega) (hb C.2.1 hd) (fun _ _ => ⟨rfl, e1, rc, rs⟩)
  exact ⟨v, Bp, X', hS', hg, hP, hst'⟩
theorem R_privateI (C : Cx p s m meth c Z a0 EL own B n nm ret) {idx n' ki : Nat} {y : MethodName} {B' : ByteArray} {ret' : Option FieldType} {rm : Room} {sf : List Addr} {Q : Option Value → Heap → Prop} {ps : List FieldType} {rr : Option FieldType} {st : List Value} {Cn : String} (argsL : List Value) (hd : Dc B pc (.invokevirtual idx) 3 q)
    {nw' : Prop} (M : Met l Z nw' EL y B' n' ret' rm (.ref a :: argsL).toArray h sf Q) (hnn : nw → nw') (E : Exa Z h a Cn) (w1 : (Cond.methodLink own idx y).before a0 Z = true) (w2 : (Cond.privateMethod y).before a0 Z = true) (w5 : (Cond.instantiable y.cls ki).before a0 Z = true) (w6 : (Cond.instanceMethod y).before a0 Z = true) (w3 : (Cond.initialized y.cls).before a0 Z = true) (w4 : (Cond.code y B' n' ret').before a0 Z = true)
    (hy : y.cls ≠ "java/lang/invoke/MethodHandle" ∧ y.cls ≠ "java/lang/invoke/VarHandle") (pd : parseMethodDescriptor y.desc = some ⟨ps, rr⟩) (hlen : argsL.length = ps.length) (hst : st = argsL.reverse ++ .ref a :: r) (hz : L.length = n)
    (rf : rm.frames + 1 ≤ R.frames) (rl : (r.map fun v => v.category).sum + (n' + 11) + rm.locals ≤ R.locals) (rc : cells + rm.cells ≤ R.cells) (rs : slots + rm.slots ≤ R.slots) (hsf : ∀ x ∈ sf, Safe Z EL vm h x)
    (k : ∀ v vm' h', Q v h' → h.size ≤ h'.size → (∀ x, x < h.size → Safe Z EL vm h x → Safe Z EL vm' h' x) → (nw' → ∀ x, h.size ≤ x → Safe Z EL vm' h' x) → Run p l e R s m args below meth c Z nw EL K vm' h' (cells + rm.cells) (slots + rm.slots) (fr m q L (v.toList ++ r))) : Run p l e R s m args below meth c Z nw EL K vm h cells slots (fr m pc L st) := by
  obtain ⟨hd, rfl⟩ := hd
  refine Run.back C hnn (Q := Q) (g' := fun v => fr m (pc + 3) L (v.toList ++ r)) (q := 0) (fun kk T locs X e1 hZ hown H hE hS hk => ?_) k
  obtain ⟨cell, hcell, hobj⟩ := E.cell
  have hK := backM (p := p) (e := e) (below := below) (s := s) (args := args) (R := R) (len := 3) (W := (r.map fun v => v.category).sum) M hZ w4 w3 rf rl C.2.2.2.2.2.2.2 H hE hsf
  obtain ⟨mk, methM, hnamed, hmethM, hstM, habM⟩ := Cond.instanceMethod_spec (mvT (s := s.setVm vm) (args := args) hZ w6)
  obtain ⟨methM', cM, hmethM', -, -, -, -, -, -, hsigM⟩ := Cond.code_spec hnamed (mvT (s := s.setVm vm) (args := args) hZ w4)
  cases hmethM.symm.trans hmethM'
  obtain ⟨ci, kP, i1, hkP, -, i4, -⟩ := Cond.instantiable_spec (mvT (s := s.setVm vm) (args := args) hZ w5)
  have hcls := findClass_of_methodNamed hnamed
  cases hcls.symm.trans i1
  have hkPi : kP.isInterface = false := (Bool.or_eq_false_iff.mp i4).1
  have hpriv := Cond.privateMethod_at (mvP (s := s.setVm vm) hZ w2 (args := #[]))
  have hselP : selectMethod e.platform (s.setVm vm).vm cell.cls mk = .method mk := selectMethod_private hmethM (hpriv mk methM hnamed hmethM)
  obtain ⟨vm₁, X₁, hstep₁⟩ := X.invokevirtual C.1 hown (mvT (s := s.setVm vm) hZ w1) hnamed hmethM hstM hkP hkPi hy (a := a) (cell := cell) (by rw [e1]; exact hcell) hobj hselP hmethM habM hkP hkPi (g := fr m pc L st) rfl (argsL := argsL) (rest := r) (lenOf pd hlen _ hsigM) hst (hb C.2.1 hd)
  obtain ⟨v, Bp, X', hS', hgr, hpost, hsteps⟩ := hK m meth c ⟨T.setVm vm₁, locs, cells, slots⟩ (fr m pc L r) (.invokevirtual idx) mk (.ref a :: argsL).toArray X₁ rfl (by rw [C.2.2.2.1]; exact hz) (hb C.2.1 hd) (by show 2 * 0 + (r.map fun v => v.category).sum ≤ (r.map fun v => v.category).sum; omega) (X₁.named hnamed) ⟨rfl, e1, rc, rs⟩
  exact ⟨v, Bp, X', hS', hgr, hpost, (hstep₁ _ fun acts => by rw [doInvoke_state]; exact Steps.refl _).trans hsteps⟩
theorem nf_of {Z : State} {a0 : Array Value} {C : String} {y y' : MethodName} (w : (Cond.selects C y' y').before a0 Z = true) (hc : y'.cls = y.cls) : NotFace Z y := fun r0 h0 => by
  obtain ⟨c2, r2, m2, q1, q2, q3, q4, kP, hkP, hkPi⟩ := Cond.selects_spec w
  have e1 := findClass_of_methodNamed q3
  have e2 := findClass_of_methodNamed h0
  rw [hc] at e1
  have e3 : m2.cls = r0.cls := Option.some.inj (e1.symm.trans e2)
  exact ⟨kP, by rw [← e3]; exact hkP, hkPi⟩
theorem same_of {Z : State} {a0 : Array Value} {C : String} {y y' : MethodName} (w : (Cond.selects C y' y').before a0 Z = true) (hc : y'.cls = y.cls) (w2 : (Cond.instanceMethod y).before a0 Z = true) (hy : y.cls ≠ "java/lang/invoke/MethodHandle" ∧ y.cls ≠ "java/lang/invoke/VarHandle") : (Cond.sameMethod y.cls y.cls y.name y.desc).before a0 Z = true := by
  obtain ⟨mk, methM, hnamed, -, -, -⟩ := Cond.instanceMethod_spec w2
  obtain ⟨kP, hkP, hkPi⟩ := nf_of w hc mk hnamed
  have e1 := findClass_of_methodNamed hnamed
  have e2 := State.methodFound?_of_named hnamed hy
  have e3 : Z.methodNamed? ⟨y.cls, y.name, y.desc⟩ = some mk := hnamed
  simp [Cond.before, Cond.holds, Cond.value, e1, e2, e3, hkP, hkPi]
theorem R_super (C : Cx p s m meth c Z a0 EL own B n nm ret) {idx n' : Nat} {y y' : MethodName} {B' : ByteArray} {ret' : Option FieldType} {rm : Room} {sf : List Addr} {Q : Option Value → Heap → Prop} {ps : List FieldType} {rr : Option FieldType} {st : List Value} {Cn Cs : String} (argsL : List Value) (hd : Dc B pc (.invokespecial idx) 3 q)
    {nw' : Prop} (M : Met l Z nw' EL y B' n' ret' rm (.ref a :: argsL).toArray h sf Q) (hnn : nw → nw') (E : Exa Z h a Cn) (w1 : (Cond.methodLink own idx y).before a0 Z = true) (w5 : (Cond.selects Cs y' y').before a0 Z = true) (hcc : y'.cls = y.cls) (w6 : (Cond.instanceMethod y).before a0 Z = true) (w7 : (Cond.superclass own y.cls).before a0 Z = true) (w3 : (Cond.initialized y.cls).before a0 Z = true) (w4 : (Cond.code y B' n' ret').before a0 Z = true) (hn1 : y.name ≠ "<init>")
    (hy : y.cls ≠ "java/lang/invoke/MethodHandle" ∧ y.cls ≠ "java/lang/invoke/VarHandle") (pd : parseMethodDescriptor y.desc = some ⟨ps, rr⟩) (hlen : argsL.length = ps.length) (hst : st = argsL.reverse ++ .ref a :: r) (hz : L.length = n)
    (rf : rm.frames + 1 ≤ R.frames) (rl : (r.map fun v => v.category).sum + (n' + 11) + rm.locals ≤ R.locals) (rc : cells + rm.cells ≤ R.cells) (rs : slots + rm.slots ≤ R.slots) (hsf : ∀ x ∈ sf, Safe Z EL vm h x)
    (k : ∀ v vm' h', Q v h' → h.size ≤ h'.size → (∀ x, x < h.size → Safe Z EL vm h x → Safe Z EL vm' h' x) → (nw' → ∀ x, h.size ≤ x → Safe Z EL vm' h' x) → Run p l e R s m args below meth c Z nw EL K vm' h' (cells + rm.cells) (slots + rm.slots) (fr m q L (v.toList ++ r))) : Run p l e R s m args below meth c Z nw EL K vm h cells slots (fr m pc L st) := by
  obtain ⟨hd, rfl⟩ := hd
  refine Run.back C hnn (Q := Q) (g' := fun v => fr m (pc + 3) L (v.toList ++ r)) (q := 0) (fun kk T locs X e1 hZ hown H hE hS hk => ?_) k
  obtain ⟨v, vm1, Bp, -, X', hS', hg, hP, hst'⟩ := superBackS X C.1 (s := s.setVm vm) hZ hown w1 (same_of w5 hcc w6 hy) w6 w7 hn1 (backM (W := (r.map fun v => v.category).sum) M hZ w4 w3 rf rl C.2.2.2.2.2.2.2 H hE hsf) e1 (RoadKit.Ins.self E) (g := fr m pc L st) rfl (by rw [C.2.2.2.1]; exact hz) w4 (argsL := argsL) (rest := r) (lenOf pd hlen) hst (by show 2 * 0 + _ ≤ _; omega) (hb C.2.1 hd) (fun _ _ => ⟨rfl, e1, rc, rs⟩)
  exact ⟨v, Bp, X', hS', hg, hP, hst'⟩
theorem R_virtual2 (C : Cx p s m meth c Z a0 EL own B n nm ret) {idx n' : Nat} {y z y' : MethodName} {B' : ByteArray} {ret' : Option FieldType} {rm : Room} {sf : List Addr} {Q : Option Value → Heap → Prop} {ps : List FieldType} {rr : Option FieldType} {st : List Value} {Cn : String} (argsL : List Value) (hd : Dc B pc (.invokevirtual idx) 3 q)
    {nw' : Prop} (M : Met l Z nw' EL z B' n' ret' rm (.ref a :: argsL).toArray h sf Q) (hnn : nw → nw') (E : Exa Z h a Cn) (w1 : (Cond.methodLink own idx y).before a0 Z = true) (w2 : (Cond.declares y).before a0 Z = true) (w5 : (Cond.selects Cn y z).before a0 Z = true) (w8 : (Cond.selects Cn y' y').before a0 Z = true) (hcc : y'.cls = y.cls) (w6 : (Cond.instanceMethod z).before a0 Z = true) (w3 : (Cond.initialized z.cls).before a0 Z = true) (w4 : (Cond.code z B' n' ret').before a0 Z = true)
    (hy : y.cls ≠ "java/lang/invoke/MethodHandle" ∧ y.cls ≠ "java/lang/invoke/VarHandle") (pd : parseMethodDescriptor y.desc = some ⟨ps, rr⟩) (hlen : argsL.length = ps.length) (hst : st = argsL.reverse ++ .ref a :: r) (hz : L.length = n)
    (rf : rm.frames + 1 ≤ R.frames) (rl : (r.map fun v => v.category).sum + (n' + 11) + rm.locals ≤ R.locals) (rc : cells + rm.cells ≤ R.cells) (rs : slots + rm.slots ≤ R.slots) (hsf : ∀ x ∈ sf, Safe Z EL vm h x)
    (k : ∀ v vm' h', Q v h' → h.size ≤ h'.size → (∀ x, x < h.size → Safe Z EL vm h x → Safe Z EL vm' h' x) → (nw' → ∀ x, h.size ≤ x → Safe Z EL vm' h' x) → Run p l e R s m args below meth c Z nw EL K vm' h' (cells + rm.cells) (slots + rm.slots) (fr m q L (v.toList ++ r))) : Run p l e R s m args below meth c Z nw EL K vm h cells slots (fr m pc L st) := by
  obtain ⟨hd, rfl⟩ := hd
  refine Run.back C hnn (Q := Q) (g' := fun v => fr m (pc + 3) L (v.toList ++ r)) (q := 0) (fun kk T locs X e1 hZ hown H hE hS hk => ?_) k
  obtain ⟨cq, kq, qa, qb, qc⟩ := isOf (s := s.setVm vm) hZ e1 E
  obtain ⟨v, vm1, Bp, -, X', hS', hg, hP, hst'⟩ := X.virtualBackS C.1 hown (mvT (s := s.setVm vm) hZ w1) (mvT (s := s.setVm vm) hZ w2) (nf_of (mvT (s := s.setVm vm) (args := #[]) hZ w8) hcc) (mvT (s := s.setVm vm) hZ w5) (mvT (s := s.setVm vm) hZ w6) hy (backM (W := (r.map fun v => v.category).sum) M hZ w4 w3 rf rl C.2.2.2.2.2.2.2 H hE hsf) qa qc (g := fr m pc L st) rfl (by rw [C.2.2.2.1]; exact hz) (Steps.refl _) (argsL := argsL) (rest := r) (lenOf pd hlen) hst (by show 2 * 0 + _ ≤ _; omega) (hb C.2.1 hd) (fun _ _ => ⟨rfl, e1, rc, rs⟩)
  exact ⟨v, Bp, X', hS', hg, hP, hst'⟩
theorem R_privateS (C : Cx p s m meth c Z a0 EL own B n nm ret) {idx n' : Nat} {y : MethodName} {B' : ByteArray} {ret' : Option FieldType} {rm : Room} {sf : List Addr} {Q : Option Value → Heap → Prop} {ps : List FieldType} {rr : Option FieldType} {st : List Value} {Cn Cs : String} (argsL : List Value) (hd : Dc B pc (.invokevirtual idx) 3 q)
    {nw' : Prop} (M : Met l Z nw' EL y B' n' ret' rm (.ref a :: argsL).toArray h sf Q) (hnn : nw → nw') (E : Exa Z h a Cn) (w1 : (Cond.methodLink own idx y).before a0 Z = true) (w2 : (Cond.privateMethod y).before a0 Z = true) (w5 : (Cond.selects Cs y y).before a0 Z = true) (w6 : (Cond.instanceMethod y).before a0 Z = true) (w3 : (Cond.initialized y.cls).before a0 Z = true) (w4 : (Cond.code y B' n' ret').before a0 Z = true)
    (hy : y.cls ≠ "java/lang/invoke/MethodHandle" ∧ y.cls ≠ "java/lang/invoke/VarHandle") (pd : parseMethodDescriptor y.desc = some ⟨ps, rr⟩) (hlen : argsL.length = ps.length) (hst : st = argsL.reverse ++ .ref a :: r) (hz : L.length = n)
    (rf : rm.frames + 1 ≤ R.frames) (rl : (r.map fun v => v.category).sum + (n' + 11) + rm.locals ≤ R.locals) (rc : cells + rm.cells ≤ R.cells) (rs : slots + rm.slots ≤ R.slots) (hsf : ∀ x ∈ sf, Safe Z EL vm h x)
    (k : ∀ v vm' h', Q v h' → h.size ≤ h'.size → (∀ x, x < h.size → Safe Z EL vm h x → Safe Z EL vm' h' x) → (nw' → ∀ x, h.size ≤ x → Safe Z EL vm' h' x) → Run p l e R s m args below meth c Z nw EL K vm' h' (cells + rm.cells) (slots + rm.slots) (fr m q L (v.toList ++ r))) : Run p l e R s m args below meth c Z nw EL K vm h cells slots (fr m pc L st) := by
  obtain ⟨hd, rfl⟩ := hd
  refine Run.back C hnn (Q := Q) (g' := fun v => fr m (pc + 3) L (v.toList ++ r)) (q := 0) (fun kk T locs X e1 hZ hown H hE hS hk => ?_) k
  obtain ⟨cell, hcell, hobj⟩ := E.cell
  have hK := backM (p := p) (e := e) (below := below) (s := s) (args := args) (R := R) (len := 3) (W := (r.map fun v => v.category).sum) M hZ w4 w3 rf rl C.2.2.2.2.2.2.2 H hE hsf
  obtain ⟨mk, methM, hnamed, hmethM, hstM, habM⟩ := Cond.instanceMethod_spec (mvT (s := s.setVm vm) (args := args) hZ w6)
  obtain ⟨methM', cM, hmethM', -, -, -, -, -, -, hsigM⟩ := Cond.code_spec hnamed (mvT (s := s.setVm vm) (args := args) hZ w4)
  cases hmethM.symm.trans hmethM'
  obtain ⟨kP, hkP, hkPi⟩ := notFace_of_selects (args := #[]) (mvT (s := s.setVm vm) hZ w5) mk hnamed
  have hpriv := Cond.privateMethod_at (mvP (s := s.setVm vm) hZ w2 (args := #[]))
  have hselP : selectMethod e.platform (s.setVm vm).vm cell.cls mk = .method mk := selectMethod_private hmethM (hpriv mk methM hnamed hmethM)
  obtain ⟨vm₁, X₁, hstep₁⟩ := X.invokevirtual C.1 hown (mvT (s := s.setVm vm) hZ w1) hnamed hmethM hstM hkP hkPi hy (a := a) (cell := cell) (by rw [e1]; exact hcell) hobj hselP hmethM habM hkP hkPi (g := fr m pc L st) rfl (argsL := argsL) (rest := r) (lenOf pd hlen _ hsigM) hst (hb C.2.1 hd)
  obtain ⟨v, Bp, X', hS', hgr, hpost, hsteps⟩ := hK m meth c ⟨T.setVm vm₁, locs, cells, slots⟩ (fr m pc L r) (.invokevirtual idx) mk (.ref a :: argsL).toArray X₁ rfl (by rw [C.2.2.2.1]; exact hz) (hb C.2.1 hd) (by show 2 * 0 + (r.map fun v => v.category).sum ≤ (r.map fun v => v.category).sum; omega) (X₁.named hnamed) ⟨rfl, e1, rc, rs⟩
  exact ⟨v, Bp, X', hS', hgr, hpost, (hstep₁ _ fun acts => by rw [doInvoke_state]; exact Steps.refl _).trans hsteps⟩
end Steps
end Jvm.Own
namespace Jvm.Own
open Sem ClassFile Op Lib Bundle Jvm.Stand Jvm.Free Jvm.LawKit Jvm.RoadKit
section Arrays
variable {p : Program} {l : Launch} {e : Env} {R : Room} {s : State} {m : MethodId} {args : Array Value} {below : List Frame} {meth : Method} {c : Code} {Z : State} {a0 : Array Value} {nw : Prop} {EL : List (String × Nat)} {K : State → Outcome → Prop} {vm : Vm} {h h' h0 : Heap} {cells slots : Nat} {own nm : String} {B : ByteArray} {n : Nat} {ret : Option FieldType} {pc q tq : Nat} {L : List Slot} {r : List Value} {a b : Addr} {ty : FieldType} {N sl : Nat} {f g : Nat → Value} {v : Value}
/-- the array at a: N places, place i holds f i -/
def AR (Z : State) (h : Heap) (a : Addr) (ty : FieldType) (N : Nat) (f : Nat → Value) : Prop :=
  ∃ cl : Cell, Arr Z h a cl ty ∧ cl.slots.size = N ∧ N < 2 ^ 31 ∧ ∀ i, i < N → cl.slots[i]? = some (f i) ∧ fits ty (f i) = true
def upd (f : Nat → Value) (j : Nat) (v : Value) : Nat → Value := fun i => if i = j then v else f i
theorem upd_eq {j : Nat} : upd f j v j = v := if_pos rfl
theorem upd_ne {i j : Nat} (q : i ≠ j) : upd f j v i = f i := if_neg q
theorem AR.lt (A : AR Z h a ty N f) : a < h.size := by obtain ⟨cl, A, -⟩ := A; exact A.lt
theorem AR.small (A : AR Z h a ty N f) : N < 2 ^ 31 := by obtain ⟨cl, A, -, q, -⟩ := A; exact q
theorem AR.ext (A : AR Z h a ty N f) (E : Ext h h') : AR Z h' a ty N f := by obtain ⟨cl, A, r⟩ := A; exact ⟨cl, A.ext E, r⟩
theorem AR.other (A : AR Z h a ty N f) (W : Wr h h' b sl v) (q : a ≠ b) : AR Z h' a ty N f := by obtain ⟨cl, A, r⟩ := A; exact ⟨cl, A.other W q, r⟩
theorem AR.keep {ws : List Addr} (A : AR Z h a ty N f) (K : Keep h h' ws) (q : a ∉ ws) : AR Z h' a ty N f := by obtain ⟨cl, A, r⟩ := A; exact ⟨cl, ⟨K.2.1 a cl A.1 q, A.2⟩, r⟩
theorem AR.cg (A : AR Z h a ty N f) (q : ∀ i, i < N → f i = g i) : AR Z h a ty N g := by
  obtain ⟨cl, A, h1, h2, H⟩ := A
  exact ⟨cl, A, h1, h2, fun i hi => by rw [← q i hi]; exact H i hi⟩
theorem AR.set (A : AR Z h a ty N f) {j : Nat} (W : Wr h h' a j v) (hv : fits ty v = true) : AR Z h' a ty N (upd f j v) := by
  obtain ⟨cl, A, hn, h31, H⟩ := A
  refine ⟨cl.setSlot j v, A.same W, by rw [sz_set]; exact hn, h31, fun i hi => ?_⟩
  unfold upd
  by_cases e : i = j
  · subst e
    rw [if_pos rfl]
    exact ⟨by simp [Cell.setSlot, hn, hi], hv⟩
  · rw [if_neg e]
    exact ⟨(Array.getElem?_setIfInBounds_ne (Ne.symm e)).trans (H i hi).1, (H i hi).2⟩
theorem AR.fit (A : AR Z h a ty N f) {i : Nat} (hi : i < N) : fits ty (f i) = true := by obtain ⟨cl, A, h1, h2, H⟩ := A; exact (H i hi).2
theorem AR.safe (A : AR Z h a ty N f) (hW : Z.Warmed39 vm) (ht : ty ≠ .byte) : Safe Z EL vm h a := by obtain ⟨cl, A, -⟩ := A; exact Safe.arr hW.alike A ht
theorem AR.neExa {C : String} {k : Nat} (A : AR Z h a ty N f) (E : Exa Z h b C) (w : (Cond.instantiable C k).before a0 Z = true) : a ≠ b := by obtain ⟨cl, A, -⟩ := A; exact (ne_arr E w A).symm
theorem AR.start (hf : Fit Z) {t : Term} (ev : t.eval args Z none [] Z = some (.ref a)) (hx : (Cond.arrayOf t ty).value args Z none Z [] = some true) {w : Int32} (hl : (Cond.eq (.length t) (.int w)).value args Z none Z [] = some true) (hw : w.toInt = N) : ∃ cl : Cell, Arr Z Z.heap a cl ty ∧ AR Z Z.heap a ty N (fun i => cl.slots.getD i .null) := by
  obtain ⟨cl, A⟩ := Arr.start ev hx
  have e1 : Z.arrayAt? a = some cl := A.fin (Vm.Alike.refl _)
  have hsz : cl.slots.size < 2 ^ 31 ∧ cl.slots.size.toInt32 = w := by
    by_cases z : cl.slots.size < 2 ^ 31
    · refine ⟨z, ?_⟩
      have z2 := len_f ev e1 z
      simp only [Cond.value, z2, Term.int_eval] at hl
      simpa using hl
    · have z2 : (Term.length t).eval args Z none [] Z = none := by simp only [Term.eval, ev, e1, Option.bind_eq_bind, Option.bind_some, if_neg z]
      simp [Cond.value, z2] at hl
  have hN : cl.slots.size = N := by
    have z := len_toInt hsz.1
    rw [hsz.2, hw] at z
    omega
  refine ⟨cl, A, cl, A, hN, by rw [← hN]; exact hsz.1, fun i hi => ?_⟩
  have hi' : i < cl.slots.size := by omega
  obtain ⟨v, v1, v2⟩ := elem_fit (j := i.toInt32) hf A (idx_in hi' hsz.1)
  have z3 : i.toInt32.toNatClampNeg = i := by simp [Int32.toNatClampNeg, len_toInt (show i < 2 ^ 31 by omega)]
  rw [z3] at v1
  have z4 : cl.slots.getD i .null = v := by simp [Array.getD_eq_getD_getElem?, v1]
  exact ⟨by show cl.slots[i]? = some (cl.slots.getD i .null); rw [z4]; exact v1, by show fits ty (cl.slots.getD i .null) = true; rw [z4]; exact v2⟩
theorem cl_of {j : Int32} {i : Nat} (hj : j.toInt = i) : j.toNatClampNeg = i := by simp [Int32.toNatClampNeg, hj]
theorem int_lit {t : Term} {w : Int32} (q : (Cond.eq t (.int w)).value args Z none Z [] = some true) : t.eval args Z none [] Z = some (.int w) := by
  obtain ⟨x, y, ex, ey, k1, k2⟩ := cmp_v (Or.inl q)
  have hy : y = .int w := (Option.some.inj ey).symm
  subst hy
  obtain ⟨x', rfl⟩ : ∃ x', x = .int x' := k2
  have z : x' = w := gotT (Cond.eq_ints ex (Term.int_eval w)) q
  rw [← z]; exact ex
theorem elem_lit {t : Term} {cl : Cell} (ev : t.eval args Z none [] Z = some (.ref a)) (A : Arr Z Z.heap a cl ty) {k w : Int32} {i : Nat} (hk : k.toInt = i) (q : (Cond.eq (.elem t (.int k)) (.int w)).value args Z none Z [] = some true) : cl.slots.getD i .null = .int w := by
  have z := elem_in (int_lit q) ev (Term.int_eval k) A.1
  rw [cl_of hk] at z
  simp [Array.getD_eq_getD_getElem?, z.2]
theorem Keep.ofExt (E : Ext h h') {ws : List Addr} : Keep h h' ws := (Keep.refl h ws).ext E
theorem nn_of {j : Int32} {i : Nat} (hj : j.toInt = i) : ¬ j < 0 := by
  rw [Int32.lt_iff_toInt_lt, hj, Int32.toInt_zero]; omega
theorem in_of {j : Int32} {i : Nat} {cl : Cell} (hj : j.toInt = i) (hi : i < N) (hn : cl.slots.size = N) : ¬ (j < 0 ∨ cl.slots.size ≤ j.toNatClampNeg) := by
  rw [cl_of hj, hn]
  intro z
  rcases z with z | z
  · exact nn_of hj z
  · omega
theorem R_arraylength (C : Cx p s m meth c Z a0 EL own B n nm ret) {w : Int32} (hd : Dc B pc (.arraylength) 1 q) (A : AR Z h a ty N f) (hv : N.toInt32 = w)
    (k : Run p l e R s m args below meth c Z nw EL K vm h cells slots (fr m q L (.int w :: r))) : Run p l e R s m args below meth c Z nw EL K vm h cells slots (fr m pc L (.ref a :: r)) := by
  obtain ⟨hd, rfl⟩ := hd
  obtain ⟨cl, A, hn, -⟩ := A
  subst hv hn
  exact Run.warm C (fun T locs X e1 hZ hown => ⟨T, X, e1, fun t st => X.arraylength C.1 (cell := cl) (by rw [e1]; exact A.1) (State.isArrayOf_alike hZ.alike A.2.1) (g := fr m pc L (.ref a :: r)) rfl rfl (hb C.2.1 hd) t st⟩) k
theorem R_iaload (C : Cx p s m meth c Z a0 EL own B n nm ret) {j : Int32} (i : Nat) (hd : Dc B pc (.iaload) 1 q) (A : AR Z h a .int N f) (hj : j.toInt = i) (hi : i < N) (hv : f i = v)
    (k : Run p l e R s m args below meth c Z nw EL K vm h cells slots (fr m q L (v :: r))) : Run p l e R s m args below meth c Z nw EL K vm h cells slots (fr m pc L (.int j :: .ref a :: r)) := by
  obtain ⟨hd, rfl⟩ := hd
  obtain ⟨cl, A, hn, h31, H⟩ := A
  subst hv
  exact Run.warm C (fun T locs X e1 hZ hown => ⟨T, X, e1, fun t st => X.iaload C.1 (cell := cl) (by rw [e1]; exact A.1) (State.isArrayOf_alike hZ.alike A.2.1) A.2.2 (in_of hj hi hn) (by rw [cl_of hj]; exact (H i hi).1) (g := fr m pc L (.int j :: .ref a :: r)) rfl rfl (hb C.2.1 hd) t st⟩) k
theorem R_caload (C : Cx p s m meth c Z a0 EL own B n nm ret) {j : Int32} (i : Nat) (hd : Dc B pc (.caload) 1 q) (A : AR Z h a .char N f) (hj : j.toInt = i) (hi : i < N) (hv : f i = v)
    (k : Run p l e R s m args below meth c Z nw EL K vm h cells slots (fr m q L (v :: r))) : Run p l e R s m args below meth c Z nw EL K vm h cells slots (fr m pc L (.int j :: .ref a :: r)) := by
  obtain ⟨hd, rfl⟩ := hd
  obtain ⟨cl, A, hn, h31, H⟩ := A
  subst hv
  exact Run.warm C (fun T locs X e1 hZ hown => ⟨T, X, e1, fun t st => X.caload C.1 (cell := cl) (by rw [e1]; exact A.1) (State.isArrayOf_alike hZ.alike A.2.1) A.2.2 (in_of hj hi hn) (by rw [cl_of hj]; exact (H i hi).1) (g := fr m pc L (.int j :: .ref a :: r)) rfl rfl (hb C.2.1 hd) t st⟩) k
theorem R_baload (C : Cx p s m meth c Z a0 EL own B n nm ret) {j : Int32} (i : Nat) (hd : Dc B pc (.baload) 1 q) (A : AR Z h a .byte N f) (hj : j.toInt = i) (hi : i < N) (hv : f i = v)
    (k : Run p l e R s m args below meth c Z nw EL K vm h cells slots (fr m q L (v :: r))) : Run p l e R s m args below meth c Z nw EL K vm h cells slots (fr m pc L (.int j :: .ref a :: r)) := by
  obtain ⟨hd, rfl⟩ := hd
  obtain ⟨cl, A, hn, h31, H⟩ := A
  subst hv
  exact Run.warm C (fun T locs X e1 hZ hown => ⟨T, X, e1, fun t st => X.baloadBytes C.1 (cell := cl) (by rw [e1]; exact A.1) (State.isArrayOf_alike hZ.alike A.2.1) A.2.2 (in_of hj hi hn) (by rw [cl_of hj]; exact (H i hi).1) (g := fr m pc L (.int j :: .ref a :: r)) rfl rfl (hb C.2.1 hd) t st⟩) k
theorem R_laload (C : Cx p s m meth c Z a0 EL own B n nm ret) {j : Int32} (i : Nat) (hd : Dc B pc (.laload) 1 q) (A : AR Z h a .long N f) (hj : j.toInt = i) (hi : i < N) (hv : f i = v)
    (k : Run p l e R s m args below meth c Z nw EL K vm h cells slots (fr m q L (v :: r))) : Run p l e R s m args below meth c Z nw EL K vm h cells slots (fr m pc L (.int j :: .ref a :: r)) := by
  obtain ⟨hd, rfl⟩ := hd
  obtain ⟨cl, A, hn, h31, H⟩ := A
  subst hv
  exact Run.warm C (fun T locs X e1 hZ hown => ⟨T, X, e1, fun t st => X.laload C.1 (cell := cl) (by rw [e1]; exact A.1) (State.isArrayOf_alike hZ.alike A.2.1) A.2.2 (in_of hj hi hn) (by rw [cl_of hj]; exact (H i hi).1) (g := fr m pc L (.int j :: .ref a :: r)) rfl rfl (hb C.2.1 hd) t st⟩) k
theorem R_aaload (C : Cx p s m meth c Z a0 EL own B n nm ret) {j : Int32} (i : Nat) (hd : Dc B pc (.aaload) 1 q) (A : AR Z h a ty N f) (ht : ty.isReference = true) (hj : j.toInt = i) (hi : i < N) (hv : f i = v)
    (k : Run p l e R s m args below meth c Z nw EL K vm h cells slots (fr m q L (v :: r))) : Run p l e R s m args below meth c Z nw EL K vm h cells slots (fr m pc L (.int j :: .ref a :: r)) := by
  obtain ⟨hd, rfl⟩ := hd
  obtain ⟨cl, A, hn, h31, H⟩ := A
  subst hv
  exact Run.warm C (fun T locs X e1 hZ hown => ⟨T, X, e1, fun t st => X.aaload C.1 (cell := cl) (by rw [e1]; exact A.1) (State.isArrayOf_alike hZ.alike A.2.1) ht A.2.2 (in_of hj hi hn) (by rw [cl_of hj]; exact (H i hi).1) (g := fr m pc L (.int j :: .ref a :: r)) rfl rfl (hb C.2.1 hd) t st⟩) k
theorem R_iastore (C : Cx p s m meth c Z a0 EL own B n nm ret) {j x : Int32} (i : Nat) (hd : Dc B pc (.iastore) 1 q) (A : AR Z h a .int N f) (hj : j.toInt = i) (hi : i < N) (ha : Z.heap.size ≤ a) (hs : Safe Z EL vm h a)
    (k : ∀ h', Wr h h' a i (.int x) → AR Z h' a .int N (upd f i (.int x)) → (∀ x, Safe Z EL vm h x → Safe Z EL vm h' x) → Run p l e R s m args below meth c Z nw EL K vm h' cells slots (fr m q L r)) : Run p l e R s m args below meth c Z nw EL K vm h cells slots (fr m pc L (.int x :: .int j :: .ref a :: r)) := by
  obtain ⟨hd, rfl⟩ := hd
  have A0 := A
  obtain ⟨cl, A, hn, h31, H⟩ := A
  refine Run.write C (a := a) (sl := i) (v := .int x) (fun T locs X e1 hZ hown => ?_) ha hs (fun h' W Sf => k h' W (A0.set W (rfl)) Sf)
  have z := stI X C.1 hZ e1 A (x := x) (in_of hj hi hn) (g := fr m pc L (.int x :: .int j :: .ref a :: r)) rfl rfl (hb C.2.1 hd)
  rw [cl_of hj] at z
  exact z
theorem R_castore (C : Cx p s m meth c Z a0 EL own B n nm ret) {j x : Int32} (i : Nat) (hd : Dc B pc (.castore) 1 q) (A : AR Z h a .char N f) (hj : j.toInt = i) (hi : i < N) (ha : Z.heap.size ≤ a) (hs : Safe Z EL vm h a)
    (k : ∀ h', Wr h h' a i (.int (nar .char x)) → AR Z h' a .char N (upd f i (.int (nar .char x))) → (∀ x, Safe Z EL vm h x → Safe Z EL vm h' x) → Run p l e R s m args below meth c Z nw EL K vm h' cells slots (fr m q L r)) : Run p l e R s m args below meth c Z nw EL K vm h cells slots (fr m pc L (.int x :: .int j :: .ref a :: r)) := by
  obtain ⟨hd, rfl⟩ := hd
  have A0 := A
  obtain ⟨cl, A, hn, h31, H⟩ := A
  refine Run.write C (a := a) (sl := i) (v := .int (nar .char x)) (fun T locs X e1 hZ hown => ?_) ha hs (fun h' W Sf => k h' W (A0.set W (fits_nar_char x)) Sf)
  have z := stC X C.1 hZ e1 A (x := x) (in_of hj hi hn) (g := fr m pc L (.int x :: .int j :: .ref a :: r)) rfl rfl (hb C.2.1 hd)
  rw [cl_of hj] at z
  exact z
theorem R_bastore (C : Cx p s m meth c Z a0 EL own B n nm ret) {j x : Int32} (i : Nat) (hd : Dc B pc (.bastore) 1 q) (A : AR Z h a .byte N f) (hj : j.toInt = i) (hi : i < N) (ha : Z.heap.size ≤ a) (hs : Safe Z EL vm h a)
    (k : ∀ h', Wr h h' a i (.int (nar .byte x)) → AR Z h' a .byte N (upd f i (.int (nar .byte x))) → (∀ x, Safe Z EL vm h x → Safe Z EL vm h' x) → Run p l e R s m args below meth c Z nw EL K vm h' cells slots (fr m q L r)) : Run p l e R s m args below meth c Z nw EL K vm h cells slots (fr m pc L (.int x :: .int j :: .ref a :: r)) := by
  obtain ⟨hd, rfl⟩ := hd
  have A0 := A
  obtain ⟨cl, A, hn, h31, H⟩ := A
  refine Run.write C (a := a) (sl := i) (v := .int (nar .byte x)) (fun T locs X e1 hZ hown => ?_) ha hs (fun h' W Sf => k h' W (A0.set W (fits_nar_byte x)) Sf)
  have z := stB X C.1 hZ e1 A (x := x) (in_of hj hi hn) (g := fr m pc L (.int x :: .int j :: .ref a :: r)) rfl rfl (hb C.2.1 hd)
  rw [cl_of hj] at z
  exact z
theorem nsz {x : Int32} (h : x.toInt = N) : N < 2 ^ 31 := by have := Int32.toInt_lt x; omega
theorem R_newarray (C : Cx p s m meth c Z a0 EL own B n nm ret) {x : Int32} {aty : ArrayType} (cap : Nat) (hd : Dc B pc (.newarray aty) 2 q) (w : (Cond.arrayClass (newarray.typeOf aty)).before a0 Z = true) (hx : x.toInt = N) (hcap : N ≤ cap) (hb8 : cap * 8 ≤ 536870912) (hc : cells + 1 ≤ R.cells) (hl : slots + cap ≤ R.slots) (hfit : fits (newarray.typeOf aty) (defaultValue (newarray.typeOf aty)) = true)
    (k : ∀ h', Ext h h' → AR Z h' h.size (newarray.typeOf aty) N (fun _ => defaultValue (newarray.typeOf aty)) → Safe Z EL vm h' h.size → (∀ x, Safe Z EL vm h x → Safe Z EL vm h' x) → Run p l e R s m args below meth c Z nw EL K vm h' (cells + 1) (slots + cap) (fr m q L (.ref h.size :: r))) : Run p l e R s m args below meth c Z nw EL K vm h cells slots (fr m pc L (.int x :: r)) := by
  obtain ⟨hd, rfl⟩ := hd
  refine Run.grow C (F := fun h' => AR Z h' h.size (newarray.typeOf aty) N (fun _ => defaultValue (newarray.typeOf aty))) (fun T locs X e1 hZ hown => ?_) (fun h' E F H Sf => k h' E F (Safe.ext E H (Safe.new (Nat.le_refl _))) Sf)
  obtain ⟨T', h', cA, X', e2, E, A, st⟩ := newP X C.1 hZ w e1 (g := fr m pc L (.int x :: r)) rfl (hb C.2.1 hd) (n := x) (rest := r) rfl (nn_of hx) (cap := cap) (by rw [cl_of hx]; exact hcap) hb8 hc hl
  refine ⟨T', h', X', e2, E, ⟨_, A, by rw [sz_new, cl_of hx], nsz hx, fun i hi => ⟨?_, hfit⟩⟩, st⟩
  simp [newA, cl_of hx, hi]
theorem Run.keepW (C : Cx p s m meth c Z a0 EL own B n nm ret) {g g' : JFrame} {F : Heap → Prop}
    (st : ∀ T locs, Stand p l e R (s.setVm vm) m args below meth c T locs cells slots → T.heap = h → Z.Warmed39 (s.setVm vm).vm → (s.setVm vm).vm.findClass own = some m.cls → ∃ T' h' L', Stand p l e R (s.setVm vm) m args below meth c T' (locs ++ L') cells slots ∧ T'.heap = h' ∧ Keep h h' [a] ∧ (∀ y ∈ L', y.base = a) ∧ F h' ∧ ∀ t, Steps p.tables e below (T'.setTop g') t → Steps p.tables e below (T.setTop g) t)
    (ha : Z.heap.size ≤ a) (hs : Safe Z EL vm h a)
    (k : ∀ h', Keep h h' [a] → F h' → (∀ x, Safe Z EL vm h x → Safe Z EL vm h' x) → Run p l e R s m args below meth c Z nw EL K vm h' cells slots g') : Run p l e R s m args below meth c Z nw EL K vm h cells slots g := by
  intro T P
  obtain ⟨kk, locs, X, e1, e2, e3, e4, e5, e6, e7, e8⟩ := P
  obtain ⟨T', h', L', X', e1', Kp, hL, hF, hst⟩ := st T locs X e1 e6 ((e4.1.alike.findClass _ _).trans C.2.2.1)
  have h1 : ∀ x ∈ [a], Safe Z EL vm h x := fun x hx => by cases List.mem_singleton.mp hx; exact hs
  exact Ends.go hst (k h' Kp hF (fun x S => Safe.keep Kp h1 e7.1.1 S) T' ⟨kk, _, X', e1', Fr.app e2 fun y hy => by rw [hL y hy]; exact ha, Ext.keep' e3 Kp fun x hx => by cases List.mem_singleton.mp hx; exact ha, e4, Nat.le_trans e5 Kp.1, e6, e7.trans (CHs.keep Kp h1 e7.1.1), e8⟩)
theorem arr_kind {cl : Cell} (A : Arr Z h a cl ty) : ∃ (k : Class) (comp : ClassId), Z.vm.classes[cl.cls]? = some k ∧ k.kind = .array comp ty := by
  obtain ⟨-, ⟨-, k, h1, comp, h2⟩, -⟩ := A
  exact ⟨k, comp, h1, h2⟩
theorem gd_of {cl : Cell} {i : Nat} (h : cl.slots[i]? = some v) : cl.slots.getD i .null = v := by
  simp [Array.getD, Array.getElem?_eq_some_iff] at h ⊢
  obtain ⟨h1, h2⟩ := h
  simp [h1, h2]
theorem R_arraycopy (C : Cx p s m meth c Z a0 EL own B n nm ret) {idx : Nat} {src dst : Addr} {sp dp nn : Int32} {Ns Nd : Nat} {fs fd : Nat → Value} (isp idp inn : Nat) (hd : Dc B pc (.invokestatic idx) 3 q)
    (w1 : (Cond.methodLink own idx acN).before a0 Z = true) (w2 : (Cond.native acN).before a0 Z = true) (w3 : (Cond.static acN).before a0 Z = true) (w4 : (Cond.initialized "java/lang/System").before a0 Z = true)
    (A : AR Z h src ty Ns fs) (D : AR Z h dst ty Nd fd) (hp : refKind ty = false) (q1 : sp.toInt = isp) (q2 : dp.toInt = idp) (q3 : nn.toInt = inn) (b1 : isp + inn ≤ Ns) (b2 : idp + inn ≤ Nd) (hz : L.length = n)
    (rf : 1 ≤ R.frames) (rl : (r.map fun v => v.category).sum + 18 ≤ R.locals) (ha : Z.heap.size ≤ dst) (hs : Safe Z EL vm h dst)
    (k : ∀ h', Keep h h' [dst] → AR Z h' dst ty Nd (fun i => if idp ≤ i ∧ i < idp + inn then fs (isp + (i - idp)) else fd i) → (∀ x, Safe Z EL vm h x → Safe Z EL vm h' x) → Run p l e R s m args below meth c Z nw EL K vm h' cells slots (fr m q L r)) : Run p l e R s m args below meth c Z nw EL K vm h cells slots (fr m pc L (.int nn :: .int dp :: .ref dst :: .int sp :: .ref src :: r)) := by
  obtain ⟨hd, rfl⟩ := hd
  obtain ⟨cs, A, hns, h31, H⟩ := A
  obtain ⟨cd, D, hnd, h31', H'⟩ := D
  refine Run.keepW C (F := fun h' => AR Z h' dst ty Nd (fun i => if idp ≤ i ∧ i < idp + inn then fs (isp + (i - idp)) else fd i)) (fun T locs X e1 hZ hown => ?_) ha hs k
  obtain ⟨ks, sc, k1, k2⟩ := arr_kind A
  obtain ⟨kd, dc, k3, k4⟩ := arr_kind D
  obtain ⟨ks', k1', ek1⟩ := hZ.alike.2.2 _ _ k1
  obtain ⟨kd', k3', ek3⟩ := hZ.alike.2.2 _ _ k3
  have hty : ((refKind ty != refKind ty) || (!refKind ty && ty != ty)) = false := by simp
  obtain ⟨vm1, hW1, X', st⟩ := X.arraycopyK C.1 hown (mvT hZ w1) (mvT hZ w2) (mvT hZ w3) (mvT hZ w4) (src := src) (dst := dst) (srcPos := sp) (destPos := dp) (n := nn) (cs := cs) (cd := cd) (by rw [e1]; exact A.1) (by rw [e1]; exact D.1) A.2.1.1 D.2.1.1 A.2.2 D.2.2 k1' k3' (by rw [ek1]; exact k2) (by rw [ek3]; exact k4) hty (nn_of q1) (nn_of q2) (nn_of q3) (by rw [q1, q3, hns]; omega) (by rw [q2, q3, hnd]; omega)
    (fun vm2 _ i hi => by
      rw [cl_of q3] at hi
      rw [cl_of q1]
      have z := H (isp + i) (by omega)
      rw [gd_of z.1]
      exact ⟨z.2, State.takes_of_prim _ _ hp z.2⟩) (g := fr m pc L (.int nn :: .int dp :: .ref dst :: .int sp :: .ref src :: r)) rfl (by rw [C.2.2.2.1]; exact hz) (rest := r) rfl (hb C.2.1 hd) rf (by show 2 * 0 + _ + (7 + 11) ≤ _; omega)
  have hfacts := Cell.storeRun_facts cd dp.toNatClampNeg (cs.stretch sp.toNatClampNeg nn.toNatClampNeg)
  have hlt : dst < h.size := D.lt
  have hnew : (h.setIfInBounds dst (copied cs cd sp dp nn))[dst]? = some (copied cs cd sp dp nn) := by simp [hlt]
  have hoth : ∀ x, x ≠ dst → (h.setIfInBounds dst (copied cs cd sp dp nn))[x]? = h[x]? := fun x hx => Array.getElem?_setIfInBounds_ne (Ne.symm hx)
  refine ⟨_, h.setIfInBounds dst (copied cs cd sp dp nn), _, X', ?_, ⟨by simp, fun x cl hx hn => ?_, fun x cl hx => ?_⟩, fun y hy => copyLocs_base hy, ⟨copied cs cd sp dp nn, ⟨hnew, ?_, ?_⟩, ?_, h31', fun i hi => ?_⟩, st⟩
  · rw [← e1]; rfl
  · rw [hoth x (fun z => hn (by rw [z]; exact List.mem_singleton.mpr rfl))]; exact hx
  · by_cases z : x = dst
    · subst z
      cases D.1.symm.trans hx
      exact ⟨_, hnew, hfacts.1, hfacts.2.1, hfacts.2.2.1⟩
    · exact ⟨cl, by rw [hoth x z]; exact hx, rfl, rfl, rfl⟩
  · obtain ⟨z1, kk, z2, z3⟩ := D.2.1
    exact ⟨by rw [hfacts.2.1]; exact z1, kk, by rw [hfacts.1]; exact z2, z3⟩
  · rw [hfacts.2.1]; exact D.2.2
  · rw [hfacts.2.2.1]; exact hnd
  · have z : (copied cs cd sp dp nn).slots[i]? = if idp ≤ i ∧ i < idp + inn then (cs.stretch isp inn)[i - idp]? else cd.slots[i]? := by
      show (cd.storeRun dp.toNatClampNeg (cs.stretch sp.toNatClampNeg nn.toNatClampNeg)).slots[i]? = _
      rw [cl_of q1, cl_of q2, cl_of q3, Cell.storeRun_get _ _ _ _ (by rw [Cell.stretch_length, hnd]; exact b2), Cell.stretch_length]
    rw [z]
    by_cases hc : idp ≤ i ∧ i < idp + inn
    · simp only [if_pos hc]
      have z2 := H (isp + (i - idp)) (by omega)
      refine ⟨?_, z2.2⟩
      have z3 : i - idp < inn := by omega
      simp only [Cell.stretch, List.getElem?_map, List.getElem?_range z3, Option.map_some]
      rw [gd_of z2.1]
    · simp only [if_neg hc]
      exact H' i hi
theorem R_checkcast_null (C : Cx p s m meth c Z a0 EL own B n nm ret) {idx : Nat} (hd : Dc B pc (.checkcast idx) 3 q)
    (k : Run p l e R s m args below meth c Z nw EL K vm h cells slots (fr m q L (.null :: r))) : Run p l e R s m args below meth c Z nw EL K vm h cells slots (fr m pc L (.null :: r)) := by
  obtain ⟨hd, rfl⟩ := hd
  exact Run.warm C (fun T locs X e1 hZ hown => ⟨T, X, e1, X.checkcastNull C.1 (g := fr m pc L (.null :: r)) rfl rfl (hb C.2.1 hd)⟩) k
theorem R_instanceof_null (C : Cx p s m meth c Z a0 EL own B n nm ret) {idx : Nat} (hd : Dc B pc (.instanceof idx) 3 q)
    (k : Run p l e R s m args below meth c Z nw EL K vm h cells slots (fr m q L (.int 0 :: r))) : Run p l e R s m args below meth c Z nw EL K vm h cells slots (fr m pc L (.null :: r)) := by
  obtain ⟨hd, rfl⟩ := hd
  exact Run.warm C (fun T locs X e1 hZ hown => ⟨T, X, e1, X.instanceofNull C.1 (g := fr m pc L (.null :: r)) rfl rfl (hb C.2.1 hd)⟩) k
/-- the clone of an array of the start -/
theorem R_clone (C : Cx p s m meth c Z a0 EL own B n nm ret) {idx : Nat} {ad : String} {cl : Cell} (hd : Dc B pc (.invokevirtual idx) 3 q)
    (w1 : (Cond.methodLink own idx ⟨ad, "clone", "()Ljava/lang/Object;"⟩).before a0 Z = true) (w2 : (Cond.sameMethod ad "java/lang/Object" "clone" "()Ljava/lang/Object;").before a0 Z = true) (w3 : (Cond.native ⟨"java/lang/Object", "clone", "()Ljava/lang/Object;"⟩).before a0 Z = true)
    (w4 : (Cond.instanceMethod ⟨"java/lang/Object", "clone", "()Ljava/lang/Object;"⟩).before a0 Z = true) (w5 : (Cond.selects ad ⟨ad, "clone", "()Ljava/lang/Object;"⟩ ⟨"java/lang/Object", "clone", "()Ljava/lang/Object;"⟩).before a0 Z = true) (w6 : (Cond.castable ad "java/lang/Cloneable").before a0 Z = true)
    (A : Arr Z h a cl ty) (hN : cl.slots.size = N) (h31 : N < 2 ^ 31) (hf : ∀ i, i < N → cl.slots[i]? = some (f i) ∧ fits ty (f i) = true) (E : Exa Z h a ad) (F : FitC Z cl) (hz : L.length = n) (rf : 1 ≤ R.frames) (rl : (r.map fun v => v.category).sum + 14 ≤ R.locals) (hc : cells + 1 ≤ R.cells) (hl : slots + N ≤ R.slots)
    (k : ∀ h', Ext h h' → AR Z h' h.size ty N f ∧ Exa Z h' h.size ad → (∀ x, Safe Z EL vm h x → Safe Z EL vm h' x) → Run p l e R s m args below meth c Z nw EL K vm h' (cells + 1) (slots + N) (fr m q L (.ref h.size :: r))) : Run p l e R s m args below meth c Z nw EL K vm h cells slots (fr m pc L (.ref a :: r)) := by
  obtain ⟨hd, rfl⟩ := hd
  refine Run.grow C (F := fun h' => AR Z h' h.size ty N f ∧ Exa Z h' h.size ad) (fun T locs X e1 hZ hown => ?_) (fun h' E F H Sf => k h' E F Sf)
  obtain ⟨T', h', X', e2, E2, A2, E3, st⟩ := cloneA X C.1 hZ hown w1 w2 w3 w4 w5 w6 e1 A E F (g := fr m pc L (.ref a :: r)) rfl (by rw [C.2.2.2.1]; exact hz) rfl (hb C.2.1 hd) rf (W := (r.map fun v => v.category).sum) (cap := N) (by show 2 * 0 + _ ≤ _; omega) rl (Nat.le_of_eq hN) hc hl
  exact ⟨T', h', X', e2, E2, ⟨⟨_, A2, hN, h31, hf⟩, E3⟩, st⟩
end Arrays
end Jvm.Own
namespace Jvm.Own
open Sem ClassFile Op Lib Bundle Jvm.Stand Jvm.Free Jvm.LawKit Jvm.RoadKit
section Cold
variable {p : Program} {l : Launch} {e : Env} {R : Room} {s : State} {m : MethodId} {args : Array Value} {below : List Frame} {meth : Method} {c : Code} {Z : State} {a0 : Array Value} {nw : Prop} {EL : List (String × Nat)} {K : State → Outcome → Prop} {vm : Vm} {h h' h0 : Heap} {cells slots : Nat} {own nm : String} {B : ByteArray} {n : Nat} {ret : Option FieldType} {pc q tq : Nat} {L : List Slot} {r : List Value} {a b : Addr} {ty : FieldType} {N sl : Nat} {f g : Nat → Value} {v : Value}
/-- ldc of a String constant that nobody reads -/
theorem R_ldcO (C : Cx p s m meth c Z a0 EL own B n nm ret) {idx : Nat} {text : String} (nn : Nat) (hd : Dc B pc (.ldc idx) 2 q) (hnw : ¬ nw) (w : (Cond.stringLink own idx text).before a0 Z = true) (wS : ∀ a ∈ Bundle.stringAtoms, a.before a0 Z = true)
    (hn : 4 * text.toList.length ≤ nn) (hbig : nn ≤ 536870912) (hc : cells + 2 ≤ R.cells) (hl : slots + (nn + 4) ≤ R.slots)
    (k : ∀ a vm' h', Ext h h' → (∀ x, x < h.size → Safe Z EL vm h x → Safe Z EL vm' h' x) → Run p l e R s m args below meth c Z nw EL K vm' h' (cells + 2) (slots + (nn + 4)) (fr m q L (.ref a :: r))) : Run p l e R s m args below meth c Z nw EL K vm h cells slots (fr m pc L r) := by
  obtain ⟨hd, rfl⟩ := hd
  intro T P
  obtain ⟨kk, locs, X, e1, e2, e3, e4, e5, e6, e7, e8⟩ := P
  obtain ⟨a, T', h', k1, X', e1', E, hS', hk', hZ', hf', hC, hL, st⟩ := ldcOH X C.1 e6 ((e4.1.alike.findClass _ _).trans C.2.2.1) w wS e1 e4 e5 C.2.2.2.2.2.2.2 e7.1.1 (g := fr m pc L r) rfl (hb C.2.1 hd) hn hbig hc hl
  exact Ends.go st (k a T'.vm h' E (fun x hx S => CHr.safe hC hx S) T' ⟨k1, locs, X', e1', e2, Ext.tr e3 E, hS', hk', hZ', e7.trans (CHs.cold hC hnw), fun z => absurd z hnw⟩)
/-- ldc of a String constant whose text is read -/
theorem R_ldcK (C : Cx p s m meth c Z a0 EL own B n nm ret) {idx : Nat} {text : String} {vs : List Value} {z : Int32} (nn : Nat) (hd : Dc B pc (.ldc idx) 2 q) (hnw : ¬ nw) (w : (Cond.stringLink own idx text).before a0 Z = true) (wS : ∀ a ∈ Bundle.stringAtoms, a.before a0 Z = true) (hmem : (own, idx) ∈ EL)
    (ht : (∀ c ∈ text.toList, c.toNat < 256) ∧ text.toList.map (fun c => Value.int (Jvm.Lit.byteI c.toNat.toUInt16)) = vs) (hz : z.toInt = vs.length)
    (hn : 4 * text.toList.length ≤ nn) (hbig : nn ≤ 536870912) (hc : cells + 2 ≤ R.cells) (hl : slots + (nn + 4) ≤ R.slots)
    (k : ∀ a b vm' h', Ext h h' → Exa Z h' a "java/lang/String" → Fld Z h' a "java/lang/String" "coder" "B" (.int 0) → Fld Z h' a "java/lang/String" "value" "[B" (.ref b) → AR Z h' b .byte vs.length (fun i => vs.getD i (.int 0)) → (∀ x, x < h.size → Safe Z EL vm h x → Safe Z EL vm' h' x) → (∀ x, Safe Z EL vm' h' x → x ≠ a ∧ x ≠ b) → Run p l e R s m args below meth c Z nw EL K vm' h' (cells + 2) (slots + (nn + 4)) (fr m q L (.ref a :: r))) : Run p l e R s m args below meth c Z nw EL K vm h cells slots (fr m pc L r) := by
  obtain ⟨hd, rfl⟩ := hd
  have hz0 : ¬ z < 0 := nn_of hz
  have hzc : z.toNatClampNeg = vs.length := cl_of hz
  intro T P
  obtain ⟨kk, locs, X, e1, e2, e3, e4, e5, e6, e7, e8⟩ := P
  obtain ⟨a, T', h', k1, b, kb, X', e1', E, hS', hk', hZ', hf', hE, hF1, hF2, hA, -, -, hC, hL, hne, st⟩ := ldcCH X C.1 e6 ((e4.1.alike.findClass _ _).trans C.2.2.1) w wS e1 e4 e5 C.2.2.2.2.2.2.2 hmem e7.1.1 ht hz0 hzc (g := fr m pc L r) rfl (hb C.2.1 hd) hn hbig hc hl
  have A : AR Z h' b .byte vs.length (fun i => vs.getD i (.int 0)) := by
    obtain ⟨cl, A1, -, A3, -, A5, A6⟩ := hA
    have hsz : cl.slots.size = vs.length := by rw [A3, hzc]
    refine ⟨cl, A1, hsz, nsz hz, fun i hi => ⟨A5 i (by omega), A6 i (by omega)⟩⟩
  exact Ends.go st (k a b T'.vm h' E hE hF1 hF2 A (fun x hx S => CHr.safe hC hx S) hne T' ⟨k1, locs, X', e1', e2, Ext.tr e3 E, hS', hk', hZ', e7.trans (CHs.cold hC hnw), fun z => absurd z hnw⟩)
end Cold
end Jvm.Own
namespace Jvm.Pilot.@@N@@
open Jvm Jvm.ClassFile Sem Op Lib Jvm.Free Jvm.Stand Jvm.LawKit Jvm.RoadKit Bundle Jvm.Own Jvm.Kit Jvm.Pilot.@@N@@.Jvm.D
theorem pd_0 : parseMethodDescriptor "([CI[BII)I" = some ⟨[(.array .char), .int, (.array .byte), .int, .int], (some .int)⟩ := by decide +kernel
theorem pd_1 : parseMethodDescriptor "([CII)[B" = some ⟨[(.array .char), .int, .int], (some (.array .byte))⟩ := by decide +kernel
theorem pd_2 : parseMethodDescriptor "([BI)B" = some ⟨[(.array .byte), .int], (some .byte)⟩ := by decide +kernel
theorem pd_3 : parseMethodDescriptor "([CIILjava/lang/Void;)V" = some ⟨[(.array .char), .int, .int, (.object "java/lang/Void")], none⟩ := by decide +kernel
theorem pd_4 : parseMethodDescriptor "([C)V" = some ⟨[(.array .char)], none⟩ := by decide +kernel
theorem pd_5 : parseMethodDescriptor "()V" = some ⟨[], none⟩ := by decide +kernel
theorem pd_6 : parseMethodDescriptor "(Ljava/lang/String;Ljava/lang/String;Ljava/lang/String;ZLjava/lang/String;Z)V" = some ⟨[(.object "java/lang/String"), (.object "java/lang/String"), (.object "java/lang/String"), .boolean, (.object "java/lang/String"), .boolean], none⟩ := by decide +kernel
theorem pd_7 : parseMethodDescriptor "(I)Ljava/lang/String;" = some ⟨[.int], (some (.object "java/lang/String"))⟩ := by decide +kernel
theorem pd_8 : parseMethodDescriptor "(Ljava/lang/String;Ljava/lang/String;Ljava/lang/String;)Lcom/example/tallyhour/tallyhour/Command$Option;" = some ⟨[(.object "java/lang/String"), (.object "java/lang/String"), (.object "java/lang/String")], (some (.object "com/example/tallyhour/tallyhour/Command$Option"))⟩ := by decide +kernel
theorem pd_9 : parseMethodDescriptor "()Ljava/lang/String;" = some ⟨[], (some (.object "java/lang/String"))⟩ := by decide +kernel
theorem pd_10 : parseMethodDescriptor "()Z" = some ⟨[], (some .boolean)⟩ := by decide +kernel
theorem cat_ref {v : Value} (h : v.isRef = true) : v.category = 1 := by cases v <;> first | rfl | cases h
theorem ofNat_toInt {x : Int32} (h : 0 ≤ x.toInt) : x = Int32.ofNat x.toInt.toNat := by
  apply Int32.toInt_inj.mp
  have := Int32.toInt_lt x
  rw [Int32.toInt_ofNat_small (by omega)]
  omega
theorem byte_back {x : Int32} (h0 : 0 ≤ x.toInt) (h1 : x.toInt ≤ 255) : nar .char (x.toInt8.toInt32 &&& 255) = x := by
  have z : ∀ k : Fin 256, nar .char ((Int32.ofNat k.val).toInt8.toInt32 &&& 255) = Int32.ofNat k.val := by decide +kernel
  have z1 := z ⟨x.toInt.toNat, by omega⟩
  rw [ofNat_toInt h0]
  exact z1
theorem nar_c (x : Int32) : nar .char x = x.toUInt32.toUInt16.toUInt32.toInt32 := rfl
theorem u16_toInt (u : UInt16) : u.toUInt32.toInt32.toInt = (u.toNat : Int) := by
  have h := u.toNat_lt
  show (u.toUInt32.toBitVec).toInt = _
  rw [BitVec.toInt_eq_toNat_of_lt]
  · rfl
  · show 2 * u.toUInt32.toNat < 2 ^ 32
    rw [UInt16.toNat_toUInt32]; omega
theorem char_bound (x : Int32) : 0 ≤ (nar .char x).toInt ∧ (nar .char x).toInt ≤ 65535 := by
  rw [nar_c, u16_toInt]
  have h1 := x.toUInt32.toUInt16.toNat_lt
  omega
theorem i32_nn_u (x : Int32) (h : 0 ≤ x.toInt) : (x.toUInt32.toNat : Int) = x.toInt := by
  show (x.toBitVec.toNat : Int) = x.toBitVec.toInt
  have : 0 ≤ x.toBitVec.toInt := h
  rw [BitVec.toInt_eq_toNat_cond] at *
  split at this
  · rw [if_pos ‹_›]
  · have := x.toBitVec.isLt
    omega
theorem nar_char_id {x : Int32} (h0 : 0 ≤ x.toInt) (h1 : x.toInt ≤ 65535) : nar .char x = x := by
  apply Int32.toInt_inj.mp
  rw [nar_c, u16_toInt]
  have q := i32_nn_u x h0
  rw [UInt32.toNat_toUInt16]
  omega
theorem nar_nar_char (x : Int32) : nar .char (nar .char x) = nar .char x := nar_char_id (char_bound x).1 (char_bound x).2
theorem lo_byte (x : Int32) : (x.toInt8.toInt32 &&& 255).toInt = x.toInt % 256 := by
  have q : (x.toInt8.toInt32 &&& 255).toInt = _ := i32_mask x.toInt8.toInt32 255 (k := 8) (by decide) (by decide)
  rw [q, Int8.toInt_toInt32, Int32.toInt_toInt8, Int.bmod_def]
  omega
theorem or_parts (x y : Int32) (h0 : 0 ≤ x.toInt) (h1 : x.toInt < 256) (h2 : 0 ≤ y.toInt) (h3 : y.toInt < 256) : (x <<< ((0 : Int32) &&& 31) ||| y <<< ((8 : Int32) &&& 31)).toInt = x.toInt + 256 * y.toInt := by
  have a1 : x <<< ((0 : Int32) &&& 31) = x := by rw [show ((0 : Int32) &&& 31) = 0 from rfl]; simp
  have a2 : (y <<< ((8 : Int32) &&& 31)).toInt = y.toInt * 256 := by
    have q := i32_shl y ((8 : Int32) &&& 31) (k := 8) (by decide) (by omega) (by omega)
    exact q
  rw [a1]
  generalize hz : y <<< ((8 : Int32) &&& 31) = z at a2 ⊢
  have b1 := i32_nn_u x h0
  have b2 := i32_nn_u z (by omega)
  have b3 : (x ||| z).toUInt32.toNat = x.toUInt32.toNat ||| z.toUInt32.toNat := rfl
  have b4 : z.toUInt32.toNat = 2 ^ 8 * y.toInt.toNat := by omega
  have b5 : x.toUInt32.toNat < 2 ^ 8 := by omega
  have b6 : (x ||| z).toUInt32.toNat = 2 ^ 8 * y.toInt.toNat + x.toUInt32.toNat := by
    rw [b3, b4, Nat.or_comm, ← Nat.two_pow_add_eq_or_of_lt b5]
  have b7 : (x ||| z).toInt = ((x ||| z).toUInt32.toNat : Int) := by
    show (x ||| z).toBitVec.toInt = _
    rw [BitVec.toInt_eq_toNat_of_lt]
    · rfl
    · show 2 * (x ||| z).toUInt32.toNat < 2 ^ 32
      omega
  rw [b7, b6]
  omega
theorem chr_back {c : Int32} (h0 : 0 ≤ c.toInt) (h1 : c.toInt ≤ 65535) : nar .char ((c.toInt8.toInt32 &&& 255) <<< ((0 : Int32) &&& 31) ||| ((c >>> ((8 : Int32) &&& 31)).toInt8.toInt32 &&& 255) <<< ((8 : Int32) &&& 31)) = c := by
  have e1 := lo_byte c
  have e2 := lo_byte (c >>> ((8 : Int32) &&& 31))
  have e3 : (c >>> ((8 : Int32) &&& 31)).toInt = c.toInt / 256 := i32_shr c ((8 : Int32) &&& 31) (k := 8) (by decide)
  have e4 := or_parts (c.toInt8.toInt32 &&& 255) ((c >>> ((8 : Int32) &&& 31)).toInt8.toInt32 &&& 255) (by omega) (by omega) (by omega) (by omega)
  have e5 : ((c.toInt8.toInt32 &&& 255) <<< ((0 : Int32) &&& 31) ||| ((c >>> ((8 : Int32) &&& 31)).toInt8.toInt32 &&& 255) <<< ((8 : Int32) &&& 31)) = c := Int32.toInt_inj.mp (by omega)
  rw [e5, nar_char_id h0 h1]
theorem nar_byte_byte (x : Int32) : nar .byte x.toInt8.toInt32 = x.toInt8.toInt32 := by simp [nar]
theorem tw2 (a b : Int32) : ∀ i, i < 2 → upd (upd (fun _ => defaultValue (newarray.typeOf .char)) 0 (.int a)) 1 (.int b) i = .int (if i = 0 then a else b) := by
  intro i hi
  match i, hi with
  | 0, _ => rfl
  | 1, _ => rfl
theorem tw1 (a : Int32) : ∀ i, i < 1 → upd (fun _ => defaultValue (newarray.typeOf .char)) 0 (.int a) i = .int a := by
  intro i hi
  match i, hi with
  | 0, _ => rfl
abbrev by8 (x : Int32) : Value := .int x.toInt8.toInt32
abbrev STR : String := "java/lang/String"
abbrev UTF : String := "java/lang/StringUTF16"
abbrev LAT : String := "java/lang/StringLatin1"
abbrev PRE : String := "jdk/internal/util/Preconditions"
abbrev BIF : String := "Ljava/util/function/BiFunction;"
theorem pn_str : plainName STR = true := by first | (simp [plainName, overriddenIn]; done) | decide +kernel
theorem pn_utf : plainName UTF = true := by first | (simp [plainName, overriddenIn]; done) | decide +kernel
theorem pn_lat : plainName LAT = true := by first | (simp [plainName, overriddenIn]; done) | decide +kernel
theorem pn_pre : plainName PRE = true := by first | (simp [plainName, overriddenIn]; done) | decide +kernel
theorem efs1 (m : MethodId) (x0 : Addr) : entryFrame m #[(.ref x0)] 1 = fr m 0 [.val (.ref x0)] [] := by first | (simp [entryFrame, mkF, argsToLocals, Value.category]; done) | rfl
theorem efRI2 (m : MethodId) (x0 : Addr) (x1 : Int32) : entryFrame m #[(.ref x0), (.int x1)] 2 = fr m 0 [.val (.ref x0), .val (.int x1)] [] := by first | (simp [entryFrame, mkF, argsToLocals, Value.category]; done) | rfl
theorem efII2 (m : MethodId) (x0 : Int32) (x1 : Int32) : entryFrame m #[(.int x0), (.int x1)] 2 = fr m 0 [.val (.int x0), .val (.int x1)] [] := by first | (simp [entryFrame, mkF, argsToLocals, Value.category]; done) | rfl
theorem efck (m : MethodId) (x0 : Int32) (x1 : Int32) (x2 : Value) (q2 : x2.category = 1) : entryFrame m #[(.int x0), (.int x1), (x2)] 3 = fr m 0 [.val (.int x0), .val (.int x1), .val (x2)] [] := by simp [entryFrame, mkF, argsToLocals, cat_int, cat_rf, cat_lng, q2]
theorem efi2 (m : MethodId) (x0 : Addr) (x1 : Addr) : entryFrame m #[(.ref x0), (.ref x1)] 2 = fr m 0 [.val (.ref x0), .val (.ref x1)] [] := by first | (simp [entryFrame, mkF, argsToLocals, Value.category]; done) | rfl
theorem efi6 (m : MethodId) (x0 : Addr) (x1 : Addr) (x2 : Int32) (x3 : Int32) (x4 : Value) (q4 : x4.category = 1) : entryFrame m #[(.ref x0), (.ref x1), (.int x2), (.int x3), (x4)] 6 = fr m 0 [.val (.ref x0), .val (.ref x1), .val (.int x2), .val (.int x3), .val (x4), .unset] [] := by simp [entryFrame, mkF, argsToLocals, cat_int, cat_rf, cat_lng, q4]
theorem efc6 (m : MethodId) (x0 : Addr) (x1 : Int32) (x2 : Int32) : entryFrame m #[(.ref x0), (.int x1), (.int x2)] 6 = fr m 0 [.val (.ref x0), .val (.int x1), .val (.int x2), .unset, .unset, .unset] [] := by first | (simp [entryFrame, mkF, argsToLocals, Value.category]; done) | rfl
theorem efl7 (m : MethodId) (x0 : Addr) (x1 : Int32) (x2 : Addr) (x3 : Int32) (x4 : Int32) : entryFrame m #[(.ref x0), (.int x1), (.ref x2), (.int x3), (.int x4)] 7 = fr m 0 [.val (.ref x0), .val (.int x1), .val (.ref x2), .val (.int x3), .val (.int x4), .unset, .unset] [] := by first | (simp [entryFrame, mkF, argsToLocals, Value.category]; done) | rfl
/-- the statics that the Strings' methods read -/
def SS (Z : State) (cs : Int32) (fm : Value) : Prop := (¬ cs = 0) ∧ Sta Z Z.heap STR "COMPACT_STRINGS" "Z" (.int cs) ∧ fm.isRef = true ∧ Sta Z Z.heap PRE "SIOOBE_FORMATTER" BIF fm
/-- the String at a is Latin-1, its bytes at b: n chars, the i-th g i -/
def StrL (Z : State) (h : Heap) (a b : Addr) (n : Nat) (g : Nat → Int32) : Prop := Exa Z h a STR ∧ Fld Z h a STR "value" "[B" (.ref b) ∧ Fld Z h a STR "coder" "B" (.int 0) ∧ AR Z h b .byte n (fun i => by8 (g i)) ∧ ∀ i, i < n → 0 ≤ (g i).toInt ∧ (g i).toInt ≤ 255
theorem cl_0 : Dc jdk_52_method_21_code 0 (.iconst 0) 1 1 := ⟨by decide +kernel, rfl⟩
theorem cl_1 : Dc jdk_52_method_21_code 1 (.istore 5) 2 3 := ⟨by decide +kernel, rfl⟩
theorem cl_3 : Dc jdk_52_method_21_code 3 (.iload 5) 2 5 := ⟨by decide +kernel, rfl⟩
theorem cl_5 : Dc jdk_52_method_21_code 5 (.iload 4) 2 7 := ⟨by decide +kernel, rfl⟩
theorem cl_7 : Jp jdk_52_method_21_code 7 (.if_icmp .ge 37) (37) 10 44 := ⟨by decide +kernel, rfl, by decide, by decide⟩
theorem cl_10 : Dc jdk_52_method_21_code 10 (.aload_n 0) 1 11 := ⟨by decide +kernel, rfl⟩
theorem cl_11 : Dc jdk_52_method_21_code 11 (.iload_n 1) 1 12 := ⟨by decide +kernel, rfl⟩
theorem cl_12 : Dc jdk_52_method_21_code 12 (.caload) 1 13 := ⟨by decide +kernel, rfl⟩
theorem cl_13 : Dc jdk_52_method_21_code 13 (.istore 6) 2 15 := ⟨by decide +kernel, rfl⟩
theorem cl_15 : Dc jdk_52_method_21_code 15 (.iload 6) 2 17 := ⟨by decide +kernel, rfl⟩
theorem cl_17 : Dc jdk_52_method_21_code 17 (.sipush 255) 3 20 := ⟨by decide +kernel, rfl⟩
theorem cl_20 : Jp jdk_52_method_21_code 20 (.if_icmp .le 6) (6) 23 26 := ⟨by decide +kernel, rfl, by decide, by decide⟩
theorem cl_23 : Dc jdk_52_method_21_code 23 (.iload 5) 2 25 := ⟨by decide +kernel, rfl⟩
theorem cl_25 : Dc jdk_52_method_21_code 25 (.ireturn) 1 26 := ⟨by decide +kernel, rfl⟩
theorem cl_26 : Dc jdk_52_method_21_code 26 (.aload_n 2) 1 27 := ⟨by decide +kernel, rfl⟩
theorem cl_27 : Dc jdk_52_method_21_code 27 (.iload_n 3) 1 28 := ⟨by decide +kernel, rfl⟩
theorem cl_28 : Dc jdk_52_method_21_code 28 (.iload 6) 2 30 := ⟨by decide +kernel, rfl⟩
theorem cl_30 : Dc jdk_52_method_21_code 30 (.i2b) 1 31 := ⟨by decide +kernel, rfl⟩
theorem cl_31 : Dc jdk_52_method_21_code 31 (.bastore) 1 32 := ⟨by decide +kernel, rfl⟩
theorem cl_32 : Dc jdk_52_method_21_code 32 (.iinc 1 1) 3 35 := ⟨by decide +kernel, rfl⟩
theorem cl_35 : Dc jdk_52_method_21_code 35 (.iinc 3 1) 3 38 := ⟨by decide +kernel, rfl⟩
theorem cl_38 : Dc jdk_52_method_21_code 38 (.iinc 5 1) 3 41 := ⟨by decide +kernel, rfl⟩
theorem cl_41 : Jp jdk_52_method_21_code 41 (.goto (-38)) (-38) 44 3 := ⟨by decide +kernel, rfl, by decide, by decide⟩
theorem cl_44 : Dc jdk_52_method_21_code 44 (.iload 4) 2 46 := ⟨by decide +kernel, rfl⟩
theorem cl_46 : Dc jdk_52_method_21_code 46 (.ireturn) 1 47 := ⟨by decide +kernel, rfl⟩
theorem cp_0 : Dc jdk_52_method_16_code 0 (.iload_n 2) 1 1 := ⟨by decide +kernel, rfl⟩
theorem cp_1 : Dc jdk_52_method_16_code 1 (.newarray .byte) 2 3 := ⟨by decide +kernel, rfl⟩
theorem cp_3 : Dc jdk_52_method_16_code 3 (.astore_n 3) 1 4 := ⟨by decide +kernel, rfl⟩
theorem cp_4 : Dc jdk_52_method_16_code 4 (.aload_n 0) 1 5 := ⟨by decide +kernel, rfl⟩
theorem cp_5 : Dc jdk_52_method_16_code 5 (.iload_n 1) 1 6 := ⟨by decide +kernel, rfl⟩
theorem cp_6 : Dc jdk_52_method_16_code 6 (.aload_n 3) 1 7 := ⟨by decide +kernel, rfl⟩
theorem cp_7 : Dc jdk_52_method_16_code 7 (.iconst 0) 1 8 := ⟨by decide +kernel, rfl⟩
theorem cp_8 : Dc jdk_52_method_16_code 8 (.iload_n 2) 1 9 := ⟨by decide +kernel, rfl⟩
theorem cp_9 : Dc jdk_52_method_16_code 9 (.invokestatic 115) 3 12 := ⟨by decide +kernel, rfl⟩
theorem cp_12 : Dc jdk_52_method_16_code 12 (.istore 4) 2 14 := ⟨by decide +kernel, rfl⟩
theorem cp_14 : Dc jdk_52_method_16_code 14 (.iload 4) 2 16 := ⟨by decide +kernel, rfl⟩
theorem cp_16 : Dc jdk_52_method_16_code 16 (.iload_n 2) 1 17 := ⟨by decide +kernel, rfl⟩
theorem cp_17 : Jp jdk_52_method_16_code 17 (.if_icmp .eq 40) (40) 20 57 := ⟨by decide +kernel, rfl, by decide, by decide⟩
theorem cp_20 : Dc jdk_52_method_16_code 20 (.aload_n 0) 1 21 := ⟨by decide +kernel, rfl⟩
theorem cp_21 : Dc jdk_52_method_16_code 21 (.iload_n 1) 1 22 := ⟨by decide +kernel, rfl⟩
theorem cp_22 : Dc jdk_52_method_16_code 22 (.iload_n 2) 1 23 := ⟨by decide +kernel, rfl⟩
theorem cp_23 : Dc jdk_52_method_16_code 23 (.invokestatic 119) 3 26 := ⟨by decide +kernel, rfl⟩
theorem cp_26 : Dc jdk_52_method_16_code 26 (.astore 5) 2 28 := ⟨by decide +kernel, rfl⟩
theorem cp_28 : Dc jdk_52_method_16_code 28 (.aload 5) 2 30 := ⟨by decide +kernel, rfl⟩
theorem cp_30 : Dc jdk_52_method_16_code 30 (.iload 4) 2 32 := ⟨by decide +kernel, rfl⟩
theorem cp_32 : Dc jdk_52_method_16_code 32 (.invokestatic 71) 3 35 := ⟨by decide +kernel, rfl⟩
theorem cp_35 : Dc jdk_52_method_16_code 35 (.sipush 255) 3 38 := ⟨by decide +kernel, rfl⟩
theorem cp_38 : Jp jdk_52_method_16_code 38 (.if_icmp .gt 16) (16) 41 54 := ⟨by decide +kernel, rfl, by decide, by decide⟩
theorem cp_41 : Dc jdk_52_method_16_code 41 (.aload 5) 2 43 := ⟨by decide +kernel, rfl⟩
theorem cp_43 : Dc jdk_52_method_16_code 43 (.iconst 0) 1 44 := ⟨by decide +kernel, rfl⟩
theorem cp_44 : Dc jdk_52_method_16_code 44 (.aload_n 3) 1 45 := ⟨by decide +kernel, rfl⟩
theorem cp_45 : Dc jdk_52_method_16_code 45 (.iconst 0) 1 46 := ⟨by decide +kernel, rfl⟩
theorem cp_46 : Dc jdk_52_method_16_code 46 (.iload_n 2) 1 47 := ⟨by decide +kernel, rfl⟩
theorem cp_47 : Dc jdk_52_method_16_code 47 (.invokestatic 123) 3 50 := ⟨by decide +kernel, rfl⟩
theorem cp_50 : Dc jdk_52_method_16_code 50 (.iload_n 2) 1 51 := ⟨by decide +kernel, rfl⟩
theorem cp_51 : Jp jdk_52_method_16_code 51 (.if_icmp .eq 6) (6) 54 57 := ⟨by decide +kernel, rfl, by decide, by decide⟩
theorem cp_54 : Dc jdk_52_method_16_code 54 (.aload 5) 2 56 := ⟨by decide +kernel, rfl⟩
theorem cp_56 : Dc jdk_52_method_16_code 56 (.areturn) 1 57 := ⟨by decide +kernel, rfl⟩
theorem cp_57 : Dc jdk_52_method_16_code 57 (.aload_n 3) 1 58 := ⟨by decide +kernel, rfl⟩
theorem cp_58 : Dc jdk_52_method_16_code 58 (.areturn) 1 59 := ⟨by decide +kernel, rfl⟩
theorem cf_0 : Dc jdk_52_method_15_code 0 (.iload_n 1) 1 1 := ⟨by decide +kernel, rfl⟩
theorem cf_1 : Dc jdk_52_method_15_code 1 (.aload_n 0) 1 2 := ⟨by decide +kernel, rfl⟩
theorem cf_2 : Dc jdk_52_method_15_code 2 (.arraylength) 1 3 := ⟨by decide +kernel, rfl⟩
theorem cf_3 : Dc jdk_52_method_15_code 3 (.isub) 1 4 := ⟨by decide +kernel, rfl⟩
theorem cf_4 : Dc jdk_52_method_15_code 4 (.bipush 31) 2 6 := ⟨by decide +kernel, rfl⟩
theorem cf_6 : Dc jdk_52_method_15_code 6 (.iushr) 1 7 := ⟨by decide +kernel, rfl⟩
theorem cf_7 : Dc jdk_52_method_15_code 7 (.i2b) 1 8 := ⟨by decide +kernel, rfl⟩
theorem cf_8 : Dc jdk_52_method_15_code 8 (.ireturn) 1 9 := ⟨by decide +kernel, rfl⟩
theorem i6_0 : Dc jdk_42_method_149_code 0 (.aload_n 0) 1 1 := ⟨by decide +kernel, rfl⟩
theorem i6_1 : Dc jdk_42_method_149_code 1 (.invokespecial 1) 3 4 := ⟨by decide +kernel, rfl⟩
theorem i6_4 : Dc jdk_42_method_149_code 4 (.iload_n 3) 1 5 := ⟨by decide +kernel, rfl⟩
theorem i6_5 : Jp jdk_42_method_149_code 5 (.ifCond .ne 22) (22) 8 27 := ⟨by decide +kernel, rfl, by decide, by decide⟩
theorem i6_8 : Dc jdk_42_method_149_code 8 (.aload_n 0) 1 9 := ⟨by decide +kernel, rfl⟩
theorem i6_9 : Dc jdk_42_method_149_code 9 (.ldc 7) 2 11 := ⟨by decide +kernel, rfl⟩
theorem i6_11 : Dc jdk_42_method_149_code 11 (.getfield 9) 3 14 := ⟨by decide +kernel, rfl⟩
theorem i6_14 : Dc jdk_42_method_149_code 14 (.putfield 9) 3 17 := ⟨by decide +kernel, rfl⟩
theorem i6_17 : Dc jdk_42_method_149_code 17 (.aload_n 0) 1 18 := ⟨by decide +kernel, rfl⟩
theorem i6_18 : Dc jdk_42_method_149_code 18 (.ldc 7) 2 20 := ⟨by decide +kernel, rfl⟩
theorem i6_20 : Dc jdk_42_method_149_code 20 (.getfield 15) 3 23 := ⟨by decide +kernel, rfl⟩
theorem i6_23 : Dc jdk_42_method_149_code 23 (.putfield 15) 3 26 := ⟨by decide +kernel, rfl⟩
theorem i6_26 : Dc jdk_42_method_149_code 26 (.return_) 1 27 := ⟨by decide +kernel, rfl⟩
theorem i6_27 : Dc jdk_42_method_149_code 27 (.getstatic 38) 3 30 := ⟨by decide +kernel, rfl⟩
theorem i6_30 : Jp jdk_42_method_149_code 30 (.ifCond .eq 28) (28) 33 58 := ⟨by decide +kernel, rfl, by decide, by decide⟩
theorem i6_33 : Dc jdk_42_method_149_code 33 (.aload_n 1) 1 34 := ⟨by decide +kernel, rfl⟩
theorem i6_34 : Dc jdk_42_method_149_code 34 (.iload_n 2) 1 35 := ⟨by decide +kernel, rfl⟩
theorem i6_35 : Dc jdk_42_method_149_code 35 (.iload_n 3) 1 36 := ⟨by decide +kernel, rfl⟩
theorem i6_36 : Dc jdk_42_method_149_code 36 (.invokestatic 177) 3 39 := ⟨by decide +kernel, rfl⟩
theorem i6_39 : Dc jdk_42_method_149_code 39 (.astore 5) 2 41 := ⟨by decide +kernel, rfl⟩
theorem i6_41 : Dc jdk_42_method_149_code 41 (.aload_n 0) 1 42 := ⟨by decide +kernel, rfl⟩
theorem i6_42 : Dc jdk_42_method_149_code 42 (.aload 5) 2 44 := ⟨by decide +kernel, rfl⟩
theorem i6_44 : Dc jdk_42_method_149_code 44 (.iload_n 3) 1 45 := ⟨by decide +kernel, rfl⟩
theorem i6_45 : Dc jdk_42_method_149_code 45 (.invokestatic 47) 3 48 := ⟨by decide +kernel, rfl⟩
theorem i6_48 : Dc jdk_42_method_149_code 48 (.putfield 15) 3 51 := ⟨by decide +kernel, rfl⟩
theorem i6_51 : Dc jdk_42_method_149_code 51 (.aload_n 0) 1 52 := ⟨by decide +kernel, rfl⟩
theorem i6_52 : Dc jdk_42_method_149_code 52 (.aload 5) 2 54 := ⟨by decide +kernel, rfl⟩
theorem i6_54 : Dc jdk_42_method_149_code 54 (.putfield 9) 3 57 := ⟨by decide +kernel, rfl⟩
theorem i6_57 : Dc jdk_42_method_149_code 57 (.return_) 1 58 := ⟨by decide +kernel, rfl⟩
theorem i6_58 : Dc jdk_42_method_149_code 58 (.aload_n 0) 1 59 := ⟨by decide +kernel, rfl⟩
theorem i6_59 : Dc jdk_42_method_149_code 59 (.iconst 1) 1 60 := ⟨by decide +kernel, rfl⟩
theorem i6_60 : Dc jdk_42_method_149_code 60 (.putfield 15) 3 63 := ⟨by decide +kernel, rfl⟩
theorem i6_63 : Dc jdk_42_method_149_code 63 (.aload_n 0) 1 64 := ⟨by decide +kernel, rfl⟩
theorem i6_64 : Dc jdk_42_method_149_code 64 (.aload_n 1) 1 65 := ⟨by decide +kernel, rfl⟩
theorem i6_65 : Dc jdk_42_method_149_code 65 (.iload_n 2) 1 66 := ⟨by decide +kernel, rfl⟩
theorem i6_66 : Dc jdk_42_method_149_code 66 (.iload_n 3) 1 67 := ⟨by decide +kernel, rfl⟩
theorem i6_67 : Dc jdk_42_method_149_code 67 (.invokestatic 180) 3 70 := ⟨by decide +kernel, rfl⟩
theorem i6_70 : Dc jdk_42_method_149_code 70 (.putfield 9) 3 73 := ⟨by decide +kernel, rfl⟩
theorem i6_73 : Dc jdk_42_method_149_code 73 (.return_) 1 74 := ⟨by decide +kernel, rfl⟩
theorem met_cl (l : Launch) (Z : State) (a0 : Array Value) (hw : ∀ d ∈ tables_1, d.before a0 Z = true) (nw : Prop) (EL : List (String × Nat)) (hEL : EW Z a0 EL) (h : Heap) (val dst : Addr) (Nc off len : Nat) (g : Nat → Int32) (fd : Nat → Value) (A : AR Z h val .char Nc (fun i => .int (g i))) (D : AR Z h dst .byte len fd) (hne : val ≠ dst) (hb : off + len ≤ Nc) (hdst : Z.heap.size ≤ dst) (offI lenI : Int32) (ho : offI.toInt = off) (hl : lenI.toInt = len) :
    Met l Z nw EL ⟨UTF, "compress", "([CI[BII)I"⟩ jdk_52_method_21_code 7 (some .int) ⟨0, 0, 0, 0⟩ #[.ref val, .int offI, .ref dst, .int 0, .int lenI] h [dst] (fun v h' => ∃ (r : Nat) (rI : Int32), v = some (.int rI) ∧ rI.toInt = r ∧ r ≤ len ∧ (∀ i, i < r → (g (off + i)).toInt ≤ 255) ∧ (r < len → 255 < (g (off + r)).toInt) ∧ Keep h h' [dst] ∧ AR Z h' dst .byte len (fun i => if i < r then by8 (g (off + i)) else fd i)) := by
  have h31 := A.small
  refine Met.mk (a0 := a0) hEL pn_utf ?_
  intro p e s m below meth c C hE hS
  rw [efl7]
  have hvd : val ∉ [dst] := fun z => hne (List.mem_singleton.mp z)
  have one : (1 : Int32).toInt = 1 := rfl
  have loop : ∀ (t i : Nat) (h1 : Heap) (oI dI iI : Int32) (s6 : Slot), i + t = len → okSlot s6 = true → oI.toInt = (off + i : Nat) → dI.toInt = i → iI.toInt = i → (∀ j, j < i → (g (off + j)).toInt ≤ 255) → Keep h h1 [dst] → AR Z h1 dst .byte len (fun j => if j < i then by8 (g (off + j)) else fd j) → Safe Z EL s.vm h1 dst →
      Run p l e ⟨0, 0, 0, 0⟩ s m #[.ref val, .int offI, .ref dst, .int 0, .int lenI] below meth c Z nw EL (Kf s Z nw EL ⟨0, 0, 0, 0⟩ (fun v h' => ∃ (r : Nat) (rI : Int32), v = some (.int rI) ∧ rI.toInt = r ∧ r ≤ len ∧ (∀ i, i < r → (g (off + i)).toInt ≤ 255) ∧ (r < len → 255 < (g (off + r)).toInt) ∧ Keep h h' [dst] ∧ AR Z h' dst .byte len (fun i => if i < r then by8 (g (off + i)) else fd i))) s.vm h1 0 0 (fr m 3 [.val (.ref val), .val (.int oI), .val (.ref dst), .val (.int dI), .val (.int lenI), .val (.int iI), s6] []) := by
    intro t
    induction t with
    | zero =>
      intro i h1 oI dI iI s6 hi o6 q1 q2 q3 q4 K1 D1 S1
      have hi' : i = len := by omega
      subst hi'
      refine R_iload C cl_3 rfl ?_
      refine R_iload C cl_5 rfl ?_
      refine R_icmp C cl_7 (fun _ => ?_) (fun (hc : ¬ ¬ iI < lenI) => absurd (show ¬ iI < lenI from ?_) hc)
      · refine R_iload C cl_44 rfl ?_
        exact R_retI C cl_46 rfl (Nat.le_refl _) (Nat.le_refl _) ⟨i, lenI, rfl, hl, Nat.le_refl _, q4, fun z => absurd z (Nat.lt_irrefl _), K1, D1⟩
      · rw [Int32.lt_iff_toInt_lt]; omega
    | succ t ih =>
      intro i h1 oI dI iI s6 hi o6 q1 q2 q3 q4 K1 D1 S1
      refine R_iload C cl_3 rfl ?_
      refine R_iload C cl_5 rfl ?_
      refine R_icmp C cl_7 (fun (hc : ¬ iI < lenI) => absurd (Int32.lt_iff_toInt_lt.mpr (by omega)) hc) (fun _ => ?_)
      have A1 := A.keep K1 hvd
      refine R_aload_n C cl_10 rfl rfl ?_
      refine R_iload_n C cl_11 rfl ?_
      refine R_caload C (off + i) cl_12 A1 q1 (by omega) rfl ?_
      refine R_istore C cl_13 o6 ?_
      simp only [fv0, fv1, fv2, fv3, List.set_cons_zero, List.set_cons_succ]
      refine R_iload C cl_15 rfl ?_
      refine R_sipush C cl_17 (v := 255) rfl ?_
      refine R_icmp C cl_20 (fun (hc : ¬ (255 : Int32) < g (off + i)) => ?_) (fun (hc : ¬ ¬ (255 : Int32) < g (off + i)) => ?_)
      · rw [Int32.lt_iff_toInt_lt, show (255 : Int32).toInt = 255 from rfl] at hc
        refine R_aload_n C cl_26 rfl rfl ?_
        refine R_iload_n C cl_27 rfl ?_
        refine R_iload C cl_28 rfl ?_
        refine R_i2b C cl_30 ?_
        refine R_bastore C i cl_31 D1 q2 (by omega) hdst S1 ?_
        intro h2 W2 D2 Sf2
        have r1 := Jvm.Kit.i32_add (p := oI) (q := 1) (by omega) (by omega)
        have r2 := Jvm.Kit.i32_add (p := dI) (q := 1) (by omega) (by omega)
        have r3 := Jvm.Kit.i32_add (p := iI) (q := 1) (by omega) (by omega)
        refine R_iinc C cl_32 rfl rfl (dI := 1) rfl rfl ?_
        simp only [fv0, fv1, fv2, fv3, List.set_cons_zero, List.set_cons_succ]
        refine R_iinc C cl_35 rfl rfl (dI := 1) rfl rfl ?_
        simp only [fv0, fv1, fv2, fv3, List.set_cons_zero, List.set_cons_succ]
        refine R_iinc C cl_38 rfl rfl (dI := 1) rfl rfl ?_
        simp only [fv0, fv1, fv2, fv3, List.set_cons_zero, List.set_cons_succ]
        refine R_goto C cl_41 ?_
        refine ih (i + 1) h2 _ _ _ _ (by omega) rfl (by omega) (by omega) (by omega) (fun j hj => ?_) (K1.wr W2 (Or.inl (List.mem_singleton.mpr rfl))) (D2.cg fun j hj => ?_) (Sf2 _ S1)
        · by_cases z : j = i
          · subst z; omega
          · exact q4 j (by omega)
        · by_cases z : j = i
          · subst z
            rw [upd_eq, if_pos (by omega), nar_byte_byte]
          · rw [upd_ne z]
            by_cases z2 : j < i
            · rw [if_pos z2, if_pos (by omega)]
            · rw [if_neg z2, if_neg (by omega)]
      · have hc' := Int32.lt_iff_toInt_lt.mp (Decidable.not_not.mp hc)
        rw [show (255 : Int32).toInt = 255 from rfl] at hc'
        refine R_iload C cl_23 rfl ?_
        exact R_retI C cl_25 rfl (Nat.le_refl _) (Nat.le_refl _) ⟨i, iI, rfl, q3, by omega, q4, fun _ => hc', K1, D1⟩
  refine R_iconst C cl_0 (v := 0) rfl ?_
  refine R_istore C cl_1 rfl ?_
  simp only [fv0, fv1, fv2, fv3, List.set_cons_zero, List.set_cons_succ]
  exact loop len 0 h _ _ _ _ (by omega) rfl (by omega) rfl rfl (fun j hj => absurd hj (Nat.not_lt_zero _)) (Keep.refl _ _) (D.cg fun j hj => by rw [if_neg (Nat.not_lt_zero _)]) (hS dst (List.mem_singleton.mpr rfl))
theorem met_cpL (l : Launch) (Z : State) (a0 : Array Value) (hw : ∀ d ∈ tables_1, d.before a0 Z = true) (nw : Prop) (EL : List (String × Nat)) (hEL : EW Z a0 EL) (h : Heap) (val : Addr) (Nc off len cap : Nat) (g : Nat → Int32) (A : AR Z h val .char Nc (fun i => .int (g i))) (hb : off + len ≤ Nc) (hcap : len ≤ cap) (hc8 : cap * 8 ≤ 536870912) (offI lenI : Int32) (ho : offI.toInt = off) (hl : lenI.toInt = len) (hlat : ∀ i, i < len → (g (off + i)).toInt ≤ 255) :
    Met l Z nw EL ⟨UTF, "compress", "([CII)[B"⟩ jdk_52_method_16_code 6 (some (.array .byte)) ⟨1, 1, cap, 18⟩ #[.ref val, .int offI, .int lenI] h [] (fun v h' => v = some (.ref h.size) ∧ Ext h h' ∧ AR Z h' h.size .byte len (fun i => by8 (g (off + i)))) := by
  refine Met.mk (a0 := a0) hEL pn_utf ?_
  intro p e s m below meth c C hE hS
  rw [efc6]
  refine R_iload_n C cp_0 rfl ?_
  refine R_newarray C cap cp_1 (hw _ (List.mem_of_getElem? (i := 19) rfl)) hl hcap hc8 (Nat.le_refl _) (Nat.le_of_eq (Nat.zero_add _)) rfl ?_
  intro h1 E1 D1 S1 Sf1
  refine R_astore_n C cp_3 rfl rfl rfl ?_
  simp only [fv0, fv1, fv2, fv3, List.set_cons_zero, List.set_cons_succ]
  refine R_aload_n C cp_4 rfl rfl ?_
  refine R_iload_n C cp_5 rfl ?_
  refine R_aload_n C cp_6 rfl rfl ?_
  refine R_iconst C cp_7 (v := 0) rfl ?_
  refine R_iload_n C cp_8 rfl ?_
  refine R_static C [.ref val, .int offI, .ref h.size, .int 0, .int lenI] cp_9 (met_cl l Z a0 hw nw EL hEL h1 val h.size Nc off len g _ (A.ext E1) D1 (Nat.ne_of_lt A.lt) hb hE.1 offI lenI ho hl) (by first | exact fun z => z | exact fun _ => trivial) (hw _ (List.mem_of_getElem? (i := 31) rfl)) (hw _ (List.mem_of_getElem? (i := 32) rfl)) (hw _ (List.mem_of_getElem? (i := 29) rfl)) (hw _ (List.mem_of_getElem? (i := 33) rfl)) (by decide) pd_0 rfl rfl rfl (Nat.le_refl _) (Nat.le_of_ble_eq_true rfl) (Nat.le_refl _) (Nat.le_of_eq (Nat.zero_add _)) (fun x hx => by cases List.mem_singleton.mp hx; exact S1) ?_
  intro v vm2 h2 hQ hsz2 hSf2 hFr
  obtain ⟨r, rI, rfl, hr1, hr2, hr3, hr4, K2, D2⟩ := hQ
  have hrl : r = len := by
    rcases Nat.lt_or_ge r len with z | z
    · have z1 := hr4 z
      have z2 := hlat r z
      omega
    · omega
  subst hrl
  simp only [Option.toList_some, List.cons_append, List.nil_append]
  refine R_istore C cp_12 rfl ?_
  simp only [fv0, fv1, fv2, fv3, List.set_cons_zero, List.set_cons_succ]
  refine R_iload C cp_14 rfl ?_
  refine R_iload_n C cp_16 rfl ?_
  refine R_icmp C cp_17 (fun _ => ?_) (fun (hc : ¬ rI = lenI) => absurd (Int32.toInt_inj.mp (by omega)) hc)
  refine R_aload_n C cp_57 rfl rfl ?_
  refine R_areturn C cp_58 rfl rfl rfl (Nat.le_refl _) (Nat.le_of_eq (Nat.zero_add _)) ⟨rfl, E1.keep' K2 (fun x hx => by cases List.mem_singleton.mp hx; exact Nat.le_refl _), D2.cg fun i hi => by rw [if_pos hi]⟩
theorem ushr0 : (XT.ushr 0 31).toInt8.toInt32 = 0 := by decide +kernel
theorem met_cfL (l : Launch) (Z : State) (a0 : Array Value) (hw : ∀ d ∈ tables_1, d.before a0 Z = true) (nw : Prop) (EL : List (String × Nat)) (hEL : EW Z a0 EL) (h : Heap) (b : Addr) (len : Nat) (f : Nat → Value) (A : AR Z h b .byte len f) (lenI : Int32) (hl : lenI.toInt = len) :
    Met l Z nw EL ⟨UTF, "coderFromArrayLen", "([BI)B"⟩ jdk_52_method_15_code 2 (some .byte) ⟨0, 0, 0, 0⟩ #[.ref b, .int lenI] h [] (fun v h' => v = some (.int 0) ∧ h' = h) := by
  refine Met.mk (a0 := a0) hEL pn_utf ?_
  intro p e s m below meth c C hE hS
  rw [efRI2]
  have hll : len.toInt32 = lenI := Int32.toInt_inj.mp (by rw [len_toInt A.small]; omega)
  subst hll
  refine R_iload_n C cf_0 rfl ?_
  refine R_aload_n C cf_1 rfl rfl ?_
  refine R_arraylength C cf_2 (A) rfl ?_
  refine R_isub C cf_3 ?_
  refine R_bipush C cf_4 (v := 31) rfl ?_
  refine R_iushr C cf_6 ?_
  refine R_i2b C cf_7 ?_
  refine R_retN C cf_8 rfl (Or.inr (Or.inl rfl)) (Nat.le_refl _) (Nat.le_refl _) ⟨?_, rfl⟩
  rw [Int32.sub_self, ushr0]
  rfl
/-- what new String(char[], off, len) leaves -/
def InQ (Z : State) (h : Heap) (a : Addr) (len : Nat) (g : Nat → Int32) (v : Option Value) (h' : Heap) : Prop := v = none ∧ Keep h h' [a] ∧ ∃ b, StrL Z h' a b len g
theorem met_i6L (l : Launch) (Z : State) (a0 : Array Value) (hw : ∀ d ∈ tables_1, d.before a0 Z = true) (nw : Prop) (EL : List (String × Nat)) (hEL : EW Z a0 EL) (cs : Int32) (fm : Value) (S : SS Z cs fm) (h : Heap) (a val : Addr) (Nc off len cap : Nat) (g : Nat → Int32) (A : AR Z h val .char Nc (fun i => .int (g i))) (hb : off + len ≤ Nc) (hcap : len ≤ cap) (hc8 : cap * 8 ≤ 536870912) (offI lenI : Int32) (ho : offI.toInt = off) (hl : lenI.toInt = len) (hpos : 0 < len) (hlat : ∀ i, i < len → 0 ≤ (g (off + i)).toInt ∧ (g (off + i)).toInt ≤ 255) (vo : Value) (hvo : vo.category = 1)
    (E : Exa Z h a STR) (F1 : Fld Z h a STR "value" "[B" .null) (F2 : Fld Z h a STR "coder" "B" (.int 0)) (ha : Z.heap.size ≤ a) :
    Met l Z nw EL ⟨STR, "<init>", "([CIILjava/lang/Void;)V"⟩ jdk_42_method_149_code 6 none ⟨2, 1, cap, 35⟩ #[.ref a, .ref val, .int offI, .int lenI, vo] h [a] (InQ Z h a len (fun i => g (off + i))) := by
  have Lv : Laid Z a0 STR STR "value" "[B" := Or.inr (hw _ (List.mem_of_getElem? (i := 20) rfl))
  have Lc : Laid Z a0 STR STR "coder" "B" := Or.inr (hw _ (List.mem_of_getElem? (i := 21) rfl))
  have nvc := slot_ne Lv Lc (by decide) (t := .array .byte) (t' := .byte) (by decide) (by decide)
  have ncv := slot_ne Lc Lv (by decide) (t := .byte) (t' := .array .byte) (by decide) (by decide)
  refine Met.mk (a0 := a0) hEL pn_str ?_
  intro p e s m below meth c C hE hS
  rw [efi6 m _ _ _ _ _ hvo]
  refine R_aload_n C i6_0 rfl rfl ?_
  refine R_initO C i6_1 (hw _ (List.mem_of_getElem? (i := 15) rfl)) (hw _ (List.mem_of_getElem? (i := 16) rfl)) (hw _ (List.mem_of_getElem? (i := 17) rfl)) rfl (Nat.le_of_ble_eq_true rfl) (Nat.le_of_ble_eq_true rfl) ?_
  refine R_iload_n C i6_4 rfl ?_
  refine R_if C i6_5 (fun _ => ?_) (fun (hc : ¬ ¬ lenI = 0) => absurd (show ¬ lenI = 0 from fun z => ?_) hc)
  · refine R_getstatic C i6_27 (hw _ (List.mem_of_getElem? (i := 26) rfl)) Via.refl (S.2.1.ext hE) ?_
    refine R_if C i6_30 (fun hc => absurd hc S.1) (fun _ => ?_)
    refine R_aload_n C i6_33 rfl rfl ?_
    refine R_iload_n C i6_34 rfl ?_
    refine R_iload_n C i6_35 rfl ?_
    refine R_static C [.ref val, .int offI, .int lenI] i6_36 (met_cpL l Z a0 hw nw EL hEL h val Nc off len cap g A hb hcap hc8 offI lenI ho hl (fun i hi => (hlat i hi).2)) (by first | exact fun z => z | exact fun _ => trivial) (hw _ (List.mem_of_getElem? (i := 27) rfl)) (hw _ (List.mem_of_getElem? (i := 28) rfl)) (hw _ (List.mem_of_getElem? (i := 29) rfl)) (hw _ (List.mem_of_getElem? (i := 30) rfl)) (by decide) pd_1 rfl rfl rfl (Nat.le_of_ble_eq_true rfl) (Nat.le_of_ble_eq_true rfl) (Nat.le_refl _) (Nat.le_of_eq (Nat.zero_add _)) (fun _ q => nomatch q) ?_
    intro v vm2 h2 hQ hsz2 hSf2 hFr
    obtain ⟨rfl, E2, D2⟩ := hQ
    simp only [Option.toList_some, List.cons_append, List.nil_append]
    refine R_astore C i6_39 rfl rfl rfl ?_
    simp only [fv0, fv1, fv2, fv3, List.set_cons_zero, List.set_cons_succ]
    refine R_aload_n C i6_41 rfl rfl ?_
    refine R_aload C i6_42 rfl rfl ?_
    refine R_iload_n C i6_44 rfl ?_
    refine R_static C [.ref h.size, .int lenI] i6_45 (met_cfL l Z a0 hw nw EL hEL h2 h.size len _ D2 lenI hl) (by first | exact fun z => z | exact fun _ => trivial) (hw _ (List.mem_of_getElem? (i := 34) rfl)) (hw _ (List.mem_of_getElem? (i := 35) rfl)) (hw _ (List.mem_of_getElem? (i := 29) rfl)) (hw _ (List.mem_of_getElem? (i := 36) rfl)) (by decide) pd_2 rfl rfl rfl (Nat.le_of_ble_eq_true rfl) (Nat.le_of_ble_eq_true rfl) (Nat.le_refl _) (Nat.le_of_eq (by simp)) (fun _ q => nomatch q) ?_
    intro v vm3 h3 hQ hsz3 hSf3 hFr
    obtain ⟨rfl, rfl⟩ := hQ
    have Sa : Safe Z EL vm3 h3 a := hSf3 a (E.ext E2).lt (hSf2 a E.lt (hS a (List.mem_singleton.mpr rfl)))
    refine R_putfield C i6_48 (hw _ (List.mem_of_getElem? (i := 25) rfl)) Via.refl (F2.ext E2) (E.ext E2) (Or.inr ⟨(hw _ (List.mem_of_getElem? (i := 21) rfl)), rfl, rfl⟩) (hw _ (List.mem_of_getElem? (i := 5) rfl)) (ty := .byte) (by decide) rfl rfl ha Sa ?_
    intro h4 W4 Sf4
    refine R_aload_n C i6_51 rfl rfl ?_
    refine R_aload C i6_52 rfl rfl ?_
    refine R_putfield C i6_54 (hw _ (List.mem_of_getElem? (i := 24) rfl)) Via.refl ((F1.ext E2).other W4 (Or.inr nvc)) ((E.ext E2).wr W4) (Or.inr ⟨(hw _ (List.mem_of_getElem? (i := 20) rfl)), rfl, rfl⟩) (hw _ (List.mem_of_getElem? (i := 5) rfl)) (ty := .array .byte) (by decide) rfl rfl ha (Sf4 _ Sa) ?_
    intro h5 W5 Sf5
    have ne : h.size ≠ a := Nat.ne_of_gt E.lt
    refine R_return C i6_57 rfl (Nat.le_refl _) (Nat.le_of_eq (by simp)) ⟨rfl, ?_, h.size, ((E.ext E2).wr W4).wr W5, ((F1.ext E2).other W4 (Or.inr nvc)).same W5, ((F2.ext E2).same W4).other W5 (Or.inr ncv), (D2.other W4 ne).other W5 ne, hlat⟩
    exact ((Keep.ofExt E2).wr W4 (Or.inl (List.mem_singleton.mpr rfl))).wr W5 (Or.inl (List.mem_singleton.mpr rfl))
  · rw [z] at hl
    rw [Int32.toInt_zero] at hl
    omega
theorem i2_0 : Dc jdk_42_method_3_code 0 (.aload_n 0) 1 1 := ⟨by decide +kernel, rfl⟩
theorem i2_1 : Dc jdk_42_method_3_code 1 (.aload_n 1) 1 2 := ⟨by decide +kernel, rfl⟩
theorem i2_2 : Dc jdk_42_method_3_code 2 (.iconst 0) 1 3 := ⟨by decide +kernel, rfl⟩
theorem i2_3 : Dc jdk_42_method_3_code 3 (.aload_n 1) 1 4 := ⟨by decide +kernel, rfl⟩
theorem i2_4 : Dc jdk_42_method_3_code 4 (.arraylength) 1 5 := ⟨by decide +kernel, rfl⟩
theorem i2_5 : Dc jdk_42_method_3_code 5 (.aconst_null) 1 6 := ⟨by decide +kernel, rfl⟩
theorem i2_6 : Dc jdk_42_method_3_code 6 (.invokespecial 27) 3 9 := ⟨by decide +kernel, rfl⟩
theorem i2_9 : Dc jdk_42_method_3_code 9 (.return_) 1 10 := ⟨by decide +kernel, rfl⟩
theorem met_i2L (l : Launch) (Z : State) (a0 : Array Value) (hw : ∀ d ∈ tables_1, d.before a0 Z = true) (nw : Prop) (EL : List (String × Nat)) (hEL : EW Z a0 EL) (cs : Int32) (fm : Value) (S : SS Z cs fm) (h : Heap) (a val : Addr) (len cap : Nat) (g : Nat → Int32) (A : AR Z h val .char len (fun i => .int (g i))) (hcap : len ≤ cap) (hc8 : cap * 8 ≤ 536870912) (hpos : 0 < len) (hlat : ∀ i, i < len → 0 ≤ (g i).toInt ∧ (g i).toInt ≤ 255)
    (E : Exa Z h a STR) (F1 : Fld Z h a STR "value" "[B" .null) (F2 : Fld Z h a STR "coder" "B" (.int 0)) (ha : Z.heap.size ≤ a) :
    Met l Z nw EL ⟨STR, "<init>", "([C)V"⟩ jdk_42_method_3_code 2 none ⟨3, 1, cap, 52⟩ #[.ref a, .ref val] h [a] (InQ Z h a len g) := by
  refine Met.mk (a0 := a0) hEL pn_str ?_
  intro p e s m below meth c C hE hS
  rw [efi2]
  have z0 : (fun i => g (0 + i)) = g := funext fun i => by rw [Nat.zero_add]
  have M := met_i6L l Z a0 hw nw EL hEL cs fm S h a val len 0 len cap g A (by omega) hcap hc8 0 len.toInt32 rfl (len_toInt A.small) hpos (fun i hi => by rw [Nat.zero_add]; exact hlat i hi) .null rfl E F1 F2 ha
  rw [z0] at M
  refine R_aload_n C i2_0 rfl rfl ?_
  refine R_aload_n C i2_1 rfl rfl ?_
  refine R_iconst C i2_2 (v := 0) rfl ?_
  refine R_aload_n C i2_3 rfl rfl ?_
  refine R_arraylength C i2_4 (A) rfl ?_
  refine R_aconst_null C i2_5 ?_
  refine R_special C [.ref val, .int 0, .int len.toInt32, .null] i2_6 M (by first | exact fun z => z | exact fun _ => trivial) rfl (hw _ (List.mem_of_getElem? (i := 11) rfl)) (hw _ (List.mem_of_getElem? (i := 12) rfl)) (hw _ (List.mem_of_getElem? (i := 6) rfl)) (hw _ (List.mem_of_getElem? (i := 14) rfl)) (by decide) pd_3 rfl rfl rfl (Nat.le_of_ble_eq_true rfl) (Nat.le_of_ble_eq_true rfl) (Nat.le_refl _) (Nat.le_of_eq (Nat.zero_add _)) hS ?_
  intro v vm2 h2 hQ hsz2 hSf2 hFr
  obtain ⟨rfl, hQ⟩ := hQ
  exact R_return C i2_9 rfl (Nat.le_refl _) (Nat.le_of_eq (Nat.zero_add _)) ⟨rfl, hQ⟩
theorem wS_1 {Z : State} {a0 : Array Value} (hw : ∀ d ∈ tables_1, d.before a0 Z = true) : ∀ a ∈ Bundle.stringAtoms, a.before a0 Z = true := by
  intro d hd
  simp only [Bundle.stringAtoms, List.mem_cons, List.not_mem_nil, or_false] at hd
  rcases hd with rfl | rfl | rfl | rfl | rfl | rfl | rfl
  · exact (hw _ (List.mem_of_getElem? (i := 6) rfl))
  · exact (hw _ (List.mem_of_getElem? (i := 5) rfl))
  · exact (hw _ (List.mem_of_getElem? (i := 19) rfl))
  · exact (hw _ (List.mem_of_getElem? (i := 20) rfl))
  · exact (hw _ (List.mem_of_getElem? (i := 21) rfl))
  · exact (hw _ (List.mem_of_getElem? (i := 22) rfl))
  · exact (hw _ (List.mem_of_getElem? (i := 23) rfl))
theorem met_i6E (l : Launch) (Z : State) (a0 : Array Value) (hw : ∀ d ∈ tables_1, d.before a0 Z = true) (EL : List (String × Nat)) (hEL : EW Z a0 EL) (hmem : ("java/lang/String", 7) ∈ EL) (h : Heap) (a val : Addr) (g : Nat → Int32) (offI : Int32) (vo : Value) (hvo : vo.category = 1)
    (E : Exa Z h a STR) (F1 : Fld Z h a STR "value" "[B" .null) (F2 : Fld Z h a STR "coder" "B" (.int 0)) (ha : Z.heap.size ≤ a) :
    Met l Z False EL ⟨STR, "<init>", "([CIILjava/lang/Void;)V"⟩ jdk_42_method_149_code 6 none ⟨2, 4, 8, 35⟩ #[.ref a, .ref val, .int offI, .int 0, vo] h [a] (InQ Z h a 0 g) := by
  have Lv : Laid Z a0 STR STR "value" "[B" := Or.inr (hw _ (List.mem_of_getElem? (i := 20) rfl))
  have Lc : Laid Z a0 STR STR "coder" "B" := Or.inr (hw _ (List.mem_of_getElem? (i := 21) rfl))
  have nvc := slot_ne Lv Lc (by decide) (t := .array .byte) (t' := .byte) (by decide) (by decide)
  have ncv := slot_ne Lc Lv (by decide) (t := .byte) (t' := .array .byte) (by decide) (by decide)
  refine Met.mk (a0 := a0) hEL pn_str ?_
  intro p e s m below meth c C hE hS
  rw [efi6 m _ _ _ _ _ hvo]
  refine R_aload_n C i6_0 rfl rfl ?_
  refine R_initO C i6_1 (hw _ (List.mem_of_getElem? (i := 15) rfl)) (hw _ (List.mem_of_getElem? (i := 16) rfl)) (hw _ (List.mem_of_getElem? (i := 17) rfl)) rfl (Nat.le_of_ble_eq_true rfl) (Nat.le_of_ble_eq_true rfl) ?_
  refine R_iload_n C i6_4 rfl ?_
  refine R_if C i6_5 (fun (hc : ¬ (0 : Int32) = 0) => absurd rfl hc) (fun _ => ?_)
  refine R_aload_n C i6_8 rfl rfl ?_
  refine R_ldcK C 0 i6_9 (fun z => z) (hw _ (List.mem_of_getElem? (i := 18) rfl)) (wS_1 hw) hmem (vs := []) (z := 0) ⟨by intro c hc; simp at hc, rfl⟩ rfl (Nat.le_of_ble_eq_true rfl) (Nat.le_of_ble_eq_true rfl) (Nat.le_of_ble_eq_true rfl) (Nat.le_of_ble_eq_true rfl) ?_
  intro l1 b1 vm1 h1 E1 X1 C1 V1 A1 Sf1 Ne1
  have Sa : Safe Z EL vm1 h1 a := Sf1 a E.lt (hS a (List.mem_singleton.mpr rfl))
  refine R_getfield C i6_11 (hw _ (List.mem_of_getElem? (i := 24) rfl)) Via.refl (V1) ?_
  refine R_putfield C i6_14 (hw _ (List.mem_of_getElem? (i := 24) rfl)) Via.refl (F1.ext E1) (E.ext E1) (Or.inr ⟨(hw _ (List.mem_of_getElem? (i := 20) rfl)), rfl, rfl⟩) (hw _ (List.mem_of_getElem? (i := 5) rfl)) (ty := .array .byte) (by decide) rfl rfl ha Sa ?_
  intro h2 W2 Sf2
  have Sa2 := Sf2 a Sa
  have nab : b1 ≠ a := (Ne1 a Sa).2.symm
  have E2 := (E.ext E1).wr W2
  have F22 := (F2.ext E1).other W2 (Or.inr ncv)
  have F12 := (F1.ext E1).same W2
  have A2 := A1.other W2 nab
  refine R_aload_n C i6_17 rfl rfl ?_
  refine R_ldcK C 0 i6_18 (fun z => z) (hw _ (List.mem_of_getElem? (i := 18) rfl)) (wS_1 hw) hmem (vs := []) (z := 0) ⟨by intro c hc; simp at hc, rfl⟩ rfl (Nat.le_of_ble_eq_true rfl) (Nat.le_of_ble_eq_true rfl) (Nat.le_of_ble_eq_true rfl) (Nat.le_of_ble_eq_true rfl) ?_
  intro l3 b3 vm3 h3 E3 X3 C3 V3 A3 Sf3 Ne3
  have Sa3 := Sf3 a E2.lt Sa2
  refine R_getfield C i6_20 (hw _ (List.mem_of_getElem? (i := 25) rfl)) Via.refl (C3) ?_
  refine R_putfield C i6_23 (hw _ (List.mem_of_getElem? (i := 25) rfl)) Via.refl (F22.ext E3) (E2.ext E3) (Or.inr ⟨(hw _ (List.mem_of_getElem? (i := 21) rfl)), rfl, rfl⟩) (hw _ (List.mem_of_getElem? (i := 5) rfl)) (ty := .byte) (by decide) rfl rfl ha Sa3 ?_
  intro h4 W4 Sf4
  refine R_return C i6_26 rfl (Nat.le_of_ble_eq_true rfl) (Nat.le_of_ble_eq_true rfl) ⟨rfl, ?_, b1, (E2.ext E3).wr W4, (F12.ext E3).other W4 (Or.inr nvc), (F22.ext E3).same W4, ((A2.ext E3).other W4 nab).cg (fun i hi => absurd hi (Nat.not_lt_zero _)), fun i hi => absurd hi (Nat.not_lt_zero _)⟩
  exact (((Keep.ofExt E1).wr W2 (Or.inl (List.mem_singleton.mpr rfl))).ext E3).wr W4 (Or.inl (List.mem_singleton.mpr rfl))
theorem met_i2E (l : Launch) (Z : State) (a0 : Array Value) (hw : ∀ d ∈ tables_1, d.before a0 Z = true) (EL : List (String × Nat)) (hEL : EW Z a0 EL) (hmem : ("java/lang/String", 7) ∈ EL) (h : Heap) (a val : Addr) (f : Nat → Value) (g : Nat → Int32) (A : AR Z h val .char 0 f)
    (E : Exa Z h a STR) (F1 : Fld Z h a STR "value" "[B" .null) (F2 : Fld Z h a STR "coder" "B" (.int 0)) (ha : Z.heap.size ≤ a) :
    Met l Z False EL ⟨STR, "<init>", "([C)V"⟩ jdk_42_method_3_code 2 none ⟨3, 4, 8, 52⟩ #[.ref a, .ref val] h [a] (InQ Z h a 0 g) := by
  refine Met.mk (a0 := a0) hEL pn_str ?_
  intro p e s m below meth c C hE hS
  rw [efi2]
  refine R_aload_n C i2_0 rfl rfl ?_
  refine R_aload_n C i2_1 rfl rfl ?_
  refine R_iconst C i2_2 (v := 0) rfl ?_
  refine R_aload_n C i2_3 rfl rfl ?_
  refine R_arraylength C i2_4 (A) (w := 0) rfl ?_
  refine R_aconst_null C i2_5 ?_
  refine R_special C [.ref val, .int 0, .int 0, .null] i2_6 (met_i6E l Z a0 hw EL hEL hmem h a val g 0 .null rfl E F1 F2 ha) (by first | exact fun z => z | exact fun _ => trivial) rfl (hw _ (List.mem_of_getElem? (i := 11) rfl)) (hw _ (List.mem_of_getElem? (i := 12) rfl)) (hw _ (List.mem_of_getElem? (i := 6) rfl)) (hw _ (List.mem_of_getElem? (i := 14) rfl)) (by decide) pd_3 rfl rfl rfl (Nat.le_of_ble_eq_true rfl) (Nat.le_of_ble_eq_true rfl) (Nat.le_of_ble_eq_true rfl) (Nat.le_of_ble_eq_true rfl) hS ?_
  intro v vm2 h2 hQ hsz2 hSf2 hFr
  obtain ⟨rfl, hQ⟩ := hQ
  exact R_return C i2_9 rfl (Nat.le_of_ble_eq_true rfl) (Nat.le_of_ble_eq_true rfl) ⟨rfl, hQ⟩
abbrev OPT : String := "com/example/tallyhour/tallyhour/Command$Option"
abbrev LAW : String := "com/example/tallyhour/tallyhour/OptionOptionalPinLaw"
abbrev STD : String := "Ljava/lang/String;"
theorem pn_opt : plainName OPT = true := by first | (simp [plainName, overriddenIn]; done) | decide +kernel
theorem pn_law : plainName LAW = true := by first | (simp [plainName, overriddenIn]; done) | decide +kernel
theorem pn_rec : plainName "java/lang/Record" = true := by first | (simp [plainName, overriddenIn]; done) | decide +kernel
theorem st_0 : Dc method_2_code 0 (.iload_n 0) 1 1 := ⟨by decide +kernel, rfl⟩
theorem st_1 : Dc method_2_code 1 (.iconst 3) 1 2 := ⟨by decide +kernel, rfl⟩
theorem st_2 : Dc method_2_code 2 (.iand) 1 3 := ⟨by decide +kernel, rfl⟩
theorem st_3 : Dc method_2_code 3 (.istore_n 1) 1 4 := ⟨by decide +kernel, rfl⟩
theorem st_4 : Dc method_2_code 4 (.iload_n 0) 1 5 := ⟨by decide +kernel, rfl⟩
theorem st_5 : Dc method_2_code 5 (.iconst 2) 1 6 := ⟨by decide +kernel, rfl⟩
theorem st_6 : Dc method_2_code 6 (.iushr) 1 7 := ⟨by decide +kernel, rfl⟩
theorem st_7 : Dc method_2_code 7 (.sipush 255) 3 10 := ⟨by decide +kernel, rfl⟩
theorem st_10 : Dc method_2_code 10 (.iand) 1 11 := ⟨by decide +kernel, rfl⟩
theorem st_11 : Dc method_2_code 11 (.i2c) 1 12 := ⟨by decide +kernel, rfl⟩
theorem st_12 : Dc method_2_code 12 (.istore_n 2) 1 13 := ⟨by decide +kernel, rfl⟩
theorem st_13 : Dc method_2_code 13 (.iload_n 0) 1 14 := ⟨by decide +kernel, rfl⟩
theorem st_14 : Dc method_2_code 14 (.bipush 10) 2 16 := ⟨by decide +kernel, rfl⟩
theorem st_16 : Dc method_2_code 16 (.iushr) 1 17 := ⟨by decide +kernel, rfl⟩
theorem st_17 : Dc method_2_code 17 (.sipush 255) 3 20 := ⟨by decide +kernel, rfl⟩
theorem st_20 : Dc method_2_code 20 (.iand) 1 21 := ⟨by decide +kernel, rfl⟩
theorem st_21 : Dc method_2_code 21 (.i2c) 1 22 := ⟨by decide +kernel, rfl⟩
theorem st_22 : Dc method_2_code 22 (.istore_n 3) 1 23 := ⟨by decide +kernel, rfl⟩
theorem st_23 : Dc method_2_code 23 (.iload_n 1) 1 24 := ⟨by decide +kernel, rfl⟩
theorem st_24 : Jp method_2_code 24 (.ifCond .ne 14) (14) 27 38 := ⟨by decide +kernel, rfl, by decide, by decide⟩
theorem st_27 : Dc method_2_code 27 (.new 7) 3 30 := ⟨by decide +kernel, rfl⟩
theorem st_30 : Dc method_2_code 30 (.dup) 1 31 := ⟨by decide +kernel, rfl⟩
theorem st_31 : Dc method_2_code 31 (.iconst 0) 1 32 := ⟨by decide +kernel, rfl⟩
theorem st_32 : Dc method_2_code 32 (.newarray .char) 2 34 := ⟨by decide +kernel, rfl⟩
theorem st_34 : Dc method_2_code 34 (.invokespecial 9) 3 37 := ⟨by decide +kernel, rfl⟩
theorem st_37 : Dc method_2_code 37 (.areturn) 1 38 := ⟨by decide +kernel, rfl⟩
theorem st_38 : Dc method_2_code 38 (.iload_n 1) 1 39 := ⟨by decide +kernel, rfl⟩
theorem st_39 : Dc method_2_code 39 (.iconst 1) 1 40 := ⟨by decide +kernel, rfl⟩
theorem st_40 : Jp method_2_code 40 (.if_icmp .ne 18) (18) 43 58 := ⟨by decide +kernel, rfl, by decide, by decide⟩
theorem st_43 : Dc method_2_code 43 (.new 7) 3 46 := ⟨by decide +kernel, rfl⟩
theorem st_46 : Dc method_2_code 46 (.dup) 1 47 := ⟨by decide +kernel, rfl⟩
theorem st_47 : Dc method_2_code 47 (.iconst 1) 1 48 := ⟨by decide +kernel, rfl⟩
theorem st_48 : Dc method_2_code 48 (.newarray .char) 2 50 := ⟨by decide +kernel, rfl⟩
theorem st_50 : Dc method_2_code 50 (.dup) 1 51 := ⟨by decide +kernel, rfl⟩
theorem st_51 : Dc method_2_code 51 (.iconst 0) 1 52 := ⟨by decide +kernel, rfl⟩
theorem st_52 : Dc method_2_code 52 (.iload_n 2) 1 53 := ⟨by decide +kernel, rfl⟩
theorem st_53 : Dc method_2_code 53 (.castore) 1 54 := ⟨by decide +kernel, rfl⟩
theorem st_54 : Dc method_2_code 54 (.invokespecial 9) 3 57 := ⟨by decide +kernel, rfl⟩
theorem st_57 : Dc method_2_code 57 (.areturn) 1 58 := ⟨by decide +kernel, rfl⟩
theorem st_58 : Dc method_2_code 58 (.new 7) 3 61 := ⟨by decide +kernel, rfl⟩
theorem st_61 : Dc method_2_code 61 (.dup) 1 62 := ⟨by decide +kernel, rfl⟩
theorem st_62 : Dc method_2_code 62 (.iconst 2) 1 63 := ⟨by decide +kernel, rfl⟩
theorem st_63 : Dc method_2_code 63 (.newarray .char) 2 65 := ⟨by decide +kernel, rfl⟩
theorem st_65 : Dc method_2_code 65 (.dup) 1 66 := ⟨by decide +kernel, rfl⟩
theorem st_66 : Dc method_2_code 66 (.iconst 0) 1 67 := ⟨by decide +kernel, rfl⟩
theorem st_67 : Dc method_2_code 67 (.iload_n 2) 1 68 := ⟨by decide +kernel, rfl⟩
theorem st_68 : Dc method_2_code 68 (.castore) 1 69 := ⟨by decide +kernel, rfl⟩
theorem st_69 : Dc method_2_code 69 (.dup) 1 70 := ⟨by decide +kernel, rfl⟩
theorem st_70 : Dc method_2_code 70 (.iconst 1) 1 71 := ⟨by decide +kernel, rfl⟩
theorem st_71 : Dc method_2_code 71 (.iload_n 3) 1 72 := ⟨by decide +kernel, rfl⟩
theorem st_72 : Dc method_2_code 72 (.castore) 1 73 := ⟨by decide +kernel, rfl⟩
theorem st_73 : Dc method_2_code 73 (.invokespecial 9) 3 76 := ⟨by decide +kernel, rfl⟩
theorem st_76 : Dc method_2_code 76 (.areturn) 1 77 := ⟨by decide +kernel, rfl⟩
theorem op_0 : Dc prog_7_method_3_code 0 (.new 8) 3 3 := ⟨by decide +kernel, rfl⟩
theorem op_3 : Dc prog_7_method_3_code 3 (.dup) 1 4 := ⟨by decide +kernel, rfl⟩
theorem op_4 : Dc prog_7_method_3_code 4 (.aload_n 0) 1 5 := ⟨by decide +kernel, rfl⟩
theorem op_5 : Dc prog_7_method_3_code 5 (.aload_n 1) 1 6 := ⟨by decide +kernel, rfl⟩
theorem op_6 : Dc prog_7_method_3_code 6 (.aload_n 2) 1 7 := ⟨by decide +kernel, rfl⟩
theorem op_7 : Dc prog_7_method_3_code 7 (.iconst 0) 1 8 := ⟨by decide +kernel, rfl⟩
theorem op_8 : Dc prog_7_method_3_code 8 (.aconst_null) 1 9 := ⟨by decide +kernel, rfl⟩
theorem op_9 : Dc prog_7_method_3_code 9 (.iconst 0) 1 10 := ⟨by decide +kernel, rfl⟩
theorem op_10 : Dc prog_7_method_3_code 10 (.invokespecial 29) 3 13 := ⟨by decide +kernel, rfl⟩
theorem op_13 : Dc prog_7_method_3_code 13 (.areturn) 1 14 := ⟨by decide +kernel, rfl⟩
theorem oi_0 : Dc prog_7_method_1_code 0 (.aload_n 0) 1 1 := ⟨by decide +kernel, rfl⟩
theorem oi_1 : Dc prog_7_method_1_code 1 (.invokespecial 1) 3 4 := ⟨by decide +kernel, rfl⟩
theorem oi_4 : Dc prog_7_method_1_code 4 (.aload_n 0) 1 5 := ⟨by decide +kernel, rfl⟩
theorem oi_5 : Dc prog_7_method_1_code 5 (.aload_n 1) 1 6 := ⟨by decide +kernel, rfl⟩
theorem oi_6 : Dc prog_7_method_1_code 6 (.putfield 7) 3 9 := ⟨by decide +kernel, rfl⟩
theorem oi_9 : Dc prog_7_method_1_code 9 (.aload_n 0) 1 10 := ⟨by decide +kernel, rfl⟩
theorem oi_10 : Dc prog_7_method_1_code 10 (.aload_n 2) 1 11 := ⟨by decide +kernel, rfl⟩
theorem oi_11 : Dc prog_7_method_1_code 11 (.putfield 13) 3 14 := ⟨by decide +kernel, rfl⟩
theorem oi_14 : Dc prog_7_method_1_code 14 (.aload_n 0) 1 15 := ⟨by decide +kernel, rfl⟩
theorem oi_15 : Dc prog_7_method_1_code 15 (.aload_n 3) 1 16 := ⟨by decide +kernel, rfl⟩
theorem oi_16 : Dc prog_7_method_1_code 16 (.putfield 16) 3 19 := ⟨by decide +kernel, rfl⟩
theorem oi_19 : Dc prog_7_method_1_code 19 (.aload_n 0) 1 20 := ⟨by decide +kernel, rfl⟩
theorem oi_20 : Dc prog_7_method_1_code 20 (.iload 4) 2 22 := ⟨by decide +kernel, rfl⟩
theorem oi_22 : Dc prog_7_method_1_code 22 (.putfield 19) 3 25 := ⟨by decide +kernel, rfl⟩
theorem oi_25 : Dc prog_7_method_1_code 25 (.aload_n 0) 1 26 := ⟨by decide +kernel, rfl⟩
theorem oi_26 : Dc prog_7_method_1_code 26 (.aload 5) 2 28 := ⟨by decide +kernel, rfl⟩
theorem oi_28 : Dc prog_7_method_1_code 28 (.putfield 23) 3 31 := ⟨by decide +kernel, rfl⟩
theorem oi_31 : Dc prog_7_method_1_code 31 (.aload_n 0) 1 32 := ⟨by decide +kernel, rfl⟩
theorem oi_32 : Dc prog_7_method_1_code 32 (.iload 6) 2 34 := ⟨by decide +kernel, rfl⟩
theorem oi_34 : Dc prog_7_method_1_code 34 (.putfield 26) 3 37 := ⟨by decide +kernel, rfl⟩
theorem oi_37 : Dc prog_7_method_1_code 37 (.return_) 1 38 := ⟨by decide +kernel, rfl⟩
theorem ri_0 : Dc jdk_30_method_1_code 0 (.aload_n 0) 1 1 := ⟨by decide +kernel, rfl⟩
theorem ri_1 : Dc jdk_30_method_1_code 1 (.invokespecial 1) 3 4 := ⟨by decide +kernel, rfl⟩
theorem ri_4 : Dc jdk_30_method_1_code 4 (.return_) 1 5 := ⟨by decide +kernel, rfl⟩
theorem n1_0 : Dc prog_7_method_13_code 0 (.aload_n 0) 1 1 := ⟨by decide +kernel, rfl⟩
theorem n1_1 : Dc prog_7_method_13_code 1 (.getfield 7) 3 4 := ⟨by decide +kernel, rfl⟩
theorem n1_4 : Dc prog_7_method_13_code 4 (.areturn) 1 5 := ⟨by decide +kernel, rfl⟩
theorem n2_0 : Dc prog_7_method_14_code 0 (.aload_n 0) 1 1 := ⟨by decide +kernel, rfl⟩
theorem n2_1 : Dc prog_7_method_14_code 1 (.getfield 13) 3 4 := ⟨by decide +kernel, rfl⟩
theorem n2_4 : Dc prog_7_method_14_code 4 (.areturn) 1 5 := ⟨by decide +kernel, rfl⟩
theorem n3_0 : Dc prog_7_method_15_code 0 (.aload_n 0) 1 1 := ⟨by decide +kernel, rfl⟩
theorem n3_1 : Dc prog_7_method_15_code 1 (.getfield 16) 3 4 := ⟨by decide +kernel, rfl⟩
theorem n3_4 : Dc prog_7_method_15_code 4 (.areturn) 1 5 := ⟨by decide +kernel, rfl⟩
theorem n4_0 : Dc prog_7_method_16_code 0 (.aload_n 0) 1 1 := ⟨by decide +kernel, rfl⟩
theorem n4_1 : Dc prog_7_method_16_code 1 (.getfield 19) 3 4 := ⟨by decide +kernel, rfl⟩
theorem n4_4 : Dc prog_7_method_16_code 4 (.ireturn) 1 5 := ⟨by decide +kernel, rfl⟩
theorem n5_0 : Dc prog_7_method_17_code 0 (.aload_n 0) 1 1 := ⟨by decide +kernel, rfl⟩
theorem n5_1 : Dc prog_7_method_17_code 1 (.getfield 23) 3 4 := ⟨by decide +kernel, rfl⟩
theorem n5_4 : Dc prog_7_method_17_code 4 (.areturn) 1 5 := ⟨by decide +kernel, rfl⟩
theorem n6_0 : Dc prog_7_method_18_code 0 (.aload_n 0) 1 1 := ⟨by decide +kernel, rfl⟩
theorem n6_1 : Dc prog_7_method_18_code 1 (.getfield 26) 3 4 := ⟨by decide +kernel, rfl⟩
theorem n6_4 : Dc prog_7_method_18_code 4 (.ireturn) 1 5 := ⟨by decide +kernel, rfl⟩
theorem n7_0 : Dc prog_7_method_7_code 0 (.aload_n 0) 1 1 := ⟨by decide +kernel, rfl⟩
theorem n7_1 : Dc prog_7_method_7_code 1 (.getfield 13) 3 4 := ⟨by decide +kernel, rfl⟩
theorem n7_4 : Jp prog_7_method_7_code 4 (.ifnonnull 7) (7) 7 11 := ⟨by decide +kernel, rfl, by decide, by decide⟩
theorem n7_7 : Dc prog_7_method_7_code 7 (.iconst 1) 1 8 := ⟨by decide +kernel, rfl⟩
theorem n7_8 : Jp prog_7_method_7_code 8 (.goto 4) (4) 11 12 := ⟨by decide +kernel, rfl, by decide, by decide⟩
theorem n7_11 : Dc prog_7_method_7_code 11 (.iconst 0) 1 12 := ⟨by decide +kernel, rfl⟩
theorem n7_12 : Dc prog_7_method_7_code 12 (.ireturn) 1 13 := ⟨by decide +kernel, rfl⟩
theorem lw_0 : Dc code 0 (.iload_n 0) 1 1 := ⟨by decide +kernel, rfl⟩
theorem lw_1 : Dc code 1 (.invokestatic 12) 3 4 := ⟨by decide +kernel, rfl⟩
theorem lw_4 : Dc code 4 (.astore 4) 2 6 := ⟨by decide +kernel, rfl⟩
theorem lw_6 : Dc code 6 (.iload_n 3) 1 7 := ⟨by decide +kernel, rfl⟩
theorem lw_7 : Dc code 7 (.iconst 1) 1 8 := ⟨by decide +kernel, rfl⟩
theorem lw_8 : Dc code 8 (.iand) 1 9 := ⟨by decide +kernel, rfl⟩
theorem lw_9 : Jp code 9 (.ifCond .eq 7) (7) 12 16 := ⟨by decide +kernel, rfl, by decide, by decide⟩
theorem lw_12 : Dc code 12 (.aconst_null) 1 13 := ⟨by decide +kernel, rfl⟩
theorem lw_13 : Jp code 13 (.goto 7) (7) 16 20 := ⟨by decide +kernel, rfl, by decide, by decide⟩
theorem lw_16 : Dc code 16 (.iload_n 1) 1 17 := ⟨by decide +kernel, rfl⟩
theorem lw_17 : Dc code 17 (.invokestatic 12) 3 20 := ⟨by decide +kernel, rfl⟩
theorem lw_20 : Dc code 20 (.astore 5) 2 22 := ⟨by decide +kernel, rfl⟩
theorem lw_22 : Dc code 22 (.iload_n 2) 1 23 := ⟨by decide +kernel, rfl⟩
theorem lw_23 : Dc code 23 (.invokestatic 12) 3 26 := ⟨by decide +kernel, rfl⟩
theorem lw_26 : Dc code 26 (.astore 6) 2 28 := ⟨by decide +kernel, rfl⟩
theorem lw_28 : Dc code 28 (.aload 4) 2 30 := ⟨by decide +kernel, rfl⟩
theorem lw_30 : Dc code 30 (.aload 5) 2 32 := ⟨by decide +kernel, rfl⟩
theorem lw_32 : Dc code 32 (.aload 6) 2 34 := ⟨by decide +kernel, rfl⟩
theorem lw_34 : Dc code 34 (.invokestatic 18) 3 37 := ⟨by decide +kernel, rfl⟩
theorem lw_37 : Dc code 37 (.astore 7) 2 39 := ⟨by decide +kernel, rfl⟩
theorem lw_39 : Dc code 39 (.aload 7) 2 41 := ⟨by decide +kernel, rfl⟩
theorem lw_41 : Dc code 41 (.invokevirtual 24) 3 44 := ⟨by decide +kernel, rfl⟩
theorem lw_44 : Dc code 44 (.aload 4) 2 46 := ⟨by decide +kernel, rfl⟩
theorem lw_46 : Jp code 46 (.if_acmp .ne 69) (69) 49 115 := ⟨by decide +kernel, rfl, by decide, by decide⟩
theorem lw_49 : Dc code 49 (.aload 7) 2 51 := ⟨by decide +kernel, rfl⟩
theorem lw_51 : Dc code 51 (.invokevirtual 28) 3 54 := ⟨by decide +kernel, rfl⟩
theorem lw_54 : Dc code 54 (.aload 5) 2 56 := ⟨by decide +kernel, rfl⟩
theorem lw_56 : Jp code 56 (.if_acmp .ne 59) (59) 59 115 := ⟨by decide +kernel, rfl, by decide, by decide⟩
theorem lw_59 : Dc code 59 (.aload 7) 2 61 := ⟨by decide +kernel, rfl⟩
theorem lw_61 : Dc code 61 (.invokevirtual 31) 3 64 := ⟨by decide +kernel, rfl⟩
theorem lw_64 : Dc code 64 (.aload 6) 2 66 := ⟨by decide +kernel, rfl⟩
theorem lw_66 : Jp code 66 (.if_acmp .ne 49) (49) 69 115 := ⟨by decide +kernel, rfl, by decide, by decide⟩
theorem lw_69 : Dc code 69 (.aload 7) 2 71 := ⟨by decide +kernel, rfl⟩
theorem lw_71 : Dc code 71 (.invokevirtual 34) 3 74 := ⟨by decide +kernel, rfl⟩
theorem lw_74 : Jp code 74 (.ifCond .ne 41) (41) 77 115 := ⟨by decide +kernel, rfl, by decide, by decide⟩
theorem lw_77 : Dc code 77 (.aload 7) 2 79 := ⟨by decide +kernel, rfl⟩
theorem lw_79 : Dc code 79 (.invokevirtual 38) 3 82 := ⟨by decide +kernel, rfl⟩
theorem lw_82 : Jp code 82 (.ifnonnull 33) (33) 85 115 := ⟨by decide +kernel, rfl, by decide, by decide⟩
theorem lw_85 : Dc code 85 (.aload 7) 2 87 := ⟨by decide +kernel, rfl⟩
theorem lw_87 : Dc code 87 (.invokevirtual 41) 3 90 := ⟨by decide +kernel, rfl⟩
theorem lw_90 : Jp code 90 (.ifCond .ne 25) (25) 93 115 := ⟨by decide +kernel, rfl, by decide, by decide⟩
theorem lw_93 : Dc code 93 (.aload 7) 2 95 := ⟨by decide +kernel, rfl⟩
theorem lw_95 : Dc code 95 (.invokevirtual 44) 3 98 := ⟨by decide +kernel, rfl⟩
theorem lw_98 : Dc code 98 (.aload 5) 2 100 := ⟨by decide +kernel, rfl⟩
theorem lw_100 : Jp code 100 (.ifnonnull 7) (7) 103 107 := ⟨by decide +kernel, rfl, by decide, by decide⟩
theorem lw_103 : Dc code 103 (.iconst 1) 1 104 := ⟨by decide +kernel, rfl⟩
theorem lw_104 : Jp code 104 (.goto 4) (4) 107 108 := ⟨by decide +kernel, rfl, by decide, by decide⟩
theorem lw_107 : Dc code 107 (.iconst 0) 1 108 := ⟨by decide +kernel, rfl⟩
theorem lw_108 : Jp code 108 (.if_icmp .ne 7) (7) 111 115 := ⟨by decide +kernel, rfl, by decide, by decide⟩
theorem lw_111 : Dc code 111 (.iconst 1) 1 112 := ⟨by decide +kernel, rfl⟩
theorem lw_112 : Jp code 112 (.goto 4) (4) 115 116 := ⟨by decide +kernel, rfl, by decide, by decide⟩
theorem lw_115 : Dc code 115 (.iconst 0) 1 116 := ⟨by decide +kernel, rfl⟩
theorem lw_116 : Dc code 116 (.ireturn) 1 117 := ⟨by decide +kernel, rfl⟩
theorem efst (m : MethodId) (x0 : Int32) : entryFrame m #[(.int x0)] 4 = fr m 0 [.val (.int x0), .unset, .unset, .unset] [] := by first | (simp [entryFrame, mkF, argsToLocals, Value.category]; done) | rfl
theorem efop (m : MethodId) (x0 : Value) (q0 : x0.category = 1) (x1 : Value) (q1 : x1.category = 1) (x2 : Value) (q2 : x2.category = 1) : entryFrame m #[(x0), (x1), (x2)] 3 = fr m 0 [.val (x0), .val (x1), .val (x2)] [] := by simp [entryFrame, mkF, argsToLocals, cat_int, cat_rf, cat_lng, q0, q1, q2]
theorem efoi (m : MethodId) (x0 : Addr) (x1 : Value) (q1 : x1.category = 1) (x2 : Value) (q2 : x2.category = 1) (x3 : Value) (q3 : x3.category = 1) (x4 : Int32) (x5 : Value) (q5 : x5.category = 1) (x6 : Int32) : entryFrame m #[(.ref x0), (x1), (x2), (x3), (.int x4), (x5), (.int x6)] 7 = fr m 0 [.val (.ref x0), .val (x1), .val (x2), .val (x3), .val (.int x4), .val (x5), .val (.int x6)] [] := by simp [entryFrame, mkF, argsToLocals, cat_int, cat_rf, cat_lng, q1, q2, q3, q5]
theorem eflw (m : MethodId) (x0 : Int32) (x1 : Int32) (x2 : Int32) (x3 : Int32) : entryFrame m #[(.int x0), (.int x1), (.int x2), (.int x3)] 8 = fr m 0 [.val (.int x0), .val (.int x1), .val (.int x2), .val (.int x3), .unset, .unset, .unset, .unset] [] := by first | (simp [entryFrame, mkF, argsToLocals, Value.category]; done) | rfl
abbrev EL1 : List (String × Nat) := [("java/lang/String", 7)]
theorem m255 (x : Int32) : 0 ≤ (nar .char (nar .char (x &&& 255))).toInt ∧ (nar .char (nar .char (x &&& 255))).toInt ≤ 255 := by
  have h : (x &&& 255).toInt = x.toInt % 256 := i32_mask x 255 (k := 8) (by decide) (by decide)
  have z : nar .char (x &&& 255) = x &&& 255 := nar_char_id (by omega) (by omega)
  rw [nar_nar_char, z]; omega
theorem met_str (l : Launch) (Z : State) (a0 : Array Value) (hw : ∀ d ∈ tables_1, d.before a0 Z = true) (hEL : EW Z a0 EL1) (cs : Int32) (fm : Value) (S : SS Z cs fm) (h : Heap) (x : Int32) :
    Met l Z False EL1 ⟨LAW, "str", "(I)Ljava/lang/String;"⟩ method_2_code 4 (some (.object "java/lang/String")) ⟨4, 6, 12, 66⟩ #[.int x] h [] (fun v h' => ∃ a, v = some (.ref a)) := by
  refine Met.mk (a0 := a0) hEL pn_law ?_
  intro p e s m below meth c C hE hS
  rw [efst]
  refine R_iload_n C st_0 rfl ?_
  refine R_iconst C st_1 (v := 3) rfl ?_
  refine R_iand C st_2 ?_
  refine R_istore_n C st_3 rfl ?_
  simp only [fv0, fv1, fv2, fv3, List.set_cons_zero, List.set_cons_succ]
  refine R_iload_n C st_4 rfl ?_
  refine R_iconst C st_5 (v := 2) rfl ?_
  refine R_iushr C st_6 ?_
  refine R_sipush C st_7 (v := 255) rfl ?_
  refine R_iand C st_10 ?_
  refine R_i2c C st_11 ?_
  refine R_istore_n C st_12 rfl ?_
  simp only [fv0, fv1, fv2, fv3, List.set_cons_zero, List.set_cons_succ]
  refine R_iload_n C st_13 rfl ?_
  refine R_bipush C st_14 (v := 10) rfl ?_
  refine R_iushr C st_16 ?_
  refine R_sipush C st_17 (v := 255) rfl ?_
  refine R_iand C st_20 ?_
  refine R_i2c C st_21 ?_
  refine R_istore_n C st_22 rfl ?_
  simp only [fv0, fv1, fv2, fv3, List.set_cons_zero, List.set_cons_succ]
  refine R_iload_n C st_23 rfl ?_
  refine R_if C st_24 (fun hc => ?_) (fun hc => ?_)
  · refine R_iload_n C st_38 rfl ?_
    refine R_iconst C st_39 (v := 1) rfl ?_
    refine R_icmp C st_40 (fun hc => ?_) (fun hc => ?_)
    · refine R_new C st_58 (hw _ (List.mem_of_getElem? (i := 4) rfl)) (hw _ (List.mem_of_getElem? (i := 5) rfl)) (hw _ (List.mem_of_getElem? (i := 6) rfl)) (Nat.le_of_ble_eq_true rfl) (Nat.le_of_ble_eq_true rfl) ?_
      intro h1 E1 X1 S1 _
      obtain ⟨X1, F1⟩ := X1
      refine R_dup C st_61 rfl ?_
      refine R_iconst C st_62 (v := 2) rfl ?_
      refine R_newarray C 2 st_63 (hw _ (List.mem_of_getElem? (i := 7) rfl)) (N := 2) rfl (Nat.le_refl _) (by decide) (Nat.le_of_ble_eq_true rfl) (Nat.le_of_ble_eq_true rfl) rfl ?_
      intro h2 E2 D2 S2 Sf2
      have S12 := Sf2 _ S1
      refine R_dup C st_65 rfl ?_
      refine R_iconst C st_66 (v := 0) rfl ?_
      refine R_iload_n C st_67 rfl ?_
      refine Run.know fun hE2 hW2 _ => ?_
      refine R_castore C 0 st_68 D2 rfl (by decide) (Nat.le_trans hE.1 E1.1) S2 ?_
      intro h3 W3 D3 Sf3
      refine R_dup C st_69 rfl ?_
      refine R_iconst C st_70 (v := 1) rfl ?_
      refine R_iload_n C st_71 rfl ?_
      refine R_castore C 1 st_72 D3 rfl (by decide) (Nat.le_trans hE.1 E1.1) (Sf3 _ S2) ?_
      intro h4 W4 D4 Sf4
      have ne : h.size ≠ h1.size := Nat.ne_of_lt X1.lt
      have X4 := ((X1.ext E2).wr W3).wr W4
      have V4 := (((F1 (Or.inr (hw _ (List.mem_of_getElem? (i := 20) rfl))) (ty := .array .byte) (by decide)).ext E2).other W3 (Or.inl ne)).other W4 (Or.inl ne)
      have C4 := (((F1 (Or.inr (hw _ (List.mem_of_getElem? (i := 21) rfl))) (ty := .byte) (by decide)).ext E2).other W3 (Or.inl ne)).other W4 (Or.inl ne)
      refine R_special C [.ref h1.size] st_73 (met_i2L l Z a0 hw False EL1 hEL cs fm S h4 h.size h1.size 2 2 (fun i => if i = 0 then nar .char (nar .char (XT.ushr x 2 &&& 255)) else nar .char (nar .char (XT.ushr x 10 &&& 255))) (D4.cg (tw2 _ _)) (Nat.le_refl _) (by decide) (by decide) (fun i hi => by (try dsimp only); split <;> exact m255 _) X4 V4 C4 hE.1) (by first | exact fun z => z | exact fun _ => trivial) rfl (hw _ (List.mem_of_getElem? (i := 8) rfl)) (hw _ (List.mem_of_getElem? (i := 9) rfl)) (hw _ (List.mem_of_getElem? (i := 6) rfl)) (hw _ (List.mem_of_getElem? (i := 10) rfl)) (by decide) pd_4 rfl rfl rfl (Nat.le_of_ble_eq_true rfl) (Nat.le_of_ble_eq_true rfl) (Nat.le_of_ble_eq_true rfl) (Nat.le_of_ble_eq_true rfl) (fun z hz => by cases List.mem_singleton.mp hz; exact Sf4 _ (Sf3 _ S12)) ?_
      intro v vm5 h5 hQ hsz5 hSf5 hFr
      obtain ⟨rfl, -⟩ := hQ
      exact R_areturn C st_76 rfl rfl rfl (Nat.le_of_ble_eq_true rfl) (Nat.le_of_ble_eq_true rfl) ⟨_, rfl⟩
    · refine R_new C st_43 (hw _ (List.mem_of_getElem? (i := 4) rfl)) (hw _ (List.mem_of_getElem? (i := 5) rfl)) (hw _ (List.mem_of_getElem? (i := 6) rfl)) (Nat.le_of_ble_eq_true rfl) (Nat.le_of_ble_eq_true rfl) ?_
      intro h1 E1 X1 S1 _
      obtain ⟨X1, F1⟩ := X1
      refine R_dup C st_46 rfl ?_
      refine R_iconst C st_47 (v := 1) rfl ?_
      refine R_newarray C 1 st_48 (hw _ (List.mem_of_getElem? (i := 7) rfl)) (N := 1) rfl (Nat.le_refl _) (by decide) (Nat.le_of_ble_eq_true rfl) (Nat.le_of_ble_eq_true rfl) rfl ?_
      intro h2 E2 D2 S2 Sf2
      have S12 := Sf2 _ S1
      refine R_dup C st_50 rfl ?_
      refine R_iconst C st_51 (v := 0) rfl ?_
      refine R_iload_n C st_52 rfl ?_
      refine R_castore C 0 st_53 D2 rfl (by decide) (Nat.le_trans hE.1 E1.1) S2 ?_
      intro h3 W3 D3 Sf3
      have ne : h.size ≠ h1.size := Nat.ne_of_lt X1.lt
      have X3 := (X1.ext E2).wr W3
      have V3 := ((F1 (Or.inr (hw _ (List.mem_of_getElem? (i := 20) rfl))) (ty := .array .byte) (by decide)).ext E2).other W3 (Or.inl ne)
      have C3 := ((F1 (Or.inr (hw _ (List.mem_of_getElem? (i := 21) rfl))) (ty := .byte) (by decide)).ext E2).other W3 (Or.inl ne)
      refine R_special C [.ref h1.size] st_54 (met_i2L l Z a0 hw False EL1 hEL cs fm S h3 h.size h1.size 1 1 (fun _ => nar .char (nar .char (XT.ushr x 2 &&& 255))) (D3.cg (tw1 _)) (Nat.le_refl _) (by decide) (by decide) (fun i hi => m255 _) X3 V3 C3 hE.1) (by first | exact fun z => z | exact fun _ => trivial) rfl (hw _ (List.mem_of_getElem? (i := 8) rfl)) (hw _ (List.mem_of_getElem? (i := 9) rfl)) (hw _ (List.mem_of_getElem? (i := 6) rfl)) (hw _ (List.mem_of_getElem? (i := 10) rfl)) (by decide) pd_4 rfl rfl rfl (Nat.le_of_ble_eq_true rfl) (Nat.le_of_ble_eq_true rfl) (Nat.le_of_ble_eq_true rfl) (Nat.le_of_ble_eq_true rfl) (fun z hz => by cases List.mem_singleton.mp hz; exact Sf3 _ S12) ?_
      intro v vm5 h5 hQ hsz5 hSf5 hFr
      obtain ⟨rfl, -⟩ := hQ
      exact R_areturn C st_57 rfl rfl rfl (Nat.le_of_ble_eq_true rfl) (Nat.le_of_ble_eq_true rfl) ⟨_, rfl⟩
  · refine R_new C st_27 (hw _ (List.mem_of_getElem? (i := 4) rfl)) (hw _ (List.mem_of_getElem? (i := 5) rfl)) (hw _ (List.mem_of_getElem? (i := 6) rfl)) (Nat.le_of_ble_eq_true rfl) (Nat.le_of_ble_eq_true rfl) ?_
    intro h1 E1 X1 S1 _
    obtain ⟨X1, F1⟩ := X1
    refine R_dup C st_30 rfl ?_
    refine R_iconst C st_31 (v := 0) rfl ?_
    refine R_newarray C 0 st_32 (hw _ (List.mem_of_getElem? (i := 7) rfl)) (N := 0) rfl (Nat.le_refl _) (by decide) (Nat.le_of_ble_eq_true rfl) (Nat.le_of_ble_eq_true rfl) rfl ?_
    intro h2 E2 D2 S2 Sf2
    refine R_special C [.ref h1.size] st_34 (met_i2E l Z a0 hw EL1 hEL (List.mem_singleton.mpr rfl) h2 h.size h1.size _ (fun _ => 0) D2 (X1.ext E2) ((F1 (Or.inr (hw _ (List.mem_of_getElem? (i := 20) rfl))) (ty := .array .byte) (by decide)).ext E2) ((F1 (Or.inr (hw _ (List.mem_of_getElem? (i := 21) rfl))) (ty := .byte) (by decide)).ext E2) hE.1) (by first | exact fun z => z | exact fun _ => trivial) rfl (hw _ (List.mem_of_getElem? (i := 8) rfl)) (hw _ (List.mem_of_getElem? (i := 9) rfl)) (hw _ (List.mem_of_getElem? (i := 6) rfl)) (hw _ (List.mem_of_getElem? (i := 10) rfl)) (by decide) pd_4 rfl rfl rfl (Nat.le_of_ble_eq_true rfl) (Nat.le_of_ble_eq_true rfl) (Nat.le_of_ble_eq_true rfl) (Nat.le_of_ble_eq_true rfl) (fun z hz => by cases List.mem_singleton.mp hz; exact Sf2 _ S1) ?_
    intro v vm5 h5 hQ hsz5 hSf5 hFr
    obtain ⟨rfl, -⟩ := hQ
    exact R_areturn C st_37 rfl rfl rfl (Nat.le_of_ble_eq_true rfl) (Nat.le_of_ble_eq_true rfl) ⟨_, rfl⟩
theorem met_rec (l : Launch) (Z : State) (a0 : Array Value) (hw : ∀ d ∈ tables_1, d.before a0 Z = true) (nw : Prop) (EL : List (String × Nat)) (hEL : EW Z a0 EL) (h : Heap) (a : Addr) :
    Met l Z nw EL ⟨"java/lang/Record", "<init>", "()V"⟩ jdk_30_method_1_code 1 none ⟨1, 0, 0, 12⟩ #[.ref a] h [] (fun v h' => v = none ∧ h' = h) := by
  refine Met.mk (a0 := a0) hEL pn_rec ?_
  intro p e s m below meth c C hE hS
  rw [efs1]
  refine R_aload_n C ri_0 rfl rfl ?_
  refine R_initO C ri_1 (hw _ (List.mem_of_getElem? (i := 51) rfl)) (hw _ (List.mem_of_getElem? (i := 16) rfl)) (hw _ (List.mem_of_getElem? (i := 17) rfl)) rfl (Nat.le_of_ble_eq_true rfl) (Nat.le_of_ble_eq_true rfl) ?_
  exact R_return C ri_4 rfl (Nat.le_refl _) (Nat.le_refl _) ⟨rfl, rfl⟩
theorem fits_ref {n : String} {v : Value} (h : v.isRef = true) : fits (.object n) v = true := by cases v <;> first | rfl | cases h
/-- the Option at a as optional makes it -/
def Opt (Z : State) (h : Heap) (a : Addr) (x1 x2 x3 : Value) : Prop := Exa Z h a OPT ∧ Fld Z h a OPT "name" STD x1 ∧ Fld Z h a OPT "label" STD x2 ∧ Fld Z h a OPT "description" STD x3 ∧ Fld Z h a OPT "required" "Z" (.int 0) ∧ Fld Z h a OPT "byDefault" STD .null ∧ Fld Z h a OPT "repeated" "Z" (.int 0)
theorem met_oi (l : Launch) (Z : State) (a0 : Array Value) (hw : ∀ d ∈ tables_1, d.before a0 Z = true) (EL : List (String × Nat)) (hEL : EW Z a0 EL) (h : Heap) (a : Addr) (x1 x2 x3 : Value) (r1 : x1.isRef = true) (r2 : x2.isRef = true) (r3 : x3.isRef = true)
    (E : Exa Z h a OPT) (F1 : Fld Z h a OPT "name" STD .null) (F2 : Fld Z h a OPT "label" STD .null) (F3 : Fld Z h a OPT "description" STD .null) (F4 : Fld Z h a OPT "required" "Z" (.int 0)) (F5 : Fld Z h a OPT "byDefault" STD .null) (F6 : Fld Z h a OPT "repeated" "Z" (.int 0)) (ha : Z.heap.size ≤ a) :
    Met l Z False EL ⟨OPT, "<init>", "(Ljava/lang/String;Ljava/lang/String;Ljava/lang/String;ZLjava/lang/String;Z)V"⟩ prog_7_method_1_code 7 none ⟨2, 0, 0, 24⟩ #[.ref a, x1, x2, x3, .int 0, .null, .int 0] h [a] (fun v h' => v = none ∧ Opt Z h' a x1 x2 x3) := by
  have L1 : Laid Z a0 OPT OPT "name" STD := Or.inr (hw _ (List.mem_of_getElem? (i := 53) rfl))
  have L2 : Laid Z a0 OPT OPT "label" STD := Or.inr (hw _ (List.mem_of_getElem? (i := 55) rfl))
  have L3 : Laid Z a0 OPT OPT "description" STD := Or.inr (hw _ (List.mem_of_getElem? (i := 57) rfl))
  have L4 : Laid Z a0 OPT OPT "required" "Z" := Or.inr (hw _ (List.mem_of_getElem? (i := 59) rfl))
  have L5 : Laid Z a0 OPT OPT "byDefault" STD := Or.inr (hw _ (List.mem_of_getElem? (i := 61) rfl))
  have L6 : Laid Z a0 OPT OPT "repeated" "Z" := Or.inr (hw _ (List.mem_of_getElem? (i := 63) rfl))
  have pS : parseFieldDescriptor STD = some (.object "java/lang/String") := by decide
  have pZ : parseFieldDescriptor "Z" = some .boolean := by decide
  have wi := (hw _ (List.mem_of_getElem? (i := 42) rfl))
  refine Met.mk (a0 := a0) hEL pn_opt ?_
  intro p e s m below meth c C hE hS
  rw [efoi m _ _ (cat_ref r1) _ (cat_ref r2) _ (cat_ref r3) _ _ rfl _]
  refine R_aload_n C oi_0 rfl rfl ?_
  refine R_special C [] oi_1 (met_rec l Z a0 hw False EL hEL h a) (by first | exact fun z => z | exact fun _ => trivial) rfl (hw _ (List.mem_of_getElem? (i := 46) rfl)) (hw _ (List.mem_of_getElem? (i := 47) rfl)) (hw _ (List.mem_of_getElem? (i := 49) rfl)) (hw _ (List.mem_of_getElem? (i := 50) rfl)) (by decide) pd_5 rfl rfl rfl (Nat.le_of_ble_eq_true rfl) (Nat.le_of_ble_eq_true rfl) (Nat.le_of_ble_eq_true rfl) (Nat.le_of_ble_eq_true rfl) (fun _ q => nomatch q) ?_
  intro v vm1 h1 hQ hsz1 hSf1 hFr
  obtain ⟨rfl, rfl⟩ := hQ
  simp only [Option.toList_none, List.nil_append]
  have Sa := hSf1 a E.lt (hS a (List.mem_singleton.mpr rfl))
  refine R_aload_n C oi_4 rfl rfl ?_
  refine R_aload_n C oi_5 rfl r1 ?_
  refine R_putfield C oi_6 (hw _ (List.mem_of_getElem? (i := 52) rfl)) Via.refl F1 E (Or.inr ⟨(hw _ (List.mem_of_getElem? (i := 53) rfl)), rfl, rfl⟩) wi pS (nar_ref r1) (fits_ref r1) ha Sa ?_
  intro h2 W2 Sf2
  have E2 := E.wr W2
  have Sa2 := Sf2 _ Sa
  have G21 := F1.same W2
  have G22 := F2.other W2 (Or.inr (slot_ne L2 L1 (by decide) pS pS))
  have G23 := F3.other W2 (Or.inr (slot_ne L3 L1 (by decide) pS pS))
  have G24 := F4.other W2 (Or.inr (slot_ne L4 L1 (by decide) pZ pS))
  have G25 := F5.other W2 (Or.inr (slot_ne L5 L1 (by decide) pS pS))
  have G26 := F6.other W2 (Or.inr (slot_ne L6 L1 (by decide) pZ pS))
  refine R_aload_n C oi_9 rfl rfl ?_
  refine R_aload_n C oi_10 rfl r2 ?_
  refine R_putfield C oi_11 (hw _ (List.mem_of_getElem? (i := 54) rfl)) Via.refl G22 E2 (Or.inr ⟨(hw _ (List.mem_of_getElem? (i := 55) rfl)), rfl, rfl⟩) wi pS (nar_ref r2) (fits_ref r2) ha Sa2 ?_
  intro h3 W3 Sf3
  have E3 := E2.wr W3
  have Sa3 := Sf3 _ Sa2
  have G31 := G21.other W3 (Or.inr (slot_ne L1 L2 (by decide) pS pS))
  have G32 := G22.same W3
  have G33 := G23.other W3 (Or.inr (slot_ne L3 L2 (by decide) pS pS))
  have G34 := G24.other W3 (Or.inr (slot_ne L4 L2 (by decide) pZ pS))
  have G35 := G25.other W3 (Or.inr (slot_ne L5 L2 (by decide) pS pS))
  have G36 := G26.other W3 (Or.inr (slot_ne L6 L2 (by decide) pZ pS))
  refine R_aload_n C oi_14 rfl rfl ?_
  refine R_aload_n C oi_15 rfl r3 ?_
  refine R_putfield C oi_16 (hw _ (List.mem_of_getElem? (i := 56) rfl)) Via.refl G33 E3 (Or.inr ⟨(hw _ (List.mem_of_getElem? (i := 57) rfl)), rfl, rfl⟩) wi pS (nar_ref r3) (fits_ref r3) ha Sa3 ?_
  intro h4 W4 Sf4
  have E4 := E3.wr W4
  have Sa4 := Sf4 _ Sa3
  have G41 := G31.other W4 (Or.inr (slot_ne L1 L3 (by decide) pS pS))
  have G42 := G32.other W4 (Or.inr (slot_ne L2 L3 (by decide) pS pS))
  have G43 := G33.same W4
  have G44 := G34.other W4 (Or.inr (slot_ne L4 L3 (by decide) pZ pS))
  have G45 := G35.other W4 (Or.inr (slot_ne L5 L3 (by decide) pS pS))
  have G46 := G36.other W4 (Or.inr (slot_ne L6 L3 (by decide) pZ pS))
  refine R_aload_n C oi_19 rfl rfl ?_
  refine R_iload C oi_20 rfl ?_
  refine R_putfield C oi_22 (hw _ (List.mem_of_getElem? (i := 58) rfl)) Via.refl G44 E4 (Or.inr ⟨(hw _ (List.mem_of_getElem? (i := 59) rfl)), rfl, rfl⟩) wi pZ rfl rfl ha Sa4 ?_
  intro h5 W5 Sf5
  have E5 := E4.wr W5
  have Sa5 := Sf5 _ Sa4
  have G51 := G41.other W5 (Or.inr (slot_ne L1 L4 (by decide) pS pZ))
  have G52 := G42.other W5 (Or.inr (slot_ne L2 L4 (by decide) pS pZ))
  have G53 := G43.other W5 (Or.inr (slot_ne L3 L4 (by decide) pS pZ))
  have G54 := G44.same W5
  have G55 := G45.other W5 (Or.inr (slot_ne L5 L4 (by decide) pS pZ))
  have G56 := G46.other W5 (Or.inr (slot_ne L6 L4 (by decide) pZ pZ))
  refine R_aload_n C oi_25 rfl rfl ?_
  refine R_aload C oi_26 rfl rfl ?_
  refine R_putfield C oi_28 (hw _ (List.mem_of_getElem? (i := 60) rfl)) Via.refl G55 E5 (Or.inr ⟨(hw _ (List.mem_of_getElem? (i := 61) rfl)), rfl, rfl⟩) wi pS rfl rfl ha Sa5 ?_
  intro h6 W6 Sf6
  have E6 := E5.wr W6
  have Sa6 := Sf6 _ Sa5
  have G61 := G51.other W6 (Or.inr (slot_ne L1 L5 (by decide) pS pS))
  have G62 := G52.other W6 (Or.inr (slot_ne L2 L5 (by decide) pS pS))
  have G63 := G53.other W6 (Or.inr (slot_ne L3 L5 (by decide) pS pS))
  have G64 := G54.other W6 (Or.inr (slot_ne L4 L5 (by decide) pZ pS))
  have G65 := G55.same W6
  have G66 := G56.other W6 (Or.inr (slot_ne L6 L5 (by decide) pZ pS))
  refine R_aload_n C oi_31 rfl rfl ?_
  refine R_iload C oi_32 rfl ?_
  refine R_putfield C oi_34 (hw _ (List.mem_of_getElem? (i := 62) rfl)) Via.refl G66 E6 (Or.inr ⟨(hw _ (List.mem_of_getElem? (i := 63) rfl)), rfl, rfl⟩) wi pZ rfl rfl ha Sa6 ?_
  intro h7 W7 Sf7
  exact R_return C oi_37 rfl (Nat.le_refl _) (Nat.le_refl _) ⟨rfl, E6.wr W7, G61.other W7 (Or.inr (slot_ne L1 L6 (by decide) pS pZ)), G62.other W7 (Or.inr (slot_ne L2 L6 (by decide) pS pZ)), G63.other W7 (Or.inr (slot_ne L3 L6 (by decide) pS pZ)), G64.other W7 (Or.inr (slot_ne L4 L6 (by decide) pZ pZ)), G65.other W7 (Or.inr (slot_ne L5 L6 (by decide) pS pZ)), G66.same W7⟩
theorem met_op (l : Launch) (Z : State) (a0 : Array Value) (hw : ∀ d ∈ tables_1, d.before a0 Z = true) (EL : List (String × Nat)) (hEL : EW Z a0 EL) (h : Heap) (x1 x2 x3 : Value) (r1 : x1.isRef = true) (r2 : x2.isRef = true) (r3 : x3.isRef = true) :
    Met l Z False EL ⟨OPT, "optional", "(Ljava/lang/String;Ljava/lang/String;Ljava/lang/String;)Lcom/example/tallyhour/tallyhour/Command$Option;"⟩ prog_7_method_3_code 3 (some (.object OPT)) ⟨3, 1, 6, 43⟩ #[x1, x2, x3] h [] (fun v h' => v = some (.ref h.size) ∧ Opt Z h' h.size x1 x2 x3) := by
  refine Met.mk (a0 := a0) hEL pn_opt ?_
  intro p e s m below meth c C hE hS
  rw [efop m _ (cat_ref r1) _ (cat_ref r2) _ (cat_ref r3)]
  refine R_new C op_0 (hw _ (List.mem_of_getElem? (i := 41) rfl)) (hw _ (List.mem_of_getElem? (i := 42) rfl)) (hw _ (List.mem_of_getElem? (i := 39) rfl)) (Nat.le_of_ble_eq_true rfl) (Nat.le_of_ble_eq_true rfl) ?_
  intro h1 E1 X1 S1 _
  obtain ⟨X1, F1⟩ := X1
  refine R_dup C op_3 rfl ?_
  refine R_aload_n C op_4 rfl r1 ?_
  refine R_aload_n C op_5 rfl r2 ?_
  refine R_aload_n C op_6 rfl r3 ?_
  refine R_iconst C op_7 (v := 0) rfl ?_
  refine R_aconst_null C op_8 ?_
  refine R_iconst C op_9 (v := 0) rfl ?_
  refine R_special C [x1, x2, x3, .int 0, .null, .int 0] op_10 (met_oi l Z a0 hw EL hEL h1 h.size x1 x2 x3 r1 r2 r3 X1 (F1 (Or.inr (hw _ (List.mem_of_getElem? (i := 53) rfl))) (ty := .object "java/lang/String") (by decide)) (F1 (Or.inr (hw _ (List.mem_of_getElem? (i := 55) rfl))) (ty := .object "java/lang/String") (by decide)) (F1 (Or.inr (hw _ (List.mem_of_getElem? (i := 57) rfl))) (ty := .object "java/lang/String") (by decide)) (F1 (Or.inr (hw _ (List.mem_of_getElem? (i := 59) rfl))) (ty := .boolean) (by decide)) (F1 (Or.inr (hw _ (List.mem_of_getElem? (i := 61) rfl))) (ty := .object "java/lang/String") (by decide)) (F1 (Or.inr (hw _ (List.mem_of_getElem? (i := 63) rfl))) (ty := .boolean) (by decide)) hE.1) (by first | exact fun z => z | exact fun _ => trivial) rfl (hw _ (List.mem_of_getElem? (i := 43) rfl)) (hw _ (List.mem_of_getElem? (i := 44) rfl)) (hw _ (List.mem_of_getElem? (i := 39) rfl)) (hw _ (List.mem_of_getElem? (i := 45) rfl)) (by decide) pd_6 rfl rfl rfl (Nat.le_of_ble_eq_true rfl) (Nat.le_of_ble_eq_true rfl) (Nat.le_of_ble_eq_true rfl) (Nat.le_of_ble_eq_true rfl) (fun z hz => by cases List.mem_singleton.mp hz; exact S1) ?_
  intro v vm2 h2 hQ hsz2 hSf2 hFr
  obtain ⟨rfl, O2⟩ := hQ
  simp only [Option.toList_none, List.nil_append]
  exact R_areturn C op_13 rfl rfl rfl (Nat.le_of_ble_eq_true rfl) (Nat.le_of_ble_eq_true rfl) ⟨rfl, O2⟩
theorem met_n1 (l : Launch) (Z : State) (a0 : Array Value) (hw : ∀ d ∈ tables_1, d.before a0 Z = true) (EL : List (String × Nat)) (hEL : EW Z a0 EL) (h : Heap) (a : Addr) (v0 : Value) (r0 : v0.isRef = true) (F : Fld Z h a OPT "name" STD v0) :
    Met l Z False EL ⟨OPT, "name", "()Ljava/lang/String;"⟩ prog_7_method_13_code 1 (some (.object "java/lang/String")) ⟨0, 0, 0, 0⟩ #[.ref a] h [] (fun v h' => v = some v0 ∧ h' = h) := by
  refine Met.mk (a0 := a0) hEL pn_opt ?_
  intro p e s m below meth c C hE hS
  rw [efs1]
  refine R_aload_n C n1_0 rfl rfl ?_
  refine R_getfield C n1_1 (hw _ (List.mem_of_getElem? (i := 52) rfl)) Via.refl (F) ?_
  exact R_areturn C n1_4 rfl rfl r0 (Nat.le_refl _) (Nat.le_refl _) ⟨rfl, rfl⟩
theorem met_n2 (l : Launch) (Z : State) (a0 : Array Value) (hw : ∀ d ∈ tables_1, d.before a0 Z = true) (EL : List (String × Nat)) (hEL : EW Z a0 EL) (h : Heap) (a : Addr) (v0 : Value) (r0 : v0.isRef = true) (F : Fld Z h a OPT "label" STD v0) :
    Met l Z False EL ⟨OPT, "label", "()Ljava/lang/String;"⟩ prog_7_method_14_code 1 (some (.object "java/lang/String")) ⟨0, 0, 0, 0⟩ #[.ref a] h [] (fun v h' => v = some v0 ∧ h' = h) := by
  refine Met.mk (a0 := a0) hEL pn_opt ?_
  intro p e s m below meth c C hE hS
  rw [efs1]
  refine R_aload_n C n2_0 rfl rfl ?_
  refine R_getfield C n2_1 (hw _ (List.mem_of_getElem? (i := 54) rfl)) Via.refl (F) ?_
  exact R_areturn C n2_4 rfl rfl r0 (Nat.le_refl _) (Nat.le_refl _) ⟨rfl, rfl⟩
theorem met_n3 (l : Launch) (Z : State) (a0 : Array Value) (hw : ∀ d ∈ tables_1, d.before a0 Z = true) (EL : List (String × Nat)) (hEL : EW Z a0 EL) (h : Heap) (a : Addr) (v0 : Value) (r0 : v0.isRef = true) (F : Fld Z h a OPT "description" STD v0) :
    Met l Z False EL ⟨OPT, "description", "()Ljava/lang/String;"⟩ prog_7_method_15_code 1 (some (.object "java/lang/String")) ⟨0, 0, 0, 0⟩ #[.ref a] h [] (fun v h' => v = some v0 ∧ h' = h) := by
  refine Met.mk (a0 := a0) hEL pn_opt ?_
  intro p e s m below meth c C hE hS
  rw [efs1]
  refine R_aload_n C n3_0 rfl rfl ?_
  refine R_getfield C n3_1 (hw _ (List.mem_of_getElem? (i := 56) rfl)) Via.refl (F) ?_
  exact R_areturn C n3_4 rfl rfl r0 (Nat.le_refl _) (Nat.le_refl _) ⟨rfl, rfl⟩
theorem met_n4 (l : Launch) (Z : State) (a0 : Array Value) (hw : ∀ d ∈ tables_1, d.before a0 Z = true) (EL : List (String × Nat)) (hEL : EW Z a0 EL) (h : Heap) (a : Addr) (F : Fld Z h a OPT "required" "Z" (.int 0)) :
    Met l Z False EL ⟨OPT, "required", "()Z"⟩ prog_7_method_16_code 1 (some .boolean) ⟨0, 0, 0, 0⟩ #[.ref a] h [] (fun v h' => v = some (.int 0) ∧ h' = h) := by
  refine Met.mk (a0 := a0) hEL pn_opt ?_
  intro p e s m below meth c C hE hS
  rw [efs1]
  refine R_aload_n C n4_0 rfl rfl ?_
  refine R_getfield C n4_1 (hw _ (List.mem_of_getElem? (i := 58) rfl)) Via.refl (F) ?_
  exact R_retN C n4_4 rfl (Or.inl rfl) (Nat.le_refl _) (Nat.le_refl _) ⟨rfl, rfl⟩
theorem met_n5 (l : Launch) (Z : State) (a0 : Array Value) (hw : ∀ d ∈ tables_1, d.before a0 Z = true) (EL : List (String × Nat)) (hEL : EW Z a0 EL) (h : Heap) (a : Addr) (v0 : Value) (r0 : v0.isRef = true) (F : Fld Z h a OPT "byDefault" STD v0) :
    Met l Z False EL ⟨OPT, "byDefault", "()Ljava/lang/String;"⟩ prog_7_method_17_code 1 (some (.object "java/lang/String")) ⟨0, 0, 0, 0⟩ #[.ref a] h [] (fun v h' => v = some v0 ∧ h' = h) := by
  refine Met.mk (a0 := a0) hEL pn_opt ?_
  intro p e s m below meth c C hE hS
  rw [efs1]
  refine R_aload_n C n5_0 rfl rfl ?_
  refine R_getfield C n5_1 (hw _ (List.mem_of_getElem? (i := 60) rfl)) Via.refl (F) ?_
  exact R_areturn C n5_4 rfl rfl r0 (Nat.le_refl _) (Nat.le_refl _) ⟨rfl, rfl⟩
theorem met_n6 (l : Launch) (Z : State) (a0 : Array Value) (hw : ∀ d ∈ tables_1, d.before a0 Z = true) (EL : List (String × Nat)) (hEL : EW Z a0 EL) (h : Heap) (a : Addr) (F : Fld Z h a OPT "repeated" "Z" (.int 0)) :
    Met l Z False EL ⟨OPT, "repeated", "()Z"⟩ prog_7_method_18_code 1 (some .boolean) ⟨0, 0, 0, 0⟩ #[.ref a] h [] (fun v h' => v = some (.int 0) ∧ h' = h) := by
  refine Met.mk (a0 := a0) hEL pn_opt ?_
  intro p e s m below meth c C hE hS
  rw [efs1]
  refine R_aload_n C n6_0 rfl rfl ?_
  refine R_getfield C n6_1 (hw _ (List.mem_of_getElem? (i := 62) rfl)) Via.refl (F) ?_
  exact R_retN C n6_4 rfl (Or.inl rfl) (Nat.le_refl _) (Nat.le_refl _) ⟨rfl, rfl⟩
theorem met_n7 (l : Launch) (Z : State) (a0 : Array Value) (hw : ∀ d ∈ tables_1, d.before a0 Z = true) (EL : List (String × Nat)) (hEL : EW Z a0 EL) (h : Heap) (a : Addr) (v0 : Value) (r0 : v0.isRef = true) (F : Fld Z h a OPT "label" STD v0) :
    Met l Z False EL ⟨OPT, "isFlag", "()Z"⟩ prog_7_method_7_code 1 (some .boolean) ⟨0, 0, 0, 0⟩ #[.ref a] h [] (fun v h' => v = some (.int (if v0 = .null then 1 else 0)) ∧ h' = h) := by
  refine Met.mk (a0 := a0) hEL pn_opt ?_
  intro p e s m below meth c C hE hS
  rw [efs1]
  refine R_aload_n C n7_0 rfl rfl ?_
  refine R_getfield C n7_1 (hw _ (List.mem_of_getElem? (i := 54) rfl)) Via.refl (F) ?_
  rcases ref_cases r0 with rfl | ⟨b, rfl⟩
  · refine R_ifnonnull_n C n7_4 ?_
    refine R_iconst C n7_7 (v := 1) rfl ?_
    refine R_goto C n7_8 ?_
    exact R_retN C n7_12 rfl (Or.inl rfl) (Nat.le_refl _) (Nat.le_refl _) ⟨by rw [if_pos rfl]; rfl, rfl⟩
  · refine R_ifnonnull_y C n7_4 ?_
    refine R_iconst C n7_11 (v := 0) rfl ?_
    exact R_retN C n7_12 rfl (Or.inl rfl) (Nat.le_refl _) (Nat.le_refl _) ⟨by rw [if_neg (fun z => nomatch z)]; rfl, rfl⟩
theorem met_law (l : Launch) (Z : State) (a0 : Array Value) (hw : ∀ d ∈ tables_1, d.before a0 Z = true) (hEL : EW Z a0 EL1) (cs : Int32) (fm : Value) (SC : SS Z cs fm) (x0 x1 x2 x3 : Int32) :
    Met l Z False EL1 x code 8 (some .boolean) room_1 #[.int x0, .int x1, .int x2, .int x3] Z.heap [] (fun v h' => v = some (.int 1)) := by
  refine Met.mk (a0 := a0) hEL pn_law ?_
  intro p e s m below meth c C hE hS
  rw [eflw]
  have tail : ∀ (vm : Vm) (h : Heap) (cells slots : Nat) (n1 : Addr) (v2 : Value) (r2 : v2.isRef = true), cells ≤ 12 → slots ≤ 24 →
      Run p l e room_1 s m #[.int x0, .int x1, .int x2, .int x3] below meth c Z False EL1 (Kf s Z False EL1 room_1 (fun v h' => v = some (.int 1))) vm h cells slots (fr m 20 [.val (.int x0), .val (.int x1), .val (.int x2), .val (.int x3), .val (.ref n1), .unset, .unset, .unset] [v2]) := by
    intro vm h cells slots n1 v2 r2 hc hs
    refine Run.more hc hs ?_
    refine R_astore C lw_20 r2 (cat_ref r2) rfl ?_
    simp only [List.set_cons_zero, List.set_cons_succ]
    refine R_iload_n C lw_22 rfl ?_
    refine R_static C [.int x2] lw_23 (met_str l Z a0 hw hEL cs fm SC h x2) (by first | exact fun z => z | exact fun _ => trivial) (hw _ (List.mem_of_getElem? (i := 0) rfl)) (hw _ (List.mem_of_getElem? (i := 1) rfl)) (hw _ (List.mem_of_getElem? (i := 2) rfl)) (hw _ (List.mem_of_getElem? (i := 3) rfl)) (by decide) pd_7 rfl rfl rfl (Nat.le_of_ble_eq_true rfl) (Nat.le_of_ble_eq_true rfl) (Nat.le_of_ble_eq_true rfl) (Nat.le_of_ble_eq_true rfl) (fun _ q => nomatch q) ?_
    intro v vm2 h2 hQ hsz2 hSf2 hFr
    obtain ⟨n3, rfl⟩ := hQ
    simp only [Option.toList_some, List.cons_append, List.nil_append]
    refine R_astore C lw_26 rfl rfl rfl ?_
    simp only [fv0, fv1, fv2, fv3, List.set_cons_zero, List.set_cons_succ]
    refine R_aload C lw_28 rfl rfl ?_
    refine R_aload C lw_30 rfl r2 ?_
    refine R_aload C lw_32 rfl rfl ?_
    refine R_static C [.ref n1, v2, .ref n3] lw_34 (met_op l Z a0 hw EL1 hEL h2 (.ref n1) v2 (.ref n3) rfl r2 rfl) (by first | exact fun z => z | exact fun _ => trivial) (hw _ (List.mem_of_getElem? (i := 37) rfl)) (hw _ (List.mem_of_getElem? (i := 38) rfl)) (hw _ (List.mem_of_getElem? (i := 39) rfl)) (hw _ (List.mem_of_getElem? (i := 40) rfl)) (by decide) pd_8 rfl rfl rfl (Nat.le_of_ble_eq_true rfl) (Nat.le_of_ble_eq_true rfl) (Nat.le_of_ble_eq_true rfl) (Nat.le_of_ble_eq_true rfl) (fun _ q => nomatch q) ?_
    intro v vm3 h3 hQ hsz3 hSf3 hFr
    obtain ⟨rfl, O3⟩ := hQ
    obtain ⟨X, F1, F2, F3, F4, F5, F6⟩ := O3
    simp only [Option.toList_some, List.cons_append, List.nil_append]
    refine R_astore C lw_37 rfl rfl rfl ?_
    simp only [fv0, fv1, fv2, fv3, List.set_cons_zero, List.set_cons_succ]
    refine R_aload C lw_39 rfl rfl ?_
    refine R_virtual C [] lw_41 (met_n1 l Z a0 hw EL1 hEL h3 h2.size (.ref n1) rfl F1) (by first | exact fun z => z | exact fun _ => trivial) (X) (hw _ (List.mem_of_getElem? (i := 64) rfl)) (hw _ (List.mem_of_getElem? (i := 65) rfl)) (hw _ (List.mem_of_getElem? (i := 67) rfl)) (hw _ (List.mem_of_getElem? (i := 66) rfl)) (hw _ (List.mem_of_getElem? (i := 39) rfl)) (hw _ (List.mem_of_getElem? (i := 68) rfl)) (by decide) pd_9 rfl rfl rfl (Nat.le_of_ble_eq_true rfl) (Nat.le_of_ble_eq_true rfl) (Nat.le_of_ble_eq_true rfl) (Nat.le_of_ble_eq_true rfl) (fun _ q => nomatch q) ?_
    intro v vm4 h4 hQ hsz4 hSf4 hFr
    obtain ⟨rfl, rfl⟩ := hQ
    simp only [Option.toList_some, List.cons_append, List.nil_append]
    refine R_aload C lw_44 rfl rfl ?_
    refine R_acmp_ne C lw_46 rfl rfl (fun z => absurd rfl z) (fun _ => ?_)
    refine R_aload C lw_49 rfl rfl ?_
    refine R_virtual C [] lw_51 (met_n2 l Z a0 hw EL1 hEL h4 h2.size v2 r2 F2) (by first | exact fun z => z | exact fun _ => trivial) (X) (hw _ (List.mem_of_getElem? (i := 69) rfl)) (hw _ (List.mem_of_getElem? (i := 70) rfl)) (hw _ (List.mem_of_getElem? (i := 72) rfl)) (hw _ (List.mem_of_getElem? (i := 71) rfl)) (hw _ (List.mem_of_getElem? (i := 39) rfl)) (hw _ (List.mem_of_getElem? (i := 73) rfl)) (by decide) pd_9 rfl rfl rfl (Nat.le_of_ble_eq_true rfl) (Nat.le_of_ble_eq_true rfl) (Nat.le_of_ble_eq_true rfl) (Nat.le_of_ble_eq_true rfl) (fun _ q => nomatch q) ?_
    intro v vm5 h5 hQ hsz5 hSf5 hFr
    obtain ⟨rfl, rfl⟩ := hQ
    simp only [Option.toList_some, List.cons_append, List.nil_append]
    refine R_aload C lw_54 rfl r2 ?_
    refine R_acmp_ne C lw_56 r2 r2 (fun z => absurd rfl z) (fun _ => ?_)
    refine R_aload C lw_59 rfl rfl ?_
    refine R_virtual C [] lw_61 (met_n3 l Z a0 hw EL1 hEL h5 h2.size (.ref n3) rfl F3) (by first | exact fun z => z | exact fun _ => trivial) (X) (hw _ (List.mem_of_getElem? (i := 74) rfl)) (hw _ (List.mem_of_getElem? (i := 75) rfl)) (hw _ (List.mem_of_getElem? (i := 77) rfl)) (hw _ (List.mem_of_getElem? (i := 76) rfl)) (hw _ (List.mem_of_getElem? (i := 39) rfl)) (hw _ (List.mem_of_getElem? (i := 78) rfl)) (by decide) pd_9 rfl rfl rfl (Nat.le_of_ble_eq_true rfl) (Nat.le_of_ble_eq_true rfl) (Nat.le_of_ble_eq_true rfl) (Nat.le_of_ble_eq_true rfl) (fun _ q => nomatch q) ?_
    intro v vm6 h6 hQ hsz6 hSf6 hFr
    obtain ⟨rfl, rfl⟩ := hQ
    simp only [Option.toList_some, List.cons_append, List.nil_append]
    refine R_aload C lw_64 rfl rfl ?_
    refine R_acmp_ne C lw_66 rfl rfl (fun z => absurd rfl z) (fun _ => ?_)
    refine R_aload C lw_69 rfl rfl ?_
    refine R_virtual C [] lw_71 (met_n4 l Z a0 hw EL1 hEL h6 h2.size F4) (by first | exact fun z => z | exact fun _ => trivial) (X) (hw _ (List.mem_of_getElem? (i := 79) rfl)) (hw _ (List.mem_of_getElem? (i := 80) rfl)) (hw _ (List.mem_of_getElem? (i := 82) rfl)) (hw _ (List.mem_of_getElem? (i := 81) rfl)) (hw _ (List.mem_of_getElem? (i := 39) rfl)) (hw _ (List.mem_of_getElem? (i := 83) rfl)) (by decide) pd_10 rfl rfl rfl (Nat.le_of_ble_eq_true rfl) (Nat.le_of_ble_eq_true rfl) (Nat.le_of_ble_eq_true rfl) (Nat.le_of_ble_eq_true rfl) (fun _ q => nomatch q) ?_
    intro v vm7 h7 hQ hsz7 hSf7 hFr
    obtain ⟨rfl, rfl⟩ := hQ
    simp only [Option.toList_some, List.cons_append, List.nil_append]
    refine R_if C lw_74 (fun z => absurd rfl z) (fun _ => ?_)
    refine R_aload C lw_77 rfl rfl ?_
    refine R_virtual C [] lw_79 (met_n5 l Z a0 hw EL1 hEL h7 h2.size .null rfl F5) (by first | exact fun z => z | exact fun _ => trivial) (X) (hw _ (List.mem_of_getElem? (i := 84) rfl)) (hw _ (List.mem_of_getElem? (i := 85) rfl)) (hw _ (List.mem_of_getElem? (i := 87) rfl)) (hw _ (List.mem_of_getElem? (i := 86) rfl)) (hw _ (List.mem_of_getElem? (i := 39) rfl)) (hw _ (List.mem_of_getElem? (i := 88) rfl)) (by decide) pd_9 rfl rfl rfl (Nat.le_of_ble_eq_true rfl) (Nat.le_of_ble_eq_true rfl) (Nat.le_of_ble_eq_true rfl) (Nat.le_of_ble_eq_true rfl) (fun _ q => nomatch q) ?_
    intro v vm8 h8 hQ hsz8 hSf8 hFr
    obtain ⟨rfl, rfl⟩ := hQ
    simp only [Option.toList_some, List.cons_append, List.nil_append]
    refine R_ifnonnull_n C lw_82 ?_
    refine R_aload C lw_85 rfl rfl ?_
    refine R_virtual C [] lw_87 (met_n6 l Z a0 hw EL1 hEL h8 h2.size F6) (by first | exact fun z => z | exact fun _ => trivial) (X) (hw _ (List.mem_of_getElem? (i := 89) rfl)) (hw _ (List.mem_of_getElem? (i := 90) rfl)) (hw _ (List.mem_of_getElem? (i := 92) rfl)) (hw _ (List.mem_of_getElem? (i := 91) rfl)) (hw _ (List.mem_of_getElem? (i := 39) rfl)) (hw _ (List.mem_of_getElem? (i := 93) rfl)) (by decide) pd_10 rfl rfl rfl (Nat.le_of_ble_eq_true rfl) (Nat.le_of_ble_eq_true rfl) (Nat.le_of_ble_eq_true rfl) (Nat.le_of_ble_eq_true rfl) (fun _ q => nomatch q) ?_
    intro v vm9 h9 hQ hsz9 hSf9 hFr
    obtain ⟨rfl, rfl⟩ := hQ
    simp only [Option.toList_some, List.cons_append, List.nil_append]
    refine R_if C lw_90 (fun z => absurd rfl z) (fun _ => ?_)
    refine R_aload C lw_93 rfl rfl ?_
    refine R_virtual C [] lw_95 (met_n7 l Z a0 hw EL1 hEL h9 h2.size v2 r2 F2) (by first | exact fun z => z | exact fun _ => trivial) (X) (hw _ (List.mem_of_getElem? (i := 94) rfl)) (hw _ (List.mem_of_getElem? (i := 95) rfl)) (hw _ (List.mem_of_getElem? (i := 97) rfl)) (hw _ (List.mem_of_getElem? (i := 96) rfl)) (hw _ (List.mem_of_getElem? (i := 39) rfl)) (hw _ (List.mem_of_getElem? (i := 98) rfl)) (by decide) pd_10 rfl rfl rfl (Nat.le_of_ble_eq_true rfl) (Nat.le_of_ble_eq_true rfl) (Nat.le_of_ble_eq_true rfl) (Nat.le_of_ble_eq_true rfl) (fun _ q => nomatch q) ?_
    intro v vm10 h10 hQ hsz10 hSf10 hFr
    obtain ⟨rfl, rfl⟩ := hQ
    simp only [Option.toList_some, List.cons_append, List.nil_append]
    refine R_aload C lw_98 rfl r2 ?_
    rcases ref_cases r2 with rfl | ⟨b, rfl⟩
    · refine R_ifnonnull_n C lw_100 ?_
      rw [if_pos rfl]
      refine R_iconst C lw_103 (v := 1) rfl ?_
      refine R_goto C lw_104 ?_
      refine R_icmp C lw_108 (fun z => absurd rfl z) (fun _ => ?_)
      refine R_iconst C lw_111 (v := 1) rfl ?_
      refine R_goto C lw_112 ?_
      exact R_retN C lw_116 rfl (Or.inl rfl) (Nat.le_of_ble_eq_true rfl) (Nat.le_of_ble_eq_true rfl) rfl
    · refine R_ifnonnull_y C lw_100 ?_
      rw [if_neg (fun z => nomatch z)]
      refine R_iconst C lw_107 (v := 0) rfl ?_
      refine R_icmp C lw_108 (fun z => absurd rfl z) (fun _ => ?_)
      refine R_iconst C lw_111 (v := 1) rfl ?_
      refine R_goto C lw_112 ?_
      exact R_retN C lw_116 rfl (Or.inl rfl) (Nat.le_of_ble_eq_true rfl) (Nat.le_of_ble_eq_true rfl) rfl
  refine R_iload_n C lw_0 rfl ?_
  refine R_static C [.int x0] lw_1 (met_str l Z a0 hw hEL cs fm SC Z.heap x0) (by first | exact fun z => z | exact fun _ => trivial) (hw _ (List.mem_of_getElem? (i := 0) rfl)) (hw _ (List.mem_of_getElem? (i := 1) rfl)) (hw _ (List.mem_of_getElem? (i := 2) rfl)) (hw _ (List.mem_of_getElem? (i := 3) rfl)) (by decide) pd_7 rfl rfl rfl (Nat.le_of_ble_eq_true rfl) (Nat.le_of_ble_eq_true rfl) (Nat.le_of_ble_eq_true rfl) (Nat.le_of_ble_eq_true rfl) (fun _ q => nomatch q) ?_
  intro v vm2 h2 hQ hsz2 hSf2 hFr
  obtain ⟨n1, rfl⟩ := hQ
  simp only [Option.toList_some, List.cons_append, List.nil_append]
  refine R_astore C lw_4 rfl rfl rfl ?_
  simp only [fv0, fv1, fv2, fv3, List.set_cons_zero, List.set_cons_succ]
  refine R_iload_n C lw_6 rfl ?_
  refine R_iconst C lw_7 (v := 1) rfl ?_
  refine R_iand C lw_8 ?_
  refine R_if C lw_9 (fun _ => ?_) (fun _ => ?_)
  · refine R_iload_n C lw_16 rfl ?_
    refine R_static C [.int x1] lw_17 (met_str l Z a0 hw hEL cs fm SC h2 x1) (by first | exact fun z => z | exact fun _ => trivial) (hw _ (List.mem_of_getElem? (i := 0) rfl)) (hw _ (List.mem_of_getElem? (i := 1) rfl)) (hw _ (List.mem_of_getElem? (i := 2) rfl)) (hw _ (List.mem_of_getElem? (i := 3) rfl)) (by decide) pd_7 rfl rfl rfl (Nat.le_of_ble_eq_true rfl) (Nat.le_of_ble_eq_true rfl) (Nat.le_of_ble_eq_true rfl) (Nat.le_of_ble_eq_true rfl) (fun _ q => nomatch q) ?_
    intro v vm3 h3 hQ hsz3 hSf3 hFr
    obtain ⟨n2, rfl⟩ := hQ
    simp only [Option.toList_some, List.cons_append, List.nil_append]
    exact tail _ _ _ _ _ _ rfl (Nat.le_of_ble_eq_true rfl) (Nat.le_of_ble_eq_true rfl)
  · refine R_aconst_null C lw_12 ?_
    refine R_goto C lw_13 ?_
    exact tail _ _ _ _ _ _ rfl (Nat.le_of_ble_eq_true rfl) (Nat.le_of_ble_eq_true rfl)
set_option maxRecDepth 65536 in
theorem comes_1 {Post : Tables → Env → Array Value → State → Outcome → State → Prop} (hpost : ∀ tb e args s v u, (limb_1_1.after args s (.returned v) u = true ∧ limb_1_2.after args s (.returned v) u = true ∧ True) → ReturnedEndW s (.returned v) u (Jvm.fieldLocs frame_1_writes args s ++ Jvm.arrayLocs frame_1_arrays args s ++ Jvm.staticLocs frame_1_statics s) 32 1152 → Post tb e args s (.returned v) u) :
    ArmFor flags0 classFile x code maxLocals ret World_1 tables_1 room_1 Calls_1 rest_1 Pre_1 Post := by
  intro l hfl _ _ p e ha hc hk s m args below hf hA hF happ hP
  obtain ⟨hcalls, hrest, hpre⟩ := hP
  obtain ⟨-, -, -, hnamed, -, -, -, hat⟩ := (Spec.applies_iff hf).mp happ
  obtain ⟨hg, hn⟩ := and_e (Cond.before_iff.mp (show (Jvm.Cond.and given_1 narrow_1).before args s = true from hpre))
  obtain ⟨h1, h2⟩ := and_e hg
  obtain ⟨g0, h2⟩ := and_e h2
  obtain ⟨g1, h2⟩ := and_e h2
  obtain ⟨g2, g3⟩ := and_e h2
  obtain ⟨w0, w1, w2, w3, rfl⟩ : ∃ w0 w1 w2 w3 : Value, args = #[w0, w1, w2, w3] := by
    have hs : args.size = 4 := by simpa [Cond.value, given_1] using h1
    obtain ⟨L⟩ := args
    match L, hs with
    | [w0, w1, w2, w3], _ => exact ⟨w0, w1, w2, w3, rfl⟩
  have hw := fun d (hd : d ∈ tables_1) => atoms_spec (ws := Jvm.Cond.code x code maxLocals ret :: tables_1) hat d (List.mem_cons_of_mem _ hd)
  have hfit : Fit s := fun {y c} hc i hi => by
    obtain ⟨ha, rfl⟩ := Array.getElem?_eq_some_iff.mp hc
    have q := List.all_eq_true.mp ((Array.all_eq_true_iff_forall_mem.mp hF) _ (Array.getElem_mem ha)) i (List.mem_range.mpr hi)
    simpa [Array.getElem?_eq_getElem hi] using q
  obtain ⟨i0, e0⟩ := is_v g0
  obtain rfl : w0 = (.int i0) := Option.some.inj e0
  obtain ⟨i1, e1⟩ := is_v g1
  obtain rfl : w1 = (.int i1) := Option.some.inj e1
  obtain ⟨i2, e2⟩ := is_v g2
  obtain rfl : w2 = (.int i2) := Option.some.inj e2
  obtain ⟨i3, e3⟩ := is_v g3
  obtain rfl : w3 = (.int i3) := Option.some.inj e3
  obtain ⟨hsets, hown0⟩ := atoms_of _ (rest_1_c_eq ▸ (show rest_1_c.before _ s = true from hrest))
  have m3 := not_v (Cond.before_iff.mp (hsets _ (List.mem_of_getElem? (i := 2) rfl)))
  obtain ⟨cs, c1⟩ := is_v (Cond.before_iff.mp (hsets _ (List.mem_of_getElem? (i := 1) rfl)))
  have S8 : Sta s s.heap STR "COMPACT_STRINGS" "Z" (.int cs) := Sta.start c1 (Or.inl (hsets _ (List.mem_of_getElem? (i := 0) rfl)))
  obtain ⟨fm, c2, c3⟩ := isR_v (Cond.before_iff.mp (hsets _ (List.mem_of_getElem? (i := 8) rfl)))
  have S12 : Sta s s.heap PRE "SIOOBE_FORMATTER" BIF fm := Sta.start c2 (Or.inl (hsets _ (List.mem_of_getElem? (i := 7) rfl)))
  have SC : SS s cs fm := ⟨gotF (Cond.eq_ints c1 (Term.int_eval (0))) m3, S8, c3, S12⟩
  have hEL : EW s _ EL1 := EW.cons (hw _ (List.mem_of_getElem? (i := 18) rfl)) (by intro c hc; simp at hc) EW.nil
  have hCH : CHv s EL1 s.vm s.heap := CHv.start hEL (fun p hp => hcalls.1 p hp) (hsets _ (List.mem_of_getElem? (i := 2) rfl)) (hw _ (List.mem_of_getElem? (i := 19) rfl)) (hw _ (List.mem_of_getElem? (i := 5) rfl))
  obtain ⟨n, o, h1, h2, h3, v, L, rfl, hv, N, -, -, hR, hWm⟩ := met_law l s _ hw hEL cs fm SC i0 i1 i2 i3 tables_1 p e ha hc hk s m _ below hf ((Spec.applies_iff_loose hf).mp happ).1 ⟨rfl, State.Warmed39.refl s, rfl, hCH, Ext.rfl', fun _ q => nomatch q⟩ trivial
  subst hv
  refine ⟨n, _, h1, h2, h3, hpost _ _ _ _ _ _ ⟨Cond.after_iff.mpr rfl, Cond.after_iff.mpr (eq_i res_at (Term.int_eval (1)) rfl), trivial⟩ ⟨hR.1, hR.2.1, hR.2.2.1, (hR.2.2.2.sift fun y hy => Or.inr (N y hy)).mono (by decide) (by decide)⟩⟩
theorem main_1_1 : Claimed_1_1 := comes_1 fun _ _ _ _ _ _ h hF => ⟨h.1, hF⟩
theorem main_1_2 : Claimed_1_2 := comes_1 fun _ _ _ _ _ _ h hF => ⟨h.2.1, hF⟩
end Jvm.Pilot.@@N@@
namespace Jvm.Pilot.@@N@@
open Jvm Jvm.ClassFile Sem Op Lib Jvm.Free Jvm.Stand Jvm.Pilot.@@N@@.Jvm.D
/-! MADE BY PROGRAM (witnessworld.py) out of the Statement's table words and the real class files: 21 classes; the members and pool entries that the words name. The judged class is class 1, her method 2. -/
namespace start1
open Jvm.ClassFile
def u (s : String) : CpInfo := .utf8 (stringToUtf16 s)
/-- a pool by its gaps: so many unusable entries, then the entry; so many at the end -/
def gap : Nat → List CpInfo → List CpInfo
  | 0, r => r
  | n + 1, r => .unusable :: gap n r
def poolList (es : List (Nat × CpInfo)) (last : Nat) : List CpInfo := es.foldr (fun e r => gap e.1 (e.2 :: r)) (gap last [])
def pool (es : List (Nat × CpInfo)) (last : Nat) : Array CpInfo := ⟨poolList es last⟩
def fileOf (pool : Array CpInfo) (this : Nat) (attrs : Array Attribute := #[]) (ms : Array MethodInfo := #[]) (fl : Nat := 33) (sup : Nat := 0) (ifs : Array Nat := #[]) (fds : Array FieldInfo := #[]) : ClassFile where
  minorVersion := 0
  majorVersion := 65
  constantPool := pool
  accessFlags := fl
  thisClass := this
  superClass := sup
  interfaces := ifs
  fields := fds
  methods := ms
  attributes := attrs
def plain (name : String) (sup : Option ClassId) : Class where
  name := name
  kind := .ordinary
  loader := none
  accessFlags := 33
  super := sup
  interfaces := #[]
  cf := none
  fields := #[]
  methods := #[]
  instanceTypes := #[]
  staticTypes := #[]
  resolved := #[]
  callSites := []
  init := .initialized
  statics := none
  mirror := none

def pool0 : Array CpInfo := pool [(5, u "<init>"), (0, u "()V"), (1, .class_ 10), (1, u "java/lang/Object")] 113

def k0c0 : Code := { maxStack := 0, maxLocals := 1, code := object_method_1_code, exceptionTable := #[], attributes := #[] }
def k0m0 : Method := { name := "<init>", desc := "()V", sig := { parameters := [], returnType := none }, accessFlags := 1, code := some k0c0 }
/-- java/lang/Object -/
def k0 : Class := { plain "java/lang/Object" none with
  accessFlags := 33
  interfaces := #[]
  cf := some (fileOf pool0 8 #[] #[{ accessFlags := 1, nameIndex := 5, descriptorIndex := 6, attributes := #[] }] 33 0 #[] #[])
  fields := #[]
  methods := #[k0m0]
  instanceTypes := #[]
  staticTypes := #[]
  resolved := Array.replicate 124 none
  statics := none }

def pool1 : Array CpInfo := pool [(2, .class_ 4), (1, u "java/lang/Object"), (0, u "<init>"), (0, u "()V"), (0, .class_ 8), (0, u "java/lang/String"), (0, .methodref 7 10), (0, .nameAndType 5 11), (0, u "([C)V"), (0, .methodref 13 14), (0, .class_ 15), (0, .nameAndType 16 17), (0, u "com/example/tallyhour/tallyhour/OptionOptionalPinLaw"), (0, u "str"), (0, u "(I)Ljava/lang/String;"), (0, .methodref 19 20), (0, .class_ 21), (0, .nameAndType 22 23), (0, u "com/example/tallyhour/tallyhour/Command$Option"), (0, u "optional"), (0, u "(Ljava/lang/String;Ljava/lang/String;Ljava/lang/String;)Lcom/example/tallyhour/tallyhour/Command$Option;"), (0, .methodref 19 25), (0, .nameAndType 26 27), (0, u "name"), (0, u "()Ljava/lang/String;"), (0, .methodref 19 29), (0, .nameAndType 30 27), (0, u "label"), (0, .methodref 19 32), (0, .nameAndType 33 27), (0, u "description"), (0, .methodref 19 35), (0, .nameAndType 36 37), (0, u "required"), (0, u "()Z"), (0, .methodref 19 39), (0, .nameAndType 40 27), (0, u "byDefault"), (0, .methodref 19 42), (0, .nameAndType 43 37), (0, u "repeated"), (0, .methodref 19 45), (0, .nameAndType 46 37), (0, u "isFlag"), (3, u "law"), (0, u "(IIII)Z")] 6

def k1m0 : Method := { name := "<init>", desc := "()V", sig := { parameters := [], returnType := none }, accessFlags := 1, code := none }
def k1c1 : Code := { maxStack := 6, maxLocals := 4, code := method_2_code, exceptionTable := #[], attributes := #[] }
def k1m1 : Method := { name := "str", desc := "(I)Ljava/lang/String;", sig := { parameters := [.int], returnType := some (.object "java/lang/String") }, accessFlags := 10, code := some k1c1 }
def k1c2 : Code := { maxStack := 3, maxLocals := 8, code := code, exceptionTable := #[], attributes := #[] }
def k1m2 : Method := { name := "law", desc := "(IIII)Z", sig := { parameters := [.int, .int, .int, .int], returnType := some .boolean }, accessFlags := 9, code := some k1c2 }
/-- com/example/tallyhour/tallyhour/OptionOptionalPinLaw -/
def k1 : Class := { plain "com/example/tallyhour/tallyhour/OptionOptionalPinLaw" (some 0) with
  accessFlags := 49
  interfaces := #[]
  cf := some (fileOf pool1 13 #[] #[{ accessFlags := 1, nameIndex := 5, descriptorIndex := 6, attributes := #[] }, { accessFlags := 10, nameIndex := 16, descriptorIndex := 17, attributes := #[] }, { accessFlags := 9, nameIndex := 50, descriptorIndex := 51, attributes := #[] }] 49 2 #[] #[])
  fields := #[]
  methods := #[k1m0, k1m1, k1m2]
  instanceTypes := #[]
  staticTypes := #[]
  resolved := Array.replicate 58 none
  statics := none }

def pool2 : Array CpInfo := pool [(1, .class_ 2), (0, u "java/io/Serializable"), (0, .class_ 4), (0, u "java/lang/Object")] 2

/-- java/io/Serializable -/
def k2 : Class := { plain "java/io/Serializable" (some 0) with
  accessFlags := 1537
  interfaces := #[]
  cf := some (fileOf pool2 1 #[] #[] 1537 3 #[] #[])
  fields := #[]
  methods := #[]
  instanceTypes := #[]
  staticTypes := #[]
  resolved := Array.replicate 7 none
  statics := none }

def pool3 : Array CpInfo := pool [(1, .class_ 2), (0, u "java/lang/Comparable"), (0, .class_ 4), (0, u "java/lang/Object")] 7

/-- java/lang/Comparable -/
def k3 : Class := { plain "java/lang/Comparable" (some 0) with
  accessFlags := 1537
  interfaces := #[]
  cf := some (fileOf pool3 1 #[] #[] 1537 3 #[] #[])
  fields := #[]
  methods := #[]
  instanceTypes := #[]
  staticTypes := #[]
  resolved := Array.replicate 12 none
  statics := none }

def pool4 : Array CpInfo := pool [(2, .class_ 4), (1, u "java/lang/CharSequence"), (42, .class_ 48), (0, u "java/lang/CharSequence$1CodePointIterator"), (10, .class_ 60), (0, u "java/lang/CharSequence$1CharIterator"), (5, .class_ 67), (0, u "java/lang/Object")] 63

/-- java/lang/CharSequence -/
def k4 : Class := { plain "java/lang/CharSequence" (some 0) with
  accessFlags := 1537
  interfaces := #[]
  cf := some (fileOf pool4 2 #[.nestMembers #[47, 59]] #[] 1537 66 #[] #[])
  fields := #[]
  methods := #[]
  instanceTypes := #[]
  staticTypes := #[]
  resolved := Array.replicate 131 none
  statics := none }

def pool5 : Array CpInfo := pool [(1, .class_ 2), (0, u "java/lang/constant/Constable"), (0, .class_ 4), (0, u "java/lang/Object")] 6

/-- java/lang/constant/Constable -/
def k5 : Class := { plain "java/lang/constant/Constable" (some 0) with
  accessFlags := 1537
  interfaces := #[]
  cf := some (fileOf pool5 1 #[] #[] 1537 3 #[] #[])
  fields := #[]
  methods := #[]
  instanceTypes := #[]
  staticTypes := #[]
  resolved := Array.replicate 11 none
  statics := none }

def pool6 : Array CpInfo := pool [(1, .class_ 2), (0, u "java/lang/constant/ConstantDesc"), (0, .class_ 4), (0, u "java/lang/Object")] 32

/-- java/lang/constant/ConstantDesc -/
def k6 : Class := { plain "java/lang/constant/ConstantDesc" (some 0) with
  accessFlags := 1537
  interfaces := #[]
  cf := some (fileOf pool6 1 #[] #[] 1537 3 #[] #[])
  fields := #[]
  methods := #[]
  instanceTypes := #[]
  staticTypes := #[]
  resolved := Array.replicate 37 none
  statics := none }

def pool7 : Array CpInfo := pool [(1, .methodref 2 3), (0, .class_ 4), (0, .nameAndType 5 6), (0, u "java/lang/Object"), (0, u "<init>"), (0, u "()V"), (0, .string 8), (0, u ""), (0, .fieldref 10 11), (0, .class_ 12), (0, .nameAndType 13 14), (0, u "java/lang/String"), (0, u "value"), (0, u "[B"), (0, .fieldref 10 16), (0, .nameAndType 17 18), (0, u "coder"), (0, u "B"), (2, u "hash"), (0, u "I"), (2, u "hashIsZero"), (0, u "Z"), (0, .methodref 10 28), (0, .nameAndType 5 29), (0, u "([CIILjava/lang/Void;)V"), (8, .fieldref 10 39), (0, .nameAndType 40 26), (0, u "COMPACT_STRINGS"), (1, .class_ 44), (1, u "java/lang/StringUTF16"), (0, u "compress"), (1, .methodref 42 48), (0, .nameAndType 49 50), (0, u "coderFromArrayLen"), (0, u "([BI)B"), (126, .methodref 42 178), (0, .nameAndType 45 179), (0, u "([CII)[B"), (395, .class_ 576), (0, u "java/lang/CharSequence"), (22, u "CASE_INSENSITIVE_ORDER"), (0, u "Ljava/util/Comparator;"), (409, u "([C)V"), (90, u "serialPersistentFields"), (0, u "[Ljava/io/ObjectStreamField;"), (0, .class_ 1104), (0, u "java/lang/String$CaseInsensitiveComparator"), (1, .class_ 1107), (0, u "java/io/Serializable"), (0, .class_ 1109), (0, u "java/lang/Comparable"), (0, .class_ 1111), (0, u "java/lang/constant/Constable"), (0, .class_ 1113), (0, u "java/lang/constant/ConstantDesc"), (2, u "serialVersionUID"), (0, u "J"), (3, u "REPL"), (0, u "C"), (2, u "LATIN1"), (1, u "UTF16")] 323

def k7m0 : Method := { name := "<init>", desc := "()V", sig := { parameters := [], returnType := none }, accessFlags := 1, code := none }
def k7c1 : Code := { maxStack := 5, maxLocals := 2, code := jdk_42_method_3_code, exceptionTable := #[], attributes := #[] }
def k7m1 : Method := { name := "<init>", desc := "([C)V", sig := { parameters := [(.array .char)], returnType := none }, accessFlags := 1, code := some k7c1 }
def k7c2 : Code := { maxStack := 4, maxLocals := 6, code := jdk_42_method_149_code, exceptionTable := #[], attributes := #[] }
def k7m2 : Method := { name := "<init>", desc := "([CIILjava/lang/Void;)V", sig := { parameters := [(.array .char), .int, .int, (.object "java/lang/Void")], returnType := none }, accessFlags := 2, code := some k7c2 }
/-- java/lang/String -/
def k7 : Class := { plain "java/lang/String" (some 0) with
  accessFlags := 49
  interfaces := #[2, 3, 4, 5, 6]
  cf := some (fileOf pool7 10 #[.nestMembers #[1103]] #[{ accessFlags := 1, nameIndex := 5, descriptorIndex := 6, attributes := #[] }, { accessFlags := 1, nameIndex := 5, descriptorIndex := 1010, attributes := #[] }, { accessFlags := 2, nameIndex := 5, descriptorIndex := 29, attributes := #[] }] 49 2 #[1106, 1108, 575, 1110, 1112] #[{ accessFlags := 18, nameIndex := 13, descriptorIndex := 14, attributes := #[] }, { accessFlags := 18, nameIndex := 17, descriptorIndex := 18, attributes := #[] }, { accessFlags := 2, nameIndex := 21, descriptorIndex := 22, attributes := #[] }, { accessFlags := 2, nameIndex := 25, descriptorIndex := 26, attributes := #[] }, { accessFlags := 26, nameIndex := 1116, descriptorIndex := 1117, attributes := #[] }, { accessFlags := 24, nameIndex := 40, descriptorIndex := 26, attributes := #[] }, { accessFlags := 26, nameIndex := 1101, descriptorIndex := 1102, attributes := #[] }, { accessFlags := 26, nameIndex := 1121, descriptorIndex := 1122, attributes := #[] }, { accessFlags := 25, nameIndex := 599, descriptorIndex := 600, attributes := #[] }, { accessFlags := 24, nameIndex := 1125, descriptorIndex := 18, attributes := #[] }, { accessFlags := 24, nameIndex := 1127, descriptorIndex := 18, attributes := #[] }])
  fields := #[{ name := "value", type := (.array .byte), accessFlags := 18, slot := 0, constantValue := 0 }, { name := "coder", type := .byte, accessFlags := 18, slot := 1, constantValue := 0 }, { name := "hash", type := .int, accessFlags := 2, slot := 2, constantValue := 0 }, { name := "hashIsZero", type := .boolean, accessFlags := 2, slot := 3, constantValue := 0 }, { name := "serialVersionUID", type := .long, accessFlags := 26, slot := 0, constantValue := 0 }, { name := "COMPACT_STRINGS", type := .boolean, accessFlags := 24, slot := 1, constantValue := 0 }, { name := "serialPersistentFields", type := (.array (.object "java/io/ObjectStreamField")), accessFlags := 26, slot := 2, constantValue := 0 }, { name := "REPL", type := .char, accessFlags := 26, slot := 3, constantValue := 0 }, { name := "CASE_INSENSITIVE_ORDER", type := (.object "java/util/Comparator"), accessFlags := 25, slot := 4, constantValue := 0 }, { name := "LATIN1", type := .byte, accessFlags := 24, slot := 5, constantValue := 0 }, { name := "UTF16", type := .byte, accessFlags := 24, slot := 6, constantValue := 0 }]
  methods := #[k7m0, k7m1, k7m2]
  instanceTypes := #[(.array .byte), .byte, .int, .boolean]
  staticTypes := #[.long, .boolean, (.array (.object "java/io/ObjectStreamField")), .char, (.object "java/util/Comparator"), .byte, .byte]
  resolved := Array.replicate 1451 none
  statics := some 0 }

def pool8 : Array CpInfo := pool [(6, .class_ 8), (1, u "java/lang/Object"), (0, u "<init>"), (0, u "()V"), (1, .class_ 14), (1, u "java/lang/StringUTF16"), (31, u "$assertionsDisabled"), (0, u "Z"), (13, u "HI_BYTE_SHIFT"), (0, u "I"), (2, u "LO_BYTE_SHIFT"), (49, .methodref 12 116), (0, .nameAndType 117 118), (0, u "compress"), (0, u "([CI[BII)I"), (3, u "([CII)[B"), (138, u "coderFromArrayLen"), (0, u "([BI)B"), (106, .class_ 371), (1, u "java/lang/StringUTF16$LinesSpliterator"), (58, u "MAX_LENGTH"), (196, .class_ 628), (0, u "java/lang/StringUTF16$CodePointsSpliterator"), (0, .class_ 630), (0, u "java/lang/StringUTF16$CharsSpliterator")] 4

def k8m0 : Method := { name := "<init>", desc := "()V", sig := { parameters := [], returnType := none }, accessFlags := 0, code := none }
def k8c1 : Code := { maxStack := 2, maxLocals := 2, code := jdk_52_method_15_code, exceptionTable := #[], attributes := #[] }
def k8m1 : Method := { name := "coderFromArrayLen", desc := "([BI)B", sig := { parameters := [(.array .byte), .int], returnType := some .byte }, accessFlags := 8, code := some k8c1 }
def k8c2 : Code := { maxStack := 5, maxLocals := 6, code := jdk_52_method_16_code, exceptionTable := #[], attributes := #[] }
def k8m2 : Method := { name := "compress", desc := "([CII)[B", sig := { parameters := [(.array .char), .int, .int], returnType := some (.array .byte) }, accessFlags := 9, code := some k8c2 }
def k8c3 : Code := { maxStack := 3, maxLocals := 7, code := jdk_52_method_21_code, exceptionTable := #[], attributes := #[] }
def k8m3 : Method := { name := "compress", desc := "([CI[BII)I", sig := { parameters := [(.array .char), .int, (.array .byte), .int, .int], returnType := some .int }, accessFlags := 9, code := some k8c3 }
/-- java/lang/StringUTF16 -/
def k8 : Class := { plain "java/lang/StringUTF16" (some 0) with
  accessFlags := 48
  interfaces := #[]
  cf := some (fileOf pool8 12 #[.nestMembers #[627, 629, 369]] #[{ accessFlags := 0, nameIndex := 9, descriptorIndex := 10, attributes := #[] }, { accessFlags := 8, nameIndex := 261, descriptorIndex := 262, attributes := #[] }, { accessFlags := 9, nameIndex := 117, descriptorIndex := 122, attributes := #[] }, { accessFlags := 9, nameIndex := 117, descriptorIndex := 118, attributes := #[] }] 48 6 #[] #[{ accessFlags := 26, nameIndex := 61, descriptorIndex := 62, attributes := #[] }, { accessFlags := 26, nameIndex := 65, descriptorIndex := 62, attributes := #[] }, { accessFlags := 24, nameIndex := 430, descriptorIndex := 62, attributes := #[] }, { accessFlags := 4120, nameIndex := 46, descriptorIndex := 47, attributes := #[] }])
  fields := #[{ name := "HI_BYTE_SHIFT", type := .int, accessFlags := 26, slot := 0, constantValue := 0 }, { name := "LO_BYTE_SHIFT", type := .int, accessFlags := 26, slot := 1, constantValue := 0 }, { name := "MAX_LENGTH", type := .int, accessFlags := 24, slot := 2, constantValue := 0 }, { name := "$assertionsDisabled", type := .boolean, accessFlags := 4120, slot := 3, constantValue := 0 }]
  methods := #[k8m0, k8m1, k8m2, k8m3]
  instanceTypes := #[]
  staticTypes := #[.int, .int, .int, .boolean]
  resolved := Array.replicate 635 none
  statics := none }

def pool9 : Array CpInfo := pool [(1, .methodref 2 3), (0, .class_ 4), (0, .nameAndType 5 6), (0, u "java/lang/Object"), (0, u "<init>"), (0, u "()V"), (0, .class_ 8), (0, u "java/lang/Record")] 13

def k9c0 : Code := { maxStack := 1, maxLocals := 1, code := jdk_30_method_1_code, exceptionTable := #[], attributes := #[] }
def k9m0 : Method := { name := "<init>", desc := "()V", sig := { parameters := [], returnType := none }, accessFlags := 4, code := some k9c0 }
/-- java/lang/Record -/
def k9 : Class := { plain "java/lang/Record" (some 0) with
  accessFlags := 1057
  interfaces := #[]
  cf := some (fileOf pool9 7 #[] #[{ accessFlags := 4, nameIndex := 5, descriptorIndex := 6, attributes := #[] }] 1057 2 #[] #[])
  fields := #[]
  methods := #[k9m0]
  instanceTypes := #[]
  staticTypes := #[]
  resolved := Array.replicate 22 none
  statics := none }

def pool10 : Array CpInfo := pool [(1, .methodref 2 3), (0, .class_ 4), (0, .nameAndType 5 6), (0, u "java/lang/Record"), (0, u "<init>"), (0, u "()V"), (0, .fieldref 8 9), (0, .class_ 10), (0, .nameAndType 11 12), (0, u "com/example/tallyhour/tallyhour/Command$Option"), (0, u "name"), (0, u "Ljava/lang/String;"), (0, .fieldref 8 14), (0, .nameAndType 15 12), (0, u "label"), (0, .fieldref 8 17), (0, .nameAndType 18 12), (0, u "description"), (0, .fieldref 8 20), (0, .nameAndType 21 22), (0, u "required"), (0, u "Z"), (0, .fieldref 8 24), (0, .nameAndType 25 12), (0, u "byDefault"), (0, .fieldref 8 27), (0, .nameAndType 28 22), (0, u "repeated"), (0, .methodref 8 30), (0, .nameAndType 5 31), (0, u "(Ljava/lang/String;Ljava/lang/String;Ljava/lang/String;ZLjava/lang/String;Z)V"), (2, u "isFlag"), (0, u "()Z"), (5, .class_ 43), (1, u "com/example/tallyhour/tallyhour/Command"), (8, u "()Ljava/lang/String;"), (16, u "(Ljava/lang/String;Ljava/lang/String;Ljava/lang/String;)Lcom/example/tallyhour/tallyhour/Command$Option;"), (0, u "optional")] 49

def k10c0 : Code := { maxStack := 2, maxLocals := 7, code := prog_7_method_1_code, exceptionTable := #[], attributes := #[] }
def k10m0 : Method := { name := "<init>", desc := "(Ljava/lang/String;Ljava/lang/String;Ljava/lang/String;ZLjava/lang/String;Z)V", sig := { parameters := [(.object "java/lang/String"), (.object "java/lang/String"), (.object "java/lang/String"), .boolean, (.object "java/lang/String"), .boolean], returnType := none }, accessFlags := 0, code := some k10c0 }
def k10c1 : Code := { maxStack := 8, maxLocals := 3, code := prog_7_method_3_code, exceptionTable := #[], attributes := #[] }
def k10m1 : Method := { name := "optional", desc := "(Ljava/lang/String;Ljava/lang/String;Ljava/lang/String;)Lcom/example/tallyhour/tallyhour/Command$Option;", sig := { parameters := [(.object "java/lang/String"), (.object "java/lang/String"), (.object "java/lang/String")], returnType := some (.object "com/example/tallyhour/tallyhour/Command$Option") }, accessFlags := 8, code := some k10c1 }
def k10c2 : Code := { maxStack := 1, maxLocals := 1, code := prog_7_method_7_code, exceptionTable := #[], attributes := #[] }
def k10m2 : Method := { name := "isFlag", desc := "()Z", sig := { parameters := [], returnType := some .boolean }, accessFlags := 0, code := some k10c2 }
def k10c3 : Code := { maxStack := 1, maxLocals := 1, code := prog_7_method_13_code, exceptionTable := #[], attributes := #[] }
def k10m3 : Method := { name := "name", desc := "()Ljava/lang/String;", sig := { parameters := [], returnType := some (.object "java/lang/String") }, accessFlags := 1, code := some k10c3 }
def k10c4 : Code := { maxStack := 1, maxLocals := 1, code := prog_7_method_14_code, exceptionTable := #[], attributes := #[] }
def k10m4 : Method := { name := "label", desc := "()Ljava/lang/String;", sig := { parameters := [], returnType := some (.object "java/lang/String") }, accessFlags := 1, code := some k10c4 }
def k10c5 : Code := { maxStack := 1, maxLocals := 1, code := prog_7_method_15_code, exceptionTable := #[], attributes := #[] }
def k10m5 : Method := { name := "description", desc := "()Ljava/lang/String;", sig := { parameters := [], returnType := some (.object "java/lang/String") }, accessFlags := 1, code := some k10c5 }
def k10c6 : Code := { maxStack := 1, maxLocals := 1, code := prog_7_method_16_code, exceptionTable := #[], attributes := #[] }
def k10m6 : Method := { name := "required", desc := "()Z", sig := { parameters := [], returnType := some .boolean }, accessFlags := 1, code := some k10c6 }
def k10c7 : Code := { maxStack := 1, maxLocals := 1, code := prog_7_method_17_code, exceptionTable := #[], attributes := #[] }
def k10m7 : Method := { name := "byDefault", desc := "()Ljava/lang/String;", sig := { parameters := [], returnType := some (.object "java/lang/String") }, accessFlags := 1, code := some k10c7 }
def k10c8 : Code := { maxStack := 1, maxLocals := 1, code := prog_7_method_18_code, exceptionTable := #[], attributes := #[] }
def k10m8 : Method := { name := "repeated", desc := "()Z", sig := { parameters := [], returnType := some .boolean }, accessFlags := 1, code := some k10c8 }
/-- com/example/tallyhour/tallyhour/Command$Option -/
def k10 : Class := { plain "com/example/tallyhour/tallyhour/Command$Option" (some 9) with
  accessFlags := 48
  interfaces := #[]
  cf := some (fileOf pool10 8 #[.nestHost 41] #[{ accessFlags := 0, nameIndex := 5, descriptorIndex := 31, attributes := #[] }, { accessFlags := 8, nameIndex := 70, descriptorIndex := 69, attributes := #[] }, { accessFlags := 0, nameIndex := 34, descriptorIndex := 35, attributes := #[] }, { accessFlags := 1, nameIndex := 11, descriptorIndex := 52, attributes := #[] }, { accessFlags := 1, nameIndex := 15, descriptorIndex := 52, attributes := #[] }, { accessFlags := 1, nameIndex := 18, descriptorIndex := 52, attributes := #[] }, { accessFlags := 1, nameIndex := 21, descriptorIndex := 35, attributes := #[] }, { accessFlags := 1, nameIndex := 25, descriptorIndex := 52, attributes := #[] }, { accessFlags := 1, nameIndex := 28, descriptorIndex := 35, attributes := #[] }] 48 2 #[] #[{ accessFlags := 18, nameIndex := 11, descriptorIndex := 12, attributes := #[] }, { accessFlags := 18, nameIndex := 15, descriptorIndex := 12, attributes := #[] }, { accessFlags := 18, nameIndex := 18, descriptorIndex := 12, attributes := #[] }, { accessFlags := 18, nameIndex := 21, descriptorIndex := 22, attributes := #[] }, { accessFlags := 18, nameIndex := 25, descriptorIndex := 12, attributes := #[] }, { accessFlags := 18, nameIndex := 28, descriptorIndex := 22, attributes := #[] }])
  fields := #[{ name := "name", type := (.object "java/lang/String"), accessFlags := 18, slot := 0, constantValue := 0 }, { name := "label", type := (.object "java/lang/String"), accessFlags := 18, slot := 1, constantValue := 0 }, { name := "description", type := (.object "java/lang/String"), accessFlags := 18, slot := 2, constantValue := 0 }, { name := "required", type := .boolean, accessFlags := 18, slot := 3, constantValue := 0 }, { name := "byDefault", type := (.object "java/lang/String"), accessFlags := 18, slot := 4, constantValue := 0 }, { name := "repeated", type := .boolean, accessFlags := 18, slot := 5, constantValue := 0 }]
  methods := #[k10m0, k10m1, k10m2, k10m3, k10m4, k10m5, k10m6, k10m7, k10m8]
  instanceTypes := #[(.object "java/lang/String"), (.object "java/lang/String"), (.object "java/lang/String"), .boolean, (.object "java/lang/String"), .boolean]
  staticTypes := #[]
  resolved := Array.replicate 120 none
  statics := none }

def pool11 : Array CpInfo := pool [(4, .class_ 6), (1, u "java/lang/Object"), (0, u "<init>"), (0, u "()V"), (5, .class_ 16), (1, u "java/lang/StringLatin1"), (104, u "$assertionsDisabled"), (0, u "Z"), (98, .class_ 223), (1, u "java/lang/StringLatin1$LinesSpliterator"), (166, .class_ 391), (0, u "java/lang/StringLatin1$CharsSpliterator")] 3

def k11m0 : Method := { name := "<init>", desc := "()V", sig := { parameters := [], returnType := none }, accessFlags := 0, code := none }
/-- java/lang/StringLatin1 -/
def k11 : Class := { plain "java/lang/StringLatin1" (some 0) with
  accessFlags := 48
  interfaces := #[]
  cf := some (fileOf pool11 14 #[.nestMembers #[390, 221]] #[{ accessFlags := 0, nameIndex := 7, descriptorIndex := 8, attributes := #[] }] 48 4 #[] #[{ accessFlags := 4120, nameIndex := 121, descriptorIndex := 122, attributes := #[] }])
  fields := #[{ name := "$assertionsDisabled", type := .boolean, accessFlags := 4120, slot := 0, constantValue := 0 }]
  methods := #[k11m0]
  instanceTypes := #[]
  staticTypes := #[.boolean]
  resolved := Array.replicate 395 none
  statics := none }

def pool12 : Array CpInfo := pool [(2, .class_ 4), (1, u "java/lang/Object"), (0, u "<init>"), (0, u "()V"), (17, .class_ 26), (1, u "jdk/internal/util/Preconditions"), (28, .class_ 56), (0, u "jdk/internal/util/Preconditions$4"), (57, .class_ 115), (0, u "jdk/internal/util/Preconditions$1"), (7, u "SIOOBE_FORMATTER"), (0, u "Ljava/util/function/BiFunction;"), (0, .class_ 126), (0, u "jdk/internal/util/Preconditions$2"), (3, u "AIOOBE_FORMATTER"), (0, .class_ 132), (0, u "jdk/internal/util/Preconditions$3"), (3, u "IOOBE_FORMATTER")] 57

def k12m0 : Method := { name := "<init>", desc := "()V", sig := { parameters := [], returnType := none }, accessFlags := 1, code := none }
/-- jdk/internal/util/Preconditions -/
def k12 : Class := { plain "jdk/internal/util/Preconditions" (some 0) with
  accessFlags := 33
  interfaces := #[]
  cf := some (fileOf pool12 24 #[.nestMembers #[55, 131, 125, 114]] #[{ accessFlags := 1, nameIndex := 5, descriptorIndex := 6, attributes := #[] }] 33 2 #[] #[{ accessFlags := 25, nameIndex := 123, descriptorIndex := 124, attributes := #[] }, { accessFlags := 25, nameIndex := 130, descriptorIndex := 124, attributes := #[] }, { accessFlags := 25, nameIndex := 136, descriptorIndex := 124, attributes := #[] }])
  fields := #[{ name := "SIOOBE_FORMATTER", type := (.object "java/util/function/BiFunction"), accessFlags := 25, slot := 0, constantValue := 0 }, { name := "AIOOBE_FORMATTER", type := (.object "java/util/function/BiFunction"), accessFlags := 25, slot := 1, constantValue := 0 }, { name := "IOOBE_FORMATTER", type := (.object "java/util/function/BiFunction"), accessFlags := 25, slot := 2, constantValue := 0 }]
  methods := #[k12m0]
  instanceTypes := #[]
  staticTypes := #[(.object "java/util/function/BiFunction"), (.object "java/util/function/BiFunction"), (.object "java/util/function/BiFunction")]
  resolved := Array.replicate 194 none
  statics := some 1 }

def pool13 : Array CpInfo := pool [(9, u "<init>"), (6, .class_ 18), (1, u "java/lang/Object"), (0, u "()V"), (1, .class_ 23), (1, u "jdk/internal/util/ArraysSupport"), (0, u "LOG2_ARRAY_LONG_INDEX_SCALE"), (0, u "I"), (2, u "U"), (0, u "Ljdk/internal/misc/Unsafe;"), (8, u "BIG_ENDIAN"), (0, u "Z"), (8, u "LOG2_BYTE_BIT_SIZE"), (4, u "LOG2_ARRAY_INT_INDEX_SCALE"), (54, u "JLA"), (0, u "Ljdk/internal/access/JavaLangAccess;"), (11, u "LOG2_ARRAY_BOOLEAN_INDEX_SCALE"), (9, u "LOG2_ARRAY_BYTE_INDEX_SCALE"), (5, u "LOG2_ARRAY_CHAR_INDEX_SCALE"), (5, u "LOG2_ARRAY_SHORT_INDEX_SCALE"), (18, u "LOG2_ARRAY_FLOAT_INDEX_SCALE"), (24, u "LOG2_ARRAY_DOUBLE_INDEX_SCALE"), (89, u "T_BOOLEAN"), (2, u "T_CHAR"), (1, u "T_FLOAT"), (1, u "T_DOUBLE"), (1, u "T_BYTE"), (1, u "T_SHORT"), (1, u "T_INT"), (1, u "T_LONG"), (1, u "SOFT_MAX_ARRAY_LENGTH")] 83

def k13m0 : Method := { name := "<init>", desc := "()V", sig := { parameters := [], returnType := none }, accessFlags := 2, code := none }
/-- jdk/internal/util/ArraysSupport -/
def k13 : Class := { plain "jdk/internal/util/ArraysSupport" (some 0) with
  accessFlags := 33
  interfaces := #[]
  cf := some (fileOf pool13 21 #[] #[{ accessFlags := 2, nameIndex := 9, descriptorIndex := 19, attributes := #[] }] 33 16 #[] #[{ accessFlags := 24, nameIndex := 28, descriptorIndex := 29, attributes := #[] }, { accessFlags := 26, nameIndex := 38, descriptorIndex := 39, attributes := #[] }, { accessFlags := 25, nameIndex := 121, descriptorIndex := 25, attributes := #[] }, { accessFlags := 25, nameIndex := 131, descriptorIndex := 25, attributes := #[] }, { accessFlags := 25, nameIndex := 137, descriptorIndex := 25, attributes := #[] }, { accessFlags := 25, nameIndex := 143, descriptorIndex := 25, attributes := #[] }, { accessFlags := 25, nameIndex := 53, descriptorIndex := 25, attributes := #[] }, { accessFlags := 25, nameIndex := 24, descriptorIndex := 25, attributes := #[] }, { accessFlags := 25, nameIndex := 162, descriptorIndex := 25, attributes := #[] }, { accessFlags := 25, nameIndex := 187, descriptorIndex := 25, attributes := #[] }, { accessFlags := 26, nameIndex := 48, descriptorIndex := 25, attributes := #[] }, { accessFlags := 25, nameIndex := 277, descriptorIndex := 25, attributes := #[] }, { accessFlags := 25, nameIndex := 280, descriptorIndex := 25, attributes := #[] }, { accessFlags := 25, nameIndex := 282, descriptorIndex := 25, attributes := #[] }, { accessFlags := 25, nameIndex := 284, descriptorIndex := 25, attributes := #[] }, { accessFlags := 25, nameIndex := 286, descriptorIndex := 25, attributes := #[] }, { accessFlags := 25, nameIndex := 288, descriptorIndex := 25, attributes := #[] }, { accessFlags := 25, nameIndex := 290, descriptorIndex := 25, attributes := #[] }, { accessFlags := 25, nameIndex := 292, descriptorIndex := 25, attributes := #[] }, { accessFlags := 26, nameIndex := 108, descriptorIndex := 109, attributes := #[] }, { accessFlags := 25, nameIndex := 294, descriptorIndex := 25, attributes := #[] }])
  fields := #[{ name := "U", type := (.object "jdk/internal/misc/Unsafe"), accessFlags := 24, slot := 0, constantValue := 0 }, { name := "BIG_ENDIAN", type := .boolean, accessFlags := 26, slot := 1, constantValue := 0 }, { name := "LOG2_ARRAY_BOOLEAN_INDEX_SCALE", type := .int, accessFlags := 25, slot := 2, constantValue := 0 }, { name := "LOG2_ARRAY_BYTE_INDEX_SCALE", type := .int, accessFlags := 25, slot := 3, constantValue := 0 }, { name := "LOG2_ARRAY_CHAR_INDEX_SCALE", type := .int, accessFlags := 25, slot := 4, constantValue := 0 }, { name := "LOG2_ARRAY_SHORT_INDEX_SCALE", type := .int, accessFlags := 25, slot := 5, constantValue := 0 }, { name := "LOG2_ARRAY_INT_INDEX_SCALE", type := .int, accessFlags := 25, slot := 6, constantValue := 0 }, { name := "LOG2_ARRAY_LONG_INDEX_SCALE", type := .int, accessFlags := 25, slot := 7, constantValue := 0 }, { name := "LOG2_ARRAY_FLOAT_INDEX_SCALE", type := .int, accessFlags := 25, slot := 8, constantValue := 0 }, { name := "LOG2_ARRAY_DOUBLE_INDEX_SCALE", type := .int, accessFlags := 25, slot := 9, constantValue := 0 }, { name := "LOG2_BYTE_BIT_SIZE", type := .int, accessFlags := 26, slot := 10, constantValue := 0 }, { name := "T_BOOLEAN", type := .int, accessFlags := 25, slot := 11, constantValue := 0 }, { name := "T_CHAR", type := .int, accessFlags := 25, slot := 12, constantValue := 0 }, { name := "T_FLOAT", type := .int, accessFlags := 25, slot := 13, constantValue := 0 }, { name := "T_DOUBLE", type := .int, accessFlags := 25, slot := 14, constantValue := 0 }, { name := "T_BYTE", type := .int, accessFlags := 25, slot := 15, constantValue := 0 }, { name := "T_SHORT", type := .int, accessFlags := 25, slot := 16, constantValue := 0 }, { name := "T_INT", type := .int, accessFlags := 25, slot := 17, constantValue := 0 }, { name := "T_LONG", type := .int, accessFlags := 25, slot := 18, constantValue := 0 }, { name := "JLA", type := (.object "jdk/internal/access/JavaLangAccess"), accessFlags := 26, slot := 19, constantValue := 0 }, { name := "SOFT_MAX_ARRAY_LENGTH", type := .int, accessFlags := 25, slot := 20, constantValue := 0 }]
  methods := #[k13m0]
  instanceTypes := #[]
  staticTypes := #[(.object "jdk/internal/misc/Unsafe"), .boolean, .int, .int, .int, .int, .int, .int, .int, .int, .int, .int, .int, .int, .int, .int, .int, .int, .int, (.object "jdk/internal/access/JavaLangAccess"), .int]
  resolved := Array.replicate 378 none
  statics := none }

def pool14 : Array CpInfo := pool [(1, u "java/lang/Cloneable"), (0, .class_ 1), (0, u "java/lang/Object"), (0, .class_ 3)] 3

/-- java/lang/Cloneable -/
def k14 : Class := { plain "java/lang/Cloneable" (some 0) with
  accessFlags := 1537
  interfaces := #[]
  cf := some (fileOf pool14 2 #[] #[] 1537 4 #[] #[])
  fields := #[]
  methods := #[]
  instanceTypes := #[]
  staticTypes := #[]
  resolved := Array.replicate 8 none
  statics := none }

/-- the primitive byte -/
def k15 : Class := { plain "byte" none with kind := .primitive 'B', accessFlags := 0x411 }
/-- [B -/
def k16 : Class := { plain "[B" (some 0) with kind := .array 15 .byte, interfaces := #[14, 2], accessFlags := 1041 }

/-- the primitive char -/
def k17 : Class := { plain "char" none with kind := .primitive 'C', accessFlags := 0x411 }
/-- [C -/
def k18 : Class := { plain "[C" (some 0) with kind := .array 17 .char, interfaces := #[14, 2], accessFlags := 1041 }

/-- the primitive int -/
def k19 : Class := { plain "int" none with kind := .primitive 'I', accessFlags := 0x411 }
/-- [I -/
def k20 : Class := { plain "[I" (some 0) with kind := .array 19 .int, interfaces := #[14, 2], accessFlags := 1041 }

def heap : Heap := #[{ cls := 7, slots := #[.long 0, .int 1, .null, .int 0, .null, .int 0, .int 0], vm := .statics 7 },
  { cls := 12, slots := #[.null, .null, .null], vm := .statics 12 }]
def classes : Array Class := #[k0, k1, k2, k3, k4, k5, k6, k7, k8, k9, k10, k11, k12, k13, k14, k15, k16, k17, k18, k19, k20]
def interned : List (Array UInt16 × Addr) := []
def slotsUsed : Nat := 10
def theMethod : MethodId := ⟨1, 2⟩
def args0 : Array Value := #[.int 3, .int 5, .int 6, .int 7]
def aboutOver (below : List Frame) : State where
  vm := { classes := classes, interned := interned.toArray }
  heap := heap
  slotsUsed := slotsUsed
  threads := #[{ frames := .invoking theMethod args0 :: below }]
def below0 : List Frame := [.native { method := ⟨0, 0⟩, args := #[] }]
def about1 : State := aboutOver below0
def p0 : Program := .bare "" "" ""
def e0 : Env := launch0.env 0 0 0
theorem w_frames : about1.frames = Frame.invoking theMethod args0 :: below0 := rfl
set_option maxRecDepth 65536 in
theorem w_args : argsFit about1.vm theMethod args0 = true := by decide +kernel
set_option maxRecDepth 65536 in
theorem w_heap : heapFits about1 = true := by decide +kernel
set_option maxRecDepth 65536 in
theorem w_runnable : about1.curStatus? = some .runnable := by decide +kernel
set_option maxRecDepth 65536 in
theorem w_alone : about1.alone = true := by decide +kernel
set_option maxRecDepth 65536 in
theorem w_named : about1.methodNamed? x = some theMethod := by decide +kernel
set_option maxRecDepth 65536 in
theorem w_hears : about1.hears theMethod below0 = true := by decide +kernel
set_option maxRecDepth 65536 in
theorem w_ripe : about1.ripe theMethod args0 below0 = true := by decide +kernel
theorem w_running : about1.status = .running := rfl
set_option maxRecDepth 65536 in
theorem w_room : about1.hasRoom e0.platform room_1 = true :=
  launch0.hasRoom_least _ room_1 (by decide +kernel) (by decide +kernel) (by decide +kernel) (by decide +kernel) (by decide +kernel) (by decide +kernel)
theorem allAtoms_all (ts : List Jvm.Cond) (a : Array Jvm.Value) (st : Jvm.State) : (allAtoms ts).before a st = ts.all (fun c => c.before a st) := by
  induction ts with
  | nil => rfl
  | cons c t ih =>
    show (Jvm.Cond.and c (allAtoms t)).before a st = _
    rw [Jvm.Cond.before_and, ih, List.all_cons]
def words1 : List Jvm.Cond := Jvm.Cond.code x code maxLocals ret :: tables_1
/-- a 'code' word, met by the world's own term for the bytes: nothing is compared byte by byte -/
theorem code_word {y : MethodName} {bytes : ByteArray} {mx : Nat} {rt : Option FieldType} {a : Array Value} {s : State} {m : MethodId} {meth : Method} {c : Code} (h1 : s.methodNamed? y = some m) (h2 : s.vm.method? m = some meth) (h3 : meth.code = some c) (h4 : c.code = bytes)
    (h5 : (c.maxLocals == mx && c.exceptionTable.isEmpty && decide (c.maxStack ≤ mostOperands) && decide (meth.sig.returnType = rt) && !meth.locks && decide (parseMethodDescriptor y.desc = some meth.sig)) = true) : (Jvm.Cond.code y bytes mx rt).before a s = true := by
  simp only [Bool.and_eq_true, beq_iff_eq, Bool.not_eq_true', decide_eq_true_eq] at h5
  obtain ⟨⟨⟨⟨⟨g1, g2⟩, g3⟩, g4⟩, g5⟩, g6⟩ := h5
  simp [Cond.before, Cond.holds, Cond.value, h1, h2, h3, h4, g1, g2, g3, g4, g5, g6]
def isCode : Jvm.Cond → Bool
  | .code _ _ _ _ => true
  | _ => false
theorem all_split {L : List Jvm.Cond} {P : Jvm.Cond → Bool} (h1 : L.all (fun c => isCode c || P c) = true) (h2 : ∀ c ∈ L.filter isCode, P c = true) : L.all P = true := by
  refine List.all_eq_true.mpr fun c hc => ?_
  have h := List.all_eq_true.mp h1 c hc
  rcases Bool.eq_false_or_eq_true (isCode c) with hi | hi
  · exact h2 c (List.mem_filter.mpr ⟨hc, hi⟩)
  · simpa [hi] using h
set_option maxRecDepth 65536 in
theorem w_c0 : (Jvm.Cond.code x code maxLocals ret).before args0 about1 = true := code_word (m := ⟨1, 2⟩) (meth := k1m2) (c := k1c2) (by decide +kernel) rfl rfl rfl (by decide +kernel)
set_option maxRecDepth 65536 in
theorem w_c1 : (Jvm.Cond.code ({ cls := "com/example/tallyhour/tallyhour/OptionOptionalPinLaw", name := "str", desc := "(I)Ljava/lang/String;" } : Jvm.MethodName) method_2_code (4 : Nat) (Option.some (Jvm.ClassFile.FieldType.object "java/lang/String"))).before args0 about1 = true := code_word (m := ⟨1, 1⟩) (meth := k1m1) (c := k1c1) (by decide +kernel) rfl rfl rfl (by decide +kernel)
set_option maxRecDepth 65536 in
theorem w_c2 : (Jvm.Cond.code ({ cls := "java/lang/String", name := "<init>", desc := "([C)V" } : Jvm.MethodName) jdk_42_method_3_code (2 : Nat) (Option.none : Option Jvm.ClassFile.FieldType)).before args0 about1 = true := code_word (m := ⟨7, 1⟩) (meth := k7m1) (c := k7c1) (by decide +kernel) rfl rfl rfl (by decide +kernel)
set_option maxRecDepth 65536 in
theorem w_c3 : (Jvm.Cond.code ({ cls := "java/lang/String", name := "<init>", desc := "([CIILjava/lang/Void;)V" } : Jvm.MethodName) jdk_42_method_149_code (6 : Nat) (Option.none : Option Jvm.ClassFile.FieldType)).before args0 about1 = true := code_word (m := ⟨7, 2⟩) (meth := k7m2) (c := k7c2) (by decide +kernel) rfl rfl rfl (by decide +kernel)
set_option maxRecDepth 65536 in
theorem w_c4 : (Jvm.Cond.code ({ cls := "java/lang/Object", name := "<init>", desc := "()V" } : Jvm.MethodName) object_method_1_code (1 : Nat) (Option.none : Option Jvm.ClassFile.FieldType)).before args0 about1 = true := code_word (m := ⟨0, 0⟩) (meth := k0m0) (c := k0c0) (by decide +kernel) rfl rfl rfl (by decide +kernel)
set_option maxRecDepth 65536 in
theorem w_c5 : (Jvm.Cond.code ({ cls := "java/lang/StringUTF16", name := "compress", desc := "([CII)[B" } : Jvm.MethodName) jdk_52_method_16_code (6 : Nat) (Option.some (Jvm.ClassFile.FieldType.array Jvm.ClassFile.FieldType.byte))).before args0 about1 = true := code_word (m := ⟨8, 2⟩) (meth := k8m2) (c := k8c2) (by decide +kernel) rfl rfl rfl (by decide +kernel)
set_option maxRecDepth 65536 in
theorem w_c6 : (Jvm.Cond.code ({ cls := "java/lang/StringUTF16", name := "compress", desc := "([CI[BII)I" } : Jvm.MethodName) jdk_52_method_21_code (7 : Nat) (Option.some Jvm.ClassFile.FieldType.int)).before args0 about1 = true := code_word (m := ⟨8, 3⟩) (meth := k8m3) (c := k8c3) (by decide +kernel) rfl rfl rfl (by decide +kernel)
set_option maxRecDepth 65536 in
theorem w_c7 : (Jvm.Cond.code ({ cls := "java/lang/StringUTF16", name := "coderFromArrayLen", desc := "([BI)B" } : Jvm.MethodName) jdk_52_method_15_code (2 : Nat) (Option.some Jvm.ClassFile.FieldType.byte)).before args0 about1 = true := code_word (m := ⟨8, 1⟩) (meth := k8m1) (c := k8c1) (by decide +kernel) rfl rfl rfl (by decide +kernel)
set_option maxRecDepth 65536 in
theorem w_c8 : (Jvm.Cond.code ({ cls := "com/example/tallyhour/tallyhour/Command$Option", name := "optional", desc := "(Ljava/lang/String;Ljava/lang/String;Ljava/lang/String;)Lcom/example/tallyhour/tallyhour/Command$Option;" } : Jvm.MethodName) prog_7_method_3_code (3 : Nat) (Option.some (Jvm.ClassFile.FieldType.object "com/example/tallyhour/tallyhour/Command$Option"))).before args0 about1 = true := code_word (m := ⟨10, 1⟩) (meth := k10m1) (c := k10c1) (by decide +kernel) rfl rfl rfl (by decide +kernel)
set_option maxRecDepth 65536 in
theorem w_c9 : (Jvm.Cond.code ({ cls := "com/example/tallyhour/tallyhour/Command$Option", name := "<init>", desc := "(Ljava/lang/String;Ljava/lang/String;Ljava/lang/String;ZLjava/lang/String;Z)V" } : Jvm.MethodName) prog_7_method_1_code (7 : Nat) (Option.none : Option Jvm.ClassFile.FieldType)).before args0 about1 = true := code_word (m := ⟨10, 0⟩) (meth := k10m0) (c := k10c0) (by decide +kernel) rfl rfl rfl (by decide +kernel)
set_option maxRecDepth 65536 in
theorem w_c10 : (Jvm.Cond.code ({ cls := "java/lang/Record", name := "<init>", desc := "()V" } : Jvm.MethodName) jdk_30_method_1_code (1 : Nat) (Option.none : Option Jvm.ClassFile.FieldType)).before args0 about1 = true := code_word (m := ⟨9, 0⟩) (meth := k9m0) (c := k9c0) (by decide +kernel) rfl rfl rfl (by decide +kernel)
set_option maxRecDepth 65536 in
theorem w_c11 : (Jvm.Cond.code ({ cls := "com/example/tallyhour/tallyhour/Command$Option", name := "name", desc := "()Ljava/lang/String;" } : Jvm.MethodName) prog_7_method_13_code (1 : Nat) (Option.some (Jvm.ClassFile.FieldType.object "java/lang/String"))).before args0 about1 = true := code_word (m := ⟨10, 3⟩) (meth := k10m3) (c := k10c3) (by decide +kernel) rfl rfl rfl (by decide +kernel)
set_option maxRecDepth 65536 in
theorem w_c12 : (Jvm.Cond.code ({ cls := "com/example/tallyhour/tallyhour/Command$Option", name := "label", desc := "()Ljava/lang/String;" } : Jvm.MethodName) prog_7_method_14_code (1 : Nat) (Option.some (Jvm.ClassFile.FieldType.object "java/lang/String"))).before args0 about1 = true := code_word (m := ⟨10, 4⟩) (meth := k10m4) (c := k10c4) (by decide +kernel) rfl rfl rfl (by decide +kernel)
set_option maxRecDepth 65536 in
theorem w_c13 : (Jvm.Cond.code ({ cls := "com/example/tallyhour/tallyhour/Command$Option", name := "description", desc := "()Ljava/lang/String;" } : Jvm.MethodName) prog_7_method_15_code (1 : Nat) (Option.some (Jvm.ClassFile.FieldType.object "java/lang/String"))).before args0 about1 = true := code_word (m := ⟨10, 5⟩) (meth := k10m5) (c := k10c5) (by decide +kernel) rfl rfl rfl (by decide +kernel)
set_option maxRecDepth 65536 in
theorem w_c14 : (Jvm.Cond.code ({ cls := "com/example/tallyhour/tallyhour/Command$Option", name := "required", desc := "()Z" } : Jvm.MethodName) prog_7_method_16_code (1 : Nat) (Option.some Jvm.ClassFile.FieldType.boolean)).before args0 about1 = true := code_word (m := ⟨10, 6⟩) (meth := k10m6) (c := k10c6) (by decide +kernel) rfl rfl rfl (by decide +kernel)
set_option maxRecDepth 65536 in
theorem w_c15 : (Jvm.Cond.code ({ cls := "com/example/tallyhour/tallyhour/Command$Option", name := "byDefault", desc := "()Ljava/lang/String;" } : Jvm.MethodName) prog_7_method_17_code (1 : Nat) (Option.some (Jvm.ClassFile.FieldType.object "java/lang/String"))).before args0 about1 = true := code_word (m := ⟨10, 7⟩) (meth := k10m7) (c := k10c7) (by decide +kernel) rfl rfl rfl (by decide +kernel)
set_option maxRecDepth 65536 in
theorem w_c16 : (Jvm.Cond.code ({ cls := "com/example/tallyhour/tallyhour/Command$Option", name := "repeated", desc := "()Z" } : Jvm.MethodName) prog_7_method_18_code (1 : Nat) (Option.some Jvm.ClassFile.FieldType.boolean)).before args0 about1 = true := code_word (m := ⟨10, 8⟩) (meth := k10m8) (c := k10c8) (by decide +kernel) rfl rfl rfl (by decide +kernel)
set_option maxRecDepth 65536 in
theorem w_c17 : (Jvm.Cond.code ({ cls := "com/example/tallyhour/tallyhour/Command$Option", name := "isFlag", desc := "()Z" } : Jvm.MethodName) prog_7_method_7_code (1 : Nat) (Option.some Jvm.ClassFile.FieldType.boolean)).before args0 about1 = true := code_word (m := ⟨10, 2⟩) (meth := k10m2) (c := k10c2) (by decide +kernel) rfl rfl rfl (by decide +kernel)
def codes1 : List Jvm.Cond := [Jvm.Cond.code x code maxLocals ret, Jvm.Cond.code ({ cls := "com/example/tallyhour/tallyhour/OptionOptionalPinLaw", name := "str", desc := "(I)Ljava/lang/String;" } : Jvm.MethodName) method_2_code (4 : Nat) (Option.some (Jvm.ClassFile.FieldType.object "java/lang/String")), Jvm.Cond.code ({ cls := "java/lang/String", name := "<init>", desc := "([C)V" } : Jvm.MethodName) jdk_42_method_3_code (2 : Nat) (Option.none : Option Jvm.ClassFile.FieldType), Jvm.Cond.code ({ cls := "java/lang/String", name := "<init>", desc := "([CIILjava/lang/Void;)V" } : Jvm.MethodName) jdk_42_method_149_code (6 : Nat) (Option.none : Option Jvm.ClassFile.FieldType), Jvm.Cond.code ({ cls := "java/lang/Object", name := "<init>", desc := "()V" } : Jvm.MethodName) object_method_1_code (1 : Nat) (Option.none : Option Jvm.ClassFile.FieldType), Jvm.Cond.code ({ cls := "java/lang/StringUTF16", name := "compress", desc := "([CII)[B" } : Jvm.MethodName) jdk_52_method_16_code (6 : Nat) (Option.some (Jvm.ClassFile.FieldType.array Jvm.ClassFile.FieldType.byte)), Jvm.Cond.code ({ cls := "java/lang/StringUTF16", name := "compress", desc := "([CI[BII)I" } : Jvm.MethodName) jdk_52_method_21_code (7 : Nat) (Option.some Jvm.ClassFile.FieldType.int), Jvm.Cond.code ({ cls := "java/lang/StringUTF16", name := "coderFromArrayLen", desc := "([BI)B" } : Jvm.MethodName) jdk_52_method_15_code (2 : Nat) (Option.some Jvm.ClassFile.FieldType.byte), Jvm.Cond.code ({ cls := "com/example/tallyhour/tallyhour/Command$Option", name := "optional", desc := "(Ljava/lang/String;Ljava/lang/String;Ljava/lang/String;)Lcom/example/tallyhour/tallyhour/Command$Option;" } : Jvm.MethodName) prog_7_method_3_code (3 : Nat) (Option.some (Jvm.ClassFile.FieldType.object "com/example/tallyhour/tallyhour/Command$Option")), Jvm.Cond.code ({ cls := "com/example/tallyhour/tallyhour/Command$Option", name := "<init>", desc := "(Ljava/lang/String;Ljava/lang/String;Ljava/lang/String;ZLjava/lang/String;Z)V" } : Jvm.MethodName) prog_7_method_1_code (7 : Nat) (Option.none : Option Jvm.ClassFile.FieldType), Jvm.Cond.code ({ cls := "java/lang/Record", name := "<init>", desc := "()V" } : Jvm.MethodName) jdk_30_method_1_code (1 : Nat) (Option.none : Option Jvm.ClassFile.FieldType), Jvm.Cond.code ({ cls := "com/example/tallyhour/tallyhour/Command$Option", name := "name", desc := "()Ljava/lang/String;" } : Jvm.MethodName) prog_7_method_13_code (1 : Nat) (Option.some (Jvm.ClassFile.FieldType.object "java/lang/String")), Jvm.Cond.code ({ cls := "com/example/tallyhour/tallyhour/Command$Option", name := "label", desc := "()Ljava/lang/String;" } : Jvm.MethodName) prog_7_method_14_code (1 : Nat) (Option.some (Jvm.ClassFile.FieldType.object "java/lang/String")), Jvm.Cond.code ({ cls := "com/example/tallyhour/tallyhour/Command$Option", name := "description", desc := "()Ljava/lang/String;" } : Jvm.MethodName) prog_7_method_15_code (1 : Nat) (Option.some (Jvm.ClassFile.FieldType.object "java/lang/String")), Jvm.Cond.code ({ cls := "com/example/tallyhour/tallyhour/Command$Option", name := "required", desc := "()Z" } : Jvm.MethodName) prog_7_method_16_code (1 : Nat) (Option.some Jvm.ClassFile.FieldType.boolean), Jvm.Cond.code ({ cls := "com/example/tallyhour/tallyhour/Command$Option", name := "byDefault", desc := "()Ljava/lang/String;" } : Jvm.MethodName) prog_7_method_17_code (1 : Nat) (Option.some (Jvm.ClassFile.FieldType.object "java/lang/String")), Jvm.Cond.code ({ cls := "com/example/tallyhour/tallyhour/Command$Option", name := "repeated", desc := "()Z" } : Jvm.MethodName) prog_7_method_18_code (1 : Nat) (Option.some Jvm.ClassFile.FieldType.boolean), Jvm.Cond.code ({ cls := "com/example/tallyhour/tallyhour/Command$Option", name := "isFlag", desc := "()Z" } : Jvm.MethodName) prog_7_method_7_code (1 : Nat) (Option.some Jvm.ClassFile.FieldType.boolean)]
set_option maxRecDepth 65536 in
theorem codes_eq : words1.filter isCode = codes1 := rfl
theorem w_codes : ∀ c ∈ words1.filter isCode, c.before args0 about1 = true := by
  rw [codes_eq]
  intro c hc
  simp only [codes1, List.mem_cons, List.not_mem_nil, or_false] at hc
  rcases hc with rfl | rfl | rfl | rfl | rfl | rfl | rfl | rfl | rfl | rfl | rfl | rfl | rfl | rfl | rfl | rfl | rfl | rfl
  · exact w_c0
  · exact w_c1
  · exact w_c2
  · exact w_c3
  · exact w_c4
  · exact w_c5
  · exact w_c6
  · exact w_c7
  · exact w_c8
  · exact w_c9
  · exact w_c10
  · exact w_c11
  · exact w_c12
  · exact w_c13
  · exact w_c14
  · exact w_c15
  · exact w_c16
  · exact w_c17
set_option maxRecDepth 65536 in
theorem w_t1 : (words1.take 24).all (fun c => isCode c || c.before args0 about1) = true := by decide +kernel
set_option maxRecDepth 65536 in
theorem w_t2 : ((words1.drop 24).take 24).all (fun c => isCode c || c.before args0 about1) = true := by decide +kernel
set_option maxRecDepth 65536 in
theorem w_t3 : (((words1.drop 24).drop 24).take 24).all (fun c => isCode c || c.before args0 about1) = true := by decide +kernel
set_option maxRecDepth 65536 in
theorem w_t4 : ((((words1.drop 24).drop 24).drop 24).take 24).all (fun c => isCode c || c.before args0 about1) = true := by decide +kernel
set_option maxRecDepth 65536 in
theorem w_t5 : ((((words1.drop 24).drop 24).drop 24).drop 24).all (fun c => isCode c || c.before args0 about1) = true := by decide +kernel
theorem w_tables : (allAtoms (Jvm.Cond.code x code maxLocals ret :: tables_1)).before args0 about1 = true := by
  rw [allAtoms_all]
  show words1.all (fun c => c.before args0 about1) = true
  refine all_split ?_ w_codes
  rw [← List.take_append_drop 24 words1, List.all_append, w_t1, ← List.take_append_drop 24 (words1.drop 24), List.all_append, w_t2, ← List.take_append_drop 24 ((words1.drop 24).drop 24), List.all_append, w_t3, ← List.take_append_drop 24 (((words1.drop 24).drop 24).drop 24), List.all_append, w_t4, w_t5]
  rfl
set_option maxRecDepth 65536 in
theorem w_rest : rest_1_c.before args0 about1 = true := by decide +kernel
set_option maxRecDepth 65536 in
theorem w_case : (Jvm.Cond.and given_1 narrow_1).before args0 about1 = true := by decide +kernel
set_option maxRecDepth 65536 in
theorem w_consts : constsHeld consts_1 about1 := Jvm.Lit.constsHeldB_iff.mp (by decide +kernel)
theorem w_applies : (headSpec (Jvm.Cond.code x code maxLocals ret :: tables_1) room_1).applies x e0.platform about1 = true :=
  (Spec.applies_iff w_frames).mpr ⟨w_running, w_runnable, w_alone, w_named, w_hears, w_ripe, w_room, w_tables⟩
theorem atStart : AtStart classFile x code maxLocals ret World_1 tables_1 room_1 Calls_1 rest_1 Pre_1 launch0 p0 e0 about1 theMethod args0 below0 :=
  ⟨lists_1, trivial, launch0.admits_env _ _ _, launch0.least_env, fairChoices_fair.cas, fairChoices_fair.clock, w_frames, w_args, w_heap, w_applies, ⟨w_consts, trivial⟩, w_rest, w_case⟩
end start1
theorem witness_1 : WitnessClaimed_1 := ⟨start1.p0, start1.e0, start1.about1, start1.theMethod, start1.args0, start1.below0, start1.atStart⟩
end Jvm.Pilot.@@N@@
