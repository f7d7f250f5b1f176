import JvmDerived
import JvmDerived.Pilot.@@N@@Statement
import JvmDerived.Pilot.@@N@@Code
set_option linter.unusedVariables false
set_option linter.unusedSimpArgs false
@@BLOCK:TracedD.lean.txt@@
namespace Jvm.Own
open Jvm Jvm.ClassFile Sem Op Lib Jvm.Free Jvm.Stand Jvm.LawKit Jvm.RoadKit Bundle
/-! OWN LAYER: a wp-style reading of RoadKit's laws. V: the case's view (start state, start arguments, the literals that are held, narrow or wide, the launch). B: a body (name, bytes, max locals, return type, room). K: one invocation. -/
abbrev Vw : Type := State × Array Value × List (String × Nat) × Bool × Launch
abbrev Vw.Z (V : Vw) : State := V.1
abbrev Vw.a0 (V : Vw) : Array Value := V.2.1
abbrev Vw.EL (V : Vw) : List (String × Nat) := V.2.2.1
abbrev Vw.nar (V : Vw) : Bool := V.2.2.2.1
abbrev Vw.l (V : Vw) : Launch := V.2.2.2.2
abbrev Bx : Type := MethodName × ByteArray × Nat × Option FieldType × Room
abbrev Bx.y (B : Bx) : MethodName := B.1
abbrev Bx.code (B : Bx) : ByteArray := B.2.1
abbrev Bx.ml (B : Bx) : Nat := B.2.2.1
abbrev Bx.ret (B : Bx) : Option FieldType := B.2.2.2.1
abbrev Bx.R (B : Bx) : Room := B.2.2.2.2
abbrev Cx : Type := Program × Env × State × MethodId × Array Value × List Frame × Method × Code
abbrev Cx.p (K : Cx) : Program := K.1
abbrev Cx.e (K : Cx) : Env := K.2.1
abbrev Cx.s (K : Cx) : State := K.2.2.1
abbrev Cx.m (K : Cx) : MethodId := K.2.2.2.1
abbrev Cx.args (K : Cx) : Array Value := K.2.2.2.2.1
abbrev Cx.below (K : Cx) : List Frame := K.2.2.2.2.2.1
abbrev Cx.meth (K : Cx) : Method := K.2.2.2.2.2.2.1
abbrev Cx.c (K : Cx) : Code := K.2.2.2.2.2.2.2
abbrev Qt : Type := Option Value → Heap → List Addr → Prop
def ushr (x y : Int32) : Int32 := (x.toUInt32 >>> (y &&& 31).toUInt32).toInt32
def ushrL (x : Int64) (y : Int32) : Int64 := (x.toUInt64 >>> (y &&& 0x3f).toInt64.toUInt64).toInt64
def Fx (K : Cx) (B : Bx) : Prop := K.p.tables.exec = Jvm.exec ∧ K.c.code = B.code ∧ K.c.maxLocals = B.ml ∧ K.meth.sig.returnType = B.ret ∧ K.meth.locks = false ∧ K.meth.name = B.y.name
def Sf (V : Vw) (vm : Vm) (h : Heap) (ps : List Addr) : Prop := ∀ x ∈ ps, x < h.size ∧ Safe V.Z V.EL vm h x
def Std (V : Vw) (K : Cx) (B : Bx) (T : State) (h : Heap) (ps : List Addr) (cs sl : Nat) : Prop :=
  ∃ (locs : List Loc) (vm0 : Vm) (k0 : Nat), Stand K.p V.l K.e B.R (K.s.setVm vm0) K.m K.args K.below K.meth K.c T locs cs sl ∧ T.heap = h ∧ V.Z.Warmed39 vm0 ∧ vm0.findClass B.y.cls = some K.m.cls ∧ K.s.Since vm0 k0 ∧ k0 ≤ h.size ∧
    Fr V.Z.heap.size locs ∧ Ext V.Z.heap h ∧ CHr V.Z V.EL K.s.vm K.s.heap vm0 h ∧ Sf V vm0 h ps ∧ EW V.Z V.a0 V.EL ∧ (V.nar = true → vm0 = K.s.vm ∧ V.EL = []) ∧ Fx K B
def Fnl (V : Vw) (K : Cx) (B : Bx) (Q : Qt) (o : Outcome) (t : State) : Prop :=
  ∃ (v : Option Value) (L : List Loc) (ps : List Addr), o = .returned v ∧ Fr V.Z.heap.size L ∧ Q v t.heap ps ∧ Ext V.Z.heap t.heap ∧ Sf V t.vm t.heap ps ∧ CHr V.Z V.EL K.s.vm K.s.heap t.vm t.heap ∧
    ReturnedEndW K.s o t L B.R.cells B.R.slots ∧ (V.nar = true → FrameEnd K.s o t L B.R.cells B.R.slots)
def Run (V : Vw) (K : Cx) (B : Bx) (Q : Qt) (h : Heap) (ps : List Addr) (cs sl pc : Nat) (L : List Slot) (S : List Value) : Prop :=
  ∀ T, Std V K B T h ps cs sl → ∃ t o, Steps K.p.tables K.e K.below (T.setTop (mkF K.m pc L.toArray S)) t ∧ t.status = .running ∧ Ended t K.below o ∧ Fnl V K B Q o t
/-- the contract of a body, at one heap and for one row of arguments -/
def Con (V : Vw) (B : Bx) (as' : Array Value) (h0 : Heap) (ps : List Addr) (Q : Qt) : Prop :=
  EW V.Z V.a0 V.EL → Ext V.Z.heap h0 → (V.nar = true → V.EL = []) → ∀ ws, MetFree V.l B.y (head1 (Jvm.Cond.code B.y B.code B.ml B.ret :: ws) B.R)
    (fun a U => a = as' ∧ V.Z.Warmed39 U.vm ∧ U.heap = h0 ∧ CHv V.Z V.EL U.vm h0 ∧ Sf V U.vm h0 ps) (fun _ _ _ _ _ => True)
    (fun _ U o U' => ∃ (v : Option Value) (L : List Loc) (ps' : List Addr), o = .returned v ∧ Fr V.Z.heap.size L ∧ Q v U'.heap ps' ∧ Ext V.Z.heap U'.heap ∧ Sf V U'.vm U'.heap ps' ∧ CHr V.Z V.EL U.vm U.heap U'.vm U'.heap ∧
      ReturnedEndW U o U' L B.R.cells B.R.slots ∧ (V.nar = true → FrameEnd U o U' L B.R.cells B.R.slots))
/-- what a call of y gives in the invocation K of B -/
def PreP (B : Bx) (as' : Array Value) (h : Heap) (nc ns : Nat) : Pt → Array Value → Prop := fun A a => a = as' ∧ A.U.heap = h ∧ A.cells + nc ≤ B.R.cells ∧ A.slots + ns ≤ B.R.slots
def PostP (V : Vw) (vm0 : Vm) (h : Heap) (nc ns : Nat) (Q : Qt) : Pt → Array Value → Option Value → Pt → Prop := fun A _ v C =>
  ∃ (L : List Loc) (ps : List Addr), Fr V.Z.heap.size L ∧ Q v C.U.heap ps ∧ Ext V.Z.heap C.U.heap ∧ h.size ≤ C.U.heap.size ∧ Sf V C.U.vm C.U.heap ps ∧ C.locs = A.locs ++ L ∧ C.cells = A.cells + nc ∧ C.slots = A.slots + ns ∧ CHr V.Z V.EL vm0 h C.U.vm C.U.heap
def Pays (V : Vw) (K : Cx) (B : Bx) (y : MethodName) (len W : Nat) (as' : Array Value) (h : Heap) (ps : List Addr) (nc ns : Nat) (Q : Qt) : Prop :=
  ∀ vm0, V.Z.Warmed39 vm0 → CHv V.Z V.EL vm0 h → Sf V vm0 h ps → EW V.Z V.a0 V.EL → Ext V.Z.heap h → (V.nar = true → V.EL = []) →
    (V.nar = true → Back V.l B.R K.p K.e K.below (K.s.setVm vm0) K.args y len W (PreP B as' h nc ns) (PostP V vm0 h nc ns Q)) ∧
    (V.nar = false → BackS V.l B.R K.p K.e K.below (K.s.setVm vm0) K.args y len W (PreP B as' h nc ns) (PostP V vm0 h nc ns Q))
theorem ltN {a n : Nat} (h : a < n) : a < n := h
theorem leN {a n : Nat} (h : a ≤ n) : a ≤ n := h
theorem neN {a b : Nat} (h : a ≠ b) : a < b ∨ b < a := Nat.lt_or_gt_of_ne h
theorem neA {a b : Nat} (h : a < b ∨ b < a) : a ≠ b := fun e => by omega
theorem leA {a b : Nat} (h : a ≤ b) : a ≤ b := h
theorem wd {V : Vw} {Ls : List Jvm.Cond} (hw : ∀ d ∈ Ls, d.before V.a0 V.Z = true) (i : Nat) {d : Jvm.Cond} (h : Ls[i]? = some d) : d.before V.a0 V.Z = true := hw d (List.mem_of_getElem? h)
section Basics
variable {V : Vw} {K : Cx} {B : Bx} {Q : Qt} {T : State} {h h' : Heap} {ps ps' : List Addr} {cs sl pc : Nat} {L : List Slot} {S : List Value}
theorem Sf.nil {vm : Vm} : Sf V vm h [] := fun _ q => nomatch q
theorem Sf.cons {vm : Vm} {x : Addr} (a : x < h.size) (b : Safe V.Z V.EL vm h x) (c : Sf V vm h ps) : Sf V vm h (x :: ps) := fun y q => by
  rcases List.mem_cons.mp q with rfl | q
  · exact ⟨a, b⟩
  · exact c y q
theorem Sf.app {vm : Vm} (c : Sf V vm h ps) (d : Sf V vm h ps') : Sf V vm h (ps ++ ps') := fun y q => (List.mem_append.mp q).elim (c y) (d y)
theorem Sf.sub {vm : Vm} (c : Sf V vm h ps) (d : ∀ x ∈ ps', x ∈ ps) : Sf V vm h ps' := fun y q => c y (d y q)
theorem Sf.go {vm vm1 : Vm} (c : Sf V vm h ps) (A : CHr V.Z V.EL vm h vm1 h') : Sf V vm1 h' ps := fun y q => ⟨Nat.lt_of_lt_of_le (c y q).1 A.2.1, A.safe (c y q).1 (c y q).2⟩
theorem chr0 {Z : State} {vm vm1 : Vm} (q : h.size ≤ h'.size) : CHr Z [] vm h vm1 h' := ⟨(fun _ hp => nomatch hp), q, (fun _ z => by obtain ⟨_, hp, _⟩ := z; exact nomatch hp)⟩
theorem oldWr {Z : State} {a : Addr} {j : Nat} {v : Value} (O : Ext Z.heap h) (W : Wr h h' a j v) (q : Z.heap.size ≤ a) : Ext Z.heap h' := (Old.wr (show Old Z Z.heap.size h from ⟨rfl, O⟩) W q).2
theorem oldKeep {Z : State} {ws : List Addr} (O : Ext Z.heap h) (W : Keep h h' ws) (q : ∀ x ∈ ws, Z.heap.size ≤ x) : Ext Z.heap h' := (Old.keep (show Old Z Z.heap.size h from ⟨rfl, O⟩) W q).2
theorem Ext.trans' {h1 h2 h3 : Heap} (A : Ext h1 h2) (C : Ext h2 h3) : Ext h1 h3 := ⟨Nat.le_trans A.1 C.1, fun a c q => C.2 a c (A.2 a c q)⟩
/-- a step that moves nothing of the heap -/
theorem Run.plain {pc' : Nat} {L' : List Slot} {S' : List Value} (r : Run V K B Q h ps cs sl pc' L' S')
    (st : ∀ T t, At T K.m K.c K.below → K.p.tables.exec = Jvm.exec → K.c.code = B.code → Steps K.p.tables K.e K.below (T.setTop (mkF K.m pc' L'.toArray S')) t → Steps K.p.tables K.e K.below (T.setTop (mkF K.m pc L.toArray S)) t) :
    Run V K B Q h ps cs sl pc L S := fun T hT => by
  obtain ⟨t, o, h1, h2⟩ := r T hT
  obtain ⟨locs, vm0, k0, X, -, -, -, -, -, -, -, -, -, -, -, G⟩ := hT
  exact ⟨t, o, st T t X.here G.1 G.2.1 h1, h2⟩
theorem Run.more {cs' sl' : Nat} (hc : cs ≤ cs') (hs : sl ≤ sl') (r : Run V K B Q h ps cs' sl' pc L S) : Run V K B Q h ps cs sl pc L S := fun T hT => by
  obtain ⟨locs, vm0, k0, X, rest⟩ := hT
  exact r T ⟨locs, vm0, k0, X.more hc hs, rest⟩
theorem Run.less (hs : ∀ x ∈ ps', x ∈ ps) (r : Run V K B Q h ps' cs sl pc L S) : Run V K B Q h ps cs sl pc L S := fun T hT => by
  obtain ⟨locs, vm0, k0, X, e1, e2, e3, e4, e5, e6, e7, e8, e9, e10⟩ := hT
  exact r T ⟨locs, vm0, k0, X, e1, e2, e3, e4, e5, e6, e7, e8, e9.sub hs, e10⟩
/-- what the walk knows at any time: all that stood at the case's start stands -/
theorem Run.old (r : Ext V.Z.heap h → Run V K B Q h ps cs sl pc L S) : Run V K B Q h ps cs sl pc L S := fun T hT => by
  have O : Ext V.Z.heap h := by obtain ⟨locs, vm0, k0, X, e1, e2, e3, e4, e5, e6, e7, e8, e9, e10⟩ := hT; exact e7
  exact r O T hT
/-- a step that moves the state but not the heap -/
theorem Run.still {pc' : Nat} {L' : List Slot} {S' : List Value} (r : Run V K B Q h ps cs sl pc' L' S')
    (st : ∀ T locs vm0, Stand K.p V.l K.e B.R (K.s.setVm vm0) K.m K.args K.below K.meth K.c T locs cs sl → T.heap = h → V.Z.Warmed39 (K.s.setVm vm0).vm → (K.s.setVm vm0).vm.findClass B.y.cls = some K.m.cls → Ext V.Z.heap h → Fx K B →
      ∃ T', Stand K.p V.l K.e B.R (K.s.setVm vm0) K.m K.args K.below K.meth K.c T' locs cs sl ∧ T'.heap = h ∧ ∀ t, Steps K.p.tables K.e K.below (T'.setTop (mkF K.m pc' L'.toArray S')) t → Steps K.p.tables K.e K.below (T.setTop (mkF K.m pc L.toArray S)) t) :
    Run V K B Q h ps cs sl pc L S := fun T hT => by
  obtain ⟨locs, vm0, k0, X, e1, e2, e3, e4, e5, e6, e7, e8, e9, e10, e11, e12⟩ := hT
  obtain ⟨T', X', e', st'⟩ := st T locs vm0 X e1 e2 e3 e7 e12
  obtain ⟨t, o, h1, h2⟩ := r T' ⟨locs, vm0, k0, X', e', e2, e3, e4, e5, e6, e7, e8, e9, e10, e11, e12⟩
  exact ⟨t, o, st' _ h1, h2⟩
/-- a step that writes one slot of a cell that the case has made -/
theorem Run.write {pc' : Nat} {L' : List Slot} {S' : List Value} {a : Addr} {v : Value} {j : Nat} (ha : V.Z.heap.size ≤ a) (hs : ∀ vm, V.Z.vm.Alike vm → Sf V vm h ps → Safe V.Z V.EL vm h a) (r : ∀ h', Wr h h' a j v → Run V K B Q h' ps cs sl pc' L' S')
    (st : ∀ T locs vm0, Stand K.p V.l K.e B.R (K.s.setVm vm0) K.m K.args K.below K.meth K.c T locs cs sl → T.heap = h → V.Z.Warmed39 (K.s.setVm vm0).vm → (K.s.setVm vm0).vm.findClass B.y.cls = some K.m.cls → Fx K B →
      ∃ T' h', Stand K.p V.l K.e B.R (K.s.setVm vm0) K.m K.args K.below K.meth K.c T' (locs ++ [⟨a, j⟩]) cs sl ∧ T'.heap = h' ∧ Wr h h' a j v ∧ ∀ t, Steps K.p.tables K.e K.below (T'.setTop (mkF K.m pc' L'.toArray S')) t → Steps K.p.tables K.e K.below (T.setTop (mkF K.m pc L.toArray S)) t) :
    Run V K B Q h ps cs sl pc L S := fun T hT => by
  obtain ⟨locs, vm0, k0, X, e1, e2, e3, e4, e5, e6, e7, e8, e9, e10, e11, e12⟩ := hT
  obtain ⟨T', h', X', e', W, st'⟩ := st T locs vm0 X e1 e2 e3 e12
  have C := CHr.wr W (hs vm0 e2.alike e9) e8.1
  obtain ⟨t, o, h1, h2⟩ := r h' W T' ⟨_, vm0, k0, X', e', e2, e3, e4, by rw [W.size]; exact e5, Fr.snoc X' e6 ha, oldWr e7 W ha, e8.trans C, e9.go C, e10, e11, e12⟩
  exact ⟨t, o, st' _ h1, h2⟩
/-- a step that makes one cell -/
theorem Run.make {pc' nn : Nat} {L' : List Slot} {S' : Addr → List Value} {P : Heap → Prop} (r : ∀ h', Ext h h' → V.Z.heap.size ≤ h.size → P h' → Run V K B Q h' (h.size :: ps) (cs + 1) (sl + nn) pc' L' (S' h.size))
    (st : ∀ T locs vm0, Stand K.p V.l K.e B.R (K.s.setVm vm0) K.m K.args K.below K.meth K.c T locs cs sl → T.heap = h → V.Z.Warmed39 (K.s.setVm vm0).vm → (K.s.setVm vm0).vm.findClass B.y.cls = some K.m.cls → Fx K B →
      ∃ T' h', Stand K.p V.l K.e B.R (K.s.setVm vm0) K.m K.args K.below K.meth K.c T' locs (cs + 1) (sl + nn) ∧ T'.heap = h' ∧ Ext h h' ∧ h.size < h'.size ∧ P h' ∧ ∀ t, Steps K.p.tables K.e K.below (T'.setTop (mkF K.m pc' L'.toArray (S' h.size))) t → Steps K.p.tables K.e K.below (T.setTop (mkF K.m pc L.toArray S)) t) :
    Run V K B Q h ps cs sl pc L S := fun T hT => by
  obtain ⟨locs, vm0, k0, X, e1, e2, e3, e4, e5, e6, e7, e8, e9, e10, e11, e12⟩ := hT
  obtain ⟨T', h', X', e', E, hlt, hP, st'⟩ := st T locs vm0 X e1 e2 e3 e12
  have C := CHr.ext E e8.1
  obtain ⟨t, o, h1, h2⟩ := r h' E e7.1 hP T' ⟨_, vm0, k0, X', e', e2, e3, e4, Nat.le_trans e5 E.1, e6, Ext.trans' e7 E, e8.trans C, Sf.cons hlt ((Safe.new (Nat.le_refl _)).ext E e8.1) (e9.go C), e10, e11, e12⟩
  exact ⟨t, o, st' _ h1, h2⟩
/-- the way into a body -/
theorem Con.of {as' : Array Value} (hp : plainFor B.y = true) (hl : argsToLocals as' B.ml = L.toArray) (body : ∀ K : Cx, Run V K B Q h ps 0 0 0 L []) : Con V B as' h ps Q := fun hE hO hN ws => by
  refine MetFree.of_bodySF hp hisR ?_
  intro p e s m args below meth c s₁ Bd hml0 hP hK
  obtain ⟨rfl, hZ, hh, hC, hS⟩ := hP
  have X0 : Stand p V.l e B.R s m args below meth c s₁ [] 0 0 := Stand.of_body Bd
  have e0 : s₁.heap = h := by rw [← hh, Bd.state]; rfl
  have hn := (name_of_methodNamed Bd.named Bd.method).1
  obtain ⟨t, o, h1, h2, h3, h4⟩ := body (p, e, s, m, args, below, meth, c) s₁
    ⟨[], s.vm, h.size, X0, e0, hZ, findClass_of_methodNamed Bd.named, (State.WarmedH.refl s).since _, Nat.le_refl _, Fr.nil _, hO, (by show CHr V.Z V.EL s.vm s.heap s.vm h; rw [hh]; exact CHr.refl hC), hS, hE, fun q => ⟨rfl, hN q⟩, Bd.exec, Bd.bytes, hml0, Bd.returns, BodyLoose.notSynchronized Bd, hn⟩
  refine ⟨t, o, ?_, h2, h3, h4⟩
  have q : entryFrame m args B.ml = mkF m 0 L.toArray [] := by simp only [entryFrame, mkF, hl]
  rw [q]; exact h1
/-- a contract pays a call -/
theorem Pays.con {B' : Bx} {as' : Array Value} {len W : Nat} (C : Con V B' as' h ps Q) (wc : (Jvm.Cond.code B'.y B'.code B'.ml B'.ret).before V.a0 V.Z = true) (wz : (Jvm.Cond.initialized B'.y.cls).before V.a0 V.Z = true)
    (hf : B'.R.frames + 1 ≤ B.R.frames) (hl : W + (B'.ml + 11) + B'.R.locals ≤ B.R.locals) : Pays V K B B'.y len W as' h ps B'.R.cells B'.R.slots Q := fun vm0 hZ hC hS hE hO hN => by
  have hM := C hE hO hN []
  refine ⟨fun hn => ?_, fun hn => ?_⟩
  · refine Back.of_free (bytes := B'.code) (maxL := B'.ml) (ret := B'.ret) (E := fun _ first o t L k n => k = B'.R.cells ∧ n = B'.R.slots ∧ ∃ v ps', o = .returned v ∧ Fr V.Z.heap.size L ∧ Q v t.heap ps' ∧ Ext V.Z.heap t.heap ∧ first.heap.size ≤ t.heap.size ∧ Sf V t.vm t.heap ps') hM hf hl
      (fun m meth c A a Y hp => have hU : V.Z.Warmed39 A.U.vm := wtrans (s := K.s.setVm vm0) hZ Y.warmed
        ⟨by show (Cond.and _ .tt).before a A.U = true; rw [Cond.before_and, mv hU wc]; rfl, mv hU wc, mv hU wz, hp.2.2.1, hp.2.2.2⟩)
      (fun m meth c A a g mk Y hp => ?_) (fun _ _ _ _ _ _ _ _ _ => trivial)
      (fun _ _ _ _ ⟨v, L, ps', h1, h2, h3, h4, h5, h6, h7, h8⟩ => ⟨L, _, _, h8 hn, rfl, rfl, v, ps', h1, h2, h3, h4, h6.2.1, h5⟩)
      (fun m meth c A a g mk v t L k n Y hp _ _ ⟨e1, e2, v', ps', e3, e4, e5, e6, e7, e8⟩ => ?_)
    · have A' := CHv.at Y hZ hE hC
      exact ⟨hp.1, wtrans (s := K.s.setVm vm0) hZ Y.warmed, hp.2.1, A'.1, hS.go A'⟩
    · cases e3; subst e1 e2
      have q : h.size ≤ t.heap.size := by rw [← hp.2.1]; exact e7
      exact ⟨L, ps', e4, e5, e6, q, e8, rfl, rfl, rfl, by rw [hN hn]; exact chr0 q⟩
  · refine BackS.of_freeW (bytes := B'.code) (maxL := B'.ml) (ret := B'.ret) (E := fun _ first o t L k n => k = B'.R.cells ∧ n = B'.R.slots ∧ (∃ v ps', o = .returned v ∧ Fr V.Z.heap.size L ∧ Q v t.heap ps' ∧ Ext V.Z.heap t.heap ∧ Sf V t.vm t.heap ps') ∧ CHr V.Z V.EL first.vm first.heap t.vm t.heap) hM hf hl
      (fun m meth c A a Y hp => have hU : V.Z.Warmed39 A.U.vm := wtrans (s := K.s.setVm vm0) hZ Y.warmed
        ⟨by show (Cond.and _ .tt).before a A.U = true; rw [Cond.before_and, mv hU wc]; rfl, mv hU wc, mv hU wz, hp.2.2.1, hp.2.2.2⟩)
      (fun m meth c A a g mk Y hp => ?_) (fun _ _ _ _ _ _ _ _ _ => trivial)
      (fun _ _ _ _ ⟨v, L, ps', h1, h2, h3, h4, h5, h6, h7, h8⟩ => ⟨L, _, _, h7, rfl, rfl, ⟨v, ps', h1, h2, h3, h4, h5⟩, h6⟩)
      (fun m meth c A a g mk v t L k n Y hp _ _ ⟨e1, e2, ⟨v', ps', e3, e4, e5, e6, e8⟩, e7⟩ => ?_)
    · have A' := CHv.at Y hZ hE hC
      exact ⟨hp.1, wtrans (s := K.s.setVm vm0) hZ Y.warmed, hp.2.1, A'.1, hS.go A'⟩
    · cases e3; subst e1 e2
      have q : CHr V.Z V.EL A.U.vm h t.vm t.heap := by rw [← hp.2.1]; exact e7
      exact ⟨L, ps', e4, e5, e6, q.2.1, e8, rfl, rfl, rfl, (CHv.at Y hZ hE hC).trans q⟩
/-- a law that says what it keeps (the pasted laws of the JDK) pays a call -/
theorem Pays.back {y : MethodName} {as' : Array Value} {len W nc ns : Nat} {ws : List Addr} {Q0 : Option Value → Heap → List Loc → Prop}
    (hB : ∀ s : State, V.Z.Warmed39 s.vm → Back V.l B.R K.p K.e K.below s K.args y len W (fun A a => a = as' ∧ A.U.heap = h ∧ A.cells + nc ≤ B.R.cells ∧ A.slots + ns ≤ B.R.slots) (fun A _ v C => ∃ L, Q0 v C.U.heap L ∧ C.locs = A.locs ++ L ∧ C.cells = A.cells + nc ∧ C.slots = A.slots + ns))
    (hQ : ∀ v h' L, Q0 v h' L → Fr V.Z.heap.size L ∧ Keep h h' ws ∧ Q v h' []) (hws : ∀ x ∈ ws, V.Z.heap.size ≤ x) (hsafe : ∀ vm, V.Z.vm.Alike vm → Sf V vm h ps → ∀ x ∈ ws, Safe V.Z V.EL vm h x) :
    Pays V K B y len W as' h ps nc ns Q := fun vm0 hZ hC hS hE hO hN => by
  have hb0 := hB (K.s.setVm vm0) hZ
  have post : ∀ m meth c A a v C, Stand K.p V.l K.e B.R (K.s.setVm vm0) m K.args K.below meth c (Pt.U C) (Pt.locs C) (Pt.cells C) (Pt.slots C) → (∃ L, Q0 v C.U.heap L ∧ C.locs = (Pt.locs A) ++ L ∧ C.cells = (Pt.cells A) + nc ∧ C.slots = (Pt.slots A) + ns) → PostP V vm0 h nc ns Q A a v C := fun m meth c A a v C Y ⟨L, q, r1, r2, r3⟩ => by
    obtain ⟨q1, q2, q3⟩ := hQ _ _ _ q
    have C1 := CHr.keep q2 (hsafe vm0 hZ.alike hS) hC
    exact ⟨L, [], q1, q3, oldKeep hO q2 hws, q2.1, Sf.nil, r1, r2, r3, C1.trans (CHv.at Y hZ hE C1.1)⟩
  refine ⟨fun hn => ?_, fun hn => ?_⟩
  · intro m meth c A g ig mk a X hg hsize hdg hW hn' hp
    obtain ⟨v, C, X', hpost, hst⟩ := hb0 m meth c A g ig mk a X hg hsize hdg hW hn' hp
    exact ⟨v, C, X', post m meth c A a v C X' hpost, hst⟩
  · intro m meth c A g ig mk a X hg hsize hdg hW hn' hp
    obtain ⟨v, C, X', hpost, hst⟩ := hb0 m meth c A g ig mk a X hg hsize hdg hW hn' hp
    have hpo := post m meth c A a v C X' hpost
    refine ⟨v, C, X'.retabled X'.warmed.wide, X'.warmed.since _, ?_, hpo, hst⟩
    rw [hp.2.1]; obtain ⟨L, ps1, -, -, -, q, -⟩ := hpo; exact q
/-- behind a call: the invocation stands again -/
theorem Run.behind {vm0 : Vm} {k0 : Nat} {locs : List Loc} {nc ns : Nat} {Q' : Qt} {v : Option Value} {vm₁ : Vm} {C : Pt} {pc' : Nat} {L' : List Slot} {S' : List Value} {a : Array Value}
    (e2 : V.Z.Warmed39 vm0) (e3 : vm0.findClass B.y.cls = some K.m.cls) (e4 : K.s.Since vm0 k0) (e5 : k0 ≤ h.size) (e6 : Fr V.Z.heap.size locs) (e8 : CHr V.Z V.EL K.s.vm K.s.heap vm0 h) (e9 : Sf V vm0 h ps) (e10 : EW V.Z V.a0 V.EL) (e11 : V.nar = true → vm0 = K.s.vm ∧ V.EL = []) (e12 : Fx K B)
    (X : (V.nar = true ∧ Stand K.p V.l K.e B.R (K.s.setVm vm0) K.m K.args K.below K.meth K.c C.U C.locs C.cells C.slots) ∨ (V.nar = false ∧ Stand K.p V.l K.e B.R ((K.s.setVm vm0).setVm C.U.vm) K.m K.args K.below K.meth K.c C.U C.locs C.cells C.slots ∧ (K.s.setVm vm0).Since C.U.vm C.U.heap.size))
    (hp : PostP V vm0 h nc ns Q' ⟨T.setVm vm₁, locs, cs, sl⟩ a v C) (r : ∀ v h' ps', Q' v h' ps' → h.size ≤ h'.size → Run V K B Q h' (ps' ++ ps) (cs + nc) (sl + ns) pc' L' (v.toList ++ S')) :
    ∃ t o, Steps K.p.tables K.e K.below (C.U.setTop (mkF K.m pc' L'.toArray (v.toList ++ S'))) t ∧ t.status = .running ∧ Ended t K.below o ∧ Fnl V K B Q o t := by
  obtain ⟨Lc, ps', q1, q2, q3, q4, q5, q6, q7, q8, q9⟩ := hp
  rcases X with ⟨hn, X⟩ | ⟨hn, X, hS⟩
  · refine r v _ ps' q2 q4 C.U ⟨_, vm0, k0, by rw [← q7, ← q8]; exact X, rfl, e2, e3, e4, Nat.le_trans e5 q4, by rw [q6]; exact e6.app q1, q3, ?_, ?_, e10, e11, e12⟩
    · rw [(e11 hn).2]; exact chr0 (Nat.le_trans e8.2.1 q4)
    · intro x hx
      refine ⟨?_, by rw [(e11 hn).2]; exact fun ⟨_, hp, _⟩ => nomatch hp⟩
      rcases List.mem_append.mp hx with hx | hx
      · exact (q5 x hx).1
      · exact Nat.lt_of_lt_of_le (e9 x hx).1 q4
  · obtain ⟨X1, S1, W1, F1⟩ := rebS (Z := V.Z) (own := B.y.cls) e4 e5 X hS q4 e2 e3
    exact r v _ ps' q2 q4 C.U ⟨_, C.U.vm, _, by rw [← q7, ← q8]; exact X1, rfl, W1, F1, S1, Nat.le_refl _, by rw [q6]; exact e6.app q1, q3, e8.trans q9, q5.app (e9.go q9), e10, fun q => absurd (hn.symm.trans q) (by decide), e12⟩
end Basics
end Jvm.Own
namespace Jvm.Own
open Jvm Jvm.ClassFile Sem Op Lib Jvm.Free Jvm.Stand Jvm.LawKit Jvm.RoadKit Bundle
section Rules
variable {V : Vw} {K : Cx} {B : Bx} {Q : Qt} {T : State} {h h' : Heap} {ps ps' : List Addr} {cs sl pc : Nat} {L : List Slot} {S : List Value}
theorem r_iload {k : Nat} {v : Int32} (pc' : Nat) (hp : pc + 2 = pc') (hd : decode B.code pc = .ok (.iload k, 2)) (hl : L[k]? = some (.val (.int v))) (r : Run V K B Q h ps cs sl pc' L (.int v :: S)) : Run V K B Q h ps cs sl pc L (S) := by
  subst hp; exact r.plain fun T t hA hx hc st => XS.iload hA hx rfl (hb hc hd) (by show L.toArray[_]? = _; rw [List.getElem?_toArray]; exact hl) st
theorem r_iloadN {k : Fin 4} {v : Int32} (pc' : Nat) (hp : pc + 1 = pc') (hd : decode B.code pc = .ok (.iload_n k, 1)) (hl : L[k.val]? = some (.val (.int v))) (r : Run V K B Q h ps cs sl pc' L (.int v :: S)) : Run V K B Q h ps cs sl pc L (S) := by
  subst hp; exact r.plain fun T t hA hx hc st => XS.iloadN hA hx rfl (hb hc hd) (by show L.toArray[_]? = _; rw [List.getElem?_toArray]; exact hl) st
theorem r_istore {k : Nat} {x : Int32} (L' : List Slot) (pc' : Nat) (hp : pc + 2 = pc') (hd : decode B.code pc = .ok (.istore k, 2)) (hl : storeLocals L.toArray k (.int x) = some L'.toArray) (r : Run V K B Q h ps cs sl pc' L' (S)) : Run V K B Q h ps cs sl pc L (.int x :: S) := by
  subst hp; exact r.plain fun T t hA hx hc st => XS.istore hA hx rfl (hb hc hd) rfl hl st
theorem r_istoreN {k : Fin 4} {x : Int32} (L' : List Slot) (pc' : Nat) (hp : pc + 1 = pc') (hd : decode B.code pc = .ok (.istore_n k, 1)) (hl : storeLocals L.toArray k.val (.int x) = some L'.toArray) (r : Run V K B Q h ps cs sl pc' L' (S)) : Run V K B Q h ps cs sl pc L (.int x :: S) := by
  subst hp; exact r.plain fun T t hA hx hc st => XS.istoreN hA hx rfl (hb hc hd) rfl hl st
theorem r_lload {k : Nat} {v : Int64} (pc' : Nat) (hp : pc + 2 = pc') (hd : decode B.code pc = .ok (.lload k, 2)) (hl : L[k]? = some (.val (.long v))) (r : Run V K B Q h ps cs sl pc' L (.long v :: S)) : Run V K B Q h ps cs sl pc L (S) := by
  subst hp; exact r.plain fun T t hA hx hc st => XS.lload hA hx rfl (hb hc hd) (by show L.toArray[_]? = _; rw [List.getElem?_toArray]; exact hl) st
theorem r_lloadN {k : Fin 4} {v : Int64} (pc' : Nat) (hp : pc + 1 = pc') (hd : decode B.code pc = .ok (.lload_n k, 1)) (hl : L[k.val]? = some (.val (.long v))) (r : Run V K B Q h ps cs sl pc' L (.long v :: S)) : Run V K B Q h ps cs sl pc L (S) := by
  subst hp; exact r.plain fun T t hA hx hc st => XS.lloadN hA hx rfl (hb hc hd) (by show L.toArray[_]? = _; rw [List.getElem?_toArray]; exact hl) st
theorem r_lstore {k : Nat} {x : Int64} (L' : List Slot) (pc' : Nat) (hp : pc + 2 = pc') (hd : decode B.code pc = .ok (.lstore k, 2)) (hl : storeLocals L.toArray k (.long x) = some L'.toArray) (r : Run V K B Q h ps cs sl pc' L' (S)) : Run V K B Q h ps cs sl pc L (.long x :: S) := by
  subst hp; exact r.plain fun T t hA hx hc st => XS.lstore hA hx rfl (hb hc hd) rfl hl st
theorem r_lstoreN {k : Fin 4} {x : Int64} (L' : List Slot) (pc' : Nat) (hp : pc + 1 = pc') (hd : decode B.code pc = .ok (.lstore_n k, 1)) (hl : storeLocals L.toArray k.val (.long x) = some L'.toArray) (r : Run V K B Q h ps cs sl pc' L' (S)) : Run V K B Q h ps cs sl pc L (.long x :: S) := by
  subst hp; exact r.plain fun T t hA hx hc st => XS.lstoreN hA hx rfl (hb hc hd) rfl hl st
theorem r_aload {k : Nat} {v : Value} (pc' : Nat) (hp : pc + 2 = pc') (hd : decode B.code pc = .ok (.aload k, 2)) (hl : L[k]? = some (.val v)) (hv : v.isRef = true) (r : Run V K B Q h ps cs sl pc' L (v :: S)) : Run V K B Q h ps cs sl pc L (S) := by
  subst hp; exact r.plain fun T t hA hx hc st => XS.aload hA hx rfl (hb hc hd) (by show L.toArray[_]? = _; rw [List.getElem?_toArray]; exact hl) hv st
theorem r_aloadN {k : Fin 4} {v : Value} (pc' : Nat) (hp : pc + 1 = pc') (hd : decode B.code pc = .ok (.aload_n k, 1)) (hl : L[k.val]? = some (.val v)) (hv : v.isRef = true) (r : Run V K B Q h ps cs sl pc' L (v :: S)) : Run V K B Q h ps cs sl pc L (S) := by
  subst hp; exact r.plain fun T t hA hx hc st => XS.aloadN hA hx rfl (hb hc hd) (by show L.toArray[_]? = _; rw [List.getElem?_toArray]; exact hl) hv st
theorem r_astore {k : Nat} {x : Value} (L' : List Slot) (pc' : Nat) (hp : pc + 2 = pc') (hd : decode B.code pc = .ok (.astore k, 2)) (hv : x.isRef = true) (hl : storeLocals L.toArray k x = some L'.toArray) (r : Run V K B Q h ps cs sl pc' L' (S)) : Run V K B Q h ps cs sl pc L (x :: S) := by
  subst hp; exact r.plain fun T t hA hx hc st => XS.astore hA hx rfl (hb hc hd) rfl hv hl st
theorem r_astoreN {k : Fin 4} {x : Value} (L' : List Slot) (pc' : Nat) (hp : pc + 1 = pc') (hd : decode B.code pc = .ok (.astore_n k, 1)) (hv : x.isRef = true) (hl : storeLocals L.toArray k.val x = some L'.toArray) (r : Run V K B Q h ps cs sl pc' L' (S)) : Run V K B Q h ps cs sl pc L (x :: S) := by
  subst hp; exact r.plain fun T t hA hx hc st => XS.astoreN hA hx rfl (hb hc hd) rfl hv hl st
theorem r_iconst {i : Int} (v : Int32) (pc' : Nat) (hp : pc + 1 = pc') (hd : decode B.code pc = .ok (.iconst i, 1)) (hv : Int32.ofInt i = v) (r : Run V K B Q h ps cs sl pc' L (.int v :: S)) : Run V K B Q h ps cs sl pc L (S) := by
  subst hp; exact r.plain fun T t hA hx hc st => XT.iconstV hA hx rfl v (hb hc hd) hv st
theorem r_bipush {i : Int} (v : Int32) (pc' : Nat) (hp : pc + 2 = pc') (hd : decode B.code pc = .ok (.bipush i, 2)) (hv : (Int8.ofInt i).toInt32 = v) (r : Run V K B Q h ps cs sl pc' L (.int v :: S)) : Run V K B Q h ps cs sl pc L (S) := by
  subst hp; exact r.plain fun T t hA hx hc st => XT.bipushV hA hx rfl v (hb hc hd) hv st
theorem r_sipush {i : Int} (v : Int32) (pc' : Nat) (hp : pc + 3 = pc') (hd : decode B.code pc = .ok (.sipush i, 3)) (hv : (Int16.ofInt i).toInt32 = v) (r : Run V K B Q h ps cs sl pc' L (.int v :: S)) : Run V K B Q h ps cs sl pc L (S) := by
  subst hp; exact r.plain fun T t hA hx hc st => XT.sipushV hA hx rfl v (hb hc hd) hv st
theorem r_lconst {k : Fin 2} (v : Int64) (pc' : Nat) (hp : pc + 1 = pc') (hd : decode B.code pc = .ok (.lconst k, 1)) (hv : Int64.ofNat k = v) (r : Run V K B Q h ps cs sl pc' L (.long v :: S)) : Run V K B Q h ps cs sl pc L (S) := by
  subst hp; exact r.plain fun T t hA hx hc st => XT.lconstV hA hx rfl v (hb hc hd) hv st
theorem r_null  (pc' : Nat) (hp : pc + 1 = pc') (hd : decode B.code pc = .ok (.aconst_null, 1)) (r : Run V K B Q h ps cs sl pc' L (.null :: S)) : Run V K B Q h ps cs sl pc L (S) := by
  subst hp; exact r.plain fun T t hA hx hc st => XS.aconstNull hA hx rfl (hb hc hd) st
theorem r_iadd {x y : Int32} (pc' : Nat) (hp : pc + 1 = pc') (hd : decode B.code pc = .ok (.iadd, 1)) (r : Run V K B Q h ps cs sl pc' L (.int (x + y) :: S)) : Run V K B Q h ps cs sl pc L (.int y :: .int x :: S) := by
  subst hp; exact r.plain fun T t hA hx hc st => XS.iadd hA hx rfl (hb hc hd) rfl st
theorem r_isub {x y : Int32} (pc' : Nat) (hp : pc + 1 = pc') (hd : decode B.code pc = .ok (.isub, 1)) (r : Run V K B Q h ps cs sl pc' L (.int (x - y) :: S)) : Run V K B Q h ps cs sl pc L (.int y :: .int x :: S) := by
  subst hp; exact r.plain fun T t hA hx hc st => XS.isub hA hx rfl (hb hc hd) rfl st
theorem r_imul {x y : Int32} (pc' : Nat) (hp : pc + 1 = pc') (hd : decode B.code pc = .ok (.imul, 1)) (r : Run V K B Q h ps cs sl pc' L (.int (x * y) :: S)) : Run V K B Q h ps cs sl pc L (.int y :: .int x :: S) := by
  subst hp; exact r.plain fun T t hA hx hc st => XS.imul hA hx rfl (hb hc hd) rfl st
theorem r_iand {x y : Int32} (pc' : Nat) (hp : pc + 1 = pc') (hd : decode B.code pc = .ok (.iand, 1)) (r : Run V K B Q h ps cs sl pc' L (.int (x &&& y) :: S)) : Run V K B Q h ps cs sl pc L (.int y :: .int x :: S) := by
  subst hp; exact r.plain fun T t hA hx hc st => XS.iand hA hx rfl (hb hc hd) rfl st
theorem r_ior {x y : Int32} (pc' : Nat) (hp : pc + 1 = pc') (hd : decode B.code pc = .ok (.ior, 1)) (r : Run V K B Q h ps cs sl pc' L (.int (x ||| y) :: S)) : Run V K B Q h ps cs sl pc L (.int y :: .int x :: S) := by
  subst hp; exact r.plain fun T t hA hx hc st => XS.ior hA hx rfl (hb hc hd) rfl st
theorem r_ixor {x y : Int32} (pc' : Nat) (hp : pc + 1 = pc') (hd : decode B.code pc = .ok (.ixor, 1)) (r : Run V K B Q h ps cs sl pc' L (.int (x ^^^ y) :: S)) : Run V K B Q h ps cs sl pc L (.int y :: .int x :: S) := by
  subst hp; exact r.plain fun T t hA hx hc st => XS.ixor hA hx rfl (hb hc hd) rfl st
theorem r_ishl {x y : Int32} (pc' : Nat) (hp : pc + 1 = pc') (hd : decode B.code pc = .ok (.ishl, 1)) (r : Run V K B Q h ps cs sl pc' L (.int (x <<< (y &&& 31)) :: S)) : Run V K B Q h ps cs sl pc L (.int y :: .int x :: S) := by
  subst hp; exact r.plain fun T t hA hx hc st => XS.ishl hA hx rfl (hb hc hd) rfl st
theorem r_ishr {x y : Int32} (pc' : Nat) (hp : pc + 1 = pc') (hd : decode B.code pc = .ok (.ishr, 1)) (r : Run V K B Q h ps cs sl pc' L (.int (x >>> (y &&& 31)) :: S)) : Run V K B Q h ps cs sl pc L (.int y :: .int x :: S) := by
  subst hp; exact r.plain fun T t hA hx hc st => XS.ishr hA hx rfl (hb hc hd) rfl st
theorem r_iushr {x y : Int32} (pc' : Nat) (hp : pc + 1 = pc') (hd : decode B.code pc = .ok (.iushr, 1)) (r : Run V K B Q h ps cs sl pc' L (.int (ushr x y) :: S)) : Run V K B Q h ps cs sl pc L (.int y :: .int x :: S) := by
  subst hp; exact r.plain fun T t hA hx hc st => XS.iushr hA hx rfl (hb hc hd) rfl st
theorem r_ladd {x y : Int64} (pc' : Nat) (hp : pc + 1 = pc') (hd : decode B.code pc = .ok (.ladd, 1)) (r : Run V K B Q h ps cs sl pc' L (.long (x + y) :: S)) : Run V K B Q h ps cs sl pc L (.long y :: .long x :: S) := by
  subst hp; exact r.plain fun T t hA hx hc st => XS.ladd hA hx rfl (hb hc hd) rfl st
theorem r_lsub {x y : Int64} (pc' : Nat) (hp : pc + 1 = pc') (hd : decode B.code pc = .ok (.lsub, 1)) (r : Run V K B Q h ps cs sl pc' L (.long (x - y) :: S)) : Run V K B Q h ps cs sl pc L (.long y :: .long x :: S) := by
  subst hp; exact r.plain fun T t hA hx hc st => XS.lsub hA hx rfl (hb hc hd) rfl st
theorem r_lmul {x y : Int64} (pc' : Nat) (hp : pc + 1 = pc') (hd : decode B.code pc = .ok (.lmul, 1)) (r : Run V K B Q h ps cs sl pc' L (.long (x * y) :: S)) : Run V K B Q h ps cs sl pc L (.long y :: .long x :: S) := by
  subst hp; exact r.plain fun T t hA hx hc st => XS.lmul hA hx rfl (hb hc hd) rfl st
theorem r_land {x y : Int64} (pc' : Nat) (hp : pc + 1 = pc') (hd : decode B.code pc = .ok (.land, 1)) (r : Run V K B Q h ps cs sl pc' L (.long (x &&& y) :: S)) : Run V K B Q h ps cs sl pc L (.long y :: .long x :: S) := by
  subst hp; exact r.plain fun T t hA hx hc st => XS.land hA hx rfl (hb hc hd) rfl st
theorem r_lor {x y : Int64} (pc' : Nat) (hp : pc + 1 = pc') (hd : decode B.code pc = .ok (.lor, 1)) (r : Run V K B Q h ps cs sl pc' L (.long (x ||| y) :: S)) : Run V K B Q h ps cs sl pc L (.long y :: .long x :: S) := by
  subst hp; exact r.plain fun T t hA hx hc st => XS.lor hA hx rfl (hb hc hd) rfl st
theorem r_lxor {x y : Int64} (pc' : Nat) (hp : pc + 1 = pc') (hd : decode B.code pc = .ok (.lxor, 1)) (r : Run V K B Q h ps cs sl pc' L (.long (x ^^^ y) :: S)) : Run V K B Q h ps cs sl pc L (.long y :: .long x :: S) := by
  subst hp; exact r.plain fun T t hA hx hc st => XS.lxor hA hx rfl (hb hc hd) rfl st
theorem r_lshl {x : Int64} {y : Int32} (pc' : Nat) (hp : pc + 1 = pc') (hd : decode B.code pc = .ok (.lshl, 1)) (r : Run V K B Q h ps cs sl pc' L (.long (x <<< (y &&& 0x3f).toInt64) :: S)) : Run V K B Q h ps cs sl pc L (.int y :: .long x :: S) := by
  subst hp; exact r.plain fun T t hA hx hc st => XS.lshl hA hx rfl (hb hc hd) rfl st
theorem r_lshr {x : Int64} {y : Int32} (pc' : Nat) (hp : pc + 1 = pc') (hd : decode B.code pc = .ok (.lshr, 1)) (r : Run V K B Q h ps cs sl pc' L (.long (x >>> (y &&& 0x3f).toInt64) :: S)) : Run V K B Q h ps cs sl pc L (.int y :: .long x :: S) := by
  subst hp; exact r.plain fun T t hA hx hc st => XS.lshr hA hx rfl (hb hc hd) rfl st
theorem r_lushr {x : Int64} {y : Int32} (pc' : Nat) (hp : pc + 1 = pc') (hd : decode B.code pc = .ok (.lushr, 1)) (r : Run V K B Q h ps cs sl pc' L (.long (ushrL x y) :: S)) : Run V K B Q h ps cs sl pc L (.int y :: .long x :: S) := by
  subst hp; exact r.plain fun T t hA hx hc st => XS.lushr hA hx rfl (hb hc hd) rfl st
theorem r_idiv {x y : Int32} (pc' : Nat) (hp : pc + 1 = pc') (hd : decode B.code pc = .ok (.idiv, 1)) (hy : y ≠ 0) (r : Run V K B Q h ps cs sl pc' L (.int (x / y) :: S)) : Run V K B Q h ps cs sl pc L (.int y :: .int x :: S) := by
  subst hp; exact r.plain fun T t hA hx hc st => XS.idiv hA hx rfl (hb hc hd) rfl hy st
theorem r_irem {x y : Int32} (pc' : Nat) (hp : pc + 1 = pc') (hd : decode B.code pc = .ok (.irem, 1)) (hy : y ≠ 0) (r : Run V K B Q h ps cs sl pc' L (.int (x % y) :: S)) : Run V K B Q h ps cs sl pc L (.int y :: .int x :: S) := by
  subst hp; exact r.plain fun T t hA hx hc st => XS.irem hA hx rfl (hb hc hd) rfl hy (by rw [irem_eq_mod]; exact st)
theorem r_ineg {x : Int32} (pc' : Nat) (hp : pc + 1 = pc') (hd : decode B.code pc = .ok (.ineg, 1)) (r : Run V K B Q h ps cs sl pc' L (.int (-x) :: S)) : Run V K B Q h ps cs sl pc L (.int x :: S) := by
  subst hp; exact r.plain fun T t hA hx hc st => XS.ineg hA hx rfl (hb hc hd) rfl st
theorem r_lneg {x : Int64} (pc' : Nat) (hp : pc + 1 = pc') (hd : decode B.code pc = .ok (.lneg, 1)) (r : Run V K B Q h ps cs sl pc' L (.long (-x) :: S)) : Run V K B Q h ps cs sl pc L (.long x :: S) := by
  subst hp; exact r.plain fun T t hA hx hc st => XS.lneg hA hx rfl (hb hc hd) rfl st
theorem r_lcmp {x y : Int64} (pc' : Nat) (hp : pc + 1 = pc') (hd : decode B.code pc = .ok (.lcmp, 1)) (r : Run V K B Q h ps cs sl pc' L (.int (XT.cmpL x y) :: S)) : Run V K B Q h ps cs sl pc L (.long y :: .long x :: S) := by
  subst hp; exact r.plain fun T t hA hx hc st => XT.lcmp hA hx rfl (hb hc hd) rfl st
theorem r_i2l {x : Int32} (pc' : Nat) (hp : pc + 1 = pc') (hd : decode B.code pc = .ok (.i2l, 1)) (r : Run V K B Q h ps cs sl pc' L (.long x.toInt64 :: S)) : Run V K B Q h ps cs sl pc L (.int x :: S) := by
  subst hp; exact r.plain fun T t hA hx hc st => XS.i2l hA hx rfl (hb hc hd) rfl st
theorem r_i2b {x : Int32} (pc' : Nat) (hp : pc + 1 = pc') (hd : decode B.code pc = .ok (.i2b, 1)) (r : Run V K B Q h ps cs sl pc' L (.int x.toInt8.toInt32 :: S)) : Run V K B Q h ps cs sl pc L (.int x :: S) := by
  subst hp; exact r.plain fun T t hA hx hc st => XS.i2b hA hx rfl (hb hc hd) rfl st
theorem r_i2c {x : Int32} (pc' : Nat) (hp : pc + 1 = pc') (hd : decode B.code pc = .ok (.i2c, 1)) (r : Run V K B Q h ps cs sl pc' L (.int x.toUInt32.toUInt16.toUInt32.toInt32 :: S)) : Run V K B Q h ps cs sl pc L (.int x :: S) := by
  subst hp; exact r.plain fun T t hA hx hc st => XS.i2c hA hx rfl (hb hc hd) rfl st
theorem r_i2s {x : Int32} (pc' : Nat) (hp : pc + 1 = pc') (hd : decode B.code pc = .ok (.i2s, 1)) (r : Run V K B Q h ps cs sl pc' L (.int x.toInt16.toInt32 :: S)) : Run V K B Q h ps cs sl pc L (.int x :: S) := by
  subst hp; exact r.plain fun T t hA hx hc st => XS.i2s hA hx rfl (hb hc hd) rfl st
theorem r_l2i {x : Int64} (pc' : Nat) (hp : pc + 1 = pc') (hd : decode B.code pc = .ok (.l2i, 1)) (r : Run V K B Q h ps cs sl pc' L (.int x.toInt32 :: S)) : Run V K B Q h ps cs sl pc L (.long x :: S) := by
  subst hp; exact r.plain fun T t hA hx hc st => XS.l2i hA hx rfl (hb hc hd) rfl st
theorem r_dup {x : Value} (pc' : Nat) (hp : pc + 1 = pc') (hd : decode B.code pc = .ok (.dup, 1)) (hv : x.category = 1) (r : Run V K B Q h ps cs sl pc' L (x :: x :: S)) : Run V K B Q h ps cs sl pc L (x :: S) := by
  subst hp; exact r.plain fun T t hA hx hc st => XS.dup hA hx rfl (hb hc hd) rfl hv st
theorem r_pop {x : Value} (pc' : Nat) (hp : pc + 1 = pc') (hd : decode B.code pc = .ok (.pop, 1)) (hv : x.category = 1) (r : Run V K B Q h ps cs sl pc' L (S)) : Run V K B Q h ps cs sl pc L (x :: S) := by
  subst hp; exact r.plain fun T t hA hx hc st => XS.pop hA hx rfl (hb hc hd) rfl hv st
theorem r_dup2 {x y : Value} (pc' : Nat) (hp : pc + 1 = pc') (hd : decode B.code pc = .ok (.dup2, 1)) (hv : x.category = 1) (hv' : y.category = 1) (r : Run V K B Q h ps cs sl pc' L (x :: y :: x :: y :: S)) : Run V K B Q h ps cs sl pc L (x :: y :: S) := by
  subst hp; exact r.plain fun T t hA hx hc st => XT.dup2 hA hx rfl (hb hc hd) rfl hv hv' st
theorem r_dup2L {x : Int64} (pc' : Nat) (hp : pc + 1 = pc') (hd : decode B.code pc = .ok (.dup2, 1)) (r : Run V K B Q h ps cs sl pc' L (.long x :: .long x :: S)) : Run V K B Q h ps cs sl pc L (.long x :: S) := by
  subst hp; exact r.plain fun T t hA hx hc st => XT.dup2L hA hx rfl (hb hc hd) rfl st
theorem r_dupX1 {x y : Value} (pc' : Nat) (hp : pc + 1 = pc') (hd : decode B.code pc = .ok (.dup_x1, 1)) (hv : x.category = 1) (hv' : y.category = 1) (r : Run V K B Q h ps cs sl pc' L (x :: y :: x :: S)) : Run V K B Q h ps cs sl pc L (x :: y :: S) := by
  subst hp; exact r.plain fun T t hA hx hc st => XT.dupX1 hA hx rfl (hb hc hd) rfl hv hv' st
theorem r_iinc {k : Nat} {cst : Int} {x : Int32} (v : Int32) (L' : List Slot) (pc' : Nat) (hp : pc + 3 = pc') (hd : decode B.code pc = .ok (.iinc k cst, 3)) (hv : Int32.ofInt cst = v) (hl : L[k]? = some (.val (.int x))) (hl' : storeLocals L.toArray k (.int (x + v)) = some L'.toArray) (r : Run V K B Q h ps cs sl pc' L' (S)) : Run V K B Q h ps cs sl pc L (S) := by
  subst hp; exact r.plain fun T t hA hx hc st => XT.iincV hA hx rfl v (hb hc hd) hv (by show L.toArray[_]? = _; rw [List.getElem?_toArray]; exact hl) hl' st
theorem r_goto {o : Int} (pc' : Nat) (hd : decode B.code pc = .ok (.goto o, 3)) (ho : 0 ≤ (pc : Int) + o) (hp : ((pc : Int) + o).toNat = pc') (r : Run V K B Q h ps cs sl pc' L S) : Run V K B Q h ps cs sl pc L S :=
  r.plain fun T t hA hx hc st => XS.goto hA hx rfl rfl (hb hc hd) ho hp st
theorem r_icmp_eq {o : Int} {x y : Int32} (pc' pc'' : Nat) (hd : decode B.code pc = .ok (.if_icmp .eq o, 3)) (ho : 0 ≤ (pc : Int) + o) (hp : ((pc : Int) + o).toNat = pc') (hp' : pc + 3 = pc'') (t : x = y → Run V K B Q h ps cs sl pc' L S) (f : ¬ x = y → Run V K B Q h ps cs sl pc'' L S) : Run V K B Q h ps cs sl pc L (.int y :: .int x :: S) := by
  subst hp'
  by_cases q : x = y
  · exact (t q).plain fun T t hA hx hc st => XS.icmpYes hA hx rfl rfl (hb hc hd) rfl (XT.ii_eq_t q) ho hp st
  · exact (f q).plain fun T t hA hx hc st => XS.icmpNo hA hx rfl (hb hc hd) rfl (XT.ii_eq_f q) st
theorem r_if_eq {o : Int} {x : Int32} (pc' pc'' : Nat) (hd : decode B.code pc = .ok (.ifCond .eq o, 3)) (ho : 0 ≤ (pc : Int) + o) (hp : ((pc : Int) + o).toNat = pc') (hp' : pc + 3 = pc'') (t : x = 0 → Run V K B Q h ps cs sl pc' L S) (f : ¬ x = 0 → Run V K B Q h ps cs sl pc'' L S) : Run V K B Q h ps cs sl pc L (.int x :: S) := by
  subst hp'
  by_cases q : x = 0
  · exact (t q).plain fun T t hA hx hc st => XS.ifYes hA hx rfl rfl (hb hc hd) rfl (XT.i0_eq_t q) ho hp st
  · exact (f q).plain fun T t hA hx hc st => XS.ifNo hA hx rfl (hb hc hd) rfl (XT.i0_eq_f q) st
theorem r_lcmp_eq {o : Int} {x y : Int64} (pc1 pc' pc'' : Nat) (hd0 : decode B.code pc = .ok (.lcmp, 1)) (h1 : pc + 1 = pc1) (hd : decode B.code pc1 = .ok (.ifCond .eq o, 3)) (ho : 0 ≤ (pc1 : Int) + o) (hp : ((pc1 : Int) + o).toNat = pc') (hp' : pc1 + 3 = pc'') (t : x = y → Run V K B Q h ps cs sl pc' L S) (f : ¬ x = y → Run V K B Q h ps cs sl pc'' L S) : Run V K B Q h ps cs sl pc L (.long y :: .long x :: S) := by
  refine r_lcmp _ h1 hd0 ?_
  subst hp'
  by_cases q : x = y
  · exact (t q).plain fun T t hA hx hc st => XS.ifYes hA hx rfl rfl (hb hc hd) rfl (XT.ll_eq_t q) ho hp st
  · exact (f q).plain fun T t hA hx hc st => XS.ifNo hA hx rfl (hb hc hd) rfl (XT.ll_eq_f q) st
theorem r_icmp_ne {o : Int} {x y : Int32} (pc' pc'' : Nat) (hd : decode B.code pc = .ok (.if_icmp .ne o, 3)) (ho : 0 ≤ (pc : Int) + o) (hp : ((pc : Int) + o).toNat = pc') (hp' : pc + 3 = pc'') (t : ¬ x = y → Run V K B Q h ps cs sl pc' L S) (f : x = y → Run V K B Q h ps cs sl pc'' L S) : Run V K B Q h ps cs sl pc L (.int y :: .int x :: S) := by
  subst hp'
  by_cases q : ¬ x = y
  · exact (t q).plain fun T t hA hx hc st => XS.icmpYes hA hx rfl rfl (hb hc hd) rfl (XT.ii_ne_t q) ho hp st
  · exact (f (Decidable.not_not.mp q)).plain fun T t hA hx hc st => XS.icmpNo hA hx rfl (hb hc hd) rfl (XT.ii_ne_f (Decidable.not_not.mp q)) st
theorem r_if_ne {o : Int} {x : Int32} (pc' pc'' : Nat) (hd : decode B.code pc = .ok (.ifCond .ne o, 3)) (ho : 0 ≤ (pc : Int) + o) (hp : ((pc : Int) + o).toNat = pc') (hp' : pc + 3 = pc'') (t : ¬ x = 0 → Run V K B Q h ps cs sl pc' L S) (f : x = 0 → Run V K B Q h ps cs sl pc'' L S) : Run V K B Q h ps cs sl pc L (.int x :: S) := by
  subst hp'
  by_cases q : ¬ x = 0
  · exact (t q).plain fun T t hA hx hc st => XS.ifYes hA hx rfl rfl (hb hc hd) rfl (XT.i0_ne_t q) ho hp st
  · exact (f (Decidable.not_not.mp q)).plain fun T t hA hx hc st => XS.ifNo hA hx rfl (hb hc hd) rfl (XT.i0_ne_f (Decidable.not_not.mp q)) st
theorem r_lcmp_ne {o : Int} {x y : Int64} (pc1 pc' pc'' : Nat) (hd0 : decode B.code pc = .ok (.lcmp, 1)) (h1 : pc + 1 = pc1) (hd : decode B.code pc1 = .ok (.ifCond .ne o, 3)) (ho : 0 ≤ (pc1 : Int) + o) (hp : ((pc1 : Int) + o).toNat = pc') (hp' : pc1 + 3 = pc'') (t : ¬ x = y → Run V K B Q h ps cs sl pc' L S) (f : x = y → Run V K B Q h ps cs sl pc'' L S) : Run V K B Q h ps cs sl pc L (.long y :: .long x :: S) := by
  refine r_lcmp _ h1 hd0 ?_
  subst hp'
  by_cases q : ¬ x = y
  · exact (t q).plain fun T t hA hx hc st => XS.ifYes hA hx rfl rfl (hb hc hd) rfl (XT.ll_ne_t q) ho hp st
  · exact (f (Decidable.not_not.mp q)).plain fun T t hA hx hc st => XS.ifNo hA hx rfl (hb hc hd) rfl (XT.ll_ne_f (Decidable.not_not.mp q)) st
theorem r_icmp_lt {o : Int} {x y : Int32} (pc' pc'' : Nat) (hd : decode B.code pc = .ok (.if_icmp .lt o, 3)) (ho : 0 ≤ (pc : Int) + o) (hp : ((pc : Int) + o).toNat = pc') (hp' : pc + 3 = pc'') (t : x < y → Run V K B Q h ps cs sl pc' L S) (f : ¬ x < y → Run V K B Q h ps cs sl pc'' L S) : Run V K B Q h ps cs sl pc L (.int y :: .int x :: S) := by
  subst hp'
  by_cases q : x < y
  · exact (t q).plain fun T t hA hx hc st => XS.icmpYes hA hx rfl rfl (hb hc hd) rfl (XT.ii_lt_t q) ho hp st
  · exact (f q).plain fun T t hA hx hc st => XS.icmpNo hA hx rfl (hb hc hd) rfl (XT.ii_lt_f q) st
theorem r_if_lt {o : Int} {x : Int32} (pc' pc'' : Nat) (hd : decode B.code pc = .ok (.ifCond .lt o, 3)) (ho : 0 ≤ (pc : Int) + o) (hp : ((pc : Int) + o).toNat = pc') (hp' : pc + 3 = pc'') (t : x < 0 → Run V K B Q h ps cs sl pc' L S) (f : ¬ x < 0 → Run V K B Q h ps cs sl pc'' L S) : Run V K B Q h ps cs sl pc L (.int x :: S) := by
  subst hp'
  by_cases q : x < 0
  · exact (t q).plain fun T t hA hx hc st => XS.ifYes hA hx rfl rfl (hb hc hd) rfl (XT.i0_lt_t q) ho hp st
  · exact (f q).plain fun T t hA hx hc st => XS.ifNo hA hx rfl (hb hc hd) rfl (XT.i0_lt_f q) st
theorem r_lcmp_lt {o : Int} {x y : Int64} (pc1 pc' pc'' : Nat) (hd0 : decode B.code pc = .ok (.lcmp, 1)) (h1 : pc + 1 = pc1) (hd : decode B.code pc1 = .ok (.ifCond .lt o, 3)) (ho : 0 ≤ (pc1 : Int) + o) (hp : ((pc1 : Int) + o).toNat = pc') (hp' : pc1 + 3 = pc'') (t : x < y → Run V K B Q h ps cs sl pc' L S) (f : ¬ x < y → Run V K B Q h ps cs sl pc'' L S) : Run V K B Q h ps cs sl pc L (.long y :: .long x :: S) := by
  refine r_lcmp _ h1 hd0 ?_
  subst hp'
  by_cases q : x < y
  · exact (t q).plain fun T t hA hx hc st => XS.ifYes hA hx rfl rfl (hb hc hd) rfl (XT.ll_lt_t q) ho hp st
  · exact (f q).plain fun T t hA hx hc st => XS.ifNo hA hx rfl (hb hc hd) rfl (XT.ll_lt_f q) st
theorem r_icmp_ge {o : Int} {x y : Int32} (pc' pc'' : Nat) (hd : decode B.code pc = .ok (.if_icmp .ge o, 3)) (ho : 0 ≤ (pc : Int) + o) (hp : ((pc : Int) + o).toNat = pc') (hp' : pc + 3 = pc'') (t : ¬ x < y → Run V K B Q h ps cs sl pc' L S) (f : x < y → Run V K B Q h ps cs sl pc'' L S) : Run V K B Q h ps cs sl pc L (.int y :: .int x :: S) := by
  subst hp'
  by_cases q : ¬ x < y
  · exact (t q).plain fun T t hA hx hc st => XS.icmpYes hA hx rfl rfl (hb hc hd) rfl (XT.ii_ge_t q) ho hp st
  · exact (f (Decidable.not_not.mp q)).plain fun T t hA hx hc st => XS.icmpNo hA hx rfl (hb hc hd) rfl (XT.ii_ge_f (Decidable.not_not.mp q)) st
theorem r_if_ge {o : Int} {x : Int32} (pc' pc'' : Nat) (hd : decode B.code pc = .ok (.ifCond .ge o, 3)) (ho : 0 ≤ (pc : Int) + o) (hp : ((pc : Int) + o).toNat = pc') (hp' : pc + 3 = pc'') (t : ¬ x < 0 → Run V K B Q h ps cs sl pc' L S) (f : x < 0 → Run V K B Q h ps cs sl pc'' L S) : Run V K B Q h ps cs sl pc L (.int x :: S) := by
  subst hp'
  by_cases q : ¬ x < 0
  · exact (t q).plain fun T t hA hx hc st => XS.ifYes hA hx rfl rfl (hb hc hd) rfl (XT.i0_ge_t q) ho hp st
  · exact (f (Decidable.not_not.mp q)).plain fun T t hA hx hc st => XS.ifNo hA hx rfl (hb hc hd) rfl (XT.i0_ge_f (Decidable.not_not.mp q)) st
theorem r_lcmp_ge {o : Int} {x y : Int64} (pc1 pc' pc'' : Nat) (hd0 : decode B.code pc = .ok (.lcmp, 1)) (h1 : pc + 1 = pc1) (hd : decode B.code pc1 = .ok (.ifCond .ge o, 3)) (ho : 0 ≤ (pc1 : Int) + o) (hp : ((pc1 : Int) + o).toNat = pc') (hp' : pc1 + 3 = pc'') (t : ¬ x < y → Run V K B Q h ps cs sl pc' L S) (f : x < y → Run V K B Q h ps cs sl pc'' L S) : Run V K B Q h ps cs sl pc L (.long y :: .long x :: S) := by
  refine r_lcmp _ h1 hd0 ?_
  subst hp'
  by_cases q : ¬ x < y
  · exact (t q).plain fun T t hA hx hc st => XS.ifYes hA hx rfl rfl (hb hc hd) rfl (XT.ll_ge_t q) ho hp st
  · exact (f (Decidable.not_not.mp q)).plain fun T t hA hx hc st => XS.ifNo hA hx rfl (hb hc hd) rfl (XT.ll_ge_f (Decidable.not_not.mp q)) st
theorem r_icmp_gt {o : Int} {x y : Int32} (pc' pc'' : Nat) (hd : decode B.code pc = .ok (.if_icmp .gt o, 3)) (ho : 0 ≤ (pc : Int) + o) (hp : ((pc : Int) + o).toNat = pc') (hp' : pc + 3 = pc'') (t : y < x → Run V K B Q h ps cs sl pc' L S) (f : ¬ y < x → Run V K B Q h ps cs sl pc'' L S) : Run V K B Q h ps cs sl pc L (.int y :: .int x :: S) := by
  subst hp'
  by_cases q : y < x
  · exact (t q).plain fun T t hA hx hc st => XS.icmpYes hA hx rfl rfl (hb hc hd) rfl (XT.ii_gt_t q) ho hp st
  · exact (f q).plain fun T t hA hx hc st => XS.icmpNo hA hx rfl (hb hc hd) rfl (XT.ii_gt_f q) st
theorem r_if_gt {o : Int} {x : Int32} (pc' pc'' : Nat) (hd : decode B.code pc = .ok (.ifCond .gt o, 3)) (ho : 0 ≤ (pc : Int) + o) (hp : ((pc : Int) + o).toNat = pc') (hp' : pc + 3 = pc'') (t : 0 < x → Run V K B Q h ps cs sl pc' L S) (f : ¬ 0 < x → Run V K B Q h ps cs sl pc'' L S) : Run V K B Q h ps cs sl pc L (.int x :: S) := by
  subst hp'
  by_cases q : 0 < x
  · exact (t q).plain fun T t hA hx hc st => XS.ifYes hA hx rfl rfl (hb hc hd) rfl (XT.i0_gt_t q) ho hp st
  · exact (f q).plain fun T t hA hx hc st => XS.ifNo hA hx rfl (hb hc hd) rfl (XT.i0_gt_f q) st
theorem r_lcmp_gt {o : Int} {x y : Int64} (pc1 pc' pc'' : Nat) (hd0 : decode B.code pc = .ok (.lcmp, 1)) (h1 : pc + 1 = pc1) (hd : decode B.code pc1 = .ok (.ifCond .gt o, 3)) (ho : 0 ≤ (pc1 : Int) + o) (hp : ((pc1 : Int) + o).toNat = pc') (hp' : pc1 + 3 = pc'') (t : y < x → Run V K B Q h ps cs sl pc' L S) (f : ¬ y < x → Run V K B Q h ps cs sl pc'' L S) : Run V K B Q h ps cs sl pc L (.long y :: .long x :: S) := by
  refine r_lcmp _ h1 hd0 ?_
  subst hp'
  by_cases q : y < x
  · exact (t q).plain fun T t hA hx hc st => XS.ifYes hA hx rfl rfl (hb hc hd) rfl (XT.ll_gt_t q) ho hp st
  · exact (f q).plain fun T t hA hx hc st => XS.ifNo hA hx rfl (hb hc hd) rfl (XT.ll_gt_f q) st
theorem r_icmp_le {o : Int} {x y : Int32} (pc' pc'' : Nat) (hd : decode B.code pc = .ok (.if_icmp .le o, 3)) (ho : 0 ≤ (pc : Int) + o) (hp : ((pc : Int) + o).toNat = pc') (hp' : pc + 3 = pc'') (t : ¬ y < x → Run V K B Q h ps cs sl pc' L S) (f : y < x → Run V K B Q h ps cs sl pc'' L S) : Run V K B Q h ps cs sl pc L (.int y :: .int x :: S) := by
  subst hp'
  by_cases q : ¬ y < x
  · exact (t q).plain fun T t hA hx hc st => XS.icmpYes hA hx rfl rfl (hb hc hd) rfl (XT.ii_le_t q) ho hp st
  · exact (f (Decidable.not_not.mp q)).plain fun T t hA hx hc st => XS.icmpNo hA hx rfl (hb hc hd) rfl (XT.ii_le_f (Decidable.not_not.mp q)) st
theorem r_if_le {o : Int} {x : Int32} (pc' pc'' : Nat) (hd : decode B.code pc = .ok (.ifCond .le o, 3)) (ho : 0 ≤ (pc : Int) + o) (hp : ((pc : Int) + o).toNat = pc') (hp' : pc + 3 = pc'') (t : ¬ 0 < x → Run V K B Q h ps cs sl pc' L S) (f : 0 < x → Run V K B Q h ps cs sl pc'' L S) : Run V K B Q h ps cs sl pc L (.int x :: S) := by
  subst hp'
  by_cases q : ¬ 0 < x
  · exact (t q).plain fun T t hA hx hc st => XS.ifYes hA hx rfl rfl (hb hc hd) rfl (XT.i0_le_t q) ho hp st
  · exact (f (Decidable.not_not.mp q)).plain fun T t hA hx hc st => XS.ifNo hA hx rfl (hb hc hd) rfl (XT.i0_le_f (Decidable.not_not.mp q)) st
theorem r_lcmp_le {o : Int} {x y : Int64} (pc1 pc' pc'' : Nat) (hd0 : decode B.code pc = .ok (.lcmp, 1)) (h1 : pc + 1 = pc1) (hd : decode B.code pc1 = .ok (.ifCond .le o, 3)) (ho : 0 ≤ (pc1 : Int) + o) (hp : ((pc1 : Int) + o).toNat = pc') (hp' : pc1 + 3 = pc'') (t : ¬ y < x → Run V K B Q h ps cs sl pc' L S) (f : y < x → Run V K B Q h ps cs sl pc'' L S) : Run V K B Q h ps cs sl pc L (.long y :: .long x :: S) := by
  refine r_lcmp _ h1 hd0 ?_
  subst hp'
  by_cases q : ¬ y < x
  · exact (t q).plain fun T t hA hx hc st => XS.ifYes hA hx rfl rfl (hb hc hd) rfl (XT.ll_le_t q) ho hp st
  · exact (f (Decidable.not_not.mp q)).plain fun T t hA hx hc st => XS.ifNo hA hx rfl (hb hc hd) rfl (XT.ll_le_f (Decidable.not_not.mp q)) st
theorem r_ifnull_t {o : Int} (pc' : Nat) (hd : decode B.code pc = .ok (.ifnull o, 3)) (ho : 0 ≤ (pc : Int) + o) (hp : ((pc : Int) + o).toNat = pc') (r : Run V K B Q h ps cs sl pc' L S) : Run V K B Q h ps cs sl pc L (.null :: S) :=
  r.plain fun T t hA hx hc st => XS.ifnullYes hA hx rfl rfl (hb hc hd) rfl ho hp st
theorem r_ifnull_f {o : Int} {b : Nat} (pc' : Nat) (hp : pc + 3 = pc') (hd : decode B.code pc = .ok (.ifnull o, 3)) (r : Run V K B Q h ps cs sl pc' L S) : Run V K B Q h ps cs sl pc L (.ref b :: S) := by
  subst hp; exact r.plain fun T t hA hx hc st => XS.ifnullNo hA hx rfl (hb hc hd) rfl st
theorem r_ifnonnull_t {o : Int} {b : Nat} (pc' : Nat) (hd : decode B.code pc = .ok (.ifnonnull o, 3)) (ho : 0 ≤ (pc : Int) + o) (hp : ((pc : Int) + o).toNat = pc') (r : Run V K B Q h ps cs sl pc' L S) : Run V K B Q h ps cs sl pc L (.ref b :: S) :=
  r.plain fun T t hA hx hc st => XS.ifnonnullYes hA hx rfl rfl (hb hc hd) rfl ho hp st
theorem r_ifnonnull_f {o : Int} (pc' : Nat) (hp : pc + 3 = pc') (hd : decode B.code pc = .ok (.ifnonnull o, 3)) (r : Run V K B Q h ps cs sl pc' L S) : Run V K B Q h ps cs sl pc L (.null :: S) := by
  subst hp; exact r.plain fun T t hA hx hc st => XS.ifnonnullNo hA hx rfl (hb hc hd) rfl st
theorem r_acmp_eq {o : Int} {x y : Value} (pc' pc'' : Nat) (hd : decode B.code pc = .ok (.if_acmp .eq o, 3)) (hx1 : x.isRef = true) (hy1 : y.isRef = true) (ho : 0 ≤ (pc : Int) + o) (hp : ((pc : Int) + o).toNat = pc') (hp' : pc + 3 = pc'') (t : x = y → Run V K B Q h ps cs sl pc' L S) (f : ¬ x = y → Run V K B Q h ps cs sl pc'' L S) : Run V K B Q h ps cs sl pc L (y :: x :: S) := by
  subst hp'
  by_cases q : x = y
  · exact (t q).plain fun T t hA hx hc st => XT.acmpYes hA hx rfl rfl (hb hc hd) rfl hx1 hy1 (XT.aa_eq_t q) ho hp st
  · exact (f q).plain fun T t hA hx hc st => XT.acmpNo hA hx rfl (hb hc hd) rfl hx1 hy1 (XT.aa_eq_f q) st
theorem r_acmp_ne {o : Int} {x y : Value} (pc' pc'' : Nat) (hd : decode B.code pc = .ok (.if_acmp .ne o, 3)) (hx1 : x.isRef = true) (hy1 : y.isRef = true) (ho : 0 ≤ (pc : Int) + o) (hp : ((pc : Int) + o).toNat = pc') (hp' : pc + 3 = pc'') (t : ¬ x = y → Run V K B Q h ps cs sl pc' L S) (f : x = y → Run V K B Q h ps cs sl pc'' L S) : Run V K B Q h ps cs sl pc L (y :: x :: S) := by
  subst hp'
  by_cases q : ¬ x = y
  · exact (t q).plain fun T t hA hx hc st => XT.acmpYes hA hx rfl rfl (hb hc hd) rfl hx1 hy1 (XT.aa_ne_t q) ho hp st
  · exact (f (Decidable.not_not.mp q)).plain fun T t hA hx hc st => XT.acmpNo hA hx rfl (hb hc hd) rfl hx1 hy1 (XT.aa_ne_f (Decidable.not_not.mp q)) st
theorem r_ldcI {i : Nat} {v : Int32} (pc' : Nat) (hp : pc + 2 = pc') (hd : decode B.code pc = .ok (.ldc i, 2)) (w : (Jvm.Cond.constant B.y.cls i v).before V.a0 V.Z = true) (r : Run V K B Q h ps cs sl pc' L (.int v :: S)) : Run V K B Q h ps cs sl pc L S := by
  subst hp; exact r.still fun T locs vm0 X eT hZ ho O G => ⟨T, X, eT, fun t st => Jvm.Stand.ldcI X G.1 ho (mv hZ w) rfl (hb G.2.1 hd) st⟩
theorem r_ldcWI {i : Nat} {v : Int32} (pc' : Nat) (hp : pc + 3 = pc') (hd : decode B.code pc = .ok (.ldc_w i, 3)) (w : (Jvm.Cond.constant B.y.cls i v).before V.a0 V.Z = true) (r : Run V K B Q h ps cs sl pc' L (.int v :: S)) : Run V K B Q h ps cs sl pc L S := by
  subst hp; exact r.still fun T locs vm0 X eT hZ ho O G => ⟨T, X, eT, fun t st => Jvm.Stand.ldcWI X G.1 ho (mv hZ w) rfl (hb G.2.1 hd) st⟩
theorem r_ldc2J {i : Nat} {v : Int64} (pc' : Nat) (hp : pc + 3 = pc') (hd : decode B.code pc = .ok (.ldc2_w i, 3)) (w : (Jvm.Cond.constantLong B.y.cls i v).before V.a0 V.Z = true) (r : Run V K B Q h ps cs sl pc' L (.long v :: S)) : Run V K B Q h ps cs sl pc L S := by
  subst hp; exact r.still fun T locs vm0 X eT hZ ho O G => ⟨T, X, eT, fun t st => Jvm.Stand.ldc2J X G.1 ho (mv hZ w) rfl (hb G.2.1 hd) st⟩
theorem r_getfield {i : Nat} {O n d : String} {a : Nat} {v : Value} (pc' : Nat) (hp : pc + 3 = pc') (hd : decode B.code pc = .ok (.getfield i, 3)) (w : (Jvm.Cond.fieldLink B.y.cls i O n d).before V.a0 V.Z = true) (F : Fld V.Z h a O n d v) (r : Run V K B Q h ps cs sl pc' L (v :: S)) : Run V K B Q h ps cs sl pc L (.ref a :: S) := by
  subst hp; exact r.still fun T locs vm0 X eT hZ ho O G => getF X G.1 hZ ho (host := "") (Or.inl w) Via.refl eT F (g := mkF K.m pc L.toArray (.ref a :: S)) rfl rfl (hb G.2.1 hd)
theorem r_getstatic {i : Nat} {O n d : String} {v : Value} (pc' : Nat) (hp : pc + 3 = pc') (hd : decode B.code pc = .ok (.getstatic i, 3)) (w : (Jvm.Cond.fieldLink B.y.cls i O n d).before V.a0 V.Z = true) (F : Sta V.Z V.Z.heap O n d v) (r : Run V K B Q h ps cs sl pc' L (v :: S)) : Run V K B Q h ps cs sl pc L S := by
  subst hp; exact r.still fun T locs vm0 X eT hZ ho O G => getS X G.1 hZ ho (host := "") w Via.refl eT (F.ext O) (g := mkF K.m pc L.toArray S) rfl (hb G.2.1 hd)
theorem r_putfield {i kk : Nat} {O n d C : String} {a : Nat} {v old : Value} {ty : FieldType} (pc' : Nat) (hp : pc + 3 = pc') (hd : decode B.code pc = .ok (.putfield i, 3)) (w : (Jvm.Cond.fieldLink B.y.cls i O n d).before V.a0 V.Z = true) (F : Fld V.Z h a O n d old) (E : Exa V.Z h a C)
    (Lw : (Jvm.Cond.lays C O n d).before V.a0 V.Z = true ∨ ((Jvm.Cond.laysFinal C O n d).before V.a0 V.Z = true ∧ B.y.cls = O ∧ B.y.name = "<init>")) (wi : (Jvm.Cond.instantiable C kk).before V.a0 V.Z = true) (hty : parseFieldDescriptor d = some ty) (hn : narrow ty v = v) (hf : fits ty v = true)
    (ha : V.Z.heap.size ≤ a) (hs : C ≠ "java/lang/String" ∧ C ≠ "[B" ∨ a ∈ ps) (r : ∀ h', Wr h h' a (RoadKit.slotOf V.Z O n d) v → Run V K B Q h' ps cs sl pc' L S) : Run V K B Q h ps cs sl pc L (v :: .ref a :: S) := by
  subst hp; exact Run.write ha (fun vm al P => hs.elim (fun q => Safe.exa al E q.1 q.2) (fun q => (P a q).2)) r fun T locs vm0 X eT hZ ho G => putF X G.1 hZ ho (host := "") (Or.inl w) Via.refl eT F E (Lw.imp id fun q => ⟨q.1, q.2.1, G.2.2.2.2.2.trans q.2.2⟩) wi hty hn hf (g := mkF K.m pc L.toArray (v :: .ref a :: S)) rfl rfl (hb G.2.1 hd)
theorem r_new {i n : Nat} {C : String} (pc' : Nat) (hp : pc + 3 = pc') (hd : decode B.code pc = .ok (.new i, 3)) (w : (Jvm.Cond.classLink B.y.cls i C).before V.a0 V.Z = true) (wi : (Jvm.Cond.instantiable C n).before V.a0 V.Z = true) (wz : (Jvm.Cond.initialized C).before V.a0 V.Z = true) (hc : cs + 1 ≤ B.R.cells) (hl : sl + n ≤ B.R.slots)
    (r : ∀ (a : Nat) h', a = h.size → V.Z.heap.size ≤ a → Ext h h' → Exa V.Z h' a C → (∀ {O nm d : String} {ty : FieldType}, RoadKit.Laid V.Z V.a0 C O nm d → parseFieldDescriptor d = some ty → Fld V.Z h' a O nm d (defaultValue ty)) → Run V K B Q h' (a :: ps) (cs + 1) (sl + n) pc' L (.ref a :: S)) : Run V K B Q h ps cs sl pc L S := by
  subst hp; refine Run.make (S' := fun a => .ref a :: S) (P := fun h' => Exa V.Z h' h.size C ∧ ∀ {O nm d : String} {ty : FieldType}, RoadKit.Laid V.Z V.a0 C O nm d → parseFieldDescriptor d = some ty → Fld V.Z h' h.size O nm d (defaultValue ty)) (fun h' E hz q => r _ h' rfl hz E q.1 q.2) fun T locs vm0 X eT hZ ho G => ?_
  obtain ⟨T', h', X', e', E, A, D, -, st⟩ := newO X G.1 hZ ho w wi wz eT (g := mkF K.m pc L.toArray S) rfl (hb G.2.1 hd) hc hl
  exact ⟨T', h', X', e', E, A.lt, ⟨A, D⟩, st⟩
theorem r_newarray {aty : ArrayType} {n : Int32} (cap : Nat) (pc' : Nat) (hp : pc + 2 = pc') (hd : decode B.code pc = .ok (.newarray aty, 2)) (w : (Jvm.Cond.arrayClass (newarray.typeOf aty)).before V.a0 V.Z = true) (hn : ¬ n < 0) (hcap : n.toNatClampNeg ≤ cap) (hbig : cap * 8 ≤ 536870912) (hc : cs + 1 ≤ B.R.cells) (hl : sl + cap ≤ B.R.slots)
    (r : ∀ (a : Nat) h' k, a = h.size → V.Z.heap.size ≤ a → Ext h h' → Arv V.Z h' a k (newarray.typeOf aty) n [] (defaultValue (newarray.typeOf aty)) → Run V K B Q h' (a :: ps) (cs + 1) (sl + cap) pc' L (.ref a :: S)) : Run V K B Q h ps cs sl pc L (.int n :: S) := by
  subst hp; refine Run.make (S' := fun a => .ref a :: S) (P := fun h' => ∃ k, Arv V.Z h' h.size k (newarray.typeOf aty) n [] (defaultValue (newarray.typeOf aty))) (fun h' E hz ⟨k, q⟩ => r _ h' k rfl hz E q) fun T locs vm0 X eT hZ ho G => ?_
  obtain ⟨T', h', cA, X', e', E, A, st⟩ := newP X G.1 hZ w eT (g := mkF K.m pc L.toArray (.int n :: S)) rfl (hb G.2.1 hd) rfl hn hcap hbig hc hl
  exact ⟨T', h', X', e', E, A.lt, ⟨cA, Arv.new A hn⟩, st⟩
theorem r_anewarray {i : Nat} {C : String} {n : Int32} (cap : Nat) (pc' : Nat) (hp : pc + 3 = pc') (hd : decode B.code pc = .ok (.anewarray i, 3)) (w1 : (Jvm.Cond.classLink B.y.cls i C).before V.a0 V.Z = true) (w2 : (Jvm.Cond.arrayOver (.object C)).before V.a0 V.Z = true) (hn : ¬ n < 0) (hcap : n.toNatClampNeg ≤ cap) (hbig : cap * 8 ≤ 536870912) (hc : cs + 1 ≤ B.R.cells) (hl : sl + cap ≤ B.R.slots)
    (r : ∀ (a : Nat) h' k, a = h.size → V.Z.heap.size ≤ a → Ext h h' → Arv V.Z h' a k (.object C) n [] .null → Ovr V.Z k C → Run V K B Q h' (a :: ps) (cs + 1) (sl + cap) pc' L (.ref a :: S)) : Run V K B Q h ps cs sl pc L (.int n :: S) := by
  subst hp; refine Run.make (S' := fun a => .ref a :: S) (P := fun h' => ∃ k, Arv V.Z h' h.size k (.object C) n [] .null ∧ Ovr V.Z k C) (fun h' E hz ⟨k, q, q'⟩ => r _ h' k rfl hz E q q') fun T locs vm0 X eT hZ ho G => ?_
  obtain ⟨T', h', cA, X', e', E, A, O, st⟩ := newR X G.1 hZ ho w1 w2 eT (g := mkF K.m pc L.toArray (.int n :: S)) rfl (hb G.2.1 hd) rfl hn hcap hbig hc hl
  exact ⟨T', h', X', e', E, A.lt, ⟨cA, Arv.new A hn, O⟩, st⟩
theorem r_iaload {a : Nat} {k : ClassId} {z j : Int32} {vs : List Value} {dv v : Value} (pc' : Nat) (hp : pc + 1 = pc') (hd : decode B.code pc = .ok (.iaload, 1)) (A : Arv V.Z h a k .int z vs dv) (hj : ¬ j < 0 ∧ j < z) (hv : vs.getD j.toNatClampNeg dv = v) (r : Run V K B Q h ps cs sl pc' L (v :: S)) : Run V K B Q h ps cs sl pc L (.int j :: .ref a :: S) := by
  subst hp; refine r.still fun T locs vm0 X eT hZ ho O G => ⟨T, X, eT, fun t st => ?_⟩
  obtain ⟨c, A1, q1, S1, N1, H1, G1⟩ := A
  exact X.iaload G.1 (by rw [eT]; exact A1.1) (State.isArrayOf_alike hZ.alike A1.2.1) A1.2.2 (inb_of S1 hj) (H1.at (inb_of S1 hj) hv) (g := mkF K.m pc L.toArray (.int j :: .ref a :: S)) rfl rfl (hb G.2.1 hd) _ st
theorem r_caload {a : Nat} {k : ClassId} {z j : Int32} {vs : List Value} {dv v : Value} (pc' : Nat) (hp : pc + 1 = pc') (hd : decode B.code pc = .ok (.caload, 1)) (A : Arv V.Z h a k .char z vs dv) (hj : ¬ j < 0 ∧ j < z) (hv : vs.getD j.toNatClampNeg dv = v) (r : Run V K B Q h ps cs sl pc' L (v :: S)) : Run V K B Q h ps cs sl pc L (.int j :: .ref a :: S) := by
  subst hp; refine r.still fun T locs vm0 X eT hZ ho O G => ⟨T, X, eT, fun t st => ?_⟩
  obtain ⟨c, A1, q1, S1, N1, H1, G1⟩ := A
  exact X.caload G.1 (by rw [eT]; exact A1.1) (State.isArrayOf_alike hZ.alike A1.2.1) A1.2.2 (inb_of S1 hj) (H1.at (inb_of S1 hj) hv) (g := mkF K.m pc L.toArray (.int j :: .ref a :: S)) rfl rfl (hb G.2.1 hd) _ st
theorem r_baload {a : Nat} {k : ClassId} {z j : Int32} {vs : List Value} {dv v : Value} (pc' : Nat) (hp : pc + 1 = pc') (hd : decode B.code pc = .ok (.baload, 1)) (A : Arv V.Z h a k .byte z vs dv) (hj : ¬ j < 0 ∧ j < z) (hv : vs.getD j.toNatClampNeg dv = v) (r : Run V K B Q h ps cs sl pc' L (v :: S)) : Run V K B Q h ps cs sl pc L (.int j :: .ref a :: S) := by
  subst hp; refine r.still fun T locs vm0 X eT hZ ho O G => ⟨T, X, eT, fun t st => ?_⟩
  obtain ⟨c, A1, q1, S1, N1, H1, G1⟩ := A
  exact X.baloadBytes G.1 (by rw [eT]; exact A1.1) (State.isArrayOf_alike hZ.alike A1.2.1) A1.2.2 (inb_of S1 hj) (H1.at (inb_of S1 hj) hv) (g := mkF K.m pc L.toArray (.int j :: .ref a :: S)) rfl rfl (hb G.2.1 hd) _ st
theorem r_saload {a : Nat} {k : ClassId} {z j : Int32} {vs : List Value} {dv v : Value} (pc' : Nat) (hp : pc + 1 = pc') (hd : decode B.code pc = .ok (.saload, 1)) (A : Arv V.Z h a k .short z vs dv) (hj : ¬ j < 0 ∧ j < z) (hv : vs.getD j.toNatClampNeg dv = v) (r : Run V K B Q h ps cs sl pc' L (v :: S)) : Run V K B Q h ps cs sl pc L (.int j :: .ref a :: S) := by
  subst hp; refine r.still fun T locs vm0 X eT hZ ho O G => ⟨T, X, eT, fun t st => ?_⟩
  obtain ⟨c, A1, q1, S1, N1, H1, G1⟩ := A
  exact X.saload G.1 (by rw [eT]; exact A1.1) (State.isArrayOf_alike hZ.alike A1.2.1) A1.2.2 (inb_of S1 hj) (H1.at (inb_of S1 hj) hv) (g := mkF K.m pc L.toArray (.int j :: .ref a :: S)) rfl rfl (hb G.2.1 hd) _ st
theorem r_laload {a : Nat} {k : ClassId} {z j : Int32} {vs : List Value} {dv v : Value} (pc' : Nat) (hp : pc + 1 = pc') (hd : decode B.code pc = .ok (.laload, 1)) (A : Arv V.Z h a k .long z vs dv) (hj : ¬ j < 0 ∧ j < z) (hv : vs.getD j.toNatClampNeg dv = v) (r : Run V K B Q h ps cs sl pc' L (v :: S)) : Run V K B Q h ps cs sl pc L (.int j :: .ref a :: S) := by
  subst hp; refine r.still fun T locs vm0 X eT hZ ho O G => ⟨T, X, eT, fun t st => ?_⟩
  obtain ⟨c, A1, q1, S1, N1, H1, G1⟩ := A
  exact X.laload G.1 (by rw [eT]; exact A1.1) (State.isArrayOf_alike hZ.alike A1.2.1) A1.2.2 (inb_of S1 hj) (H1.at (inb_of S1 hj) hv) (g := mkF K.m pc L.toArray (.int j :: .ref a :: S)) rfl rfl (hb G.2.1 hd) _ st
theorem r_aaload {a : Nat} {k : ClassId} {ty : FieldType} {z j : Int32} {vs : List Value} {dv v : Value} (pc' : Nat) (hp : pc + 1 = pc') (hd : decode B.code pc = .ok (.aaload, 1)) (A : Arv V.Z h a k ty z vs dv) (hty : ty.isReference = true) (hj : ¬ j < 0 ∧ j < z) (hv : vs.getD j.toNatClampNeg dv = v) (r : Run V K B Q h ps cs sl pc' L (v :: S)) : Run V K B Q h ps cs sl pc L (.int j :: .ref a :: S) := by
  subst hp; refine r.still fun T locs vm0 X eT hZ ho O G => ⟨T, X, eT, fun t st => ?_⟩
  obtain ⟨c, A1, q1, S1, N1, H1, G1⟩ := A
  exact X.aaload G.1 (by rw [eT]; exact A1.1) (State.isArrayOf_alike hZ.alike A1.2.1) hty A1.2.2 (inb_of S1 hj) (H1.at (inb_of S1 hj) hv) (g := mkF K.m pc L.toArray (.int j :: .ref a :: S)) rfl rfl (hb G.2.1 hd) _ st
theorem r_arraylength {a : Nat} {k : ClassId} {ty : FieldType} {z : Int32} {vs : List Value} {dv : Value} (pc' : Nat) (hp : pc + 1 = pc') (hd : decode B.code pc = .ok (.arraylength, 1)) (A : Arv V.Z h a k ty z vs dv) (r : Run V K B Q h ps cs sl pc' L (.int z :: S)) : Run V K B Q h ps cs sl pc L (.ref a :: S) := by
  subst hp; refine r.still fun T locs vm0 X eT hZ ho O G => ⟨T, X, eT, fun t st => ?_⟩
  obtain ⟨c, A1, q1, S1, N1, H1, G1⟩ := A
  exact X.arraylength G.1 (by rw [eT]; exact A1.1) (State.isArrayOf_alike hZ.alike A1.2.1) (g := mkF K.m pc L.toArray (.ref a :: S)) rfl rfl (hb G.2.1 hd) _ (by rw [len_of S1 N1]; exact st)
theorem r_castore {a : Nat} {k : ClassId} {z j x : Int32} {vs : List Value} {dv : Value} (i : Nat) (pc' : Nat) (hp : pc + 1 = pc') (hd : decode B.code pc = .ok (.castore, 1)) (A : Arv V.Z h a k .char z vs dv) (hj : ¬ j < 0 ∧ j < z) (ji : j.toNatClampNeg = i) (hi : i < vs.length) (ha : V.Z.heap.size ≤ a) (x' : Int32) (hx' : nar .char x = x')
    (r : ∀ h', Wr h h' a i (.int x') → Arv V.Z h' a k .char z (vs.set i (.int x')) dv → Run V K B Q h' ps cs sl pc' L S) : Run V K B Q h ps cs sl pc L (.int x :: .int j :: .ref a :: S) := by
  subst hp hx' ji; refine Run.write ha (fun vm al P => Safe.arr al A.choose_spec.1 (by decide)) (fun h' W => r h' W ?_) fun T locs vm0 X eT hZ ho G => ?_
  · obtain ⟨c, A1, q1, S1, N1, H1, G1⟩ := A
    exact Arv.set A1 q1 S1 N1 H1 G1 (fits_nar_char x) W _ rfl hi
  · obtain ⟨c, A1, q1, S1, N1, H1, G1⟩ := A
    exact stC X G.1 hZ eT A1 (inb_of S1 hj) (g := mkF K.m pc L.toArray (.int x :: .int j :: .ref a :: S)) rfl rfl (hb G.2.1 hd)
theorem r_bastore {a : Nat} {k : ClassId} {z j x : Int32} {vs : List Value} {dv : Value} (i : Nat) (pc' : Nat) (hp : pc + 1 = pc') (hd : decode B.code pc = .ok (.bastore, 1)) (A : Arv V.Z h a k .byte z vs dv) (hj : ¬ j < 0 ∧ j < z) (ji : j.toNatClampNeg = i) (hi : i < vs.length) (ha : V.Z.heap.size ≤ a) (hs : a ∈ ps) (x' : Int32) (hx' : x.toInt8.toInt32 = x')
    (r : ∀ h', Wr h h' a i (.int x') → Arv V.Z h' a k .byte z (vs.set i (.int x')) dv → Run V K B Q h' ps cs sl pc' L S) : Run V K B Q h ps cs sl pc L (.int x :: .int j :: .ref a :: S) := by
  subst hp hx' ji; refine Run.write ha (fun vm al P => (P a hs).2) (fun h' W => r h' W ?_) fun T locs vm0 X eT hZ ho G => ?_
  · obtain ⟨c, A1, q1, S1, N1, H1, G1⟩ := A
    exact Arv.set A1 q1 S1 N1 H1 G1 (fits_nar_byte x) W _ rfl hi
  · obtain ⟨c, A1, q1, S1, N1, H1, G1⟩ := A
    exact stB X G.1 hZ eT A1 (inb_of S1 hj) (g := mkF K.m pc L.toArray (.int x :: .int j :: .ref a :: S)) rfl rfl (hb G.2.1 hd)
theorem r_iastore {a : Nat} {k : ClassId} {z j x : Int32} {vs : List Value} {dv : Value} (i : Nat) (pc' : Nat) (hp : pc + 1 = pc') (hd : decode B.code pc = .ok (.iastore, 1)) (A : Arv V.Z h a k .int z vs dv) (hj : ¬ j < 0 ∧ j < z) (ji : j.toNatClampNeg = i) (hi : i < vs.length) (ha : V.Z.heap.size ≤ a) (x' : Int32) (hx' : x = x')
    (r : ∀ h', Wr h h' a i (.int x') → Arv V.Z h' a k .int z (vs.set i (.int x')) dv → Run V K B Q h' ps cs sl pc' L S) : Run V K B Q h ps cs sl pc L (.int x :: .int j :: .ref a :: S) := by
  subst hp hx' ji; refine Run.write ha (fun vm al P => Safe.arr al A.choose_spec.1 (by decide)) (fun h' W => r h' W ?_) fun T locs vm0 X eT hZ ho G => ?_
  · obtain ⟨c, A1, q1, S1, N1, H1, G1⟩ := A
    exact Arv.set A1 q1 S1 N1 H1 G1 (rfl) W _ rfl hi
  · obtain ⟨c, A1, q1, S1, N1, H1, G1⟩ := A
    exact stI X G.1 hZ eT A1 (inb_of S1 hj) (g := mkF K.m pc L.toArray (.int x :: .int j :: .ref a :: S)) rfl rfl (hb G.2.1 hd)
theorem r_aastore {a : Nat} {k : ClassId} {C : String} {z j : Int32} {x : Value} {vs : List Value} {dv : Value} (i : Nat) (pc' : Nat) (hp : pc + 1 = pc') (hd : decode B.code pc = .ok (.aastore, 1)) (A : Arv V.Z h a k (.object C) z vs dv) (F : ∀ c, Arr V.Z h a c (.object C) → c.cls = k → Sto V.Z h a x) (hj : ¬ j < 0 ∧ j < z) (ji : j.toNatClampNeg = i) (hi : i < vs.length) (ha : V.Z.heap.size ≤ a) (hfx : fits (.object C) x = true)
    (r : ∀ h', Wr h h' a i x → Arv V.Z h' a k (.object C) z (vs.set i x) dv → Run V K B Q h' ps cs sl pc' L S) : Run V K B Q h ps cs sl pc L (x :: .int j :: .ref a :: S) := by
  subst hp ji; refine Run.write ha (fun vm al P => Safe.arr al A.choose_spec.1 (by simp)) (fun h' W => r h' W ?_) fun T locs vm0 X eT hZ ho G => ?_
  · obtain ⟨c, A1, q1, S1, N1, H1, G1⟩ := A
    exact Arv.set A1 q1 S1 N1 H1 G1 hfx W _ rfl hi
  · obtain ⟨c, A1, q1, S1, N1, H1, G1⟩ := A
    exact stR X G.1 hZ eT A1 (inb_of S1 hj) rfl (F c A1 q1) (g := mkF K.m pc L.toArray (x :: .int j :: .ref a :: S)) rfl rfl (hb G.2.1 hd)
theorem r_instY {i : Nat} {C : String} {a : Nat} (pc' : Nat) (hp : pc + 3 = pc') (hd : decode B.code pc = .ok (.instanceof i, 3)) (w : (Jvm.Cond.classLink B.y.cls i C).before V.a0 V.Z = true) (F : Ins V.Z h a C true) (r : Run V K B Q h ps cs sl pc' L (.int 1 :: S)) : Run V K B Q h ps cs sl pc L (.ref a :: S) := by
  subst hp; exact r.still fun T locs vm0 X eT hZ ho O G => instY X G.1 hZ ho w eT F (g := mkF K.m pc L.toArray (.ref a :: S)) rfl rfl (hb G.2.1 hd)
theorem r_instNo {i : Nat} {C D : String} {a : Nat} (pc' : Nat) (hp : pc + 3 = pc') (hd : decode B.code pc = .ok (.instanceof i, 3)) (w : (Jvm.Cond.classLink B.y.cls i D).before V.a0 V.Z = true) (E : Exa V.Z h a C) (F : ∃ c t, V.Z.vm.findClass C = some c ∧ V.Z.vm.findClass D = some t ∧ V.Z.vm.assignable c t = false) (r : Run V K B Q h ps cs sl pc' L (.int 0 :: S)) : Run V K B Q h ps cs sl pc L (.ref a :: S) := by
  subst hp; exact r.still fun T locs vm0 X eT hZ ho O G => instNo X G.1 hZ ho w eT E F (g := mkF K.m pc L.toArray (.ref a :: S)) rfl rfl (hb G.2.1 hd)
theorem r_cast {i : Nat} {C : String} {a : Nat} (pc' : Nat) (hp : pc + 3 = pc') (hd : decode B.code pc = .ok (.checkcast i, 3)) (w : (Jvm.Cond.classLink B.y.cls i C).before V.a0 V.Z = true) (F : Ins V.Z h a C true) (r : Run V K B Q h ps cs sl pc' L (.ref a :: S)) : Run V K B Q h ps cs sl pc L (.ref a :: S) := by
  subst hp; exact r.still fun T locs vm0 X eT hZ ho O G => castY X G.1 hZ ho w eT F (g := mkF K.m pc L.toArray (.ref a :: S)) rfl rfl (hb G.2.1 hd)
theorem r_initO {i : Nat} {a : Nat} (W : Nat) (pc' : Nat) (hp : pc + 3 = pc') (hd : decode B.code pc = .ok (.invokespecial i, 3)) (w1 : (Jvm.Cond.methodLink B.y.cls i Lib.objectInit).before V.a0 V.Z = true) (w2 : (Jvm.Cond.instanceMethod Lib.objectInit).before V.a0 V.Z = true) (w3 : (Jvm.Cond.code Lib.objectInit ⟨#[0xb1]⟩ 1 none).before V.a0 V.Z = true) (hsz : L.length = B.ml) (hf : 1 ≤ B.R.frames) (hW : (S.map fun v => v.category).sum ≤ W) (hl : W + 12 ≤ B.R.locals) (r : Run V K B Q h ps cs sl pc' L S) : Run V K B Q h ps cs sl pc L (.ref a :: S) := by
  subst hp; exact r.still fun T locs vm0 X eT hZ ho O G => initO X G.1 hZ ho w1 w2 w3 eT (g := mkF K.m pc L.toArray (.ref a :: S)) rfl (by rw [G.2.2.1]; simpa using hsz) rfl (hb G.2.1 hd) hf (W := W) (by simpa using hW) hl
theorem Run.ret {v : Option Value} (hv : K.meth.sig.returnType = none → v = none) (hc : cs ≤ B.R.cells) (hs : sl ≤ B.R.slots) (qps : List Addr) (hq : ∀ x ∈ qps, x ∈ ps) (q : Q v h qps)
    (st : ∀ T locs vm0 fs, Stand K.p V.l K.e B.R (K.s.setVm vm0) K.m K.args K.below K.meth K.c T locs cs sl → Fx K B → (∀ (f : JFrame) (acts : List Action), f.method = K.m → f.locked = none → f.entered = [] → (doReturn K.e (T.setTop f) acts v).1 = T.setFrames fs) → Steps K.p.tables K.e K.below (T.setTop (mkF K.m pc L.toArray S)) (T.setFrames fs)) :
    Run V K B Q h ps cs sl pc L S := fun T hT => by
  obtain ⟨locs, vm0, k0, X, e1, e2, e3, e4, e5, e6, e7, e8, e9, e10, e11, e12⟩ := hT
  have hl : K.meth.locks = false := e12.2.2.2.2.1
  have C := e8.trans (CHv.at X e2 e10 e8.1)
  have A := CHv.at X e2 e10 e8.1
  cases hn : V.nar
  · obtain ⟨fs, hr, hrun, hend, w1, w2, w3, w4⟩ := X.leaveW e4 (by rw [e1]; exact e5) hv hl
    refine ⟨_, _, st T locs vm0 fs X e12 hr, hrun, hend, v, locs, qps, rfl, e6, by show Q v T.heap qps; rw [e1]; exact q, by show Ext V.Z.heap T.heap; rw [e1]; exact e7, by show Sf V T.vm T.heap qps; rw [e1]; exact (e9.sub hq).go A, by show CHr V.Z V.EL K.s.vm K.s.heap T.vm T.heap; rw [e1]; exact C, ⟨w1, w2, w3, w4.mono hc hs⟩, fun z => absurd (hn.symm.trans z) (by decide)⟩
  · obtain ⟨rfl, -⟩ := e11 hn
    obtain ⟨fs, hr, hrun, hend, w1, w2⟩ := X.leave hv hl
    refine ⟨_, _, st T locs _ fs X e12 hr, hrun, hend, v, locs, qps, rfl, e6, by show Q v T.heap qps; rw [e1]; exact q, by show Ext V.Z.heap T.heap; rw [e1]; exact e7, by show Sf V T.vm T.heap qps; rw [e1]; exact (e9.sub hq).go A, by show CHr V.Z V.EL K.s.vm K.s.heap T.vm T.heap; rw [e1]; exact C, ReturnedEndW.of_narrow ⟨v, rfl⟩ w1 (w2.mono hc hs), fun z => ⟨⟨v, rfl⟩, w1, w2.mono hc hs⟩⟩
theorem r_ret (hr : B.ret = none) (hd : decode B.code pc = .ok (.return_, 1)) (hc : cs ≤ B.R.cells) (hs : sl ≤ B.R.slots) (qps : List Addr) (hq : ∀ x ∈ qps, x ∈ ps) (q : Q none h qps) : Run V K B Q h ps cs sl pc L [] :=
  Run.ret (fun _ => rfl) hc hs qps hq q fun T locs vm0 fs X G hl => X.returnOut G.1 (G.2.2.2.1.trans hr) (hb G.2.1 hd) hl
theorem r_iret {z : Int32} (hr : B.ret = some .int) (hd : decode B.code pc = .ok (.ireturn, 1)) (hc : cs ≤ B.R.cells) (hs : sl ≤ B.R.slots) (qps : List Addr) (hq : ∀ x ∈ qps, x ∈ ps) (q : Q (some (.int z)) h qps) : Run V K B Q h ps cs sl pc L (.int z :: S) := by
  intro T hT; have G : Fx K B := by obtain ⟨locs, vm0, k0, X, e1, e2, e3, e4, e5, e6, e7, e8, e9, e10, e11, e12⟩ := hT; exact e12
  exact Run.ret (fun z => by rw [G.2.2.2.1.trans hr] at z; cases z) hc hs qps hq q (fun T locs vm0 fs X G hl => retOut X G.1 (G.2.2.2.1.trans hr) rfl (Or.inl ⟨rfl, Or.inl rfl, _, rfl⟩) (hb G.2.1 hd) hl) T hT
theorem r_nret {z : Int32} {t : FieldType} (z' : Int32) (hr : B.ret = some t) (ht : t = .boolean ∨ t = .byte ∨ t = .char ∨ t = .short) (hz : RoadKit.nar t z = z') (hd : decode B.code pc = .ok (.ireturn, 1)) (hc : cs ≤ B.R.cells) (hs : sl ≤ B.R.slots) (qps : List Addr) (hq : ∀ x ∈ qps, x ∈ ps) (q : Q (some (.int z')) h qps) : Run V K B Q h ps cs sl pc L (.int z :: S) := by
  subst hz; intro T hT; have G : Fx K B := by obtain ⟨locs, vm0, k0, X, e1, e2, e3, e4, e5, e6, e7, e8, e9, e10, e11, e12⟩ := hT; exact e12
  exact Run.ret (fun z => by rw [G.2.2.2.1.trans hr] at z; cases z) hc hs qps hq q (fun T locs vm0 fs X G hl => retN X G.1 (G.2.2.2.1.trans hr) ht (hb G.2.1 hd) hl) T hT
theorem r_lret {z : Int64} (hr : B.ret = some .long) (hd : decode B.code pc = .ok (.lreturn, 1)) (hc : cs ≤ B.R.cells) (hs : sl ≤ B.R.slots) (qps : List Addr) (hq : ∀ x ∈ qps, x ∈ ps) (q : Q (some (.long z)) h qps) : Run V K B Q h ps cs sl pc L (.long z :: S) := by
  intro T hT; have G : Fx K B := by obtain ⟨locs, vm0, k0, X, e1, e2, e3, e4, e5, e6, e7, e8, e9, e10, e11, e12⟩ := hT; exact e12
  exact Run.ret (fun z => by rw [G.2.2.2.1.trans hr] at z; cases z) hc hs qps hq q (fun T locs vm0 fs X G hl => retOut X G.1 (G.2.2.2.1.trans hr) rfl (Or.inr (Or.inl ⟨rfl, rfl, _, rfl⟩)) (hb G.2.1 hd) hl) T hT
theorem r_aret {x : Value} {t : FieldType} (hr : B.ret = some t) (ht : t.isReference = true) (hx : x.isRef = true) (hd : decode B.code pc = .ok (.areturn, 1)) (hc : cs ≤ B.R.cells) (hs : sl ≤ B.R.slots) (qps : List Addr) (hq : ∀ x ∈ qps, x ∈ ps) (q : Q (some x) h qps) : Run V K B Q h ps cs sl pc L (x :: S) := by
  intro T hT; have G : Fx K B := by obtain ⟨locs, vm0, k0, X, e1, e2, e3, e4, e5, e6, e7, e8, e9, e10, e11, e12⟩ := hT; exact e12
  have hn : narrow t x = x := by rcases ref_cases hx with rfl | ⟨a, rfl⟩ <;> cases t <;> first | rfl | cases ht
  exact Run.ret (fun z => by rw [G.2.2.2.1.trans hr] at z; cases z) hc hs qps hq q (fun T locs vm0 fs X G hl => retOut X G.1 (G.2.2.2.1.trans hr) hn (Or.inr (Or.inr (Or.inr (Or.inr ⟨rfl, ht, hx⟩)))) (hb G.2.1 hd) hl) T hT
theorem r_static {i W nc ns : Nat} {y : MethodName} {Q' : Qt} {bytes : ByteArray} {ml : Nat} {ret : Option FieldType} {argsL S0 : List Value} {as' : Array Value} (pc' : Nat) (hp : pc + 3 = pc') (hd : decode B.code pc = .ok (.invokestatic i, 3)) (w1 : (Jvm.Cond.methodLink B.y.cls i y).before V.a0 V.Z = true) (w2 : (Jvm.Cond.static y).before V.a0 V.Z = true) (w3 : (Jvm.Cond.initialized y.cls).before V.a0 V.Z = true) (w4 : (Jvm.Cond.code y bytes ml ret).before V.a0 V.Z = true)
    (hy : y.cls ≠ "java/lang/invoke/MethodHandle" ∧ y.cls ≠ "java/lang/invoke/VarHandle") (P : Pays V K B y 3 W as' h ps nc ns Q') (hlen : ∀ sig, parseMethodDescriptor y.desc = some sig → argsL.length = sig.parameters.length) (hS : S0 = argsL.reverse ++ S) (ha : argsL.toArray = as') (hsz : L.length = B.ml) (hW : (S.map fun v => v.category).sum ≤ W) (hc : cs + nc ≤ B.R.cells) (hs : sl + ns ≤ B.R.slots) (r : ∀ v h' ps', Q' v h' ps' → h.size ≤ h'.size → Run V K B Q h' (ps' ++ ps) (cs + nc) (sl + ns) pc' L (v.toList ++ S)) : Run V K B Q h ps cs sl pc L S0 := fun T hT => by
  subst hp hS ha
  obtain ⟨locs, vm0, k0, X, e1, e2, e3, e4, e5, e6, e7, e8, e9, e10, e11, e12⟩ := hT
  have P1 := P vm0 e2 e8.1 e9 e10 e7 fun q => (e11 q).2
  have hsize : (mkF K.m pc L.toArray (argsL.reverse ++ S)).locals.size = K.c.maxLocals := by rw [e12.2.2.1]; simpa using hsz
  have hZ : V.Z.Warmed39 (K.s.setVm vm0).vm := e2
  cases hn : V.nar
  · obtain ⟨v, vm₁, C, -, X', hS', -, hpo, st⟩ := callSS X e12.1 e3 (mvT hZ w1) (mvT hZ w2) (mvT hZ w3) (mvT hZ w4) hy (P1.2 hn) (g := mkF K.m pc L.toArray (argsL.reverse ++ S)) rfl hsize hlen rfl (by simpa using hW) (hb e12.2.1 hd) (fun vm₁ _ => ⟨rfl, e1, hc, hs⟩)
    obtain ⟨t, o, s1, s2⟩ := Run.behind e2 e3 e4 e5 e6 e8 e9 e10 e11 e12 (Or.inr ⟨hn, X', hS'⟩) hpo r
    exact ⟨t, o, st.trans s1, s2⟩
  · obtain ⟨v, vm₁, C, -, X', hpo, st⟩ := Jvm.LawKit.callS X e12.1 e3 (mvT hZ w1) (mvT hZ w2) (mvT hZ w3) (mvT hZ w4) hy (P1.1 hn) (g := mkF K.m pc L.toArray (argsL.reverse ++ S)) rfl hsize hlen rfl (by simpa using hW) (hb e12.2.1 hd) (fun vm₁ _ => ⟨rfl, e1, hc, hs⟩)
    obtain ⟨t, o, s1, s2⟩ := Run.behind e2 e3 e4 e5 e6 e8 e9 e10 e11 e12 (Or.inl ⟨hn, X'⟩) hpo r
    exact ⟨t, o, st _ s1, s2⟩
theorem r_special {i W nc ns : Nat} {y : MethodName} {Q' : Qt} {bytes : ByteArray} {ml : Nat} {argsL S0 : List Value} {a : Nat} {as' : Array Value} (pc' : Nat) (hp : pc + 3 = pc') (hd : decode B.code pc = .ok (.invokespecial i, 3)) (hy1 : y.name = "<init>") (w1 : (Jvm.Cond.methodLink B.y.cls i y).before V.a0 V.Z = true) (w2 : (Jvm.Cond.instanceMethod y).before V.a0 V.Z = true) (w4 : (Jvm.Cond.code y bytes ml none).before V.a0 V.Z = true)
    (hy : y.cls ≠ "java/lang/invoke/MethodHandle" ∧ y.cls ≠ "java/lang/invoke/VarHandle") (P : Pays V K B y 3 W as' h ps nc ns Q') (hlen : ∀ sig, parseMethodDescriptor y.desc = some sig → argsL.length = sig.parameters.length) (hS : S0 = argsL.reverse ++ .ref a :: S) (ha : (.ref a :: argsL).toArray = as') (hsz : L.length = B.ml) (hW : (S.map fun v => v.category).sum ≤ W) (hc : cs + nc ≤ B.R.cells) (hs : sl + ns ≤ B.R.slots) (r : ∀ v h' ps', Q' v h' ps' → h.size ≤ h'.size → Run V K B Q h' (ps' ++ ps) (cs + nc) (sl + ns) pc' L (v.toList ++ S)) : Run V K B Q h ps cs sl pc L S0 := fun T hT => by
  subst hp hS ha
  obtain ⟨locs, vm0, k0, X, e1, e2, e3, e4, e5, e6, e7, e8, e9, e10, e11, e12⟩ := hT
  have P1 := P vm0 e2 e8.1 e9 e10 e7 fun q => (e11 q).2
  have hsize : (mkF K.m pc L.toArray (argsL.reverse ++ .ref a :: S)).locals.size = K.c.maxLocals := by rw [e12.2.2.1]; simpa using hsz
  have hZ : V.Z.Warmed39 (K.s.setVm vm0).vm := e2
  cases hn : V.nar
  · obtain ⟨v, vm₁, C, -, X', hS', -, hpo, st⟩ := X.specialBackS e12.1 hy1 e3 (mvT hZ w1) (mvT hZ w2) (mvT hZ w4) hy (P1.2 hn) (g := mkF K.m pc L.toArray (argsL.reverse ++ .ref a :: S)) rfl hsize (Steps.refl _) hlen rfl (by simpa using hW) (hb e12.2.1 hd) (fun vm₁ _ => ⟨rfl, e1, hc, hs⟩)
    obtain ⟨t, o, s1, s2⟩ := Run.behind e2 e3 e4 e5 e6 e8 e9 e10 e11 e12 (Or.inr ⟨hn, X', hS'⟩) hpo r
    exact ⟨t, o, st.trans s1, s2⟩
  · obtain ⟨v, vm₁, C, -, X', hpo, st⟩ := X.specialBack e12.1 hy1 e3 (mvT hZ w1) (mvT hZ w2) (mvT hZ w4) hy (P1.1 hn) (g := mkF K.m pc L.toArray (argsL.reverse ++ .ref a :: S)) rfl hsize (Steps.refl _) hlen rfl (by simpa using hW) (hb e12.2.1 hd) (fun vm₁ _ => ⟨rfl, e1, hc, hs⟩)
    obtain ⟨t, o, s1, s2⟩ := Run.behind e2 e3 e4 e5 e6 e8 e9 e10 e11 e12 (Or.inl ⟨hn, X'⟩) hpo r
    exact ⟨t, o, st.trans s1, s2⟩
theorem nfS {C0 : String} {y : MethodName} (w : (Jvm.Cond.selects C0 y y).before V.a0 V.Z = true) : ∀ s : State, V.Z.Warmed39 s.vm → NotFace s y := fun s hZ => notFace_of_selects (args := #[]) (mvT hZ w)
theorem r_virtual {i W nc ns : Nat} {y : MethodName} {Q' : Qt} {z : MethodName} {C0 : String} {argsL S0 : List Value} {a : Nat} {as' : Array Value} (pc' : Nat) (hp : pc + 3 = pc') (hd : decode B.code pc = .ok (.invokevirtual i, 3)) (w1 : (Jvm.Cond.methodLink B.y.cls i y).before V.a0 V.Z = true) (w2 : (Jvm.Cond.declares y).before V.a0 V.Z = true) (w3 : (Jvm.Cond.selects C0 y z).before V.a0 V.Z = true) (w4 : (Jvm.Cond.instanceMethod z).before V.a0 V.Z = true)
    (hnf : ∀ s : State, V.Z.Warmed39 s.vm → NotFace s y) (hy : y.cls ≠ "java/lang/invoke/MethodHandle" ∧ y.cls ≠ "java/lang/invoke/VarHandle") (E : Exa V.Z h a C0) (P : Pays V K B z 3 W as' h ps nc ns Q') (hlen : ∀ sig, parseMethodDescriptor y.desc = some sig → argsL.length = sig.parameters.length) (hS : S0 = argsL.reverse ++ .ref a :: S) (ha : (.ref a :: argsL).toArray = as') (hsz : L.length = B.ml) (hW : (S.map fun v => v.category).sum ≤ W) (hc : cs + nc ≤ B.R.cells) (hs : sl + ns ≤ B.R.slots) (r : ∀ v h' ps', Q' v h' ps' → h.size ≤ h'.size → Run V K B Q h' (ps' ++ ps) (cs + nc) (sl + ns) pc' L (v.toList ++ S)) : Run V K B Q h ps cs sl pc L S0 := fun T hT => by
  subst hp hS ha
  obtain ⟨locs, vm0, k0, X, e1, e2, e3, e4, e5, e6, e7, e8, e9, e10, e11, e12⟩ := hT
  have P1 := P vm0 e2 e8.1 e9 e10 e7 fun q => (e11 q).2
  have hsize : (mkF K.m pc L.toArray (argsL.reverse ++ .ref a :: S)).locals.size = K.c.maxLocals := by rw [e12.2.2.1]; simpa using hsz
  have hZ : V.Z.Warmed39 (K.s.setVm vm0).vm := e2
  obtain ⟨cq, kq, q1, q2, q3⟩ := isOf (s := K.s.setVm vm0) hZ e1 E
  cases hn : V.nar
  · obtain ⟨v, vm₁, C, -, X', hS', -, hpo, st⟩ := X.virtualBackS e12.1 e3 (mvT hZ w1) (mvT hZ w2) (hnf _ hZ) (mvT hZ w3) (mvT hZ w4) hy (P1.2 hn) q1 q3 (g := mkF K.m pc L.toArray (argsL.reverse ++ .ref a :: S)) rfl hsize (Steps.refl _) hlen rfl (by simpa using hW) (hb e12.2.1 hd) (fun vm₁ _ => ⟨rfl, e1, hc, hs⟩)
    obtain ⟨t, o, s1, s2⟩ := Run.behind e2 e3 e4 e5 e6 e8 e9 e10 e11 e12 (Or.inr ⟨hn, X', hS'⟩) hpo r
    exact ⟨t, o, st.trans s1, s2⟩
  · obtain ⟨v, vm₁, C, -, X', hpo, st⟩ := X.virtualBack e12.1 e3 (mvT hZ w1) (mvT hZ w2) (hnf _ hZ) (mvT hZ w3) (mvT hZ w4) hy (P1.1 hn) q1 q3 (g := mkF K.m pc L.toArray (argsL.reverse ++ .ref a :: S)) rfl hsize (Steps.refl _) hlen rfl (by simpa using hW) (hb e12.2.1 hd) (fun vm₁ _ => ⟨rfl, e1, hc, hs⟩)
    obtain ⟨t, o, s1, s2⟩ := Run.behind e2 e3 e4 e5 e6 e8 e9 e10 e11 e12 (Or.inl ⟨hn, X'⟩) hpo r
    exact ⟨t, o, st.trans s1, s2⟩
theorem r_ldcS {i : Nat} {text : String} (vs : List Value) (z : Int32) (n : Nat) (pc' : Nat) (hp : pc + 2 = pc') (hd : decode B.code pc = .ok (.ldc i, 2)) (w : (Jvm.Cond.stringLink B.y.cls i text).before V.a0 V.Z = true) (wS : ∀ a ∈ Bundle.stringAtoms, a.before V.a0 V.Z = true) (hmem : (B.y.cls, i) ∈ V.EL) (hnar : V.nar = false)
    (ht : (∀ c ∈ text.toList, c.toNat < 256) ∧ text.toList.map (fun c => Value.int (Jvm.Lit.byteI c.toNat.toUInt16)) = vs) (hz : ¬ z < 0) (hl : z.toNatClampNeg = vs.length) (hn : 4 * text.toList.length ≤ n) (hbig : n ≤ 536870912) (hc : cs + 2 ≤ B.R.cells) (hl' : sl + (n + 4) ≤ B.R.slots)
    (r : ∀ (a b : Nat) k h', Ext h h' → Exa V.Z h' a "java/lang/String" → Fld V.Z h' a "java/lang/String" "coder" "B" (.int 0) → Fld V.Z h' a "java/lang/String" "value" "[B" (.ref b) → Arv V.Z h' b k .byte z vs (.int 0) → (∀ x ∈ ps, x ≠ a ∧ x ≠ b) → Run V K B Q h' ps (cs + 2) (sl + (n + 4)) pc' L (.ref a :: S)) : Run V K B Q h ps cs sl pc L S := fun T hT => by
  subst hp
  obtain ⟨locs, vm0, k0, X, e1, e2, e3, e4, e5, e6, e7, e8, e9, e10, e11, e12⟩ := hT
  obtain ⟨a, T', h', k1, b, k, X', q1, q2, q3, q4, q5, q6, q7, q8, q9, q10, q11, q12, q13, q14, q15, st⟩ := ldcCH X e12.1 e2 e3 w wS e1 e4 e5 e10 hmem e8.1 ht hz hl (g := mkF K.m pc L.toArray S) rfl (hb e12.2.1 hd) hn hbig hc hl'
  have S' : Sf V T'.vm h' ps := e9.go q13
  obtain ⟨t, o, s1, s2⟩ := r a b k h' q2 q7 q8 q9 q10 (fun x hx => q15 x (S' x hx).2) T' ⟨_, _, k1, X', q1, q5, q6, q3, q4, e6, Ext.trans' e7 q2, e8.trans q13, S', e10, fun q => absurd (hnar.symm.trans q) (by decide), e12⟩
  exact ⟨t, o, st _ s1, s2⟩
end Rules
end Jvm.Own
namespace Jvm.Own
open Jvm Jvm.ClassFile Sem Op Lib Jvm.Free Jvm.Stand Jvm.LawKit Jvm.RoadKit Bundle
section More
variable {V : Vw} {K : Cx} {B : Bx} {Q : Qt} {T : State} {h h' : Heap} {ps ps' : List Addr} {cs sl pc : Nat} {L : List Slot} {S : List Value}
theorem r_gen {x : Int32} (r : ∀ z, z = x → Run V K B Q h ps cs sl pc L (.int z :: S)) : Run V K B Q h ps cs sl pc L (.int x :: S) := r x rfl
theorem r_genL {x : Int64} (r : ∀ z, z = x → Run V K B Q h ps cs sl pc L (.long z :: S)) : Run V K B Q h ps cs sl pc L (.long x :: S) := r x rfl
theorem layL {as' : Array Value} {n : Nat} {L : List Slot} (h : Jvm.Sym.laidSlots as'.toList ++ List.replicate (n - (Jvm.Sym.laidSlots as'.toList).length) .unset = L) : argsToLocals as' n = L.toArray :=
  Array.toList_inj.mp (by rw [Jvm.Sym.argsToLocals_toList, h])
theorem nc16 (x : Int32) : RoadKit.nar .char x.toUInt32.toUInt16.toUInt32.toInt32 = x.toUInt32.toUInt16.toUInt32.toInt32 := by
  show x.toUInt32.toUInt16.toUInt32.toInt32.toUInt32.toUInt16.toUInt32.toInt32 = _
  simp only [UInt32.toUInt32_toInt32, UInt16.toUInt16_toUInt32]
theorem nc8 (x : Int32) : RoadKit.nar .char (x &&& 255).toUInt32.toUInt16.toUInt32.toInt32 = x &&& 255 := by rw [nc16, i2c_mask]
theorem ncm (x : Int32) : RoadKit.nar .char (x &&& 255) = x &&& 255 := i2c_mask x
/-- 0 to 255 -/
def By (x : Int32) : Prop := ¬ x < 0 ∧ ¬ 255 < x
theorem By.mask (x : Int32) : By (x &&& 255) := by
  have h := c_and x 255 (by decide)
  refine ⟨fun q => ?_, fun q => ?_⟩
  · rw [Int32.lt_iff_toInt_lt] at q; have : (0 : Int32).toInt = 0 := rfl; omega
  · rw [Int32.lt_iff_toInt_lt] at q; have : (255 : Int32).toInt = 255 := rfl; omega
end More
end Jvm.Own
namespace Jvm.Own
open Jvm Jvm.ClassFile Sem Op Lib Jvm.Free Jvm.Stand Jvm.LawKit Jvm.RoadKit Bundle
section More2
variable {V : Vw} {K : Cx} {B : Bx} {Q : Qt} {T : State} {h h' : Heap} {ps ps' : List Addr} {cs sl pc : Nat} {L : List Slot} {S : List Value}
theorem r_instNull {i : Nat} (pc' : Nat) (hp : pc + 3 = pc') (hd : decode B.code pc = .ok (.instanceof i, 3)) (r : Run V K B Q h ps cs sl pc' L (.int 0 :: S)) : Run V K B Q h ps cs sl pc L (.null :: S) := by
  subst hp; exact r.still fun T locs vm0 X eT hZ ho O G => ⟨T, X, eT, fun t st => X.instanceofNull G.1 (g := mkF K.m pc L.toArray (.null :: S)) rfl rfl (hb G.2.1 hd) _ st⟩
theorem noCast {Z : State} {a0 : Array Value} {C S K : String} {n : Nat} (w : (Jvm.Cond.superclass C S).before a0 Z = true) (w0 : (Jvm.Cond.noSuperclass S).before a0 Z = true) (wi : (Jvm.Cond.instantiable K n).before a0 Z = true) (h1 : C ≠ K) (h2 : S ≠ K) : ∃ c t, Z.vm.findClass C = some c ∧ Z.vm.findClass K = some t ∧ Z.vm.assignable c t = false := by
  obtain ⟨t, kt, i1, i2, i3, i4, -⟩ := Cond.instantiable_spec wi
  obtain ⟨cS, kS, s1, s2, s3, -, -⟩ := Cond.noSuperclass_spec w0
  have neS := ids_ne s1 i1 h2
  obtain ⟨c, h0⟩ := found_sup w
  obtain ⟨p, k, kp, q1, q2, q3, q4, q5, -, q7⟩ := Cond.superclass_spec h0 w
  cases q1.symm.trans s1
  have neC := ids_ne h0 i1 h1
  have nS : ∀ f, Z.vm.isSubclassAux f cS t = false := fun f => by
    cases f with
    | zero => rfl
    | succ f => simp [Vm.isSubclassAux, neS, s2, s3]
  have nC : ∀ f, Z.vm.isSubclassAux f c t = false := fun f => by
    cases f with
    | zero => rfl
    | succ f => simp [Vm.isSubclassAux, neC, q2, q4, nS]
  have i5 : kt.isInterface = false := by simp only [Bool.or_eq_false_iff] at i4; exact i4.1
  refine ⟨c, t, h0, i1, ?_⟩
  show Z.vm.assignableAux (255 + 1) c t = false
  simp [Vm.assignableAux, neC, q2, i2, q5, i3, i5, Vm.isSubclass, nC]
end More2
end Jvm.Own
namespace Jvm.Own
open Jvm Jvm.ClassFile Sem Op Lib Jvm.Free Jvm.Stand Jvm.LawKit Jvm.RoadKit Bundle
section More3
variable {V : Vw} {K : Cx} {B : Bx} {Q : Qt} {T : State} {h h' : Heap} {ps ps' : List Addr} {cs sl pc : Nat} {L : List Slot} {S : List Value}
/-- ldc of a String constant, opaque -/
theorem r_ldcO {i : Nat} {text : String} (n : Nat) (pc' : Nat) (hp : pc + 2 = pc') (hd : decode B.code pc = .ok (.ldc i, 2)) (w : (Jvm.Cond.stringLink B.y.cls i text).before V.a0 V.Z = true) (wS : ∀ a ∈ Bundle.stringAtoms, a.before V.a0 V.Z = true) (hnar : V.nar = false)
    (hn : 4 * text.toList.length ≤ n) (hbig : n ≤ 536870912) (hc : cs + 2 ≤ B.R.cells) (hl' : sl + (n + 4) ≤ B.R.slots) (r : ∀ (a : Nat) h', Ext h h' → Run V K B Q h' ps (cs + 2) (sl + (n + 4)) pc' L (.ref a :: S)) : Run V K B Q h ps cs sl pc L S := fun T hT => by
  subst hp
  obtain ⟨locs, vm0, k0, X, e1, e2, e3, e4, e5, e6, e7, e8, e9, e10, e11, e12⟩ := hT
  obtain ⟨a, T', h', k1, X', q1, q2, q3, q4, q5, q6, q13, q14, st⟩ := ldcOH X e12.1 e2 e3 w wS e1 e4 e5 e10 e8.1 (g := mkF K.m pc L.toArray S) rfl (hb e12.2.1 hd) hn hbig hc hl'
  obtain ⟨t, o, s1, s2⟩ := r a h' q2 T' ⟨_, _, k1, X', q1, q5, q6, q3, q4, e6, Ext.trans' e7 q2, e8.trans q13, e9.go q13, e10, fun q => absurd (hnar.symm.trans q) (by decide), e12⟩
  exact ⟨t, o, st _ s1, s2⟩
end More3
end Jvm.Own
namespace Jvm.Own
open Jvm Jvm.ClassFile Sem Op Lib Jvm.Free Jvm.Stand Jvm.LawKit Jvm.RoadKit Bundle
section Again
variable {V : Vw} {K : Cx} {B : Bx} {Q : Qt} {T : State} {h h' : Heap} {ps ps' : List Addr} {cs sl pc : Nat} {L : List Slot} {S : List Value}
/-- 'Std' at a table where the entry i of the body's class is booked as the String a -/
def StdL (V : Vw) (K : Cx) (B : Bx) (ix : Nat) (ad : Addr) (T : State) (h : Heap) (ps : List Addr) (cs sl : Nat) : Prop :=
  ∃ (locs : List Loc) (vm0 : Vm) (k0 : Nat), Stand K.p V.l K.e B.R (K.s.setVm vm0) K.m K.args K.below K.meth K.c T locs cs sl ∧ T.heap = h ∧ V.Z.Warmed39 vm0 ∧ vm0.findClass B.y.cls = some K.m.cls ∧ K.s.Since vm0 k0 ∧ k0 ≤ h.size ∧
    Fr V.Z.heap.size locs ∧ Ext V.Z.heap h ∧ CHr V.Z V.EL K.s.vm K.s.heap vm0 h ∧ Sf V vm0 h ps ∧ EW V.Z V.a0 V.EL ∧ (V.nar = true → vm0 = K.s.vm ∧ V.EL = []) ∧ Fx K B ∧ Lit (K.s.setVm vm0) B.y.cls ix ad
def RunL (V : Vw) (K : Cx) (B : Bx) (Q : Qt) (ix : Nat) (ad : Addr) (h : Heap) (ps : List Addr) (cs sl pc : Nat) (L : List Slot) (S : List Value) : Prop :=
  ∀ T, StdL V K B ix ad T h ps cs sl → ∃ t o, Steps K.p.tables K.e K.below (T.setTop (mkF K.m pc L.toArray S)) t ∧ t.status = .running ∧ Ended t K.below o ∧ Fnl V K B Q o t
theorem rL_aloadN {ix : Nat} {ad : Addr} {k : Fin 4} {v : Value} (pc' : Nat) (hp : pc + 1 = pc') (hd : decode B.code pc = .ok (.aload_n k, 1)) (hl : L[k.val]? = some (.val v)) (hv : v.isRef = true) (r : RunL V K B Q ix ad h ps cs sl pc' L (v :: S)) : RunL V K B Q ix ad h ps cs sl pc L (S) := fun T hT => by
  subst hp
  obtain ⟨t, o, h1, h2⟩ := r T hT
  obtain ⟨locs, vm0, k0, X, -, -, -, -, -, -, -, -, -, -, -, G, -⟩ := hT
  exact ⟨t, o, XS.aloadN X.here G.1 rfl (hb G.2.1 hd) (by show L.toArray[_]? = _; rw [List.getElem?_toArray]; exact hl) hv h1, h2⟩
theorem rL_getfield {ix : Nat} {ad : Addr} {i : Nat} {O n d : String} {a : Nat} {v : Value} (pc' : Nat) (hp : pc + 3 = pc') (hd : decode B.code pc = .ok (.getfield i, 3)) (w : (Jvm.Cond.fieldLink B.y.cls i O n d).before V.a0 V.Z = true) (F : Fld V.Z h a O n d v) (r : RunL V K B Q ix ad h ps cs sl pc' L (v :: S)) : RunL V K B Q ix ad h ps cs sl pc L (.ref a :: S) := fun T hT => by
  subst hp
  obtain ⟨locs, vm0, k0, X, e1, e2, e3, e4, e5, e6, e7, e8, e9, e10, e11, e12, e13⟩ := hT
  obtain ⟨T', X', e', st'⟩ := getF X e12.1 e2 e3 (host := "") (Or.inl w) Via.refl e1 F (g := mkF K.m pc L.toArray (.ref a :: S)) rfl rfl (hb e12.2.1 hd)
  obtain ⟨t, o, h1, h2⟩ := r T' ⟨locs, vm0, k0, X', e', e2, e3, e4, e5, e6, e7, e8, e9, e10, e11, e12, e13⟩
  exact ⟨t, o, st' _ h1, h2⟩
theorem rL_putfield {ix : Nat} {ad : Addr} {i kk : Nat} {O n d C : String} {a : Nat} {v old : Value} {ty : FieldType} (pc' : Nat) (hp : pc + 3 = pc') (hd : decode B.code pc = .ok (.putfield i, 3)) (w : (Jvm.Cond.fieldLink B.y.cls i O n d).before V.a0 V.Z = true) (F : Fld V.Z h a O n d old) (E : Exa V.Z h a C)
    (Lw : (Jvm.Cond.lays C O n d).before V.a0 V.Z = true ∨ ((Jvm.Cond.laysFinal C O n d).before V.a0 V.Z = true ∧ B.y.cls = O ∧ B.y.name = "<init>")) (wi : (Jvm.Cond.instantiable C kk).before V.a0 V.Z = true) (hty : parseFieldDescriptor d = some ty) (hn : narrow ty v = v) (hf : fits ty v = true)
    (ha : V.Z.heap.size ≤ a) (hs : C ≠ "java/lang/String" ∧ C ≠ "[B" ∨ a ∈ ps) (r : ∀ h', Wr h h' a (RoadKit.slotOf V.Z O n d) v → RunL V K B Q ix ad h' ps cs sl pc' L S) : RunL V K B Q ix ad h ps cs sl pc L (v :: .ref a :: S) := fun T hT => by
  subst hp
  obtain ⟨locs, vm0, k0, X, e1, e2, e3, e4, e5, e6, e7, e8, e9, e10, e11, e12, e13⟩ := hT
  obtain ⟨T', h', X', e', W, st'⟩ := putF X e12.1 e2 e3 (host := "") (Or.inl w) Via.refl e1 F E (Lw.imp id fun q => ⟨q.1, q.2.1, e12.2.2.2.2.2.trans q.2.2⟩) wi hty hn hf (g := mkF K.m pc L.toArray (v :: .ref a :: S)) rfl rfl (hb e12.2.1 hd)
  have C := CHr.wr W (hs.elim (fun q => Safe.exa e2.alike E q.1 q.2) (fun q => (e9 a q).2)) e8.1
  obtain ⟨t, o, h1, h2⟩ := r h' W T' ⟨_, vm0, k0, X', e', e2, e3, e4, by rw [W.size]; exact e5, Fr.snoc X' e6 ha, oldWr e7 W ha, e8.trans C, e9.go C, e10, e11, e12, e13⟩
  exact ⟨t, o, st' _ h1, h2⟩
theorem rL_again {ix : Nat} {ad : Nat} {text : String} (pc' : Nat) (hp : pc + 2 = pc') (hd : decode B.code pc = .ok (.ldc ix, 2)) (w : (Jvm.Cond.stringLink B.y.cls ix text).before V.a0 V.Z = true) (r : Run V K B Q h ps cs sl pc' L (.ref ad :: S)) : RunL V K B Q ix ad h ps cs sl pc L S := fun T hT => by
  subst hp
  obtain ⟨locs, vm0, k0, X, e1, e2, e3, e4, e5, e6, e7, e8, e9, e10, e11, e12, e13⟩ := hT
  obtain ⟨t, o, h1, h2⟩ := r T ⟨locs, vm0, k0, X, e1, e2, e3, e4, e5, e6, e7, e8, e9, e10, e11, e12⟩
  exact ⟨t, o, ldcAgain X e12.1 e2 e3 w e13 (g := mkF K.m pc L.toArray S) rfl (hb e12.2.1 hd) _ h1, h2⟩
theorem r_ldcSL {i : Nat} {text : String} (vs : List Value) (z : Int32) (n : Nat) (pc' : Nat) (hp : pc + 2 = pc') (hd : decode B.code pc = .ok (.ldc i, 2)) (w : (Jvm.Cond.stringLink B.y.cls i text).before V.a0 V.Z = true) (wS : ∀ a ∈ Bundle.stringAtoms, a.before V.a0 V.Z = true) (hmem : (B.y.cls, i) ∈ V.EL) (hnar : V.nar = false)
    (ht : (∀ c ∈ text.toList, c.toNat < 256) ∧ text.toList.map (fun c => Value.int (Jvm.Lit.byteI c.toNat.toUInt16)) = vs) (hz : ¬ z < 0) (hl : z.toNatClampNeg = vs.length) (hn : 4 * text.toList.length ≤ n) (hbig : n ≤ 536870912) (hc : cs + 2 ≤ B.R.cells) (hl' : sl + (n + 4) ≤ B.R.slots)
    (r : ∀ (a b : Nat) k h', Ext h h' → Exa V.Z h' a "java/lang/String" → Fld V.Z h' a "java/lang/String" "coder" "B" (.int 0) → Fld V.Z h' a "java/lang/String" "value" "[B" (.ref b) → Arv V.Z h' b k .byte z vs (.int 0) → (∀ x ∈ ps, x ≠ a ∧ x ≠ b) → RunL V K B Q i a h' ps (cs + 2) (sl + (n + 4)) pc' L (.ref a :: S)) : Run V K B Q h ps cs sl pc L S := fun T hT => by
  subst hp
  obtain ⟨locs, vm0, k0, X, e1, e2, e3, e4, e5, e6, e7, e8, e9, e10, e11, e12⟩ := hT
  obtain ⟨a, T', h', k1, b, k, X', q1, q2, q3, q4, q5, q6, q7, q8, q9, q10, q11, q12, q13, q14, q15, st⟩ := ldcCH X e12.1 e2 e3 w wS e1 e4 e5 e10 hmem e8.1 ht hz hl (g := mkF K.m pc L.toArray S) rfl (hb e12.2.1 hd) hn hbig hc hl'
  have S' : Sf V T'.vm h' ps := e9.go q13
  obtain ⟨t, o, s1, s2⟩ := r a b k h' q2 q7 q8 q9 q10 (fun x hx => q15 x (S' x hx).2) T' ⟨_, _, k1, X', q1, q5, q6, q3, q4, e6, Ext.trans' e7 q2, e8.trans q13, S', e10, fun q => absurd (hnar.symm.trans q) (by decide), e12, q14⟩
  exact ⟨t, o, st _ s1, s2⟩
end Again
end Jvm.Own
namespace Jvm.Own
open Jvm Jvm.ClassFile Sem Op Lib Jvm.Free Jvm.Stand Jvm.LawKit Jvm.RoadKit Bundle
section PaysMore
variable {V : Vw} {K : Cx} {B : Bx} {Q : Qt} {h : Heap} {ps : List Addr}
theorem Pays.more {y : MethodName} {as' : Array Value} {len W nc ns nc' ns' : Nat} (P : Pays V K B y len W as' h ps nc ns Q) (hc : nc ≤ nc') (hs : ns ≤ ns') : Pays V K B y len W as' h ps nc' ns' Q := fun vm0 hZ hC hS hE hO hN => by
  obtain ⟨p1, p2⟩ := P vm0 hZ hC hS hE hO hN
  refine ⟨fun hn => ?_, fun hn => ?_⟩
  · intro m meth c A g ig mk a X hg hsize hdg hW hn' hp
    have c1 := hp.2.2.1
    have c2 := hp.2.2.2
    obtain ⟨v, C, X', hpost, hst⟩ := p1 hn m meth c A g ig mk a X hg hsize hdg hW hn' ⟨hp.1, hp.2.1, Nat.le_trans (Nat.add_le_add_left hc _) c1, Nat.le_trans (Nat.add_le_add_left hs _) c2⟩
    obtain ⟨L, ps', q1, q2, q3, q4, q5, q6, q7, q8, q9⟩ := hpost
    exact ⟨v, ⟨C.U, C.locs, A.cells + nc', A.slots + ns'⟩, X'.more (show C.cells ≤ A.cells + nc' from by rw [q7]; exact Nat.add_le_add_left hc _) (show C.slots ≤ A.slots + ns' from by rw [q8]; exact Nat.add_le_add_left hs _), ⟨L, ps', q1, q2, q3, q4, q5, q6, rfl, rfl, q9⟩, hst⟩
  · intro m meth c A g ig mk a X hg hsize hdg hW hn' hp
    have c1 := hp.2.2.1
    have c2 := hp.2.2.2
    obtain ⟨v, C, X', k1, k2, hpost, hst⟩ := p2 hn m meth c A g ig mk a X hg hsize hdg hW hn' ⟨hp.1, hp.2.1, Nat.le_trans (Nat.add_le_add_left hc _) c1, Nat.le_trans (Nat.add_le_add_left hs _) c2⟩
    obtain ⟨L, ps', q1, q2, q3, q4, q5, q6, q7, q8, q9⟩ := hpost
    exact ⟨v, ⟨C.U, C.locs, A.cells + nc', A.slots + ns'⟩, X'.more (show C.cells ≤ A.cells + nc' from by rw [q7]; exact Nat.add_le_add_left hc _) (show C.slots ≤ A.slots + ns' from by rw [q8]; exact Nat.add_le_add_left hs _), k1, k2, ⟨L, ps', q1, q2, q3, q4, q5, q6, rfl, rfl, q9⟩, hst⟩
end PaysMore
end Jvm.Own
namespace Jvm.Own
open Jvm Jvm.ClassFile Sem Op Lib Jvm.Free Jvm.Stand Jvm.LawKit Jvm.RoadKit Bundle
section Copy
variable {V : Vw} {K : Cx} {B : Bx} {Q : Qt} {T : State} {h h' : Heap} {ps ps' : List Addr} {cs sl pc : Nat} {L : List Slot} {S : List Value}
theorem Arv.xt {Z : State} {h : Heap} {a : Addr} {k : ClassId} {ty : FieldType} {z : Int32} {vs : List Value} {d : Value} (A : RoadKit.Arv Z h a k ty z vs d) {T : State} (e : T.heap = h) (al : Z.vm.Alike T.vm) :
    ∃ c : Cell, Jvm.Free.XT.Arr ty a c T ∧ RoadKit.Arr Z h a c ty ∧ c.cls = k ∧ c.slots.size = z.toNatClampNeg ∧ ¬ z < 0 ∧ Has c vs d ∧ ∀ i, i < c.slots.size → fits ty (vs.getD i d) = true := by
  obtain ⟨c, A1, q1, q2, q3, q4, q5⟩ := A
  refine ⟨c, ⟨by rw [e]; exact A1.1, State.isArrayOf_alike al A1.2.1, A1.2.2, ?_⟩, A1, q1, q2, q3, q4, q5⟩
  rw [q2]; have := Int32.toInt_lt z; simp only [Int32.toNatClampNeg]; omega
theorem has_getD {c : Cell} {vs : List Value} {d : Value} (H : Has c vs d) {i : Nat} (hi : i < c.slots.size) (e : Value) : c.slots.getD i e = vs.getD i d := by
  have := H i hi; rw [Array.getD_eq_getD_getElem?, this]; rfl
/-- System.arraycopy of bytes, within -/
theorem r_acopy {i a b : Nat} {ka kb : ClassId} {za zb jo jq jn : Int32} {us vs : List Value} (o q n W : Nat) (vs' : List Value) (pc' : Nat) (hp : pc + 3 = pc') (hd : decode B.code pc = .ok (.invokestatic i, 3))
    (w1 : (Jvm.Cond.methodLink B.y.cls i acN).before V.a0 V.Z = true) (w2 : (Jvm.Cond.native acN).before V.a0 V.Z = true) (w3 : (Jvm.Cond.static acN).before V.a0 V.Z = true) (w4 : (Jvm.Cond.initialized "java/lang/System").before V.a0 V.Z = true)
    (A : RoadKit.Arv V.Z h a ka .byte za us (.int 0)) (D : RoadKit.Arv V.Z h b kb .byte zb vs (.int 0)) (ho : jo = Int32.ofNat o) (hq : jq = Int32.ofNat q) (hn : jn = Int32.ofNat n) (h4 : o + n ≤ za.toNatClampNeg) (h5 : q + n ≤ zb.toNatClampNeg)
    (hv : ∀ j, j < zb.toNatClampNeg → vs'.getD j (.int 0) = if q ≤ j ∧ j < q + n then us.getD (o + (j - q)) (.int 0) else vs.getD j (.int 0)) (hz : V.Z.heap.size ≤ b) (hs : b ∈ ps) (hsz : L.length = B.ml) (hf : 1 ≤ B.R.frames) (hW : (S.map fun v => v.category).sum ≤ W) (hl : W + 40 ≤ B.R.locals)
    (r : ∀ h', Keep h h' [b] → RoadKit.Arv V.Z h' b kb .byte zb vs' (.int 0) → Run V K B Q h' ps cs sl pc' L S) : Run V K B Q h ps cs sl pc L (.int jn :: .int jq :: .ref b :: .int jo :: .ref a :: S) := fun T hT => by
  subst hp
  obtain ⟨locs, vm0, k0, X, e1, e2, e3, e4, e5, e6, e7, e8, e9, e10, e11, e12⟩ := hT
  have al : V.Z.vm.Alike T.vm := e2.alike.trans X.warmed.alike
  obtain ⟨cA, XA, A1, a1, a2, a3, a4, a5⟩ := Arv.xt A e1 al
  obtain ⟨cD, XD, D1, d1, d2, d3, d4, d5⟩ := Arv.xt D e1 al
  obtain ⟨T', B', X', P, b1, b2, b3, b4, st⟩ := X.acopy e12.1 (own := B.y.cls) (index := i) e3 (fun w hw => by
      simp only [Jvm.Free.XT.acW, List.mem_cons, List.not_mem_nil, or_false] at hw
      rcases hw with rfl | rfl | rfl | rfl
      · exact mv (s := K.s.setVm vm0) e2 w1
      · exact mv (s := K.s.setVm vm0) e2 w2
      · exact mv (s := K.s.setVm vm0) e2 w3
      · exact mv (s := K.s.setVm vm0) e2 w4) XA XD (by decide) ho hq hn (by rw [a2]; exact h4) (by rw [d2]; exact h5)
    (fun j hj => ⟨by rw [has_getD a4 (by omega)]; exact a5 _ (by omega), fun q => absurd q (by decide)⟩)
    (g := mkF K.m pc L.toArray (.int jn :: .int jq :: .ref b :: .int jo :: .ref a :: S)) rfl (by rw [e12.2.2.1]; simpa using hsz) rfl (hb e12.2.1 hd) (W := W) (by simpa using hW) hf hl
  have KK : Keep h T'.heap [b] := by
    subst e1
    refine ⟨by rw [P.2.2]; exact Nat.le_refl _, fun x c hx hn => ?_, fun x c hx => ?_⟩
    · rw [P.2.1 x (fun e => hn (by simp [e]))]; exact hx
    · by_cases e : x = b
      · subst e; cases hx.symm.trans D1.1; exact ⟨B', P.1, b1, b2, b3⟩
      · exact ⟨c, by rw [P.2.1 x e]; exact hx, rfl, rfl, rfl⟩
  have AV : RoadKit.Arv V.Z T'.heap b kb .byte zb vs' (.int 0) := by
    obtain ⟨u1, uk, u2, u3⟩ := D1.2.1
    refine ⟨B', ⟨P.1, ⟨by rw [b2]; exact u1, uk, by rw [b1]; exact u2, u3⟩, by rw [b2]; exact D1.2.2⟩, b1.trans d1, b3.trans d2, d3, fun j hj => ?_, fun j hj => ?_⟩
    · rw [b3] at hj; rw [b4 j, hv j (by rw [← d2]; exact hj)]
      split
      · rw [has_getD a4 (by omega)]
      · exact d4 j hj
    · rw [b3] at hj; rw [hv j (by rw [← d2]; exact hj)]
      split
      · exact a5 _ (by omega)
      · exact d5 j hj
  have C := CHr.keep KK (fun x hx => by cases List.mem_singleton.mp hx; exact (e9 b hs).2) e8.1
  obtain ⟨t, o', s1, s2⟩ := r T'.heap KK AV T' ⟨_, vm0, k0, X', rfl, e2, e3, e4, Nat.le_trans e5 KK.1, e6.app (fun y hy => by rw [copyLocs_base hy]; exact hz), oldKeep e7 KK (fun x hx => by cases List.mem_singleton.mp hx; exact hz), e8.trans C, e9.go C, e10, e11, e12⟩
  exact ⟨t, o', st _ s1, s2⟩
end Copy
end Jvm.Own
namespace Jvm.Own
open Jvm Jvm.ClassFile Sem Op Lib Jvm.Free Jvm.Stand Jvm.LawKit Jvm.RoadKit Bundle
section Calls
variable {V : Vw} {K : Cx} {B : Bx} {Q : Qt} {T : State} {h h' : Heap} {ps ps' : List Addr} {cs sl pc : Nat} {L : List Slot} {S : List Value}
/-- a call, its linking step given -/
theorem Run.callG {y : MethodName} {ig : Instr} {W nc ns : Nat} {Q' : Qt} {as' : Array Value} {S0 : List Value} (pc' : Nat) (hp : pc + 3 = pc') (hd : decode B.code pc = .ok (ig, 3)) (P : Pays V K B y 3 W as' h ps nc ns Q') (hsz : L.length = B.ml) (hW : (S.map fun v => v.category).sum ≤ W) (hc : cs + nc ≤ B.R.cells) (hs : sl + ns ≤ B.R.slots)
    (step : ∀ T locs vm0, Stand K.p V.l K.e B.R (K.s.setVm vm0) K.m K.args K.below K.meth K.c T locs cs sl → T.heap = h → V.Z.Warmed39 (K.s.setVm vm0).vm → (K.s.setVm vm0).vm.findClass B.y.cls = some K.m.cls → Fx K B →
      ∃ (vm₁ : Vm) (mk : MethodId), Stand K.p V.l K.e B.R (K.s.setVm vm0) K.m K.args K.below K.meth K.c (T.setVm vm₁) locs cs sl ∧ (K.s.setVm vm0).methodNamed? y = some mk ∧
        Steps K.p.tables K.e K.below (T.setTop (mkF K.m pc L.toArray S0)) (doInvoke K.e ((T.setVm vm₁).setTop (mkF K.m pc L.toArray S)) [] mk as').1)
    (r : ∀ v h' ps', Q' v h' ps' → h.size ≤ h'.size → Run V K B Q h' (ps' ++ ps) (cs + nc) (sl + ns) pc' L (v.toList ++ S)) : Run V K B Q h ps cs sl pc L S0 := fun T hT => by
  subst hp
  obtain ⟨locs, vm0, k0, X, e1, e2, e3, e4, e5, e6, e7, e8, e9, e10, e11, e12⟩ := hT
  have P1 := P vm0 e2 e8.1 e9 e10 e7 fun q => (e11 q).2
  obtain ⟨vm₁, mk, X₁, hnm, st⟩ := step T locs vm0 X e1 e2 e3 e12
  have hsize : (mkF K.m pc L.toArray S).locals.size = K.c.maxLocals := by rw [e12.2.2.1]; simpa using hsz
  cases hn : V.nar
  · obtain ⟨v, C, X', hS', -, hpo, hst⟩ := P1.2 hn K.m K.meth K.c ⟨T.setVm vm₁, locs, cs, sl⟩ (mkF K.m pc L.toArray S) ig mk as' X₁ rfl hsize (hb e12.2.1 hd) (by simpa using hW) (X₁.named hnm) ⟨rfl, e1, hc, hs⟩
    obtain ⟨t, o, s1, s2⟩ := Run.behind e2 e3 e4 e5 e6 e8 e9 e10 e11 e12 (Or.inr ⟨hn, X', hS'⟩) hpo r
    exact ⟨t, o, (st.trans hst).trans s1, s2⟩
  · obtain ⟨v, C, X', hpo, hst⟩ := P1.1 hn K.m K.meth K.c ⟨T.setVm vm₁, locs, cs, sl⟩ (mkF K.m pc L.toArray S) ig mk as' X₁ rfl hsize (hb e12.2.1 hd) (by simpa using hW) (X₁.named hnm) ⟨rfl, e1, hc, hs⟩
    obtain ⟨t, o, s1, s2⟩ := Run.behind e2 e3 e4 e5 e6 e8 e9 e10 e11 e12 (Or.inl ⟨hn, X'⟩) hpo r
    exact ⟨t, o, (st.trans hst).trans s1, s2⟩
theorem r_private {i W nc ns : Nat} {y : MethodName} {Q' : Qt} {C0 : String} {bytes : ByteArray} {ml : Nat} {ret : Option FieldType} {argsL S0 : List Value} {a : Nat} {as' : Array Value} (pc' : Nat) (hp : pc + 3 = pc') (hd : decode B.code pc = .ok (.invokevirtual i, 3)) (w1 : (Jvm.Cond.methodLink B.y.cls i y).before V.a0 V.Z = true) (w2 : (Jvm.Cond.privateMethod y).before V.a0 V.Z = true) (w3 : (Jvm.Cond.selects C0 y y).before V.a0 V.Z = true) (w4 : (Jvm.Cond.instanceMethod y).before V.a0 V.Z = true) (w5 : (Jvm.Cond.code y bytes ml ret).before V.a0 V.Z = true)
    (hy : y.cls ≠ "java/lang/invoke/MethodHandle" ∧ y.cls ≠ "java/lang/invoke/VarHandle") (E : Exa V.Z h a C0) (P : Pays V K B y 3 W as' h ps nc ns Q') (hlen : ∀ sig, parseMethodDescriptor y.desc = some sig → argsL.length = sig.parameters.length) (hS : S0 = argsL.reverse ++ .ref a :: S) (ha : (.ref a :: argsL).toArray = as') (hsz : L.length = B.ml) (hW : (S.map fun v => v.category).sum ≤ W) (hc : cs + nc ≤ B.R.cells) (hs : sl + ns ≤ B.R.slots) (r : ∀ v h' ps', Q' v h' ps' → h.size ≤ h'.size → Run V K B Q h' (ps' ++ ps) (cs + nc) (sl + ns) pc' L (v.toList ++ S)) : Run V K B Q h ps cs sl pc L S0 := by
  subst ha
  refine Run.callG pc' hp hd P hsz hW hc hs (fun T locs vm0 X e1 hZ e3 e12 => ?_) r
  obtain ⟨mk, methM, hnamed, hmethM, hstM, habM⟩ := Cond.instanceMethod_spec (args := K.args) (mvT hZ w4)
  obtain ⟨methM', cM, hmethM', -, -, -, -, -, -, hsigM⟩ := Cond.code_spec (args := K.args) hnamed (mvT hZ w5)
  cases hmethM.symm.trans hmethM'
  obtain ⟨c2, r2, m2, -, -, q3, -, kP, hkP, hkPi⟩ := Cond.selects_spec (args := K.args) (mvT hZ w3)
  cases hnamed.symm.trans q3
  have hpriv := Cond.privateMethod_at (args := K.args) (mvP hZ w2)
  obtain ⟨cell, cT, h1, h2, h3⟩ := Ins.self E
  simp only [Bool.and_eq_true, Bool.not_eq_true'] at h3
  have hselP : selectMethod K.e.platform (K.s.setVm vm0).vm cell.cls mk = .method mk := selectMethod_private hmethM (hpriv mk methM hnamed hmethM)
  obtain ⟨vm₁, X₁, hstep₁⟩ := X.invokevirtual e12.1 e3 (mvT hZ w1) hnamed hmethM hstM hkP hkPi hy (a := a) (cell := cell) (by rw [e1]; exact h1) (fun q e => by rw [e] at h3; cases h3.1) hselP hmethM habM hkP hkPi (g := mkF K.m pc L.toArray S0) rfl (argsL := argsL) (rest := S) (hlen _ hsigM) hS (hb e12.2.1 hd)
  exact ⟨vm₁, mk, X₁, hnamed, hstep₁ _ fun acts => by rw [doInvoke_state]; exact Steps.refl _⟩
theorem r_super {i W nc ns : Nat} {y : MethodName} {Q' : Qt} {C0 : String} {bytes : ByteArray} {ml : Nat} {ret : Option FieldType} {argsL S0 : List Value} {a : Nat} {as' : Array Value} (pc' : Nat) (hp : pc + 3 = pc') (hd : decode B.code pc = .ok (.invokespecial i, 3)) (hn : y.name ≠ "<init>") (w1 : (Jvm.Cond.methodLink B.y.cls i y).before V.a0 V.Z = true) (w3 : (Jvm.Cond.superclass B.y.cls y.cls).before V.a0 V.Z = true) (w4 : (Jvm.Cond.instanceMethod y).before V.a0 V.Z = true) (w5 : (Jvm.Cond.code y bytes ml ret).before V.a0 V.Z = true) {y' : MethodName} {C1 : String} (w6 : (Jvm.Cond.selects C1 y' y').before V.a0 V.Z = true) (hy' : y'.cls = y.cls)
    (hy : y.cls ≠ "java/lang/invoke/MethodHandle" ∧ y.cls ≠ "java/lang/invoke/VarHandle") (E : Exa V.Z h a C0) (P : Pays V K B y 3 W as' h ps nc ns Q') (hlen : ∀ sig, parseMethodDescriptor y.desc = some sig → argsL.length = sig.parameters.length) (hS : S0 = argsL.reverse ++ .ref a :: S) (ha : (.ref a :: argsL).toArray = as') (hsz : L.length = B.ml) (hW : (S.map fun v => v.category).sum ≤ W) (hc : cs + nc ≤ B.R.cells) (hs : sl + ns ≤ B.R.slots) (r : ∀ v h' ps', Q' v h' ps' → h.size ≤ h'.size → Run V K B Q h' (ps' ++ ps) (cs + nc) (sl + ns) pc' L (v.toList ++ S)) : Run V K B Q h ps cs sl pc L S0 := by
  subst ha
  refine Run.callG pc' hp hd P hsz hW hc hs (fun T locs vm0 X e1 hZ hown e12 => ?_) r
  obtain ⟨mk, methM, hnamed, hmethM, hstM, habM⟩ := Cond.instanceMethod_spec (args := K.args) (mvT hZ w4)
  obtain ⟨methM', cM, hmethM', -, -, -, -, -, -, hsig⟩ := Cond.code_spec (args := K.args) hnamed (mvT hZ w5)
  cases hmethM.symm.trans hmethM'
  have hcn := findClass_of_methodNamed hnamed
  obtain ⟨dk, hdk, -⟩ := Vm.findClass_spec hown
  obtain ⟨kp, hkp, -⟩ := Vm.findClass_spec hcn
  have ws := mv (args := K.args) hZ w3
  simp only [Cond.before, Cond.holds, Cond.value, hown, hcn, hdk, hkp, Option.bind_some, Option.map_some] at ws
  have ws' : ((dk.super = some mk.cls ∧ dk.kind = .ordinary) ∧ kp.kind = .ordinary) ∧ dk.isInterface = false := by simpa using ws
  obtain ⟨cell, cT, h1, h2, h3⟩ := Ins.self E
  simp only [Bool.and_eq_true, Bool.not_eq_true'] at h3
  obtain ⟨k, hk⟩ := Vm.classAt_of_assignable h3.2 (Vm.classAt_of_findClass h2)
  obtain ⟨k', hk', -⟩ := hZ.alike.2.2 _ _ hk
  have hfound := State.methodFound?_of_named hnamed hy
  have hsame : (Jvm.Cond.sameMethod y.cls y.cls y.name y.desc).before K.args (K.s.setVm vm0) = true := by
    obtain ⟨c2, r2, m2, -, -, q3, -, kP, hkP, hkPi⟩ := Cond.selects_spec (args := K.args) (mvT hZ w6)
    have q4 := findClass_of_methodNamed q3
    rw [hy', hcn] at q4
    obtain rfl : kp = kP := by
      have q5 : mk.cls = m2.cls := Option.some.inj q4
      rw [← q5] at hkP; exact Option.some.inj (hkp.symm.trans hkP)
    simp only [Cond.before, Cond.holds, Cond.value, hcn, hfound, hnamed, hkp]
    simp [hkPi]
  obtain ⟨vm₁, X₁, hstep₁⟩ := X.invokespecialUp e12.1 (owner := y.cls) hown (mv hZ w1) hsame hnamed hmethM hstM habM hn hdk ws'.2 hcn ws'.1.1.1 (by simp [Vm.isSubclass, Vm.isSubclassAux]) (a := a) (by rw [e1]; exact h1) (fun q e => by rw [e] at h3; cases h3.1) hk' (g := mkF K.m pc L.toArray S0) rfl (hlen _ hsig) hS (hb e12.2.1 hd)
  exact ⟨vm₁, mk, X₁, hnamed, hstep₁ _ (Steps.refl _)⟩
theorem nfO {C0 : String} {y y' : MethodName} (w : (Jvm.Cond.selects C0 y' y').before V.a0 V.Z = true) (hc : y'.cls = y.cls) : ∀ s : State, V.Z.Warmed39 s.vm → NotFace s y := fun s hZ r0 hn => by
  obtain ⟨c2, r2, m2, -, -, q3, -, kP, hkP, hkPi⟩ := Cond.selects_spec (args := #[]) (mvT hZ w)
  have q4 := findClass_of_methodNamed q3
  rw [hc, findClass_of_methodNamed hn] at q4
  have q5 : r0.cls = m2.cls := Option.some.inj q4
  exact ⟨kP, by rw [q5]; exact hkP, hkPi⟩
end Calls
end Jvm.Own
namespace Jvm.Own
open Jvm Jvm.ClassFile Sem Op Lib Jvm.Free Jvm.Stand Jvm.LawKit Jvm.RoadKit Bundle
theorem shl0 (x : Int32) : x <<< ((0 : Int32) &&& 31) = x := by simp
theorem shr0 (x : Int32) : x >>> ((0 : Int32) &&& 31) = x := by simp
theorem sub0 (x : Int32) : x - 0 = x := by simp
theorem sub_nle {m c : Nat} (h : m ≤ c) (hc : c < 2 ^ 31) : ¬ 0 < Int32.ofNat m - Int32.ofNat c := fun q => by
  have e := c_isub (Int32.ofNat m) (Int32.ofNat c)
  have r := rng32 (Int32.ofNat m - Int32.ofNat c)
  rw [Int32.toInt_ofNat_small (by omega), Int32.toInt_ofNat_small hc] at e
  rw [Int32.lt_iff_toInt_lt] at q
  have e0 : (0 : Int32).toInt = 0 := rfl
  omega
theorem appG (f : Int32 → Value) (cs ds : List Int32) (d : Value) (j : Nat) : ((cs ++ ds).map f).getD j d = if cs.length ≤ j ∧ j < cs.length + ds.length then (ds.map f).getD (0 + (j - cs.length)) d else (cs.map f).getD j d := by
  simp only [List.getD_eq_getElem?_getD, List.map_append, Nat.zero_add]
  by_cases q : j < cs.length
  · rw [List.getElem?_append_left (by simpa using q), if_neg (by omega)]
  · rw [List.getElem?_append_right (by simpa using q), List.length_map]
    split
    · rfl
    · rw [List.getElem?_eq_none (by simp; omega), List.getElem?_eq_none (by simp; omega)]
theorem cpyG (f : Int32 → Value) (cs : List Int32) (d : Value) (j : Nat) (h : j < cs.length) : (cs.map f).getD j d = if 0 ≤ j ∧ j < 0 + cs.length then (cs.map f).getD (0 + (j - 0)) d else ([] : List Value).getD j d := by
  rw [if_pos (by omega)]; simp
end Jvm.Own
namespace Jvm.Own
open Jvm Jvm.ClassFile Sem Op Lib Jvm.Free Jvm.Stand Jvm.LawKit Jvm.RoadKit Bundle Jvm.Free.Exc
section Exc
variable {V : Vw} {K : Cx} {B : Bx} {Q : Qt} {T : State} {h h' : Heap} {ps ps' : List Addr} {cs sl pc : Nat} {L : List Slot} {S : List Value}
/-- the tables' methods and the frames beneath this invocation are known (a stack trace may be filled in) -/
def Kn (V : Vw) (K : Cx) : Prop := V.Z.vm.MethodsKnown ∧ V.Z.vm.FramesKnown K.below ∧ Ext V.Z.heap K.s.heap ∧ V.l.stackTraces = true
/-- a contract that asks this -/
def ConK (V : Vw) (B : Bx) (as' : Array Value) (h0 : Heap) (ps : List Addr) (Q : Qt) : Prop :=
  EW V.Z V.a0 V.EL → Ext V.Z.heap h0 → (V.nar = true → V.EL = []) → ∀ ws, MetFree V.l B.y (head1 (Jvm.Cond.code B.y B.code B.ml B.ret :: ws) B.R)
    (fun a U => a = as' ∧ V.Z.Warmed39 U.vm ∧ U.heap = h0 ∧ CHv V.Z V.EL U.vm h0 ∧ Sf V U.vm h0 ps) (fun _ _ bl s _ => s.vm.MethodsKnown ∧ s.vm.FramesKnown bl)
    (fun _ U o U' => ∃ (v : Option Value) (L : List Loc) (ps' : List Addr), o = .returned v ∧ Fr V.Z.heap.size L ∧ Q v U'.heap ps' ∧ Ext V.Z.heap U'.heap ∧ Sf V U'.vm U'.heap ps' ∧ CHr V.Z V.EL U.vm U.heap U'.vm U'.heap ∧
      ReturnedEndW U o U' L B.R.cells B.R.slots ∧ (V.nar = true → FrameEnd U o U' L B.R.cells B.R.slots))
theorem ConK.of {as' : Array Value} (hst : V.l.stackTraces = true) (hp : plainFor B.y = true) (hl : argsToLocals as' B.ml = L.toArray) (body : ∀ K : Cx, Kn V K → Run V K B Q h ps 0 0 0 L []) : ConK V B as' h ps Q := fun hE hO hN ws => by
  refine MetFree.of_bodySF hp hisR ?_
  intro p e s m args below meth c s₁ Bd hml0 hP hK
  obtain ⟨rfl, hZ, hh, hC, hS⟩ := hP
  have X0 : Stand p V.l e B.R s m args below meth c s₁ [] 0 0 := Stand.of_body Bd
  have e0 : s₁.heap = h := by rw [← hh, Bd.state]; rfl
  have hn := (name_of_methodNamed Bd.named Bd.method).1
  obtain ⟨t, o, h1, h2, h3, h4⟩ := body (p, e, s, m, args, below, meth, c) ⟨Vm.MethodsKnown.alikeC hZ.alike.symm hK.1, Vm.FramesKnown.alikeC hZ.alike.symm hK.2, (by show Ext V.Z.heap s.heap; rw [hh]; exact hO), hst⟩ s₁
    ⟨[], s.vm, h.size, X0, e0, hZ, findClass_of_methodNamed Bd.named, (State.WarmedH.refl s).since _, Nat.le_refl _, Fr.nil _, hO, (by show CHr V.Z V.EL s.vm s.heap s.vm h; rw [hh]; exact CHr.refl hC), hS, hE, fun q => ⟨rfl, hN q⟩, Bd.exec, Bd.bytes, hml0, Bd.returns, BodyLoose.notSynchronized Bd, hn⟩
  refine ⟨t, o, ?_, h2, h3, h4⟩
  have q : entryFrame m args B.ml = mkF m 0 L.toArray [] := by simp only [entryFrame, mkF, hl]
  rw [q]; exact h1
theorem Pays.conK {B' : Bx} {as' : Array Value} {len W : Nat} (hk : Kn V K) (hnar : V.nar = false) (C : ConK V B' as' h ps Q) (wc : (Jvm.Cond.code B'.y B'.code B'.ml B'.ret).before V.a0 V.Z = true) (wz : (Jvm.Cond.initialized B'.y.cls).before V.a0 V.Z = true)
    (hf : B'.R.frames + 1 ≤ B.R.frames) (hl : W + (B'.ml + 11) + B'.R.locals ≤ B.R.locals) : Pays V K B B'.y len W as' h ps B'.R.cells B'.R.slots Q := fun vm0 hZ hC hS hE hO hN => by
  have hM := C hE hO hN []
  refine ⟨fun hn => absurd (hnar.symm.trans hn) (by decide), fun hn => ?_⟩
  have hTK : (K.s.setVm vm0).vm.MethodsKnown := Vm.MethodsKnown.alikeC hZ.alike hk.1
  have hBl : (K.s.setVm vm0).vm.FramesKnown K.below := Vm.FramesKnown.alikeC hZ.alike hk.2.1
  refine BackS.of_freeWG (bytes := B'.code) (maxL := B'.ml) (ret := B'.ret) (E := fun _ first o t L k n => k = B'.R.cells ∧ n = B'.R.slots ∧ (∃ v ps', o = .returned v ∧ Fr V.Z.heap.size L ∧ Q v t.heap ps' ∧ Ext V.Z.heap t.heap ∧ Sf V t.vm t.heap ps') ∧ CHr V.Z V.EL first.vm first.heap t.vm t.heap) hM hf hl
      (fun m meth c A a Y hp => have hU : V.Z.Warmed39 A.U.vm := wtrans (s := K.s.setVm vm0) hZ Y.warmed
        ⟨by show (Cond.and _ .tt).before a A.U = true; rw [Cond.before_and, mv hU wc]; rfl, mv hU wc, mv hU wz, hp.2.2.1, hp.2.2.2⟩)
      (fun m meth c A a g mk Y hp => ?_) (fun m meth c A a g mk Y _ hg => known_frames Y hg hTK hBl)
      (fun _ _ _ _ ⟨v, L, ps', h1, h2, h3, h4, h5, h6, h7, h8⟩ => ⟨L, _, _, h7, rfl, rfl, ⟨v, ps', h1, h2, h3, h4, h5⟩, h6⟩)
      (fun m meth c A a g mk v t L k n Y hp _ _ ⟨e1, e2, ⟨v', ps', e3, e4, e5, e6, e8⟩, e7⟩ => ?_)
  · have A' := CHv.at Y hZ hE hC
    exact ⟨hp.1, wtrans (s := K.s.setVm vm0) hZ Y.warmed, hp.2.1, A'.1, hS.go A'⟩
  · cases e3; subst e1 e2
    have q : CHr V.Z V.EL A.U.vm h t.vm t.heap := by rw [← hp.2.1]; exact e7
    exact ⟨L, ps', e4, e5, e6, q.2.1, e8, rfl, rfl, rfl, (CHv.at Y hZ hE hC).trans q⟩
theorem r_newU {i n : Nat} {C : String} (pc' : Nat) (hp : pc + 3 = pc') (hd : decode B.code pc = .ok (.new i, 3)) (w : (Jvm.Cond.classLink B.y.cls i C).before V.a0 V.Z = true) (wi : (Jvm.Cond.instantiable C n).before V.a0 V.Z = true) (wz : (Jvm.Cond.initialized C).before V.a0 V.Z = true) (hc : cs + 1 ≤ B.R.cells) (hl : sl + n ≤ B.R.slots)
    (r : ∀ (a : Nat) h', a = h.size → V.Z.heap.size ≤ a → Ext h h' → Exa V.Z h' a C → (∀ {O nm d : String} {ty : FieldType}, RoadKit.Laid V.Z V.a0 C O nm d → parseFieldDescriptor d = some ty → Fld V.Z h' a O nm d (defaultValue ty)) → Unt h' a → Run V K B Q h' (a :: ps) (cs + 1) (sl + n) pc' L (.ref a :: S)) : Run V K B Q h ps cs sl pc L S := by
  subst hp; refine Run.make (S' := fun a => .ref a :: S) (P := fun h' => Exa V.Z h' h.size C ∧ (∀ {O nm d : String} {ty : FieldType}, RoadKit.Laid V.Z V.a0 C O nm d → parseFieldDescriptor d = some ty → Fld V.Z h' h.size O nm d (defaultValue ty)) ∧ Unt h' h.size) (fun h' E hz q => r _ h' rfl hz E q.1 q.2.1 q.2.2) fun T locs vm0 X eT hZ ho G => ?_
  obtain ⟨T', h', X', e', E, A, D, N, st⟩ := newO X G.1 hZ ho w wi wz eT (g := mkF K.m pc L.toArray S) rfl (hb G.2.1 hd) hc hl
  exact ⟨T', h', X', e', E, A.lt, ⟨A, D, N⟩, st⟩
/-- the constructor of a JDK exception, with a message -/
theorem r_exc1 {i nI a : Nat} {rc : String} {msg : Value} (links : List Link) (W : Nat) (hk : Kn V K) (pc' : Nat) (hp : pc + 3 = pc') (hd : decode B.code pc = .ok (.invokespecial i, 3)) (hok : linksOk 1 links = true)
    (w1 : (Jvm.Cond.methodLink B.y.cls i (ctor 1 (headName links))).before V.a0 V.Z = true) (w2 : (Jvm.Cond.instanceMethod (ctor 1 (headName links))).before V.a0 V.Z = true) (wT : (chainTab 1 rc links).before V.a0 V.Z = true) (wi : (Jvm.Cond.instantiable rc nI).before V.a0 V.Z = true) (r2 : ∀ d ∈ twoRefs, d.before V.a0 V.Z = true)
    (E : Exa V.Z h a rc) (N : Unt h a) (B1 : Fld V.Z h a tN "backtrace" obD .null) (B2 : Fld V.Z h a tN "detailMessage" msgD .null) (hmsg : msg.isRef = true) (ha : V.Z.heap.size ≤ a) (hs : rc ≠ "java/lang/String" ∧ rc ≠ "[B") (hsz : L.length = B.ml) (hW : (S.map fun v => v.category).sum ≤ W)
    (hf : 4 + links.length ≤ B.R.frames) (hlo : W + (56 + 14 * links.length) ≤ B.R.locals) (hc : cs + 1 ≤ B.R.cells) (hsl : sl + 2752 ≤ B.R.slots)
    (hnar : V.nar = false) (r : ∀ h', Keep h h' [a] → Exa V.Z h' a rc → Fld V.Z h' a tN "detailMessage" msgD msg → Run V K B Q h' ps (cs + 1) (sl + 2752) pc' L S) : Run V K B Q h ps cs sl pc L (msg :: .ref a :: S) := fun T hT => by
  subst hp
  obtain ⟨locs, vm0, k0, X, e1, e2, e3, e4, e5, e6, e7, e8, e9, e10, e11, e12⟩ := hT
  have hT0 : ThS V.Z (K.s.setVm vm0).heap := ThS.ext (show Ext V.Z.heap K.s.heap from hk.2.2.1) ThS.start
  obtain ⟨T', h', X', q1, q2, q3, q4, q5, q6, q7, st⟩ := excL1 X e12.1 hk.2.2.2 e2 e3 hok w1 w2 wT wi r2 hT0 (ThS.ext e7 ThS.start) (Vm.MethodsKnown.alikeC e2.alike hk.1) (Vm.FramesKnown.alikeC e2.alike hk.2.1) e1 E N B1 B2 hmsg
    (g := mkF K.m pc L.toArray (msg :: .ref a :: S)) rfl (by rw [e12.2.2.1]; simpa using hsz) rfl (hb e12.2.1 hd) hf (by have : (S.map fun v => v.category).sum ≤ W := hW; simp; omega) hc hsl
  have KK := keep_of_kp q2
  have C := CHr.keep KK (fun x hx => by cases List.mem_singleton.mp hx; exact Safe.exa e2.alike E hs.1 hs.2) e8.1
  obtain ⟨t, o', s1, s2⟩ := r h' KK q3 q5 T' ⟨_, vm0, k0, X', q1, e2, e3, e4, Nat.le_trans e5 KK.1, Fr.six e6 ha, oldKeep e7 KK (fun x hx => by cases List.mem_singleton.mp hx; exact ha), e8.trans C, e9.go C, e10, e11, e12⟩
  exact ⟨t, o', st _ s1, s2⟩
theorem r_virtualUp {i W nc ns : Nat} {x y : MethodName} {Q' : Qt} {C0 owner : String} {argsL S0 : List Value} {a : Nat} {as' : Array Value} (pc' : Nat) (hp : pc + 3 = pc') (hd : decode B.code pc = .ok (.invokevirtual i, 3)) (hnar : V.nar = false) (w1 : (Jvm.Cond.methodLink B.y.cls i x).before V.a0 V.Z = true) (w2 : (Jvm.Cond.sameMethod x.cls owner x.name x.desc).before V.a0 V.Z = true) (w5 : (Jvm.Cond.declares ⟨owner, x.name, x.desc⟩).before V.a0 V.Z = true) (w3 : (Jvm.Cond.selects C0 x y).before V.a0 V.Z = true) (w4 : (Jvm.Cond.instanceMethod y).before V.a0 V.Z = true)
    (hy : owner ≠ "java/lang/invoke/MethodHandle" ∧ owner ≠ "java/lang/invoke/VarHandle") (E : Exa V.Z h a C0) (P : Pays V K B y 3 W as' h ps nc ns Q') (hlen : ∀ sig, parseMethodDescriptor x.desc = some sig → argsL.length = sig.parameters.length) (hS : S0 = argsL.reverse ++ .ref a :: S) (ha : (.ref a :: argsL).toArray = as') (hsz : L.length = B.ml) (hW : (S.map fun v => v.category).sum ≤ W) (hc : cs + nc ≤ B.R.cells) (hs : sl + ns ≤ B.R.slots) (r : ∀ v h' ps', Q' v h' ps' → h.size ≤ h'.size → Run V K B Q h' (ps' ++ ps) (cs + nc) (sl + ns) pc' L (v.toList ++ S)) : Run V K B Q h ps cs sl pc L S0 := fun T hT => by
  subst hp hS ha
  obtain ⟨locs, vm0, k0, X, e1, e2, e3, e4, e5, e6, e7, e8, e9, e10, e11, e12⟩ := hT
  have P1 := P vm0 e2 e8.1 e9 e10 e7 fun q => (e11 q).2
  have hsize : (mkF K.m pc L.toArray (argsL.reverse ++ .ref a :: S)).locals.size = K.c.maxLocals := by rw [e12.2.2.1]; simpa using hsz
  have hZ : V.Z.Warmed39 (K.s.setVm vm0).vm := e2
  obtain ⟨cq, kq, q1, q2, q3⟩ := isOf (s := K.s.setVm vm0) hZ e1 E
  obtain ⟨v, vm₁, C, -, X', hS', -, hpo, st⟩ := X.virtualBackUpS e12.1 e3 (mvT hZ w1) (mvT hZ w2) (mvT hZ w5) hy (mvT hZ w3) (mvT hZ w4) (P1.2 hnar) q1 q3 (g := mkF K.m pc L.toArray (argsL.reverse ++ .ref a :: S)) rfl hsize (Steps.refl _) hlen rfl (by simpa using hW) (hb e12.2.1 hd) (fun vm₁ _ => ⟨rfl, e1, hc, hs⟩)
  obtain ⟨t, o, s1, s2⟩ := Run.behind e2 e3 e4 e5 e6 e8 e9 e10 e11 e12 (Or.inr ⟨hnar, X', hS'⟩) hpo r
  exact ⟨t, o, st.trans s1, s2⟩
end Exc
end Jvm.Own
namespace Jvm.Own
open Jvm Jvm.ClassFile Sem Op Lib Jvm.Free Jvm.Stand Jvm.LawKit Jvm.RoadKit Bundle Jvm.Free.Exc LibCode.Throwable
section Fill
/-- the words that filling in a stack trace needs, of an object of the class rc (a sheet that lacks 'lays' of Throwable itself) -/
def fillW (rc : String) : List Cond := [.initialized tN, .superclass tN "java/lang/Object", .instanceMethod tFill, .codeSync tFill Fill.code 1 (some (.object tN)), .instanceMethod tFill0, .native tFill0,
  .instanceMethod oInit, .code oInit ⟨#[0xb1]⟩ 1 none, .methodLink tN 1 oInit, .methodLink tN 27 tFill, .methodLink tN 202 tFill0, .fieldLink tN 7 tN "cause" thD, .fieldLink tN 17 tN "stackTrace" steD, .fieldLink tN 24 tN "suppressedExceptions" listD,
  .fieldLink tN 13 tN "UNASSIGNED_STACK" steD, .fieldLink tN 20 tN "SUPPRESSED_SENTINEL" listD, .fieldLink tN 198 tN "backtrace" obD, .laysStatic tN "UNASSIGNED_STACK" steD, .laysStatic tN "SUPPRESSED_SENTINEL" listD,
  .lays rc tN "cause" thD, .lays rc tN "stackTrace" steD, .lays rc tN "suppressedExceptions" listD, .lays rc tN "detailMessage" msgD, .lays rc tN "backtrace" obD, .lays rc tN "depth" "I",
  .declares tFill, .selects rc tFill0 tFill0, .selects rc tFill tFill, .arrayOver (.object "java/lang/Object"), .soleField tN "backtrace", .soleField tN "depth"]
/-- what the walk's step needs of Throwable's tables -/
def FT (T : ThrowableC) (s : State) : Prop :=
  s.vm.findClass tN = some T.cT ∧ s.methodNamed? tFill = some T.fill ∧ s.methodNamed? tFill0 = some T.fill0 ∧ s.fieldFound? tN "stackTrace" steD = some (T.cT, T.kT, T.i17, T.fStack) ∧
  s.fieldFound? tN "UNASSIGNED_STACK" steD = some (T.cT, T.kT, T.i13, T.fUnassigned) ∧ T.fStack.name = "stackTrace" ∧ T.fStack.type = .array (.object "java/lang/StackTraceElement") ∧ ∃ cell, s.heap[T.aS]? = some cell ∧ cell.vm.isStatics = true
theorem thLinks {args : Array Value} {s : State} {pl : Platform} {rc : String} (howns : pl.frameOwnsMonitors = true) (hfin : pl.finalization = false) (hpl : pl.magicAccessors = ({} : Platform).magicAccessors)
    (h : ∀ c ∈ fillW rc, c.before args s = true) : ∃ T : ThrowableC, T.Links pl s ∧ FT T s := by
  have a : ∀ c, c ∈ fillW rc → c.holds args s none s [] = true := fun c hc => h c hc
  obtain ⟨⟨c, iN⟩, mN, nN0, nN1, nN2, nN3, nN4, nN5⟩ := Cond.native_spec (a (.native tFill0) (by simp [fillW]))
  have fc : s.vm.findClass tN = some c := findClass_of_methodNamed nN0
  obtain ⟨k, hk, kname⟩ := Vm.findClass_spec fc
  obtain ⟨_, k', _, _, hk', _, _, -, _, kface⟩ := Cond.superclass_spec fc (a (.superclass tN "java/lang/Object") (by simp [fillW]))
  cases Option.some.inj (hk.symm.trans hk')
  have kinit := Cond.initialized_spec fc hk (a (.initialized tN) (by simp [fillW]))
  -- fillInStackTrace(), fillInStackTrace(int)
  obtain ⟨iF, mF, f0, f1, f2, f3, f4, -, -⟩ := Cond.ownMethod (x := tFill) fc hk (a (.instanceMethod tFill) (by simp [fillW]))
  obtain ⟨mF', cF, g1, g2, g3, g4, g5, g6, -, g7⟩ := Cond.codeSync_spec f0 (a (.codeSync tFill Fill.code 1 (some (.object tN))) (by simp [fillW]))
  cases Option.some.inj (f1.symm.trans g1)
  obtain ⟨iN', mN', n0, n1, n2, n3, n4, n5, n6⟩ := Cond.ownMethod (x := tFill0) fc hk (a (.instanceMethod tFill0) (by simp [fillW]))
  cases Option.some.inj (nN0.symm.trans n0)
  cases Option.some.inj (nN1.symm.trans n1)
  -- Object's constructor
  obtain ⟨mO, wO, o0, o1, o2, o3⟩ := Cond.instanceMethod_spec (a (.instanceMethod oInit) (by simp [fillW]))
  obtain ⟨wO', cO, p1, p2, p3, p4, -, p6, -, p7⟩ := Cond.code_spec o0 (a (.code oInit ⟨#[0xb1]⟩ 1 none) (by simp [fillW]))
  cases Option.some.inj (o1.symm.trans p1)
  obtain ⟨kO, kO1, kO2⟩ := Vm.findClass_spec (findClass_of_methodNamed o0)
  obtain ⟨oN, oD⟩ := name_of_methodNamed o0 o1
  -- the pool
  obtain ⟨x1, y1, cf, u1, v1, w1, z1⟩ := Cond.linkedMethod fc hk o0 (a (.methodLink tN 1 oInit) (by simp [fillW])) pl hpl
  obtain ⟨x2, y2, cf2, u2, v2, w2, z2⟩ := Cond.linkedMethod fc hk f0 (a (.methodLink tN 27 tFill) (by simp [fillW])) pl hpl
  cases Option.some.inj (w1.symm.trans w2)
  obtain ⟨x3, y3, cf3, u3, v3, w3, z3⟩ := Cond.linkedMethod fc hk nN0 (a (.methodLink tN 202 tFill0) (by simp [fillW])) pl hpl
  cases Option.some.inj (w1.symm.trans w3)
  obtain ⟨r7, i7, e7, a7, b7, c7, d7, q7, -, -, -⟩ := Cond.ownField (t := .object tN) fc hk (by decide +kernel) (a (.fieldLink tN 7 tN "cause" thD) (by simp [fillW])) (a (.lays rc tN "cause" thD) (by simp [fillW])) pl hpl
  obtain ⟨r17, i17, e17, a17, b17, c17, d17, q17, s17, t17, l17⟩ := Cond.ownField (t := .array (.object "java/lang/StackTraceElement")) fc hk (by decide +kernel) (a (.fieldLink tN 17 tN "stackTrace" steD) (by simp [fillW])) (a (.lays rc tN "stackTrace" steD) (by simp [fillW])) pl hpl
  obtain ⟨r24, i24, e24, a24, b24, c24, d24, q24, s24, -, l24⟩ := Cond.ownField (t := .object "java/util/List") fc hk (by decide +kernel) (a (.fieldLink tN 24 tN "suppressedExceptions" listD) (by simp [fillW])) (a (.lays rc tN "suppressedExceptions" listD) (by simp [fillW])) pl hpl
  obtain ⟨r13, i13, e13, aS, cS, a13, b13, c13, d13, -, -, q13, cS1, cS2, -, -, l13⟩ := Cond.ownStatic (t := .array (.object "java/lang/StackTraceElement")) fc hk (by decide +kernel) (a (.fieldLink tN 13 tN "UNASSIGNED_STACK" steD) (by simp [fillW])) (a (.laysStatic tN "UNASSIGNED_STACK" steD) (by simp [fillW])) pl hpl
  obtain ⟨r20, i20, e20, _, _, a20, b20, c20, d20, -, -, -, -, -, -, -, -⟩ := Cond.ownStatic (t := .object "java/util/List") fc hk (by decide +kernel) (a (.fieldLink tN 20 tN "SUPPRESSED_SENTINEL" listD) (by simp [fillW])) (a (.laysStatic tN "SUPPRESSED_SENTINEL" listD) (by simp [fillW])) pl hpl
  obtain ⟨cr, kr, _, _, _, eM, frc, hkr, lM, mM, qM, -⟩ := Cond.lays_spec (a (.lays rc tN "detailMessage" msgD) (by simp [fillW]))
  obtain ⟨_, D17, D17a, D17b⟩ := Cond.laysAt frc hkr l17 (a (.lays rc tN "stackTrace" steD) (by simp [fillW]))
  obtain ⟨_, D24, D24a, D24b⟩ := Cond.laysAt frc hkr l24 (a (.lays rc tN "suppressedExceptions" listD) (by simp [fillW]))
  have ap := Cond.laysApart D17a D24a D17b D24b (by rw [s17, s24]; decide)
  have pF : mF.sig.parameters = [] := by
    have q : (parseMethodDescriptor tFill.desc).map (·.parameters) = some [] := by decide +kernel
    rw [g7] at q; simpa using q
  have pN : mN.sig.parameters = [.int] := by
    have q : (parseMethodDescriptor tFill0.desc).map (·.parameters) = some [.int] := by decide +kernel
    rw [nN5] at q; simpa using q
  have pO : wO.sig.parameters.length = 0 := by
    have q : (parseMethodDescriptor oInit.desc).map (·.parameters.length) = some 0 := by decide +kernel
    rw [p7] at q; simpa using q
  refine ⟨{ cT := c, kT := k, cO := c, aS := aS, fillIdx := iF, fill0Idx := iN, initSIdx := iF, obj := mO, kObj := kO, methFill := mF, methFill0 := mN, methInitS := mF, methObj := wO, codeFill := cF, codeInitS := cF, codeObj := cO,
              fBack := e7, fDepth := e7, fStack := e17, fCause := e7, fSupp := e24, fMsg := eM, fUnassigned := e13, fSentinel := e20, cfT := cf, ci1 := x1, n1 := y1, ci27 := x2, n27 := y2, ci202 := x3, n202 := y3,
              ci7 := r7, i7 := i7, ci13 := r13, i13 := i13, ci17 := r17, i17 := i17, ci20 := r20, i20 := i20, ci24 := r24, i24 := i24 }, ?_, ⟨fc, f0, nN0, l17, l13, s17, t17, cS, cS1, cS2⟩⟩
  constructor
  case owns => exact howns
  case noFinalization => exact hfin
  case boot => exact Vm.findClass_boot fc hk
  case objFound => dsimp only; rw [oD]; exact lookupSpecial_of_named o0 o1 o2
  all_goals first | assumption | (dsimp only; assumption)
variable {p : Program} {l : Launch} {e : Env} {R : Room} {s : State} {m : MethodId} {args : Array Value} {below : List Frame} {meth : Method} {c : Code} {T : State} {Z : State} {a0 : Array Value} {h : Heap} {rc : String} {a nI : Nat} {u0 sen : RefV} {Ls : Array Slot}
/-- Throwable.<init>, up to the call of fillInStackTrace -/
theorem thHead (X : Stand p l e R s m args below meth c T [] 0 0) (hx : p.tables.exec = Jvm.exec) (hZ : Z.Warmed39 s.vm) (hown : s.vm.findClass tN = some m.cls) (eT : T.heap = h) (w : ∀ d ∈ fillW rc, d.before a0 Z = true) (wi : (Cond.instantiable rc nI).before a0 Z = true)
    (E : Exa Z h a rc) (N : Unt h a) (F1 : Fld Z h a tN "cause" thD .null) (F2 : Fld Z h a tN "stackTrace" steD .null) (F3 : Fld Z h a tN "suppressedExceptions" listD .null) (F4 : Fld Z h a tN "backtrace" obD .null) (F5 : Fld Z h a tN "detailMessage" msgD .null) (hU : Sta Z h tN "UNASSIGNED_STACK" steD u0.v) (hS : Sta Z h tN "SUPPRESSED_SENTINEL" listD sen.v)
    (H : Head c.code) (hL0 : Ls[0]? = some (.val (.ref a))) (hLs : Ls.size = c.maxLocals) (hf : 1 ≤ R.frames) (hlo : 12 ≤ R.locals) :
    ∃ T5 h5, Stand p l e R s m args below meth c T5 ([] ++ [⟨a, RoadKit.slotOf Z tN "cause" thD⟩] ++ [⟨a, RoadKit.slotOf Z tN "stackTrace" steD⟩] ++ [⟨a, RoadKit.slotOf Z tN "suppressedExceptions" listD⟩]) 0 0 ∧ T5.heap = h5 ∧ Exa Z h5 a rc ∧ Unt h5 a ∧ Fld Z h5 a tN "stackTrace" steD u0.v ∧ Fld Z h5 a tN "backtrace" obD .null ∧ Fld Z h5 a tN "detailMessage" msgD .null ∧
      Sta Z h5 tN "UNASSIGNED_STACK" steD u0.v ∧ ∀ t, Steps p.tables e below (T5.setTop (mkF m 24 Ls [.ref a])) t → Steps p.tables e below (T.setTop (mkF m 0 Ls [])) t := by
  obtain ⟨d0, d1, d4, d5, d6, d9, d10, d13, d16, d17, d20, d23, d24⟩ := H
  have W := fun {d : Cond} (hd : d ∈ fillW rc) => w d hd
  have L1 : (Cond.lays rc tN "cause" thD).before a0 Z = true := W (by simp [fillW])
  have L2 : (Cond.lays rc tN "stackTrace" steD).before a0 Z = true := W (by simp [fillW])
  have L3 : (Cond.lays rc tN "suppressedExceptions" listD).before a0 Z = true := W (by simp [fillW])
  have L4 : (Cond.lays rc tN "backtrace" obD).before a0 Z = true := W (by simp [fillW])
  have L5 : (Cond.lays rc tN "detailMessage" msgD).before a0 Z = true := W (by simp [fillW])
  have pT : parseFieldDescriptor thD = some (.object tN) := by decide +kernel
  have pS : parseFieldDescriptor steD = some (.array (.object "java/lang/StackTraceElement")) := by decide +kernel
  have pL : parseFieldDescriptor listD = some (.object "java/util/List") := by decide +kernel
  have pB : parseFieldDescriptor obD = some (.object "java/lang/Object") := by decide +kernel
  have pM : parseFieldDescriptor msgD = some (.object "java/lang/String") := by decide +kernel
  obtain ⟨T0, X0, q0, st0⟩ := initO X hx hZ hown (W (d := .methodLink tN 1 oInit) (by simp [fillW])) (W (d := .instanceMethod oInit) (by simp [fillW])) (W (d := .code oInit ⟨#[0xb1]⟩ 1 none) (by simp [fillW])) eT (g := mkF m 1 Ls [.ref a]) rfl hLs (a := a) (rest := []) rfl d1 hf (W := 0) (Nat.le_refl _) (by omega)
  obtain ⟨T1, h1, X1, q1, W1, st1⟩ := putF X0 hx hZ hown (host := "") (Or.inl (W (d := .fieldLink tN 7 tN "cause" thD) (by simp [fillW]))) Via.refl q0 F1 E (Or.inl L1) wi pT (v := .ref a) rfl rfl (g := mkF m 6 Ls [.ref a, .ref a]) rfl (rest := []) rfl d6
  have U1 := hU.wr W1
  obtain ⟨T2, X2, q2, st2⟩ := getS X1 hx hZ hown (host := "") (W (d := .fieldLink tN 13 tN "UNASSIGNED_STACK" steD) (by simp [fillW])) Via.refl q1 U1 (g := mkF m 10 Ls [.ref a]) rfl d10
  obtain ⟨T3, h3, X3, q3, W3, st3⟩ := putF X2 hx hZ hown (host := "") (Or.inl (W (d := .fieldLink tN 17 tN "stackTrace" steD) (by simp [fillW]))) Via.refl q2 (Fld.other W1 F2 (Or.inr (slot_ne (C := rc) (Or.inl L2) (Or.inl L1) (by decide) pS pT))) (E.wr W1) (Or.inl L2) wi pS (v := u0.v) (narrow_refV _ _) (fits_refV_array _ u0) (g := mkF m 13 Ls [u0.v, .ref a]) rfl (rest := []) rfl d13
  obtain ⟨T4, X4, q4, st4⟩ := getS X3 hx hZ hown (host := "") (W (d := .fieldLink tN 20 tN "SUPPRESSED_SENTINEL" listD) (by simp [fillW])) Via.refl q3 ((hS.wr W1).wr W3) (g := mkF m 17 Ls [.ref a]) rfl d17
  obtain ⟨T5, h5, X5, q5, W5, st5⟩ := putF X4 hx hZ hown (host := "") (Or.inl (W (d := .fieldLink tN 24 tN "suppressedExceptions" listD) (by simp [fillW]))) Via.refl q4 (Fld.other W3 (Fld.other W1 F3 (Or.inr (slot_ne (C := rc) (Or.inl L3) (Or.inl L1) (by decide) pL pT))) (Or.inr (slot_ne (C := rc) (Or.inl L3) (Or.inl L2) (by decide) pL pS))) ((E.wr W1).wr W3) (Or.inl L3) wi pL (v := sen.v) (narrow_refV _ _) (fits_refV_object _ sen) (g := mkF m 20 Ls [sen.v, .ref a]) rfl (rest := []) rfl d20
  refine ⟨T5, h5, X5, q5, ((E.wr W1).wr W3).wr W5, ((N.wr W1).wr W3).wr W5, Fld.other W5 (Fld.same W3 (Fld.other W1 F2 (Or.inr (slot_ne (C := rc) (Or.inl L2) (Or.inl L1) (by decide) pS pT)))) (Or.inr (slot_ne (C := rc) (Or.inl L2) (Or.inl L3) (by decide) pS pL)),
    Fld.other W5 (Fld.other W3 (Fld.other W1 F4 (Or.inr (slot_ne (C := rc) (Or.inl L4) (Or.inl L1) (by decide) pB pT))) (Or.inr (slot_ne (C := rc) (Or.inl L4) (Or.inl L2) (by decide) pB pS))) (Or.inr (slot_ne (C := rc) (Or.inl L4) (Or.inl L3) (by decide) pB pL)),
    Fld.other W5 (Fld.other W3 (Fld.other W1 F5 (Or.inr (slot_ne (C := rc) (Or.inl L5) (Or.inl L1) (by decide) pM pT))) (Or.inr (slot_ne (C := rc) (Or.inl L5) (Or.inl L2) (by decide) pM pS))) (Or.inr (slot_ne (C := rc) (Or.inl L5) (Or.inl L3) (by decide) pM pL)),
    (U1.wr W3).wr W5, fun t st => ?_⟩
  refine XS.aloadN X.here hx rfl d0 hL0 rfl ?_
  refine st0 _ ?_
  refine XS.aloadN (g := mkF m 4 Ls []) X0.here hx rfl d4 hL0 rfl ?_
  refine XS.aloadN (g := mkF m 5 Ls [.ref a]) X0.here hx rfl d5 hL0 rfl ?_
  refine st1 _ ?_
  refine XS.aloadN (g := mkF m 9 Ls []) X1.here hx rfl d9 hL0 rfl ?_
  refine st2 _ ?_
  refine st3 _ ?_
  refine XS.aloadN (g := mkF m 16 Ls []) X3.here hx rfl d16 hL0 rfl ?_
  refine st4 _ ?_
  refine st5 _ ?_
  exact XS.aloadN (g := mkF m 23 Ls []) X5.here hx rfl d23 hL0 rfl st
theorem fillAt (hT : ThS Z s.heap) (hZ : Z.Warmed39 s.vm) (w : ∀ d ∈ fillW rc, d.before a0 Z = true) : ∀ d ∈ fillW rc, d.before args s = true := fun d hd => mvX hT hZ (by
  simp only [fillW, List.mem_cons, List.not_mem_nil, or_false] at hd
  rcases hd with rfl | rfl | rfl | rfl | rfl | rfl | rfl | rfl | rfl | rfl | rfl | rfl | rfl | rfl | rfl | rfl | rfl | rfl | rfl | rfl | rfl | rfl | rfl | rfl | rfl | rfl | rfl | rfl | rfl | rfl | rfl <;> rfl) (w d hd)
theorem thFill {locs : List Loc} {cells slots : Nat} (X : Stand p l e R s m args below meth c T locs cells slots) (hx : p.tables.exec = Jvm.exec) (hl : l.stackTraces = true) (hZ : Z.Warmed39 s.vm) (hown : s.vm.findClass tN = some m.cls) (eT : T.heap = h) (hTK : s.vm.MethodsKnown) (hB : s.vm.FramesKnown below) (hT0 : ThS Z s.heap)
    (w : ∀ d ∈ fillW rc, d.before a0 Z = true) (wi : (Cond.instantiable rc nI).before a0 Z = true) (E : Exa Z h a rc) (N : Unt h a) (F2 : Fld Z h a tN "stackTrace" steD u0.v) (F4 : Fld Z h a tN "backtrace" obD .null) (hU : Sta Z h tN "UNASSIGNED_STACK" steD u0.v)
    (hd : decode c.code 24 = .ok (.invokevirtual 27, 3)) (hLs : Ls.size = c.maxLocals) (hf : 3 ≤ R.frames) (hlo : 42 ≤ R.locals) (hc : cells + 1 ≤ R.cells) (hsl : slots + 2752 ≤ R.slots) :
    ∃ (T6 : State) (n : Nat) (cell C : Cell), n ≤ 2752 ∧ h[a]? = some cell ∧ T6.heap[a]? = some C ∧ C.cls = cell.cls ∧ C.vm = cell.vm ∧ C.slots.size = cell.slots.size ∧
      (∀ i, i ≠ RoadKit.slotOf Z tN "backtrace" obD → i ≠ RoadKit.slotOf Z tN "depth" "I" → i ≠ RoadKit.slotOf Z tN "stackTrace" steD → C.slots[i]? = cell.slots[i]?) ∧
      Stand p l e R s m args below meth c T6 (locs ++ [⟨a, RoadKit.slotOf Z tN "backtrace" obD⟩, ⟨a, RoadKit.slotOf Z tN "depth" "I"⟩, ⟨a, RoadKit.slotOf Z tN "stackTrace" steD⟩]) (cells + 1) (slots + n) ∧
      ∀ t, Steps p.tables e below (T6.setTop (mkF m 27 Ls [.ref a])) t → Steps p.tables e below (T.setTop (mkF m 24 Ls [.ref a])) t := by
  have htr : e.platform.stackTraces = true := by rw [X.admits.platform]; exact hl
  have howns : e.platform.frameOwnsMonitors = true := by rw [X.admits.platform]
  have hfin : e.platform.finalization = false := by rw [X.admits.platform]
  have hpl : e.platform.magicAccessors = ({} : Platform).magicAccessors := by rw [X.admits.platform]
  have W := fillAt (args := args) hT0 hZ w
  have a' : ∀ x, x ∈ fillW rc → x.holds args s none s [] = true := fun x hx => W x hx
  obtain ⟨TT, LL, y1, y2, y3, y4, y5, y6, y7, -⟩ := thLinks howns hfin hpl W
  obtain ⟨cell, hcell, hvm, hmon⟩ := N
  obtain ⟨cell1, k1, e1, e2, e3, e4, e5⟩ := E
  cases Option.some.inj (e1.symm.trans hcell)
  have hfound : s.vm.findClass rc = some cell.cls := by rw [hZ.alike.findClass]; exact e2
  obtain ⟨cX, kX, i1, hk, hord, -, -, isz⟩ := Cond.instantiable_spec (show (Cond.instantiable rc nI).holds args s none s [] = true from mv hZ wi)
  cases Option.some.inj (i1.symm.trans hfound)
  obtain ⟨cY, kY, j1, j2, jord, -, -, jsz⟩ := Cond.instantiable_spec (show (Cond.instantiable rc nI).holds a0 Z none Z [] = true from wi)
  cases Option.some.inj (j1.symm.trans e2)
  cases Option.some.inj (j2.symm.trans e3)
  have hsz : cell.slots.size = kX.instanceTypes.size := by rw [e5 jord, jsz, isz]
  -- the field stackTrace
  obtain ⟨c2, cf2, k2, i2, f2, b1, b2, b3, b4, b5, b6, b7⟩ := F2
  cases Option.some.inj (b1.symm.trans hcell)
  obtain ⟨k2', b8, -⟩ := State.fieldFound?_setVm (s := Z) hZ.alike b2
  cases Option.some.inj ((show s.fieldFound? tN "stackTrace" steD = _ from b8).symm.trans y4)
  have sl2 : RoadKit.slotOf Z tN "stackTrace" steD = TT.fStack.slot := by simp [RoadKit.slotOf, b2]
  -- backtrace
  obtain ⟨ciB, iB, fB, lB, rB, aB, stB, -, nB, tB, ffB⟩ := Cond.ownField (t := .object "java/lang/Object") y1 LL.cls (by decide +kernel) (a' (.fieldLink tN 198 tN "backtrace" obD) (by simp [fillW])) (a' (.lays rc tN "backtrace" obD) (by simp [fillW])) e.platform hpl
  obtain ⟨c4, cf4, k4, i4, f4, m1, m2, m3, m4, m5, m6, m7⟩ := F4
  cases Option.some.inj (m1.symm.trans hcell)
  obtain ⟨k4', m8, -⟩ := State.fieldFound?_setVm (s := Z) hZ.alike m2
  cases Option.some.inj ((show s.fieldFound? tN "backtrace" obD = _ from m8).symm.trans ffB)
  have sl4 : RoadKit.slotOf Z tN "backtrace" obD = fB.slot := by simp [RoadKit.slotOf, m2]
  -- depth
  obtain ⟨_, _, cD, kD, iD, fD, -, -, ffD, stD, -, -, -, -⟩ := Cond.lays_spec (a' (.lays rc tN "depth" "I") (by simp [fillW]))
  cases Option.some.inj ((Cond.lays_declared (a' (.lays rc tN "depth" "I") (by simp [fillW])) ffD).symm.trans y1)
  obtain ⟨hkD, atD⟩ := State.fieldFound?_spec ffD
  cases Option.some.inj (hkD.symm.trans LL.cls)
  obtain ⟨nD, tD⟩ := State.fieldFound?_type ffD (t := .int) (by decide +kernel)
  obtain ⟨_, _, cD0, kD0, iD0, fD0, -, -, ffD0, -⟩ := Cond.lays_spec (show (Cond.lays rc tN "depth" "I").holds a0 Z none Z [] = true from w _ (by simp [fillW]))
  obtain ⟨kD0', m9, -⟩ := State.fieldFound?_setVm (s := Z) hZ.alike ffD0
  cases Option.some.inj ((show s.fieldFound? tN "depth" "I" = _ from m9).symm.trans ffD)
  have slD : RoadKit.slotOf Z tN "depth" "I" = fD.slot := by simp [RoadKit.slotOf, ffD0]
  have hfb := Cond.soleField_find y1 LL.cls (a' (.soleField tN "backtrace") (by simp [fillW])) aB nB stB
  have hfd := Cond.soleField_find y1 LL.cls (a' (.soleField tN "depth") (by simp [fillW])) atD nD stD
  obtain ⟨comp, cO, kO, -, -, hkO, hkindO, hO⟩ := Cond.arrayOver_spec (W (.arrayOver (.object "java/lang/Object")) (by simp [fillW]))
  obtain ⟨tyS, -⟩ := Cond.laysAt hfound hk y4 (a' (.lays rc tN "stackTrace" steD) (by simp [fillW]))
  obtain ⟨tyB, -⟩ := Cond.laysAt hfound hk ffB (a' (.lays rc tN "backtrace" obD) (by simp [fillW]))
  obtain ⟨tyD, -⟩ := Cond.laysAt hfound hk ffD (a' (.lays rc tN "depth" "I") (by simp [fillW]))
  have tk : ∀ {f : Field} {v : Value}, kX.instanceTypes[f.slot]? = some f.type → fits f.type v = true → Jvm.Takes s cell f v := fun {f v} q1 q2 => by
    obtain ⟨r1, r2⟩ := Takes.of_laid (v := v) hk hord q1 q2
    exact ⟨by rw [hsz]; simpa using r1, by rw [hvm]; exact r2⟩
  -- the static
  obtain ⟨cU, iU, kU, fU, stU, cellS, n1, n2, n3, n4, n5, n6, n7⟩ := hU
  obtain ⟨kU', n8, n9⟩ := State.fieldFound?_setVm (s := Z) hZ.alike n1
  cases Option.some.inj ((show s.fieldFound? tN "UNASSIGNED_STACK" steD = _ from n8).symm.trans y5)
  cases Option.some.inj ((show TT.kT.statics = some stU by rw [n9]; exact n4).symm.trans LL.statics)
  have hneS : TT.aS ≠ a := fun q => by
    rw [q, hcell] at n5
    rw [← Option.some.inj n5, hvm] at n6; cases n6
  have hsel0 : selectMethod e.platform s.vm cell.cls TT.fill0 = .method TT.fill0 := by
    obtain ⟨c2, r2, m2, q1, q2, q3, q4, -⟩ := Cond.selects_spec (a' (.selects rc tFill0 tFill0) (by simp [fillW]))
    cases Option.some.inj (q1.symm.trans hfound)
    cases Option.some.inj (q2.symm.trans (State.methodFound?_of_named y3 (by decide)))
    cases Option.some.inj (q3.symm.trans y3)
    rw [Launch.admits_selectMethod X.admits]; exact q4
  have hSE := W (.selects rc tFill tFill) (by simp [fillW])
  obtain ⟨v6, vm6, ⟨T6, L6, c6, n6'⟩, -, X6, ⟨hv6, C6, n, hn, hD6, q1, q2, q3, q4, hL6, hc6, hn6⟩, come⟩ := X.virtualBack hx (own := tN) (C := rc) (index := 27) (y := tFill) (z := tFill) hown (W (.methodLink tN 27 tFill) (by simp [fillW])) (W (.declares tFill) (by simp [fillW])) (notFace_of_selects hSE) hSE (W (.instanceMethod tFill) (by simp [fillW])) (by decide)
    (fillPaysAny (l := l) (W := 0) (R := R) hx htr TT LL y2 (u0 := u0) (self := a) (cell := cell) (cellS := cellS) (fun _ => by rw [hvm]; simp) (by rw [hvm]; simp) (by rw [hmon]) (by rw [hmon]) b7 hsel0 hneS (fun q => by rw [q] at n6; cases n6) n7 (tk tyS (by rw [y7]; exact fits_refV_array _ u0))
      ⟨{ ci198 := ciB, i198 := iB, fBack := fB }, ⟨lB, rB, aB, stB⟩, m7⟩ hTK hB y1 hO hkO hkindO hfb hfd (fun x => tk tyB (by rw [tB]; rfl)) (fun x => tk tyD (by rw [tD]; rfl)) (by omega) (by omega))
    (b := a) (cB := cell.cls) hfound ⟨cell, by rw [eT]; exact hcell, rfl, by rw [hvm]; rfl⟩ (g := mkF m 24 Ls [.ref a]) rfl hLs (Steps.refl _) (argsL := []) (rest := [])
    (fun sig h => by rw [show parseMethodDescriptor tFill.desc = some ⟨[], some (.object tN)⟩ from by decide +kernel] at h; rw [← Option.some.inj h]; rfl) rfl (by show 2 * 0 + 0 ≤ 0; decide) hd
    (fun vmx hWx => ⟨rfl, hc, hsl, by show T.heap[a]? = _; rw [eT]; exact hcell, by show T.heap[_]? = _; rw [eT]; exact n5⟩)
  dsimp only [Pt.U, Pt.locs, Pt.cells, Pt.slots] at X6 hD6 hL6 hc6 hn6 come
  subst hv6 hL6 hc6 hn6
  rw [sl2, sl4, slD]
  exact ⟨T6, n, cell, C6, hn, hcell, hD6, q1, q2, q3, q4, X6, fun t st => come.trans st⟩
theorem keepS {locs : List Loc} {cells slots : Nat} (X : Stand p l e R s m args below meth c T locs cells slots) (hL : ∀ x ∈ locs, x.base = a) : Keep s.heap T.heap [a] := by
  have q := X.same
  refine ⟨?_, fun x cl hx ne => ?_, fun x cl hx => ?_⟩
  · rcases Nat.eq_zero_or_pos s.heap.size with z | z
    · omega
    · obtain ⟨c', r, -⟩ := q.2.2.2.2.2 (s.heap.size - 1) _ (Array.getElem?_eq_getElem (by omega))
      have := (Array.getElem?_eq_some_iff.mp r).1
      have e : (T.setVm s.vm).heap.size = T.heap.size := rfl
      omega
  · exact State.sameButNew.kept_off q (fun i hi => ne (by rw [List.mem_singleton]; exact hL _ hi)) hx
  · obtain ⟨c', r, r1, r2, -⟩ := q.2.2.2.2.2 x cl hx
    exact ⟨c', r, by rw [r1], by rw [r1], r2⟩
theorem ConK.th {V : Vw} {B : Bx} {Q : Qt} {ps : List Addr} {L : List Slot} {as' : Array Value} (hst : V.l.stackTraces = true) (hp : plainFor B.y = true) (hy : B.y.cls = tN) (hl : argsToLocals as' B.ml = L.toArray) (H : Head B.code) (hL0 : L[0]? = some (.val (.ref a))) (hsz : L.length = B.ml) (hs : rc ≠ "java/lang/String" ∧ rc ≠ "[B") (za : V.Z.heap.size ≤ a)
    (w : ∀ d ∈ fillW rc, d.before V.a0 V.Z = true) (wi : (Cond.instantiable rc nI).before V.a0 V.Z = true) (E : Exa V.Z h a rc) (N : Unt h a) (F1 : Fld V.Z h a tN "cause" thD .null) (F2 : Fld V.Z h a tN "stackTrace" steD .null) (F3 : Fld V.Z h a tN "suppressedExceptions" listD .null) (F4 : Fld V.Z h a tN "backtrace" obD .null) (F5 : Fld V.Z h a tN "detailMessage" msgD .null)
    (hU : Sta V.Z V.Z.heap tN "UNASSIGNED_STACK" steD u0.v) (hSe : Sta V.Z V.Z.heap tN "SUPPRESSED_SENTINEL" listD sen.v) (hf : 3 ≤ B.R.frames) (hlo : 42 ≤ B.R.locals) (hc : 1 ≤ B.R.cells) (hsl : 2752 ≤ B.R.slots)
    (body : ∀ (K : Cx) (h6 : Heap), Keep h h6 [a] → Exa V.Z h6 a rc → Fld V.Z h6 a tN "detailMessage" msgD .null → Run V K B Q h6 ps 1 2752 27 L [.ref a]) : ConK V B as' h ps Q := fun hE hO hN ws => by
  refine MetFree.of_bodySF hp hisR ?_
  intro p e s m args below meth c s₁ Bd hml0 hP hK
  obtain ⟨rfl, hZ, hh, hC, hS⟩ := hP
  have X0 : Stand p V.l e B.R s m args below meth c s₁ [] 0 0 := Stand.of_body Bd
  have e0 : s₁.heap = h := by rw [← hh, Bd.state]; rfl
  have hn := (name_of_methodNamed Bd.named Bd.method).1
  have hown : s.vm.findClass tN = some m.cls := by rw [← hy]; exact findClass_of_methodNamed Bd.named
  have H' : Head c.code := by rw [Bd.bytes]; exact H
  have hLs : L.toArray.size = c.maxLocals := by rw [hml0]; simpa using hsz
  obtain ⟨T5, h5, X5, q5, E5, N5, G2, G4, G5, U5, st5⟩ := thHead X0 Bd.exec hZ hown e0 w wi E N F1 F2 F3 F4 F5 (hU.ext hO) (hSe.ext hO) H' (Ls := L.toArray) (by rw [List.getElem?_toArray]; exact hL0) hLs (by omega) (by omega)
  have hT0 : ThS V.Z s.heap := ThS.ext (show Ext V.Z.heap s.heap by rw [hh]; exact hO) ThS.start
  obtain ⟨T6, n, cell, C, hn6, k1, k2, k3, k4, k5, k6, X6, st6⟩ := thFill X5 Bd.exec hst hZ hown q5 hK.1 hK.2 hT0 w wi E5 N5 G2 G4 U5 H'.2.2.2.2.2.2.2.2.2.2.2.2 hLs hf hlo (by omega) (by omega)
  have hLb : ∀ x ∈ (([] : List Loc) ++ [⟨a, RoadKit.slotOf V.Z tN "cause" thD⟩] ++ [⟨a, RoadKit.slotOf V.Z tN "stackTrace" steD⟩] ++ [⟨a, RoadKit.slotOf V.Z tN "suppressedExceptions" listD⟩] ++ [⟨a, RoadKit.slotOf V.Z tN "backtrace" obD⟩, ⟨a, RoadKit.slotOf V.Z tN "depth" "I"⟩, ⟨a, RoadKit.slotOf V.Z tN "stackTrace" steD⟩]), x.base = a := fun x hx => by
    simp only [List.nil_append, List.cons_append, List.mem_cons, List.not_mem_nil, or_false] at hx
    rcases hx with rfl | rfl | rfl | rfl | rfl | rfl <;> rfl
  have KK : Keep h T6.heap [a] := by rw [← hh]; exact keepS X6 hLb
  have G6 : Fld V.Z T6.heap a tN "detailMessage" msgD .null := by
    obtain ⟨c5, cf, k, i, f, r1, r2, r3, r4, r5, r6, r7⟩ := G5
    cases Option.some.inj (r1.symm.trans k1)
    have sf : RoadKit.slotOf V.Z tN "detailMessage" msgD = f.slot := by simp [RoadKit.slotOf, r2]
    have L2 := w (.lays rc tN "stackTrace" steD) (by simp [fillW])
    have L4 := w (.lays rc tN "backtrace" obD) (by simp [fillW])
    have L5 := w (.lays rc tN "detailMessage" msgD) (by simp [fillW])
    have L6 := w (.lays rc tN "depth" "I") (by simp [fillW])
    refine ⟨C, cf, k, i, f, k2, r2, r3, by rw [k4]; exact r4, by rw [k4]; exact r5, by rw [k3]; exact r6, ?_⟩
    rw [k6 _ (by rw [← sf]; exact slot_ne (C := rc) (Or.inl L5) (Or.inl L4) (by decide) (t := .object "java/lang/String") (by decide +kernel) (t' := .object "java/lang/Object") (by decide +kernel)) (by rw [← sf]; exact slot_ne (C := rc) (Or.inl L5) (Or.inl L6) (by decide) (t := .object "java/lang/String") (by decide +kernel) (t' := .int) (by decide +kernel)) (by rw [← sf]; exact slot_ne (C := rc) (Or.inl L5) (Or.inl L2) (by decide) (t := .object "java/lang/String") (by decide +kernel) (t' := .array (.object "java/lang/StackTraceElement")) (by decide +kernel))]
    exact r7
  have CH0 : CHr V.Z V.EL s.vm s.heap s.vm h := by rw [hh]; exact CHr.refl hC
  have CC := CHr.keep KK (fun x hx => by cases List.mem_singleton.mp hx; exact Safe.exa hZ.alike E hs.1 hs.2) CH0.1
  obtain ⟨t, o, h1, h2, h3, h4⟩ := body (p, e, s, m, args, below, meth, c) T6.heap KK (Exa.keep E KK) G6 T6
    ⟨_, s.vm, h.size, X6.more (by omega) (by omega), rfl, hZ, findClass_of_methodNamed Bd.named, (State.WarmedH.refl s).since _, KK.1, fun x hx => by rw [hLb x hx]; exact za, oldKeep hO KK (fun x hx => by cases List.mem_singleton.mp hx; exact za), CH0.trans CC, hS.go CC, hE, fun q => ⟨rfl, hN q⟩, Bd.exec, Bd.bytes, hml0, Bd.returns, BodyLoose.notSynchronized Bd, hn⟩
  refine ⟨t, o, ?_, h2, h3, h4⟩
  have q : entryFrame m args B.ml = mkF m 0 L.toArray [] := by simp only [entryFrame, mkF, hl]
  rw [q]; exact st5 _ (st6 _ h1)
end Fill
end Jvm.Own
/- laws to paste: Road.backV, Road.lenW, Road.eqW, Road.codOf (cut by pick.py; bodies as the Statement names them) -/
namespace Jvm.Pilot.@@N@@
namespace StrChars
open Jvm Sem ClassFile Op Lib Jvm.Stand Jvm.Free.XT Jvm.Free.ALB Jvm.Free.JM Jvm.Free
open Jvm.Lib.Cold (StaticIs)
/-- a char array whose places are chars -/
def Ch (a : Addr) (A : Cell) (U : State) : Prop := Arr .char a A U ∧ Typed .char A
theorem Ch.mv {a : Addr} {A : Cell} {U U' : State} (h : Ch a A U) (hal : U.vm.Alike U'.vm) (hh : U'.heap = U.heap) : Ch a A U' := ⟨h.1.mv hal hh, h.2⟩
theorem Ch.keep {a : Addr} {A : Cell} {U U' : State} (h : Ch a A U) (hal : U.vm.Alike U'.vm) (hk : U'.heap[a]? = some A) : Ch a A U' := ⟨h.1.keep hal hk, h.2⟩
/-- what place i of a char[]'s cell holds -/
def cv (A : Cell) (i : Nat) : Int32 := match A.slots[i]? with | some (.int x) => x | _ => 0
theorem Ch.get {a : Addr} {A : Cell} {U : State} (h : Ch a A U) {i : Nat} (hi : i < A.slots.size) : A.slots[i]? = some (.int (cv A i)) := by
  have e := Array.getElem?_eq_getElem hi
  have f := h.2 i _ e
  unfold cv; rw [e]
  generalize A.slots[i] = v at f
  cases v <;> simp [fits] at f ⊢
/-- the byte that i2b leaves of a char -/
def lo8 (x : Int32) : Int32 := x.toInt8.toInt32
theorem fits_lo8 (y : Int32) : fits .byte (.int (lo8 y)) = true := by
  have h1 := y.toInt8.le_toInt
  have h2 := y.toInt8.toInt_lt
  simp only [lo8, fits, Bool.and_eq_true, decide_eq_true_eq, Int32.le_iff_toInt_le, Int8.toInt_toInt32, show (-128 : Int32).toInt = -128 from by decide, show (127 : Int32).toInt = 127 from by decide]
  omega
/-- A' is A but that each place j of lo .. hi - 1 holds f j -/
def Laid (A A' : Cell) (lo hi : Nat) (f : Nat → Value) : Prop := A'.cls = A.cls ∧ A'.vm = A.vm ∧ A'.slots.size = A.slots.size ∧ ∀ i, A'.slots[i]? = if lo ≤ i ∧ i < hi then some (f i) else A.slots[i]?
theorem Laid.zero (A : Cell) (lo : Nat) (f : Nat → Value) : Laid A A lo (lo + 0) f := ⟨rfl, rfl, rfl, fun i => by rw [if_neg (by omega)]⟩
theorem Laid.step {A Ak : Cell} {lo k : Nat} {f : Nat → Value} {v : Value} (h : Laid A Ak lo k f) (hlo : lo ≤ k) (hk : k < Ak.slots.size) (hv : v = f k) : Laid A (Ak.setSlot k v) lo (k + 1) f := by
  refine ⟨h.1, h.2.1, by simpa [Cell.setSlot] using h.2.2.1, fun i => ?_⟩
  by_cases e : k = i
  · subst e; rw [Cell.slots_setSlot_self v hk, if_pos (by omega), hv]
  · rw [Cell.slots_setSlot_ne v e, h.2.2.2 i]
    by_cases q : lo ≤ i ∧ i < k
    · rw [if_pos q, if_pos (by omega)]
    · rw [if_neg q, if_neg (by omega)]
def U16 : String := "java/lang/StringUTF16"
namespace Cmp5
def yN : MethodName := ⟨"java/lang/StringUTF16", "compress", "([CI[BII)I"⟩
abbrev yB : ByteArray := jdk_52_method_21_code
theorem d0 : decode yB 0 = .ok (.iconst 0, 1) := by decide +kernel
theorem d1 : decode yB 1 = .ok (.istore 5, 2) := by decide +kernel
theorem d3 : decode yB 3 = .ok (.iload 5, 2) := by decide +kernel
theorem d5 : decode yB 5 = .ok (.iload 4, 2) := by decide +kernel
theorem d7 : decode yB 7 = .ok (.if_icmp (.ge) 37, 3) := by decide +kernel
theorem d10 : decode yB 10 = .ok (.aload_n 0, 1) := by decide +kernel
theorem d11 : decode yB 11 = .ok (.iload_n 1, 1) := by decide +kernel
theorem d12 : decode yB 12 = .ok (.caload, 1) := by decide +kernel
theorem d13 : decode yB 13 = .ok (.istore 6, 2) := by decide +kernel
theorem d15 : decode yB 15 = .ok (.iload 6, 2) := by decide +kernel
theorem d17 : decode yB 17 = .ok (.sipush 255, 3) := by decide +kernel
theorem d20 : decode yB 20 = .ok (.if_icmp (.le) 6, 3) := by decide +kernel
theorem d26 : decode yB 26 = .ok (.aload_n 2, 1) := by decide +kernel
theorem d27 : decode yB 27 = .ok (.iload_n 3, 1) := by decide +kernel
theorem d28 : decode yB 28 = .ok (.iload 6, 2) := by decide +kernel
theorem d30 : decode yB 30 = .ok (.i2b, 1) := by decide +kernel
theorem d31 : decode yB 31 = .ok (.bastore, 1) := by decide +kernel
theorem d32 : decode yB 32 = .ok (.iinc 1 1, 3) := by decide +kernel
theorem d35 : decode yB 35 = .ok (.iinc 3 1, 3) := by decide +kernel
theorem d38 : decode yB 38 = .ok (.iinc 5 1, 3) := by decide +kernel
theorem d41 : decode yB 41 = .ok (.goto (-38), 3) := by decide +kernel
theorem d44 : decode yB 44 = .ok (.iload 4, 2) := by decide +kernel
theorem d46 : decode yB 46 = .ok (.ireturn, 1) := by decide +kernel
def site : List Cond := []
def tab : Cond := tabOf yN yB 7 (some .int) site
def P (b : Addr) (A : Cell) (d : Addr) (B : Cell) (o q len : Nat) (args : Array Value) (s : State) : Prop := args = #[.ref b, .int (Int32.ofNat o), .ref d, .int (Int32.ofNat q), .int (Int32.ofNat len)] ∧ Ch b A s ∧ Arr .byte d B s ∧ b ≠ d ∧ o + len ≤ A.slots.size ∧ q + len ≤ B.slots.size ∧ ∀ i, i < len → ¬ 255 < cv A (o + i)
def E (b : Addr) (A : Cell) (d : Addr) (B : Cell) (o q len : Nat) (r : Option Value) (s u : State) : Prop := r = some (.int (Int32.ofNat len)) ∧ ∃ B', Put d B' s u ∧ Laid B B' q (q + len) (fun j => Value.int (lo8 (cv A (o + (j - q)))))
/-- no char of the range above 255: len; the places written hold each char's low byte -/
theorem law (l : Launch) (b : Addr) (A : Cell) (d : Addr) (B : Cell) (o q len : Nat) : Law l yN 5 5 0 0 yB 7 (some .int) site (P b A d B o q len) (E b A d B o q len) (copyLocs d q len) 0 0 := by
  refine Law.of_walk (plainFor_of_name (by decide +kernel)) (by decide +kernel) (by decide +kernel) (by decide) (fun _ _ h => by rw [h.1]; rfl) (fun _ U U' hal hh h => ⟨h.1, h.2.1.mv hal hh, h.2.2.1.mv hal hh, h.2.2.2⟩) (fun r U U' V V' h1 hal h2 h => ⟨h.1, h.2.elim fun B' q => ⟨B', q.1.mv h1 h2, q.2⟩⟩) ?_
  intro p e s m args below meth c s₁ X0 hexec hbytes hml hret hlk hnm hown hh0 W hP
  obtain ⟨rfl, hA, hB, hne, l1, l2, hp⟩ := hP
  have c1 : Steps p.tables e below (s₁.setTop (entryFrame m #[.ref b, .int (Int32.ofNat o), .ref d, .int (Int32.ofNat q), .int (Int32.ofNat len)] 7)) (s₁.setTop (mkF m 0 #[.val (.ref b), .val (.int (Int32.ofNat o)), .val (.ref d), .val (.int (Int32.ofNat q)), .val (.int (Int32.ofNat len)), .unset, .unset] [])) := entry rfl
  have hA0 := hA.1.mv X0.warmed.alike hh0
  have hB0 := hB.mv X0.warmed.alike hh0
  have a31 := hA.1.2.2.2
  have c2 : Steps p.tables e below (s₁.setTop (entryFrame m #[.ref b, .int (Int32.ofNat o), .ref d, .int (Int32.ofNat q), .int (Int32.ofNat len)] 7)) (s₁.setTop (mkF m 3 #[.val (.ref b), .val (.int (Int32.ofNat o)), .val (.ref d), .val (.int (Int32.ofNat q)), .val (.int (Int32.ofNat len)), .val (.int 0), .unset] [])) := c1.trans (by
    refine iconstV X0.here hexec rfl 0 (hb hbytes d0) (by decide) ?_
    refine XS.istore X0.here hexec rfl (hb hbytes d1) rfl rfl ?_
    exact Steps.refl _)
  have loop : ∀ (r i : Nat), i + r = len → ∀ (z : Slot), (z = .unset ∨ ∃ w, z = .val w ∧ w.category = 1) → ∀ (Tl : State) (Bk : Cell), Stand p l e { frames := 0, locals := 0, cells := 0, slots := 0 } s m #[.ref b, .int (Int32.ofNat o), .ref d, .int (Int32.ofNat q), .int (Int32.ofNat len)] below meth c Tl ([] ++ copyLocs d q i) 0 0 → Put d Bk s₁ Tl → Laid B Bk q (q + i) (fun j => Value.int (lo8 (cv A (o + (j - q))))) →
      Steps p.tables e below (s₁.setTop (entryFrame m #[.ref b, .int (Int32.ofNat o), .ref d, .int (Int32.ofNat q), .int (Int32.ofNat len)] 7)) (Tl.setTop (mkF m 3 #[.val (.ref b), .val (.int (Int32.ofNat (o + i))), .val (.ref d), .val (.int (Int32.ofNat (q + i))), .val (.int (Int32.ofNat len)), .val (.int (Int32.ofNat i)), z] [])) → ∃ (T' : State) (B' : Cell) (z' : Slot), Stand p l e { frames := 0, locals := 0, cells := 0, slots := 0 } s m #[.ref b, .int (Int32.ofNat o), .ref d, .int (Int32.ofNat q), .int (Int32.ofNat len)] below meth c T' ([] ++ copyLocs d q len) 0 0 ∧ Put d B' s₁ T' ∧ Laid B B' q (q + len) (fun j => Value.int (lo8 (cv A (o + (j - q))))) ∧
      Steps p.tables e below (s₁.setTop (entryFrame m #[.ref b, .int (Int32.ofNat o), .ref d, .int (Int32.ofNat q), .int (Int32.ofNat len)] 7)) (T'.setTop (mkF m 3 #[.val (.ref b), .val (.int (Int32.ofNat (o + len))), .val (.ref d), .val (.int (Int32.ofNat (q + len))), .val (.int (Int32.ofNat len)), .val (.int (Int32.ofNat len)), z'] [])) := by
    intro r
    induction r with
    | zero =>
      intro i hi z hz Tl Bk Xl pl fl cl
      have hil : i = len := by omega
      rw [hil] at Xl fl cl
      exact ⟨Tl, Bk, z, Xl, pl, fl, cl⟩
    | succ r ih =>
      intro i hi z hz Tl Bk Xl pl fl cl
      have all := X0.warmed.alike.symm.trans Xl.warmed.alike
      have hAl := hA0.keep all (pl.other hne hA0.1)
      have hBk := hB0.like all pl.1 fl.1 fl.2.1 fl.2.2.1
      have hlt : q + i < Bk.slots.size := by rw [fl.2.2.1]; omega
      have c3 : Steps p.tables e below (s₁.setTop (entryFrame m #[.ref b, .int (Int32.ofNat o), .ref d, .int (Int32.ofNat q), .int (Int32.ofNat len)] 7)) (Tl.setTop (mkF m 12 #[.val (.ref b), .val (.int (Int32.ofNat (o + i))), .val (.ref d), .val (.int (Int32.ofNat (q + i))), .val (.int (Int32.ofNat len)), .val (.int (Int32.ofNat i)), z] [.int (Int32.ofNat (o + i)), .ref b])) := cl.trans (by
        refine XS.iload Xl.here hexec rfl (hb hbytes d3) rfl ?_
        refine XS.iload Xl.here hexec rfl (hb hbytes d5) rfl ?_
        refine XS.icmpNo Xl.here hexec rfl (hb hbytes d7) rfl (ii_ge_f (lt32 (by omega) (by omega))) ?_
        refine XS.aloadN Xl.here hexec rfl (hb hbytes d10) rfl rfl ?_
        refine XS.iloadN Xl.here hexec rfl (hb hbytes d11) rfl ?_
        exact Steps.refl _)
      have c4 : Steps p.tables e below (s₁.setTop (entryFrame m #[.ref b, .int (Int32.ofNat o), .ref d, .int (Int32.ofNat q), .int (Int32.ofNat len)] 7)) (Tl.setTop (mkF m 13 #[.val (.ref b), .val (.int (Int32.ofNat (o + i))), .val (.ref d), .val (.int (Int32.ofNat (q + i))), .val (.int (Int32.ofNat len)), .val (.int (Int32.ofNat i)), z] [.int (cv A (o + i))])) := c3.trans (by
        refine Xl.aget hexec hAl rfl (hA.get (i := o + i) (by omega)) rfl rfl (hb hbytes d12) ?_
        exact Steps.refl _)
      have c5 : Steps p.tables e below (s₁.setTop (entryFrame m #[.ref b, .int (Int32.ofNat o), .ref d, .int (Int32.ofNat q), .int (Int32.ofNat len)] 7)) (Tl.setTop (mkF m 15 #[.val (.ref b), .val (.int (Int32.ofNat (o + i))), .val (.ref d), .val (.int (Int32.ofNat (q + i))), .val (.int (Int32.ofNat len)), .val (.int (Int32.ofNat i)), .val (.int (cv A (o + i)))] [])) := c4.trans (by
        refine XS.istoreS Xl.here hexec rfl (hb hbytes d13) rfl rfl hz ?_
        exact Steps.refl _)
      have c6 : Steps p.tables e below (s₁.setTop (entryFrame m #[.ref b, .int (Int32.ofNat o), .ref d, .int (Int32.ofNat q), .int (Int32.ofNat len)] 7)) (Tl.setTop (mkF m 31 #[.val (.ref b), .val (.int (Int32.ofNat (o + i))), .val (.ref d), .val (.int (Int32.ofNat (q + i))), .val (.int (Int32.ofNat len)), .val (.int (Int32.ofNat i)), .val (.int (cv A (o + i)))] [.int (lo8 (cv A (o + i))), .int (Int32.ofNat (q + i)), .ref d])) := c5.trans (by
        refine XS.iload Xl.here hexec rfl (hb hbytes d15) rfl ?_
        refine sipushV Xl.here hexec rfl 255 (hb hbytes d17) (by decide) ?_
        refine XS.icmpYes Xl.here hexec rfl (pc0 := 20) rfl (hb hbytes d20) rfl (ii_le_t (hp i (by omega))) (by decide) rfl ?_
        refine XS.aloadN Xl.here hexec rfl (hb hbytes d26) rfl rfl ?_
        refine XS.iloadN Xl.here hexec rfl (hb hbytes d27) rfl ?_
        refine XS.iload Xl.here hexec rfl (hb hbytes d28) rfl ?_
        refine i2b Xl.here hexec rfl (hb hbytes d30) rfl ?_
        exact Steps.refl _)
      obtain ⟨T7, X7, p7, st7⟩ := Xl.aput hexec hBk rfl hlt rfl (fits_lo8 (cv A (o + i))) (g := (mkF m 31 #[.val (.ref b), .val (.int (Int32.ofNat (o + i))), .val (.ref d), .val (.int (Int32.ofNat (q + i))), .val (.int (Int32.ofNat len)), .val (.int (Int32.ofNat i)), .val (.int (cv A (o + i)))] [.int (lo8 (cv A (o + i))), .int (Int32.ofNat (q + i)), .ref d])) rfl (rest := []) rfl (hb hbytes d31)
      have c8 : Steps p.tables e below (s₁.setTop (entryFrame m #[.ref b, .int (Int32.ofNat o), .ref d, .int (Int32.ofNat q), .int (Int32.ofNat len)] 7)) (T7.setTop (mkF m 32 #[.val (.ref b), .val (.int (Int32.ofNat (o + i))), .val (.ref d), .val (.int (Int32.ofNat (q + i))), .val (.int (Int32.ofNat len)), .val (.int (Int32.ofNat i)), .val (.int (cv A (o + i)))] [])) := c6.trans (st7 _ (Steps.refl _))
      have c9 : Steps p.tables e below (s₁.setTop (entryFrame m #[.ref b, .int (Int32.ofNat o), .ref d, .int (Int32.ofNat q), .int (Int32.ofNat len)] 7)) (T7.setTop (mkF m 3 #[.val (.ref b), .val (.int (Int32.ofNat (o + i) + 1)), .val (.ref d), .val (.int (Int32.ofNat (q + i) + 1)), .val (.int (Int32.ofNat len)), .val (.int (Int32.ofNat i + 1)), .val (.int (cv A (o + i)))] [])) := c8.trans (by
        refine iincV X7.here hexec rfl 1 (hb hbytes d32) (by decide) rfl rfl ?_
        refine iincV X7.here hexec rfl 1 (hb hbytes d35) (by decide) rfl rfl ?_
        refine iincV X7.here hexec rfl 1 (hb hbytes d38) (by decide) rfl rfl ?_
        refine XS.goto X7.here hexec rfl (pc0 := 41) rfl (hb hbytes d41) (by decide) rfl ?_
        exact Steps.refl _)
      have c10 : Steps p.tables e below (s₁.setTop (entryFrame m #[.ref b, .int (Int32.ofNat o), .ref d, .int (Int32.ofNat q), .int (Int32.ofNat len)] 7)) (T7.setTop (mkF m 3 #[.val (.ref b), .val (.int (Int32.ofNat (o + (i + 1)))), .val (.ref d), .val (.int (Int32.ofNat (q + (i + 1)))), .val (.int (Int32.ofNat len)), .val (.int (Int32.ofNat (i + 1))), .val (.int (cv A (o + i)))] [])) := by
        have := c9
        rw [succ32, succ32, succ32] at this
        exact this
      exact ih (i + 1) (by omega) _ (Or.inr ⟨_, rfl, rfl⟩) T7 _ (by rw [copyLocs_step, ← List.append_assoc]; exact X7) (pl.trans p7) (fl.step (by omega) hlt (by simp)) c10
  obtain ⟨T9, B9, z9, X9, p9, f9, g9⟩ := loop len 0 (by omega) .unset (Or.inl rfl) s₁ B (by simpa [copyLocs] using X0) ⟨hB0.1, fun _ _ => rfl, rfl⟩ (Laid.zero _ _ _) c2
  have c11 : Steps p.tables e below (s₁.setTop (entryFrame m #[.ref b, .int (Int32.ofNat o), .ref d, .int (Int32.ofNat q), .int (Int32.ofNat len)] 7)) (T9.setTop (mkF m 46 #[.val (.ref b), .val (.int (Int32.ofNat (o + len))), .val (.ref d), .val (.int (Int32.ofNat (q + len))), .val (.int (Int32.ofNat len)), .val (.int (Int32.ofNat len)), z9] [.int (Int32.ofNat len)])) := g9.trans (by
    refine XS.iload X9.here hexec rfl (hb hbytes d3) rfl ?_
    refine XS.iload X9.here hexec rfl (hb hbytes d5) rfl ?_
    refine XS.icmpYes X9.here hexec rfl (pc0 := 7) rfl (hb hbytes d7) rfl (ii_ge_t (nlt32 (by omega) (Nat.le_refl _))) (by decide) rfl ?_
    refine XS.iload X9.here hexec rfl (hb hbytes d44) rfl ?_
    exact Steps.refl _)
  exact ⟨T9, some (.int (Int32.ofNat len)), _, _, _, X9, by simp, rfl, rfl, (fun h => by cases h), ⟨rfl, B9, p9.from hh0, f9⟩, fun fs hl => c11.trans (X9.ireturnOut hexec hret rfl (Or.inl rfl) (hb hbytes d46) hl)⟩
end Cmp5
namespace Cmp3
def yN : MethodName := ⟨"java/lang/StringUTF16", "compress", "([CII)[B"⟩
abbrev yB : ByteArray := jdk_52_method_16_code
theorem d0 : decode yB 0 = .ok (.iload_n 2, 1) := by decide +kernel
theorem d1 : decode yB 1 = .ok (.newarray .byte, 2) := by decide +kernel
theorem d3 : decode yB 3 = .ok (.astore_n 3, 1) := by decide +kernel
theorem d4 : decode yB 4 = .ok (.aload_n 0, 1) := by decide +kernel
theorem d5 : decode yB 5 = .ok (.iload_n 1, 1) := by decide +kernel
theorem d6 : decode yB 6 = .ok (.aload_n 3, 1) := by decide +kernel
theorem d7 : decode yB 7 = .ok (.iconst 0, 1) := by decide +kernel
theorem d8 : decode yB 8 = .ok (.iload_n 2, 1) := by decide +kernel
theorem d9 : decode yB 9 = .ok (.invokestatic 115, 3) := by decide +kernel
theorem d12 : decode yB 12 = .ok (.istore 4, 2) := by decide +kernel
theorem d14 : decode yB 14 = .ok (.iload 4, 2) := by decide +kernel
theorem d16 : decode yB 16 = .ok (.iload_n 2, 1) := by decide +kernel
theorem d17 : decode yB 17 = .ok (.if_icmp (.eq) 40, 3) := by decide +kernel
theorem d57 : decode yB 57 = .ok (.aload_n 3, 1) := by decide +kernel
theorem d58 : decode yB 58 = .ok (.areturn, 1) := by decide +kernel
def site : List Cond := [.arrayClass .byte, Cmp5.tab] ++ staticW U16 115 Cmp5.yN
def tab : Cond := tabOf yN yB 6 (some (.array .byte)) site
def P (b : Addr) (A : Cell) (o len : Nat) (args : Array Value) (s : State) : Prop := args = #[.ref b, .int (Int32.ofNat o), .int (Int32.ofNat len)] ∧ Ch b A s ∧ o + len ≤ A.slots.size ∧ len ≤ 536870912 ∧ ∀ i, i < len → ¬ 255 < cv A (o + i)
def E (b : Addr) (A : Cell) (o len : Nat) (r : Option Value) (s u : State) : Prop := NewArr .byte "[B" len (fun j => .int (lo8 (cv A (o + j)))) r s u ∧ u.heap.size = s.heap.size + 1
/-- no char of the range above 255: a new byte[] of their low bytes -/
theorem law (l : Launch) (b : Addr) (A : Cell) (o len : Nat) : Law l yN 3 3 1 18 yB 6 (some (.array .byte)) site (P b A o len) (E b A o len) [] 1 len := by
  refine Law.of_walk (plainFor_of_name (by decide +kernel)) (by decide +kernel) (by decide +kernel) (by decide) (fun _ _ h => by rw [h.1]; rfl) (fun _ U U' hal hh h => ⟨h.1, h.2.1.mv hal hh, h.2.2⟩) (fun r U U' V V' h1 hal h2 h => ⟨NewArr.mv r U U' V V' h1 hal h2 h.1, by rw [h1, h2]; exact h.2⟩) ?_
  intro p e s m args below meth c s₁ X0 hexec hbytes hml hret hlk hnm hown hh0 W hP
  obtain ⟨rfl, hA, l1, l2, hp⟩ := hP
  have a31 := hA.1.2.2.2
  have c1 : Steps p.tables e below (s₁.setTop (entryFrame m #[.ref b, .int (Int32.ofNat o), .int (Int32.ofNat len)] 6)) (s₁.setTop (mkF m 0 #[.val (.ref b), .val (.int (Int32.ofNat o)), .val (.int (Int32.ofNat len)), .unset, .unset, .unset] [])) := entry rfl
  have c2 : Steps p.tables e below (s₁.setTop (entryFrame m #[.ref b, .int (Int32.ofNat o), .int (Int32.ofNat len)] 6)) (s₁.setTop (mkF m 1 #[.val (.ref b), .val (.int (Int32.ofNat o)), .val (.int (Int32.ofNat len)), .unset, .unset, .unset] [.int (Int32.ofNat len)])) := c1.trans (by
    refine XS.iloadN X0.here hexec rfl (hb hbytes d0) rfl ?_
    exact Steps.refl _)
  obtain ⟨T3, B3, X3, ba3, bs3, bv3, bh3, bf3, st3⟩ := X0.anew hexec (atype := .byte) (wk W (.arrayClass .byte)) rfl (by show len * 1 ≤ _; omega) (by omega) (g := (mkF m 1 #[.val (.ref b), .val (.int (Int32.ofNat o)), .val (.int (Int32.ofNat len)), .unset, .unset, .unset] [.int (Int32.ofNat len)])) rfl (hb hbytes d1) (rest := []) rfl (Nat.le_refl _) (by show 0 + len ≤ len; omega)
  rw [hh0] at ba3 st3
  have kp3 : XT.Kept s T3 := (XT.Kept.of_eq hh0).push bh3
  have hA3 := hA.keep X3.warmed.alike (kp3 _ _ hA.1.1)
  have hne : b ≠ s.heap.size := hA.1.ne
  have c4 : Steps p.tables e below (s₁.setTop (entryFrame m #[.ref b, .int (Int32.ofNat o), .int (Int32.ofNat len)] 6)) (T3.setTop (mkF m 3 #[.val (.ref b), .val (.int (Int32.ofNat o)), .val (.int (Int32.ofNat len)), .unset, .unset, .unset] [.ref s.heap.size])) := c2.trans (st3 _ (Steps.refl _))
  have c5 : Steps p.tables e below (s₁.setTop (entryFrame m #[.ref b, .int (Int32.ofNat o), .int (Int32.ofNat len)] 6)) (T3.setTop (mkF m 9 #[.val (.ref b), .val (.int (Int32.ofNat o)), .val (.int (Int32.ofNat len)), .val (.ref s.heap.size), .unset, .unset] [.int (Int32.ofNat len), .int 0, .ref s.heap.size, .int (Int32.ofNat o), .ref b])) := c4.trans (by
    refine XS.astoreN X3.here hexec rfl (hb hbytes d3) rfl rfl rfl ?_
    refine XS.aloadN X3.here hexec rfl (hb hbytes d4) rfl rfl ?_
    refine XS.iloadN X3.here hexec rfl (hb hbytes d5) rfl ?_
    refine XS.aloadN X3.here hexec rfl (hb hbytes d6) rfl rfl ?_
    refine iconstV X3.here hexec rfl 0 (hb hbytes d7) (by decide) ?_
    refine XS.iloadN X3.here hexec rfl (hb hbytes d8) rfl ?_
    exact Steps.refl _)
  obtain ⟨v6, T6, X6, E6, g6⟩ := X3.callS hexec (Cmp5.law l b A s.heap.size B3 o 0 len) hown (wks W (staticW U16 115 Cmp5.yN)) (wk W Cmp5.tab) (W := 0) (Nat.le_of_ble_eq_true rfl) (Nat.le_of_ble_eq_true rfl) (Nat.le_refl _) (by show 0 + len + 0 ≤ len; omega) (g := (mkF m 9 #[.val (.ref b), .val (.int (Int32.ofNat o)), .val (.int (Int32.ofNat len)), .val (.ref s.heap.size), .unset, .unset] [.int (Int32.ofNat len), .int (Int32.ofNat 0), .ref s.heap.size, .int (Int32.ofNat o), .ref b])) rfl (by rw [hml]; rfl) c5 (argsL := [.ref b, .int (Int32.ofNat o), .ref s.heap.size, .int (Int32.ofNat 0), .int (Int32.ofNat len)]) (rest := []) rfl rfl (by show 2 * 0 + 0 ≤ _; decide) (hb hbytes d9) (⟨rfl, hA3, ba3, hne, l1, by rw [bs3]; simp, hp⟩)
  obtain ⟨rfl, B6, p6, f6⟩ := E6
  have c7 : Steps p.tables e below (s₁.setTop (entryFrame m #[.ref b, .int (Int32.ofNat o), .int (Int32.ofNat len)] 6)) (T6.setTop (mkF m 12 #[.val (.ref b), .val (.int (Int32.ofNat o)), .val (.int (Int32.ofNat len)), .val (.ref s.heap.size), .unset, .unset] [.int (Int32.ofNat len)])) := g6
  have c8 : Steps p.tables e below (s₁.setTop (entryFrame m #[.ref b, .int (Int32.ofNat o), .int (Int32.ofNat len)] 6)) (T6.setTop (mkF m 58 #[.val (.ref b), .val (.int (Int32.ofNat o)), .val (.int (Int32.ofNat len)), .val (.ref s.heap.size), .val (.int (Int32.ofNat len)), .unset] [.ref s.heap.size])) := c7.trans (by
    refine XS.istore X6.here hexec rfl (hb hbytes d12) rfl rfl ?_
    refine XS.iload X6.here hexec rfl (hb hbytes d14) rfl ?_
    refine XS.iloadN X6.here hexec rfl (hb hbytes d16) rfl ?_
    refine XS.icmpYes X6.here hexec rfl (pc0 := 17) rfl (hb hbytes d17) rfl (ii_eq_t rfl) (by decide) rfl ?_
    refine XS.aloadN X6.here hexec rfl (hb hbytes d57) rfl rfl ?_
    exact Steps.refl _)
  have X8 := X6.wide (L' := []) (cells' := 1) (slots' := len) (fun x hx hlt => by
    simp only [List.nil_append, copyLocs, List.mem_map, List.mem_range] at hx
    obtain ⟨i, -, rfl⟩ := hx
    exact absurd hlt (Nat.lt_irrefl _)) (Nat.le_refl _) (by omega)
  exact ⟨T6, some (.ref s.heap.size), _, _, _, X8, rfl, rfl, rfl, (fun h => by cases h), ⟨⟨rfl, B6, ba3.like (X3.warmed.alike.symm.trans X6.warmed.alike) p6.1 f6.1 f6.2.1 f6.2.2.1, f6.2.1.trans bv3, by rw [X6.warmed.alike.findClass, f6.1]; exact bf3, by rw [f6.2.2.1, bs3]; simp, fun j hj => by rw [f6.2.2.2 j, if_pos (by omega)]; rfl, kp3.put p6 (Nat.le_refl _)⟩, by rw [p6.2.2, bh3, hh0]; simp⟩, fun fs hl => c8.trans (X8.areturnOut hexec rfl hret rfl (hb hbytes d58) hl)⟩
end Cmp3
namespace CodL
def yN : MethodName := ⟨"java/lang/StringUTF16", "coderFromArrayLen", "([BI)B"⟩
abbrev yB : ByteArray := jdk_52_method_15_code
theorem d0 : decode yB 0 = .ok (.iload_n 1, 1) := by decide +kernel
theorem d1 : decode yB 1 = .ok (.aload_n 0, 1) := by decide +kernel
theorem d2 : decode yB 2 = .ok (.arraylength, 1) := by decide +kernel
theorem d3 : decode yB 3 = .ok (.isub, 1) := by decide +kernel
theorem d4 : decode yB 4 = .ok (.bipush 31, 2) := by decide +kernel
theorem d6 : decode yB 6 = .ok (.iushr, 1) := by decide +kernel
theorem d7 : decode yB 7 = .ok (.i2b, 1) := by decide +kernel
theorem d8 : decode yB 8 = .ok (.ireturn, 1) := by decide +kernel
def site : List Cond := []
def tab : Cond := tabOf yN yB 2 (some .byte) site
def P (d : Addr) (B : Cell) (args : Array Value) (s : State) : Prop := args = #[.ref d, .int (Int32.ofNat B.slots.size)] ∧ Arr .byte d B s
def E (r : Option Value) (s u : State) : Prop := XT.PureE (some (.int 0)) r s u
/-- an array as long as the number of chars: LATIN1 -/
theorem law (l : Launch) (d : Addr) (B : Cell) : Law l yN 2 2 0 0 yB 2 (some .byte) site (P d B) E [] 0 0 := by
  refine Law.of_walk (plainFor_of_name (by decide +kernel)) (by decide +kernel) (by decide +kernel) (by decide) (fun _ _ h => by rw [h.1]; rfl) (fun _ U U' hal hh h => ⟨h.1, h.2.mv hal hh⟩) (fun r U U' V V' h1 hal h2 h => XT.PureE.mv r U U' V V' h1 hal h2 h) ?_
  intro p e s m args below meth c s₁ X0 hexec hbytes hml hret hlk hnm hown hh0 W hP
  obtain ⟨rfl, hB⟩ := hP
  have hB0 := hB.mv X0.warmed.alike hh0
  have c1 : Steps p.tables e below (s₁.setTop (entryFrame m #[.ref d, .int (Int32.ofNat B.slots.size)] 2)) (s₁.setTop (mkF m 0 #[.val (.ref d), .val (.int (Int32.ofNat B.slots.size))] [])) := entry rfl
  have c2 : Steps p.tables e below (s₁.setTop (entryFrame m #[.ref d, .int (Int32.ofNat B.slots.size)] 2)) (s₁.setTop (mkF m 2 #[.val (.ref d), .val (.int (Int32.ofNat B.slots.size))] [.ref d, .int (Int32.ofNat B.slots.size)])) := c1.trans (by
    refine XS.iloadN X0.here hexec rfl (hb hbytes d0) rfl ?_
    refine XS.aloadN X0.here hexec rfl (hb hbytes d1) rfl rfl ?_
    exact Steps.refl _)
  have c3 : Steps p.tables e below (s₁.setTop (entryFrame m #[.ref d, .int (Int32.ofNat B.slots.size)] 2)) (s₁.setTop (mkF m 8 #[.val (.ref d), .val (.int (Int32.ofNat B.slots.size))] [.int (lo8 (ushr (Int32.ofNat B.slots.size - Int32.ofNat B.slots.size) 31))])) := c2.trans (by
    refine X0.alen hexec hB0 rfl rfl (hb hbytes d2) ?_
    refine XS.isub X0.here hexec rfl (hb hbytes d3) rfl ?_
    refine bipushV X0.here hexec rfl 31 (hb hbytes d4) (by decide) ?_
    refine iushr X0.here hexec rfl (hb hbytes d6) rfl ?_
    refine i2b X0.here hexec rfl (hb hbytes d7) rfl ?_
    exact Steps.refl _)
  have e0 : lo8 (ushr (Int32.ofNat B.slots.size - Int32.ofNat B.slots.size) 31) = 0 := by rw [Int32.sub_self]; decide
  rw [e0] at c3
  exact ⟨s₁, some (.int 0), _, _, _, X0, rfl, rfl, rfl, (fun h => by cases h), ⟨rfl, hh0⟩, fun fs hl => c3.trans (X0.ireturnOut hexec hret rfl (Or.inr (Or.inr (Or.inl rfl))) (hb hbytes d8) hl)⟩
end CodL
/-- the String at a is Latin-1 over a new byte[] (the heap's one new cell): the low bytes of the len chars of A from o on; every cell but a is kept -/
def Got (a : Addr) (D : Cell) (fV fC : Field) (A : Cell) (o len : Nat) (r : Option Value) (s u : State) : Prop := r = none ∧ ∃ D' V : Cell, Blank "java/lang/String" a D' u ∧ Same D D' [fV.slot, fC.slot] ∧ D'.slots[fV.slot]? = some (.ref s.heap.size) ∧ D'.slots[fC.slot]? = some (.int 0) ∧ Arr .byte s.heap.size V u ∧ V.vm = .none ∧ u.vm.findClass "[B" = some V.cls ∧ V.slots.size = len ∧ (∀ j, j < len → V.slots[j]? = some (.int (lo8 (cv A (o + j))))) ∧ (∀ (y : Addr) (c : Cell), y ≠ a → s.heap[y]? = some c → u.heap[y]? = some c) ∧ u.heap.size = s.heap.size + 1
theorem Got.mv {a : Addr} {D A : Cell} {fV fC : Field} {o len : Nat} : ∀ r (U U' V V' : State), U'.heap = U.heap → V.vm.Alike V'.vm → V'.heap = V.heap → Got a D fV fC A o len r U V → Got a D fV fC A o len r U' V' :=
  fun r U U' V V' h1 hal h2 ⟨e0, D', X, a1, a2, a3, a4, a5, a6, a7, a8, a9, a10, a11⟩ => ⟨e0, D', X, a1.mv hal h2, a2, by rw [h1]; exact a3, a4, by rw [h1]; exact a5.mv hal h2, a6, by rw [hal.findClass]; exact a7, a8, a9, by rw [h1, h2]; exact a10, by rw [h1, h2]; exact a11⟩
namespace New4
def yN : MethodName := ⟨"java/lang/String", "<init>", "([CIILjava/lang/Void;)V"⟩
abbrev yB : ByteArray := jdk_42_method_149_code
theorem d0 : decode yB 0 = .ok (.aload_n 0, 1) := by decide +kernel
theorem d1 : decode yB 1 = .ok (.invokespecial 1, 3) := by decide +kernel
theorem d4 : decode yB 4 = .ok (.iload_n 3, 1) := by decide +kernel
theorem d5 : decode yB 5 = .ok (.ifCond (.ne) 22, 3) := by decide +kernel
theorem d27 : decode yB 27 = .ok (.getstatic 38, 3) := by decide +kernel
theorem d30 : decode yB 30 = .ok (.ifCond (.eq) 28, 3) := by decide +kernel
theorem d33 : decode yB 33 = .ok (.aload_n 1, 1) := by decide +kernel
theorem d34 : decode yB 34 = .ok (.iload_n 2, 1) := by decide +kernel
theorem d35 : decode yB 35 = .ok (.iload_n 3, 1) := by decide +kernel
theorem d36 : decode yB 36 = .ok (.invokestatic 177, 3) := by decide +kernel
theorem d39 : decode yB 39 = .ok (.astore 5, 2) := by decide +kernel
theorem d41 : decode yB 41 = .ok (.aload_n 0, 1) := by decide +kernel
theorem d42 : decode yB 42 = .ok (.aload 5, 2) := by decide +kernel
theorem d44 : decode yB 44 = .ok (.iload_n 3, 1) := by decide +kernel
theorem d45 : decode yB 45 = .ok (.invokestatic 47, 3) := by decide +kernel
theorem d48 : decode yB 48 = .ok (.putfield 15, 3) := by decide +kernel
theorem d51 : decode yB 51 = .ok (.aload_n 0, 1) := by decide +kernel
theorem d52 : decode yB 52 = .ok (.aload 5, 2) := by decide +kernel
theorem d54 : decode yB 54 = .ok (.putfield 9, 3) := by decide +kernel
theorem d57 : decode yB 57 = .ok (.return_, 1) := by decide +kernel
def site : List Cond := [.fieldLink "java/lang/String" 38 "java/lang/String" "COMPACT_STRINGS" "Z", Cmp3.tab, CodL.tab, .laysFinal "java/lang/String" "java/lang/String" "value" "[B", .fieldLink "java/lang/String" 9 "java/lang/String" "value" "[B", .laysFinal "java/lang/String" "java/lang/String" "coder" "B", .fieldLink "java/lang/String" 15 "java/lang/String" "coder" "B"] ++ objW "java/lang/String" 1 ++ staticW "java/lang/String" 177 Cmp3.yN ++ staticW "java/lang/String" 47 CodL.yN
def tab : Cond := tabOf yN yB 6 none site
def P (a : Addr) (D : Cell) (fV fC : Field) (b : Addr) (A : Cell) (z : Int32) (o len : Nat) (args : Array Value) (s : State) : Prop := args = #[.ref a, .ref b, .int (Int32.ofNat o), .int (Int32.ofNat len), .null] ∧ Blank "java/lang/String" a D s ∧ Found "java/lang/String" "value" "[B" fV s ∧ Found "java/lang/String" "coder" "B" fC s ∧ Ch b A s ∧ StaticIs s "java/lang/String" "COMPACT_STRINGS" "Z" (.int z) ∧ ¬ z = 0 ∧ 0 < len ∧ o + len ≤ A.slots.size ∧ len ≤ 536870912 ∧ ∀ i, i < len → ¬ 255 < cv A (o + i)
def E (a : Addr) (D : Cell) (fV fC : Field) (A : Cell) (o len : Nat) (r : Option Value) (s u : State) : Prop := Got a D fV fC A o len r s u
/-- len > 0, no char of the range above 255: a Latin-1 String of their low bytes -/
theorem law (l : Launch) (a : Addr) (D : Cell) (fV fC : Field) (b : Addr) (A : Cell) (z : Int32) (o len : Nat) : Law l yN 5 4 2 35 yB 6 none site (P a D fV fC b A z o len) (E a D fV fC A o len) [⟨a, fC.slot⟩, ⟨a, fV.slot⟩] 1 len := by
  refine Law.of_walk (plainFor_of_name (by decide +kernel)) (by decide +kernel) (by decide +kernel) (by decide) (fun _ _ h => by rw [h.1]; rfl) (fun _ U U' hal hh h => ⟨h.1, h.2.1.mv hal hh, h.2.2.1.al hal, h.2.2.2.1.al hal, h.2.2.2.2.1.mv hal hh, h.2.2.2.2.2.1.there hal hh, h.2.2.2.2.2.2⟩) (fun r U U' V V' h1 hal h2 h => Got.mv r U U' V V' h1 hal h2 h) ?_
  intro p e s m args below meth c s₁ X0 hexec hbytes hml hret hlk hnm hown hh0 W hP
  obtain ⟨rfl, hB, f1, f2, hA, s1, hz, l0, l1, l2, hp⟩ := hP
  have a31 := hA.1.2.2.2
  have c1 : Steps p.tables e below (s₁.setTop (entryFrame m #[.ref a, .ref b, .int (Int32.ofNat o), .int (Int32.ofNat len), .null] 6)) (s₁.setTop (mkF m 0 #[.val (.ref a), .val (.ref b), .val (.int (Int32.ofNat o)), .val (.int (Int32.ofNat len)), .val .null, .unset] [])) := entry rfl
  have c2 : Steps p.tables e below (s₁.setTop (entryFrame m #[.ref a, .ref b, .int (Int32.ofNat o), .int (Int32.ofNat len), .null] 6)) (s₁.setTop (mkF m 1 #[.val (.ref a), .val (.ref b), .val (.int (Int32.ofNat o)), .val (.int (Int32.ofNat len)), .val .null, .unset] [.ref a])) := c1.trans (by
    refine XS.aloadN X0.here hexec rfl (hb hbytes d0) rfl rfl ?_
    exact Steps.refl _)
  obtain ⟨T3, X3, q3, st3⟩ := X0.oinit hexec hown (wks W (objW "java/lang/String" 1)) (g := (mkF m 1 #[.val (.ref a), .val (.ref b), .val (.int (Int32.ofNat o)), .val (.int (Int32.ofNat len)), .val .null, .unset] [.ref a])) rfl (by rw [hml]; rfl) (rest := []) rfl (hb hbytes d1) (W := 0) (by show 2 * 0 + 0 ≤ _; decide) (Nat.le_of_ble_eq_true rfl) (Nat.le_of_ble_eq_true rfl)
  have hh3 := q3.trans hh0
  have c4 : Steps p.tables e below (s₁.setTop (entryFrame m #[.ref a, .ref b, .int (Int32.ofNat o), .int (Int32.ofNat len), .null] 6)) (T3.setTop (mkF m 27 #[.val (.ref a), .val (.ref b), .val (.int (Int32.ofNat o)), .val (.int (Int32.ofNat len)), .val .null, .unset] [])) := (c2.trans (st3 _ (Steps.refl _))).trans (by
    refine XS.iloadN X3.here hexec rfl (hb hbytes d4) rfl ?_
    refine XS.ifYes X3.here hexec rfl (pc0 := 5) rfl (hb hbytes d5) rfl (i0_ne_t (nz32 (by omega) l0)) (by decide) rfl ?_
    exact Steps.refl _)
  obtain ⟨T5, X5, q5, st5⟩ := X3.sget hexec hown (wk W (.fieldLink "java/lang/String" 38 "java/lang/String" "COMPACT_STRINGS" "Z")) s1 (fun _ _ h => by rw [hh3]; exact h) (g := (mkF m 27 #[.val (.ref a), .val (.ref b), .val (.int (Int32.ofNat o)), .val (.int (Int32.ofNat len)), .val .null, .unset] [])) rfl (hb hbytes d27)
  have hh5 := q5.trans hh3
  have c6 : Steps p.tables e below (s₁.setTop (entryFrame m #[.ref a, .ref b, .int (Int32.ofNat o), .int (Int32.ofNat len), .null] 6)) (T5.setTop (mkF m 30 #[.val (.ref a), .val (.ref b), .val (.int (Int32.ofNat o)), .val (.int (Int32.ofNat len)), .val .null, .unset] [.int z])) := c4.trans (st5 _ (Steps.refl _))
  have c7 : Steps p.tables e below (s₁.setTop (entryFrame m #[.ref a, .ref b, .int (Int32.ofNat o), .int (Int32.ofNat len), .null] 6)) (T5.setTop (mkF m 36 #[.val (.ref a), .val (.ref b), .val (.int (Int32.ofNat o)), .val (.int (Int32.ofNat len)), .val .null, .unset] [.int (Int32.ofNat len), .int (Int32.ofNat o), .ref b])) := c6.trans (by
    refine XS.ifNo X5.here hexec rfl (hb hbytes d30) rfl (i0_eq_f hz) ?_
    refine XS.aloadN X5.here hexec rfl (hb hbytes d33) rfl rfl ?_
    refine XS.iloadN X5.here hexec rfl (hb hbytes d34) rfl ?_
    refine XS.iloadN X5.here hexec rfl (hb hbytes d35) rfl ?_
    exact Steps.refl _)
  obtain ⟨v8, T8, X8, E8, g8⟩ := X5.callS hexec (Cmp3.law l b A o len) hown (wks W (staticW "java/lang/String" 177 Cmp3.yN)) (wk W Cmp3.tab) (W := 0) (Nat.le_of_ble_eq_true rfl) (Nat.le_of_ble_eq_true rfl) (Nat.le_refl _) (by show 0 + len ≤ len; omega) (g := (mkF m 36 #[.val (.ref a), .val (.ref b), .val (.int (Int32.ofNat o)), .val (.int (Int32.ofNat len)), .val .null, .unset] [.int (Int32.ofNat len), .int (Int32.ofNat o), .ref b])) rfl (by rw [hml]; rfl) c7 (argsL := [.ref b, .int (Int32.ofNat o), .int (Int32.ofNat len)]) (rest := []) rfl rfl (by show 2 * 0 + 0 ≤ _; decide) (hb hbytes d36) (⟨rfl, hA.mv X5.warmed.alike hh5, l1, l2, hp⟩)
  obtain ⟨e8, z8⟩ := E8
  obtain ⟨rfl, N, n1, n2, n3, n4, n5, n6⟩ := NewArr.mv _ T5 s _ _ hh5.symm (Vm.Alike.refl _) rfl e8
  rw [hh5] at z8
  have hB1 := hB.keep X8.warmed.alike (n6 _ _ hB.1)
  have hne : s.heap.size ≠ a := (Nat.ne_of_lt (Array.getElem?_eq_some_iff.mp hB.1).1).symm
  have c9 : Steps p.tables e below (s₁.setTop (entryFrame m #[.ref a, .ref b, .int (Int32.ofNat o), .int (Int32.ofNat len), .null] 6)) (T8.setTop (mkF m 39 #[.val (.ref a), .val (.ref b), .val (.int (Int32.ofNat o)), .val (.int (Int32.ofNat len)), .val .null, .unset] [.ref s.heap.size])) := g8
  have c10 : Steps p.tables e below (s₁.setTop (entryFrame m #[.ref a, .ref b, .int (Int32.ofNat o), .int (Int32.ofNat len), .null] 6)) (T8.setTop (mkF m 45 #[.val (.ref a), .val (.ref b), .val (.int (Int32.ofNat o)), .val (.int (Int32.ofNat len)), .val .null, .val (.ref s.heap.size)] [.int (Int32.ofNat N.slots.size), .ref s.heap.size, .ref a])) := by
    have hc : Steps p.tables e below (s₁.setTop (entryFrame m #[.ref a, .ref b, .int (Int32.ofNat o), .int (Int32.ofNat len), .null] 6)) (T8.setTop (mkF m 45 #[.val (.ref a), .val (.ref b), .val (.int (Int32.ofNat o)), .val (.int (Int32.ofNat len)), .val .null, .val (.ref s.heap.size)] [.int (Int32.ofNat len), .ref s.heap.size, .ref a])) := c9.trans (by
      refine XS.astore X8.here hexec rfl (hb hbytes d39) rfl rfl rfl ?_
      refine XS.aloadN X8.here hexec rfl (hb hbytes d41) rfl rfl ?_
      refine XS.aload X8.here hexec rfl (hb hbytes d42) rfl rfl ?_
      refine XS.iloadN X8.here hexec rfl (hb hbytes d44) rfl ?_
      exact Steps.refl _)
    rw [n4]; exact hc
  obtain ⟨v11, T11, X11, E11, g11⟩ := X8.callS hexec (CodL.law l s.heap.size N) hown (wks W (staticW "java/lang/String" 47 CodL.yN)) (wk W CodL.tab) (W := 1) (Nat.le_of_ble_eq_true rfl) (Nat.le_of_ble_eq_true rfl) (Nat.le_refl _) (by show 0 + len + 0 ≤ len; omega) (g := (mkF m 45 #[.val (.ref a), .val (.ref b), .val (.int (Int32.ofNat o)), .val (.int (Int32.ofNat len)), .val .null, .val (.ref s.heap.size)] [.int (Int32.ofNat N.slots.size), .ref s.heap.size, .ref a])) rfl (by rw [hml]; rfl) c10 (argsL := [.ref s.heap.size, .int (Int32.ofNat N.slots.size)]) (rest := [.ref a]) rfl rfl (by show 2 * 0 + (1 + 0) ≤ _; decide) (hb hbytes d45) (⟨rfl, n1⟩)
  obtain ⟨rfl, q11⟩ := E11
  have hB11 := hB1.mv (X8.warmed.alike.symm.trans X11.warmed.alike) q11
  have c12 : Steps p.tables e below (s₁.setTop (entryFrame m #[.ref a, .ref b, .int (Int32.ofNat o), .int (Int32.ofNat len), .null] 6)) (T11.setTop (mkF m 48 #[.val (.ref a), .val (.ref b), .val (.int (Int32.ofNat o)), .val (.int (Int32.ofNat len)), .val .null, .val (.ref s.heap.size)] [.int 0, .ref a])) := g11
  obtain ⟨T13, X13, p13, bl13, sl13, st13⟩ := X11.finit hexec hown (wk W (.fieldLink "java/lang/String" 15 "java/lang/String" "coder" "B")) (Or.inr ⟨_, (wk W (.laysFinal "java/lang/String" "java/lang/String" "coder" "B"))⟩) (Or.inl ⟨rfl, hnm⟩) f2 (Or.inl rfl) hB11 (t := .byte) (by decide +kernel) rfl (g := (mkF m 48 #[.val (.ref a), .val (.ref b), .val (.int (Int32.ofNat o)), .val (.int (Int32.ofNat len)), .val .null, .val (.ref s.heap.size)] [.int 0, .ref a])) rfl (rest := []) rfl (hb hbytes d48)
  have c14 : Steps p.tables e below (s₁.setTop (entryFrame m #[.ref a, .ref b, .int (Int32.ofNat o), .int (Int32.ofNat len), .null] 6)) (T13.setTop (mkF m 54 #[.val (.ref a), .val (.ref b), .val (.int (Int32.ofNat o)), .val (.int (Int32.ofNat len)), .val .null, .val (.ref s.heap.size)] [.ref s.heap.size, .ref a])) := (c12.trans (st13 _ (Steps.refl _))).trans (by
    refine XS.aloadN X13.here hexec rfl (hb hbytes d51) rfl rfl ?_
    refine XS.aload X13.here hexec rfl (hb hbytes d52) rfl rfl ?_
    exact Steps.refl _)
  obtain ⟨T15, X15, p15, bl15, sl15, st15⟩ := X13.finit hexec hown (wk W (.fieldLink "java/lang/String" 9 "java/lang/String" "value" "[B")) (Or.inr ⟨_, (wk W (.laysFinal "java/lang/String" "java/lang/String" "value" "[B"))⟩) (Or.inl ⟨rfl, hnm⟩) f1 (Or.inl rfl) bl13 (t := (.array .byte)) (by decide +kernel) rfl (g := (mkF m 54 #[.val (.ref a), .val (.ref b), .val (.int (Int32.ofNat o)), .val (.int (Int32.ofNat len)), .val .null, .val (.ref s.heap.size)] [.ref s.heap.size, .ref a])) rfl (rest := []) rfl (hb hbytes d54)
  have c16 : Steps p.tables e below (s₁.setTop (entryFrame m #[.ref a, .ref b, .int (Int32.ofNat o), .int (Int32.ofNat len), .null] 6)) (T15.setTop (mkF m 57 #[.val (.ref a), .val (.ref b), .val (.int (Int32.ofNat o)), .val (.int (Int32.ofNat len)), .val .null, .val (.ref s.heap.size)] [])) := c14.trans (st15 _ (Steps.refl _))
  have ap := apart (Or.inr ⟨_, (wk W (.laysFinal "java/lang/String" "java/lang/String" "value" "[B"))⟩) (Or.inr ⟨_, (wk W (.laysFinal "java/lang/String" "java/lang/String" "coder" "B"))⟩) f1 f2 (t₁ := .array .byte) (t₂ := .byte) (by decide +kernel) (by decide +kernel) (by decide)
  have al := X8.warmed.alike.symm.trans X15.warmed.alike
  have n7 : T11.heap[s.heap.size]? = some N := by rw [q11]; exact n1.1
  exact ⟨T15, none, _, _, _, X15, by simp, rfl, by omega, (fun _ => rfl), ⟨rfl, _, N, bl15, ((Same.refl D _).set _ (by simp)).set _ (by simp), sl15, (Cell.slots_setSlot_ne _ ap).trans sl13, n1.keep al (p15.other hne (p13.other hne n7)), n2, by rw [al.findClass]; exact n3, n4, n5, fun y c h1 h2 => p15.other h1 (p13.other h1 (by rw [q11]; exact n6 y c h2)), by rw [p15.2.2, p13.2.2, q11]; exact z8⟩, fun fs hl => c16.trans (X15.returnOut hexec hret (hb hbytes d57) hl)⟩
end New4
namespace New1
def yN : MethodName := ⟨"java/lang/String", "<init>", "([C)V"⟩
abbrev yB : ByteArray := jdk_42_method_3_code
theorem d0 : decode yB 0 = .ok (.aload_n 0, 1) := by decide +kernel
theorem d1 : decode yB 1 = .ok (.aload_n 1, 1) := by decide +kernel
theorem d2 : decode yB 2 = .ok (.iconst 0, 1) := by decide +kernel
theorem d3 : decode yB 3 = .ok (.aload_n 1, 1) := by decide +kernel
theorem d4 : decode yB 4 = .ok (.arraylength, 1) := by decide +kernel
theorem d5 : decode yB 5 = .ok (.aconst_null, 1) := by decide +kernel
theorem d6 : decode yB 6 = .ok (.invokespecial 27, 3) := by decide +kernel
theorem d9 : decode yB 9 = .ok (.return_, 1) := by decide +kernel
def site : List Cond := [New4.tab] ++ initW "java/lang/String" 27 New4.yN
def tab : Cond := tabOf yN yB 2 none site
def P (a : Addr) (D : Cell) (fV fC : Field) (b : Addr) (A : Cell) (z : Int32) (args : Array Value) (s : State) : Prop := args = #[.ref a, .ref b] ∧ Blank "java/lang/String" a D s ∧ Found "java/lang/String" "value" "[B" fV s ∧ Found "java/lang/String" "coder" "B" fC s ∧ Ch b A s ∧ StaticIs s "java/lang/String" "COMPACT_STRINGS" "Z" (.int z) ∧ ¬ z = 0 ∧ 0 < A.slots.size ∧ A.slots.size ≤ 536870912 ∧ ∀ i, i < A.slots.size → ¬ 255 < cv A i
def E (a : Addr) (D : Cell) (fV fC : Field) (A : Cell) (r : Option Value) (s u : State) : Prop := Got a D fV fC A 0 A.slots.size r s u
/-- new String(chars), not empty, no char above 255: a Latin-1 String of their low bytes -/
theorem law (l : Launch) (a : Addr) (D : Cell) (fV fC : Field) (b : Addr) (A : Cell) (z : Int32) : Law l yN 2 1 3 52 yB 2 none site (P a D fV fC b A z) (E a D fV fC A) [⟨a, fC.slot⟩, ⟨a, fV.slot⟩] 1 A.slots.size := by
  refine Law.of_walk (plainFor_of_name (by decide +kernel)) (by decide +kernel) (by decide +kernel) (by decide) (fun _ _ h => by rw [h.1]; rfl) (fun _ U U' hal hh h => ⟨h.1, h.2.1.mv hal hh, h.2.2.1.al hal, h.2.2.2.1.al hal, h.2.2.2.2.1.mv hal hh, h.2.2.2.2.2.1.there hal hh, h.2.2.2.2.2.2⟩) (fun r U U' V V' h1 hal h2 h => Got.mv r U U' V V' h1 hal h2 h) ?_
  intro p e s m args below meth c s₁ X0 hexec hbytes hml hret hlk hnm hown hh0 W hP
  obtain ⟨rfl, hB, f1, f2, hA, s1, hz, l0, l2, hp⟩ := hP
  have c1 : Steps p.tables e below (s₁.setTop (entryFrame m #[.ref a, .ref b] 2)) (s₁.setTop (mkF m 0 #[.val (.ref a), .val (.ref b)] [])) := entry rfl
  have c2 : Steps p.tables e below (s₁.setTop (entryFrame m #[.ref a, .ref b] 2)) (s₁.setTop (mkF m 6 #[.val (.ref a), .val (.ref b)] [.null, .int (Int32.ofNat A.slots.size), .int 0, .ref b, .ref a])) := c1.trans (by
    refine XS.aloadN X0.here hexec rfl (hb hbytes d0) rfl rfl ?_
    refine XS.aloadN X0.here hexec rfl (hb hbytes d1) rfl rfl ?_
    refine iconstV X0.here hexec rfl 0 (hb hbytes d2) (by decide) ?_
    refine XS.aloadN X0.here hexec rfl (hb hbytes d3) rfl rfl ?_
    refine X0.alen hexec (hA.1.mv X0.warmed.alike hh0) rfl rfl (hb hbytes d4) ?_
    refine XS.aconstNull X0.here hexec rfl (hb hbytes d5) ?_
    exact Steps.refl _)
  obtain ⟨v3, T3, X3, E3, g3⟩ := X0.callN hexec (New4.law l a D fV fC b A z 0 A.slots.size) rfl hown (wks W (initW "java/lang/String" 27 New4.yN)) (W New4.tab (by simp only [site, List.mem_cons, List.mem_append, true_or, or_true])) (W := 0) (Nat.le_of_ble_eq_true rfl) (Nat.le_of_ble_eq_true rfl) (Nat.le_refl _) (by show 0 + A.slots.size ≤ A.slots.size; omega) (g := (mkF m 6 #[.val (.ref a), .val (.ref b)] [.null, .int (Int32.ofNat A.slots.size), .int (Int32.ofNat 0), .ref b, .ref a])) rfl (by rw [hml]; rfl) c2 (argsL := [.ref b, .int (Int32.ofNat 0), .int (Int32.ofNat A.slots.size), .null]) (rest := []) rfl rfl (by show 2 * 0 + 0 ≤ _; decide) (hb hbytes d6) (⟨rfl, hB.mv X0.warmed.alike hh0, f1.al X0.warmed.alike, f2.al X0.warmed.alike, hA.mv X0.warmed.alike hh0, s1.there X0.warmed.alike hh0, hz, l0, by omega, l2, fun i hi => by rw [Nat.zero_add]; exact hp i hi⟩)
  have e0 := Got.mv _ s₁ s _ _ hh0.symm (Vm.Alike.refl _) rfl E3
  obtain rfl := e0.1
  have c4 : Steps p.tables e below (s₁.setTop (entryFrame m #[.ref a, .ref b] 2)) (T3.setTop (mkF m 9 #[.val (.ref a), .val (.ref b)] [])) := g3
  exact ⟨T3, none, _, _, _, X3, by simp, rfl, by omega, (fun _ => rfl), e0, fun fs hl => c4.trans (X3.returnOut hexec hret (hb hbytes d9) hl)⟩
theorem pays {l : Launch} {R : Room} {p : Program} {e : Env} {below : List Frame} {s : State} {sargs : Array Value} {len W : Nat} (a : Addr) (D : Cell) (fV fC : Field) (b : Addr) (A : Cell) (z : Int32) (htab : tab.before sargs s = true) (hfr : 4 ≤ R.frames) (hlo : W + 65 ≤ R.locals) :
    Back l R p e below s sargs yN len W (fun A₁ a₁ => A₁.cells + 1 ≤ R.cells ∧ A₁.slots + A.slots.size ≤ R.slots ∧ P a D fV fC b A z a₁ A₁.U) (fun A₁ _ v₁ B₁ => E a D fV fC A v₁ A₁.U B₁.U ∧ B₁.locs = A₁.locs ++ [⟨a, fC.slot⟩, ⟨a, fV.slot⟩] ∧ B₁.cells = A₁.cells + 1 ∧ B₁.slots = A₁.slots + A.slots.size) :=
  (law l a D fV fC b A z).pays htab hfr (by omega)
end New1
/-- the byte, read back as charAt reads it, is the char -/
theorem lo8_mask {x : Int32} (h0 : ¬ x < 0) (h1 : ¬ 255 < x) : lo8 x &&& 255 = x := by
  have t : ∀ k : Fin 256, lo8 (Int32.ofNat k.val) &&& 255 = Int32.ofNat k.val := by decide +kernel
  rw [Int32.lt_iff_toInt_lt] at h0 h1
  have e0 : (0 : Int32).toInt = 0 := rfl
  have e1 : (255 : Int32).toInt = 255 := rfl
  obtain ⟨k, hk⟩ : ∃ k : Nat, x.toInt = k := ⟨x.toInt.toNat, by omega⟩
  have hx : x = Int32.ofNat k := Int32.toInt_inj.mp (by rw [hk, Int32.toInt_ofNat_small (by omega)])
  rw [hx]
  exact t ⟨k, by omega⟩
end StrChars
namespace StrChars.Road
open Jvm Sem ClassFile Op Lib Jvm.Stand Jvm.Free Jvm.Free.XT
open Jvm.Lib.Cold (StaticIs)
abbrev ST : String := "java/lang/String"
/-- every table word that New1's law asks, flat -/
abbrev words : List Jvm.Cond := [.code New1.yN New1.yB 2 none, .initialized ST, .methodLink ST 27 New4.yN, .instanceMethod New4.yN,
  .code New4.yN New4.yB 6 none, .fieldLink ST 38 ST "COMPACT_STRINGS" "Z", .laysFinal ST ST "value" "[B", .fieldLink ST 9 ST "value" "[B", .laysFinal ST ST "coder" "B", .fieldLink ST 15 ST "coder" "B",
  .methodLink ST 1 Lib.objectInit, .instanceMethod Lib.objectInit, .code Lib.objectInit ⟨#[0xb1]⟩ 1 none, .methodLink ST 177 Cmp3.yN, .static Cmp3.yN, .methodLink ST 47 CodL.yN, .static CodL.yN,
  .code Cmp3.yN Cmp3.yB 6 (some (.array .byte)), .initialized U16, .arrayClass .byte, .methodLink U16 115 Cmp5.yN, .static Cmp5.yN, .code Cmp5.yN Cmp5.yB 7 (some .int), .code CodL.yN CodL.yB 2 (some .byte)]
theorem tab_of {a : Array Value} {s : State} (h : ∀ w ∈ words, w.before a s = true) : New1.tab.before a s = true := by
  have h5 : Cmp5.tab.before a s = true := unparts (wk h (.code Cmp5.yN Cmp5.yB 7 (some .int))) (wks h (.initialized Cmp5.yN.cls :: Cmp5.site))
  have hc : CodL.tab.before a s = true := unparts (wk h (.code CodL.yN CodL.yB 2 (some .byte))) (wks h (.initialized CodL.yN.cls :: CodL.site))
  have q5 : ∀ w ∈ Cmp5.tab :: words, w.before a s = true := fun w hw => (List.mem_cons.mp hw).elim (fun e => e ▸ h5) (h w)
  have h3 : Cmp3.tab.before a s = true := unparts (wk q5 (.code Cmp3.yN Cmp3.yB 6 (some (.array .byte)))) (wks q5 (.initialized Cmp3.yN.cls :: Cmp3.site))
  have q3 : ∀ w ∈ Cmp3.tab :: CodL.tab :: words, w.before a s = true := fun w hw => (List.mem_cons.mp hw).elim (fun e => e ▸ h3) fun hw => (List.mem_cons.mp hw).elim (fun e => e ▸ hc) (h w)
  have h4 : New4.tab.before a s = true := unparts (wk q3 (.code New4.yN New4.yB 6 none)) (wks q3 (.initialized New4.yN.cls :: New4.site))
  have q4 : ∀ w ∈ New4.tab :: words, w.before a s = true := fun w hw => (List.mem_cons.mp hw).elim (fun e => e ▸ h4) (h w)
  exact unparts (wk q4 (.code New1.yN New1.yB 2 none)) (wks q4 (.initialized New1.yN.cls :: New1.site))
/-- the words ride from the start Z to the walk's own state -/
theorem moved {Z s : State} {a0 args : Array Value} (hZ : Z.Warmed39 s.vm) (hw : ∀ d ∈ words, d.before a0 Z = true) : ∀ d ∈ words, d.before args s = true := fun d hd => by
  have q := hw d hd
  have t : ∀ d ∈ words, d = .arrayClass .byte ∨ (d.onTables && d.keepsFace) = true := by decide +kernel
  rcases t d hd with rfl | t
  · exact RoadKit.mvA hZ q
  · exact RoadKit.mv hZ q t
/-- WHAT COMES BACK, over the tables of the start Z: h the heap at the call, h' behind it -/
def Q (Z : State) (x : Addr) (A : Cell) (h : Heap) (v : Option Value) (h' : Heap) (L : List Loc) : Prop := v = none ∧ (∀ y ∈ L, y.base = x) ∧ RoadKit.Keep h h' [x] ∧ h'.size = h.size + 1 ∧ RoadKit.Exa Z h' x ST ∧ RoadKit.Fld Z h' x ST "value" "[B" (.ref h.size) ∧ RoadKit.Fld Z h' x ST "coder" "B" (.int 0) ∧
  (∃ V : Cell, RoadKit.Arr Z h' h.size V .byte ∧ V.vm = .none ∧ Z.vm.findClass "[B" = some V.cls ∧ V.slots.size = A.slots.size ∧ ∀ j, j < A.slots.size → V.slots[j]? = some (.int (lo8 (cv A j)))) ∧
  ∀ (O n d : String) (w : Value), RoadKit.Fld Z h x O n d w → RoadKit.slotOf Z O n d ≠ RoadKit.slotOf Z ST "value" "[B" → RoadKit.slotOf Z O n d ≠ RoadKit.slotOf Z ST "coder" "B" → RoadKit.Fld Z h' x O n d w
/-- **new String(chars) AT A CALL, IN THE ROAD'S FORM**: for specialBack behind newO: x the fresh String, b the char[] with the cell A -/
theorem back {p : Program} {l : Launch} {e : Env} {R : Room} {s : State} {args : Array Value} {below : List Frame} {len W : Nat} {Z : State} {a0 : Array Value} {h : Heap} (hZ : Z.Warmed39 s.vm) (hw : ∀ d ∈ words, d.before a0 Z = true) {kI : Nat} (wi : (Jvm.Cond.instantiable ST kI).before a0 Z = true)
    {x b : Addr} {A : Cell} {z : Int32} {v0 c0 : Value} (E : RoadKit.Exa Z h x ST) (V : RoadKit.Fld Z h x ST "value" "[B" v0) (C : RoadKit.Fld Z h x ST "coder" "B" c0) (K : RoadKit.Arr Z h b A .char) (hty : Typed .char A) (S : RoadKit.Sta Z h ST "COMPACT_STRINGS" "Z" (.int z)) (hz : ¬ z = 0)
    (l0 : 0 < A.slots.size) (l2 : A.slots.size ≤ 536870912) (hp : ∀ i, i < A.slots.size → ¬ 255 < cv A i) (hfr : 4 ≤ R.frames) (hlo : W + 65 ≤ R.locals) :
    Back l R p e below s args New1.yN len W (fun P a => a = #[.ref x, .ref b] ∧ P.U.heap = h ∧ P.cells + 1 ≤ R.cells ∧ P.slots + A.slots.size ≤ R.slots)
      (fun P _ v B => ∃ L, Q Z x A h v B.U.heap L ∧ B.locs = P.locs ++ L ∧ B.cells = P.cells + 1 ∧ B.slots = P.slots + A.slots.size) := by
  intro m meth c P g ig mk a X hg hsize hdg hW hn hp'
  obtain ⟨rfl, rfl, r1, r2⟩ := hp'
  have al : Z.vm.Alike P.U.vm := hZ.alike.trans X.warmed.alike
  obtain ⟨D, cfV, kV, iV, fV, hD, gV, stV, knV, obV, asV, slV⟩ := id V
  obtain ⟨D', cfC, kC, iC, fC, hD', gC, stC, -, -, asC, slC⟩ := id C
  cases hD.symm.trans hD'
  obtain ⟨D2, kD, e1, e2, e3, e4, e5⟩ := id E
  cases hD.symm.trans e1
  obtain ⟨c2, k2, i1, i2, i3, -⟩ := Cond.instantiable_spec wi
  cases e2.symm.trans i1
  cases e3.symm.trans i2
  obtain ⟨kU, u1, u2⟩ := al.2.2 _ _ e3
  have hB : Blank ST x D P.U := ⟨hD, ⟨knV, fun q hq => by rw [hq] at obV; cases obV⟩, by rw [al.findClass]; exact e2, kU, u1, by rw [u2]; exact i3, by rw [u2]; exact e5 i3⟩
  have F1 : Found ST "value" "[B" fV P.U := ⟨SBG.found_only al ⟨cfV, kV, iV, gV⟩, stV⟩
  have F2 : Found ST "coder" "B" fC P.U := ⟨SBG.found_only al ⟨cfC, kC, iC, gC⟩, stC⟩
  have hA : Ch b A P.U := ⟨⟨K.1, State.isArrayOf_alike al K.2.1, K.2.2, by omega⟩, hty⟩
  have hS : StaticIs P.U ST "COMPACT_STRINGS" "Z" (.int z) := by
    obtain ⟨cfS, iS, kS, fS, st, cS, t1, t2, t3, t4, t5, t6, t7⟩ := S
    exact StaticIs.there (s := { Z with heap := P.U.heap }) ⟨cfS, iS, kS, fS, st, cS, t1, t2, t3, t4, t5, (fun q => by rw [q] at t6; cases t6), t7⟩ al rfl
  obtain ⟨v, B, X', ⟨⟨hv, E', V', q1, q2, q3, q4, q5, q6, q7, q8, q9, q10, q11⟩, hl, hc, hs⟩, st⟩ := New1.pays x D fV fC b A z (tab_of (moved hZ hw)) hfr hlo m meth c P g ig mk _ X hg hsize hdg hW hn ⟨r1, r2, rfl, hB, F1, F2, hA, hS, hz, l0, l2, hp⟩
  have al' : Z.vm.Alike B.U.vm := hZ.alike.trans X'.warmed.alike
  have hsz : E'.slots.size = D.slots.size := by
    obtain ⟨-, -, -, kB, w1, w2, w3⟩ := q1
    obtain ⟨kB', y1, y2⟩ := al'.2.2 _ _ e3
    rw [q2.2.1] at w1
    cases w1.symm.trans y1
    rw [w3, e5 i3, y2]
  refine ⟨v, B, X', ⟨_, ⟨hv, ?_, ⟨by omega, fun y cy hy hn' => q10 y cy (by simpa using hn') hy, fun y cy hy => ?_⟩, q11, ⟨E', _, q1.1, by rw [q2.2.1]; exact e2, by rw [q2.2.1]; exact e3, by rw [q2.1]; exact obV, fun _ => by rw [hsz]; exact e5 i3⟩,
    ⟨E', cfV, kV, iV, fV, q1.1, gV, stV, by rw [q2.1]; exact knV, by rw [q2.1]; exact obV, by rw [q2.2.1]; exact asV, q3⟩, ⟨E', cfC, kC, iC, fC, q1.1, gC, stC, by rw [q2.1]; exact knV, by rw [q2.1]; exact obV, by rw [q2.2.1]; exact asC, q4⟩,
    ⟨V', ⟨q5.1, State.isArrayOf_alike al'.symm q5.2.1, q5.2.2.1⟩, q6, by rw [← al'.findClass]; exact q7, q8, fun j hj => by have := q9 j hj; rwa [Nat.zero_add] at this⟩, fun O n d w F n1 n2 => ?_⟩, hl, hc, hs⟩, st⟩
  · intro y hy
    simp only [List.mem_cons, List.not_mem_nil, or_false] at hy
    rcases hy with rfl | rfl <;> rfl
  · by_cases q : y = x
    · subst q
      cases hD.symm.trans hy
      exact ⟨E', q1.1, q2.2.1, q2.1, hsz⟩
    · exact ⟨cy, q10 y cy q hy, rfl, rfl, rfl⟩
  · obtain ⟨D3, cf, k, i, f, g1, g2, g3, g4, g5, g6, g7⟩ := F
    cases hD.symm.trans g1
    simp only [RoadKit.slotOf, g2, gV, gC, Option.map_some, Option.getD_some] at n1 n2
    exact ⟨E', cf, k, i, f, q1.1, g2, g3, by rw [q2.1]; exact g4, by rw [q2.1]; exact g5, by rw [q2.2.1]; exact g6, by rw [q2.2.2 f.slot (by simp [n1, n2])]; exact g7⟩
end StrChars.Road
namespace StrChars.Road
open Jvm Sem ClassFile Op Lib Jvm.Stand Jvm.Free Jvm.Free.XT
/-- WHAT COMES BACK, the byte[] as a list of values -/
def QA (Z : State) (x : Addr) (zn : Int32) (cs : List Int32) (h : Heap) (v : Option Value) (h' : Heap) (L : List Loc) : Prop := v = none ∧ (∀ y ∈ L, y.base = x) ∧ RoadKit.Keep h h' [x] ∧ h'.size = h.size + 1 ∧ RoadKit.Exa Z h' x ST ∧ RoadKit.Fld Z h' x ST "value" "[B" (.ref h.size) ∧ RoadKit.Fld Z h' x ST "coder" "B" (.int 0) ∧
  (∃ kb, Z.vm.findClass "[B" = some kb ∧ RoadKit.Arv Z h' h.size kb .byte zn (cs.map fun c => .int (lo8 c)) (.int 0)) ∧
  ∀ (O n d : String) (w : Value), RoadKit.Fld Z h x O n d w → RoadKit.slotOf Z O n d ≠ RoadKit.slotOf Z ST "value" "[B" → RoadKit.slotOf Z O n d ≠ RoadKit.slotOf Z ST "coder" "B" → RoadKit.Fld Z h' x O n d w
/-- **new String(chars) AT A CALL, THE ARRAYS AS LISTS**: the char[] at b holds cs, not empty, no char above 255 -/
theorem backArv {p : Program} {l : Launch} {e : Env} {R : Room} {s : State} {args : Array Value} {below : List Frame} {len W : Nat} {Z : State} {a0 : Array Value} {h : Heap} (hZ : Z.Warmed39 s.vm) (hw : ∀ d ∈ words, d.before a0 Z = true) {kI : Nat} (wi : (Jvm.Cond.instantiable ST kI).before a0 Z = true)
    {x b : Addr} {k : ClassId} {zn z : Int32} {cs : List Int32} {dv v0 c0 : Value} (E : RoadKit.Exa Z h x ST) (V : RoadKit.Fld Z h x ST "value" "[B" v0) (C : RoadKit.Fld Z h x ST "coder" "B" c0) (K : RoadKit.Arv Z h b k .char zn (cs.map Value.int) dv) (S : RoadKit.Sta Z h ST "COMPACT_STRINGS" "Z" (.int z)) (hz : ¬ z = 0)
    (hlen : zn.toNatClampNeg = cs.length) (h0 : 0 < cs.length) (hbig : cs.length ≤ 536870912) (hall : ∀ c ∈ cs, ¬ 255 < c) (hfr : 4 ≤ R.frames) (hlo : W + 65 ≤ R.locals) :
    Back l R p e below s args New1.yN len W (fun P a => a = #[.ref x, .ref b] ∧ P.U.heap = h ∧ P.cells + 1 ≤ R.cells ∧ P.slots + cs.length ≤ R.slots)
      (fun P _ v B => ∃ L, QA Z x zn cs h v B.U.heap L ∧ B.locs = P.locs ++ L ∧ B.cells = P.cells + 1 ∧ B.slots = P.slots + cs.length) := by
  obtain ⟨A, K1, K2, K3, K4, K5, K6⟩ := K
  have e : A.slots.size = cs.length := K3.trans hlen
  have hat : ∀ (i : Nat) (hi : i < cs.length), A.slots[i]? = some (.int cs[i]) := fun i hi => by rw [K5 i (by omega)]; simp [List.getD_eq_getElem?_getD, hi]
  have hcv : ∀ (i : Nat) (hi : i < cs.length), cv A i = cs[i] := fun i hi => by unfold cv; rw [hat i hi]
  have hty : Typed .char A := fun i v hv => by
    have hi : i < A.slots.size := (Array.getElem?_eq_some_iff.mp hv).1
    have q := K5 i hi
    rw [hv] at q
    rw [Option.some.inj q]
    exact K6 i hi
  refine Back.mono (back hZ hw wi E V C K1 hty S hz (by omega) (by omega) (fun i hi => by rw [hcv i (by omega)]; exact hall _ (List.getElem_mem _)) hfr hlo) (fun P a hp => ⟨hp.1, hp.2.1, hp.2.2.1, by rw [e]; exact hp.2.2.2⟩) (fun P a v B hp hq => ?_)
  obtain ⟨L, ⟨q1, q2, q3, q4, q5, q6, q7, ⟨V', v1, v2, v3, v4, v5⟩, q9⟩, hl, hc, hs⟩ := hq
  refine ⟨L, ⟨q1, q2, q3, q4, q5, q6, q7, ⟨V'.cls, v3, V', v1, rfl, by rw [v4, e, hlen], K4, fun i hi => ?_, fun i hi => ?_⟩, q9⟩, hl, hc, by rw [hs, e]⟩
  · have hi' : i < cs.length := by omega
    rw [v5 i (by omega), hcv i hi']; simp [List.getD_eq_getElem?_getD, hi']
  · have hi' : i < cs.length := by omega
    simp only [List.getD_eq_getElem?_getD, List.getElem?_map, List.getElem?_eq_getElem hi', Option.map_some, Option.getD_some]
    exact fits_lo8 _
end StrChars.Road
namespace StrChars.Road
open Jvm Sem ClassFile Op Lib Jvm.Stand Jvm.Free Jvm.Free.XT
/-- WHAT COMES BACK, in the writer's own shape -/
def QV (Z : State) (x : Addr) (N : Int32) (bs : List Int32) (h : Heap) (n0 : Nat) (v : Option Value) (h' : Heap) (L : List Loc) : Prop := v = none ∧ RoadKit.Fr n0 L ∧ RoadKit.Keep h h' [x] ∧ RoadKit.Exa Z h' x ST ∧ RoadKit.Fld Z h' x ST "coder" "B" (.int 0) ∧
  ∃ (t : Addr) (kb : ClassId), n0 ≤ t ∧ h.size ≤ t ∧ ¬ t = x ∧ RoadKit.Fld Z h' x ST "value" "[B" (.ref t) ∧ RoadKit.Arv Z h' t kb .byte N (bs.map Value.int) (.int 0)
/-- **new String(chars) AT A CALL, FOR THE WRITER**: a char[] of n known ints, each 0 to 255 -/
theorem backV {p : Program} {l : Launch} {e : Env} {R : Room} {s : State} {args : Array Value} {below : List Frame} {len W : Nat} {Z : State} {a0 : Array Value} {h : Heap} (hZ : Z.Warmed39 s.vm) (hw : ∀ d ∈ words, d.before a0 Z = true) {kI : Nat} (wi : (Jvm.Cond.instantiable ST kI).before a0 Z = true)
    {x b : Addr} {kC : ClassId} {cs bs : List Int32} {d v0 c0 : Value} {z N : Int32} {n n0 : Nat} (hx0 : n0 ≤ x) (hh0 : n0 ≤ h.size) (E : RoadKit.Exa Z h x ST) (V : RoadKit.Fld Z h x ST "value" "[B" v0) (C : RoadKit.Fld Z h x ST "coder" "B" c0) (K : RoadKit.Arv Z h b kC .char N (cs.map Value.int) d) (S : RoadKit.Sta Z h ST "COMPACT_STRINGS" "Z" (.int z)) (hz : ¬ z = 0)
    (hn : cs.length = n) (hN : N = Int32.ofNat n) (l0 : 0 < n) (l2 : n ≤ 4000) (hp : ∀ c ∈ cs, ¬ c < 0 ∧ ¬ (255 : Int32) < c) (hb : bs = cs.map (fun c => c.toInt8.toInt32)) (hfr : 4 ≤ R.frames) (hlo : W + 65 ≤ R.locals) :
    Back l R p e below s args (⟨"java/lang/String", "<init>", "([C)V"⟩ : MethodName) len W (fun P a => a = #[.ref x, .ref b] ∧ P.U.heap = h ∧ P.cells + 1 ≤ R.cells ∧ P.slots + n ≤ R.slots)
      (fun P _ v B => ∃ L, QV Z x N bs h n0 v B.U.heap L ∧ B.locs = P.locs ++ L ∧ B.cells = P.cells + 1 ∧ B.slots = P.slots + n) := by
  subst hn hN hb
  refine Back.mono (backArv hZ hw wi E V C K S hz (n32 (by omega)) l0 (by omega) (fun c hc => (hp c hc).2) hfr hlo) (fun P a hp => hp) (fun P a v B hp hq => ?_)
  obtain ⟨L, ⟨q1, q2, q3, q4, q5, q6, q7, ⟨kb, v1, v2⟩, q9⟩, hl, hc, hs⟩ := hq
  exact ⟨L, ⟨q1, fun y hy => by rw [q2 y hy]; exact hx0, q3, q5, q7, h.size, kb, hh0, Nat.le_refl _, Nat.ne_of_gt E.lt, q6, by rw [List.map_map]; exact v2⟩, hl, hc, hs⟩
end StrChars.Road
namespace StrChars
open Jvm Sem ClassFile Op Lib Jvm.Stand Jvm.Free.XT Jvm.Free.ALB Jvm.Free.JM Jvm.Free
open Jvm.Lib.Cold (StaticIs)
def hi8 (x : Int32) : Int32 := lo8 (x >>> ((8 : Int32) &&& 31))
/-- what StringUTF16.getChar makes of two bytes -/
def pairCh (u v : Int32) : Int32 := (((u &&& 255) <<< ((0 : Int32) &&& 31)) ||| ((v &&& 255) <<< ((8 : Int32) &&& 31))).toUInt32.toUInt16.toUInt32.toInt32
theorem shr0 (c : Int32) : c >>> ((0 : Int32) &&& 31) = c := by
  have e : ((0 : Int32) &&& 31) = 0 := by decide
  rw [e]
  apply Int32.toBitVec_inj.mp
  rw [Int32.toBitVec_shiftRight]
  have e1 : ((0 : Int32).toBitVec.smod 32) = 0#32 := by decide
  rw [e1, BitVec.sshiftRight_eq']
  exact BitVec.sshiftRight_zero
theorem lo8_and (x : Int32) : (lo8 x &&& 255).toBitVec.toNat = x.toBitVec.toNat % 256 := by
  have h : (lo8 x).toBitVec = (x.toBitVec.signExtend 8).signExtend 32 := by rw [lo8, Int8.toBitVec_toInt32, Int32.toBitVec_toInt8]
  rw [Int32.toBitVec_and, BitVec.toNat_and, h]
  have e : ((x.toBitVec.signExtend 8).signExtend 32).toNat % 256 = x.toBitVec.toNat % 256 := by
    rw [BitVec.toNat_signExtend]
    have hlt := x.toBitVec.isLt
    simp only [BitVec.toNat_setWidth, BitVec.toNat_signExtend]
    split <;> split <;> omega
  rw [← e]
  exact Nat.and_two_pow_sub_one_eq_mod _ 8
theorem pair_says {c : Int32} (h0 : ¬ c < 0) (h1 : ¬ 65535 < c) : pairCh (lo8 c) (hi8 c) = c := by
  rw [Int32.lt_iff_toInt_lt] at h0 h1
  have e0 : (0 : Int32).toInt = 0 := rfl
  have e1 : (65535 : Int32).toInt = 65535 := rfl
  have hc : c.toInt = c.toBitVec.toNat := by
    have := c.toBitVec.isLt
    have e : c.toInt = c.toBitVec.toInt := rfl
    rw [e] at h0 h1
    rw [e]
    rw [BitVec.toInt_eq_toNat_cond] at h0 h1 ⊢
    split at h0 <;> split <;> omega
  have hn : c.toBitVec.toNat < 65536 := by omega
  have a1 := lo8_and c
  have a2 : (hi8 c &&& 255).toBitVec.toNat = c.toBitVec.toNat / 256 := by
    rw [hi8, lo8_and]
    have e : ((8 : Int32) &&& 31) = 8 := by decide
    rw [e, Int32.toBitVec_shiftRight]
    have e2 : ((8 : Int32).toBitVec.smod 32) = 8#32 := by decide
    rw [e2, BitVec.sshiftRight_eq', BitVec.toNat_sshiftRight_of_msb_false (by rw [BitVec.msb_eq_false_iff_two_mul_lt]; omega)]
    show c.toBitVec.toNat >>> 8 % 256 = _
    rw [Nat.shiftRight_eq_div_pow]
    omega
  unfold pairCh
  apply Int32.toBitVec_inj.mp
  apply BitVec.eq_of_toNat_eq
  have f0 : ((0 : Int32) &&& 31) = 0 := by decide
  have f8 : ((8 : Int32) &&& 31) = 8 := by decide
  rw [f0, f8]
  have g : (((lo8 c &&& 255) <<< (0 : Int32)) ||| ((hi8 c &&& 255) <<< (8 : Int32))).toBitVec.toNat = c.toBitVec.toNat := by
    rw [Int32.toBitVec_or, Int32.toBitVec_shiftLeft, Int32.toBitVec_shiftLeft]
    have s0 : ((0 : Int32).toBitVec.smod 32) = 0#32 := by decide
    have s8 : ((8 : Int32).toBitVec.smod 32) = 8#32 := by decide
    rw [s0, s8, BitVec.toNat_or]
    simp only [BitVec.shiftLeft_eq', BitVec.toNat_shiftLeft, a1, a2]
    show (c.toBitVec.toNat % 256) <<< 0 % 2 ^ 32 ||| (c.toBitVec.toNat / 256) <<< 8 % 2 ^ 32 = _
    rw [Nat.shiftLeft_zero, Nat.mod_eq_of_lt (show c.toBitVec.toNat % 256 < 2 ^ 32 by omega), Nat.mod_eq_of_lt (show (c.toBitVec.toNat / 256) <<< 8 < 2 ^ 32 by rw [Nat.shiftLeft_eq]; omega), Nat.or_comm, ← Nat.shiftLeft_add_eq_or_of_lt (by omega), Nat.shiftLeft_eq]
    omega
  show BitVec.toNat (((((lo8 c &&& 255) <<< (0 : Int32)) ||| ((hi8 c &&& 255) <<< (8 : Int32))).toBitVec.setWidth 16).setWidth 32) = _
  rw [BitVec.toNat_setWidth, BitVec.toNat_setWidth, g]
  omega
end StrChars
namespace StrChars
open Jvm Sem ClassFile Op Lib Jvm.Stand Jvm.Free.XT Jvm.Free.ALB Jvm.Free.JM Jvm.Free
open Jvm.Lib.Cold (StaticIs)
theorem shr1 {n : Nat} (h : 2 * n < 2 ^ 31) : Int32.ofNat (2 * n) >>> ((1 : Int32) &&& 31) = Int32.ofNat n := by
  have e : ((1 : Int32) &&& 31) = 1 := by decide
  rw [e]
  apply Int32.toBitVec_inj.mp
  rw [Int32.toBitVec_shiftRight]
  have e1 : ((1 : Int32).toBitVec.smod 32) = 1#32 := by decide
  have hm : (BitVec.ofNat 32 (2 * n)).toNat = 2 * n := by rw [BitVec.toNat_ofNat, Nat.mod_eq_of_lt (by omega)]
  rw [e1, BitVec.sshiftRight_eq']
  apply BitVec.eq_of_toNat_eq
  show ((BitVec.ofNat 32 (2 * n)).sshiftRight 1).toNat = (BitVec.ofNat 32 n).toNat
  rw [BitVec.toNat_sshiftRight_of_msb_false (by rw [BitVec.msb_eq_false_iff_two_mul_lt, hm]; omega), hm, BitVec.toNat_ofNat, Nat.shiftRight_eq_div_pow]
  omega
/-- the array's cell V codes the n chars f 0 .. f (n - 1) by the coder cd, as the JDK does: coder 1 just where some char is above 255 -/
def Cod (cd : Int32) (n : Nat) (f : Nat → Int32) (V : Cell) : Prop := (cd = 0 ∧ V.slots.size = n ∧ ∀ j, j < n → V.slots[j]? = some (.int (lo8 (f j))) ∧ ¬ 255 < f j) ∨ (cd = 1 ∧ V.slots.size = 2 * n ∧ (∀ j, j < n → V.slots[2 * j]? = some (.int (lo8 (f j))) ∧ V.slots[2 * j + 1]? = some (.int (hi8 (f j)))) ∧ ∃ j, j < n ∧ 255 < f j)
theorem Cod.cd {cd : Int32} {n : Nat} {f : Nat → Int32} {V : Cell} (h : Cod cd n f V) : cd = 0 ∨ cd = 1 := h.imp (fun q => q.1) fun q => q.1
theorem Cod.len {cd : Int32} {n : Nat} {f : Nat → Int32} {V : Cell} (h : Cod cd n f V) (hs : V.slots.size < 2 ^ 31) : Int32.ofNat V.slots.size >>> (cd &&& 31) = Int32.ofNat n := by
  rcases h with ⟨rfl, h, -⟩ | ⟨rfl, h, -⟩
  · rw [shr0, h]
  · rw [h, shr1 (by omega)]
/-- **x is a String of the n chars f 0 .. f (n - 1)**, Latin-1 or UTF-16; its array at t has the cell V -/
def Txt (x t : Addr) (V : Cell) (cd : Int32) (n : Nat) (f : Nat → Int32) (U : State) : Prop := Exact "java/lang/String" x U ∧ Has x "java/lang/String" "value" "[B" (.ref t) U ∧ Has x "java/lang/String" "coder" "B" (.int cd) U ∧ XT.Arr .byte t V U ∧ Cod cd n f V ∧ ∀ j, j < n → ¬ f j < 0 ∧ ¬ 65535 < f j
theorem Txt.mv {x t : Addr} {V : Cell} {cd : Int32} {n : Nat} {f : Nat → Int32} {U U' : State} (h : Txt x t V cd n f U) (hal : U.vm.Alike U'.vm) (hh : U'.heap = U.heap) : Txt x t V cd n f U' := ⟨h.1.mv hal hh, h.2.1.mv hal hh, h.2.2.1.mv hal hh, h.2.2.2.1.mv hal hh, h.2.2.2.2⟩
namespace Cdr
def yN : MethodName := ⟨"java/lang/String", "coder", "()B"⟩
abbrev yB : ByteArray := jdk_42_method_152_code
theorem d0 : decode yB 0 = .ok (.getstatic 38, 3) := by decide +kernel
theorem d3 : decode yB 3 = .ok (.ifCond (.eq) 10, 3) := by decide +kernel
theorem d6 : decode yB 6 = .ok (.aload_n 0, 1) := by decide +kernel
theorem d7 : decode yB 7 = .ok (.getfield 15, 3) := by decide +kernel
theorem d10 : decode yB 10 = .ok (.goto 4, 3) := by decide +kernel
theorem d14 : decode yB 14 = .ok (.ireturn, 1) := by decide +kernel
def site : List Cond := [.fieldLink "java/lang/String" 38 "java/lang/String" "COMPACT_STRINGS" "Z", .fieldLink "java/lang/String" 15 "java/lang/String" "coder" "B"]
def tab : Cond := tabOf yN yB 1 (some .byte) site
def P (x : Addr) (cd z : Int32) (args : Array Value) (s : State) : Prop := args = #[.ref x] ∧ Has x "java/lang/String" "coder" "B" (.int cd) s ∧ (cd = 0 ∨ cd = 1) ∧ StaticIs s "java/lang/String" "COMPACT_STRINGS" "Z" (.int z) ∧ ¬ z = 0
def E (cd : Int32) (r : Option Value) (s u : State) : Prop := XT.PureE (some (.int cd)) r s u
theorem law (l : Launch) (x : Addr) (cd z : Int32) : Law l yN 1 0 0 0 yB 1 (some .byte) site (P x cd z) (E cd) [] 0 0 := by
  refine Law.of_walk (plainFor_of_name (by decide +kernel)) (by decide +kernel) (by decide +kernel) (by decide) (fun _ _ h => by rw [h.1]; rfl) (fun _ U U' hal hh h => ⟨h.1, h.2.1.mv hal hh, h.2.2.1, h.2.2.2.1.there hal hh, h.2.2.2.2⟩) (fun r U U' V V' h1 hal h2 h => XT.PureE.mv r U U' V V' h1 hal h2 h) ?_
  intro p e s m args below meth c s₁ X0 hexec hbytes hml hret hlk hnm hown hh0 W hP
  obtain ⟨rfl, hx, hc, s1, hz⟩ := hP
  have c1 : Steps p.tables e below (s₁.setTop (entryFrame m #[.ref x] 1)) (s₁.setTop (mkF m 0 #[.val (.ref x)] [])) := entry rfl
  obtain ⟨T2, X2, q2, st2⟩ := X0.sget hexec hown (wk W (.fieldLink "java/lang/String" 38 "java/lang/String" "COMPACT_STRINGS" "Z")) s1 (fun _ _ h => by rw [hh0]; exact h) (g := (mkF m 0 #[.val (.ref x)] [])) rfl (hb hbytes d0)
  have hh2 := q2.trans hh0
  have c3 : Steps p.tables e below (s₁.setTop (entryFrame m #[.ref x] 1)) (T2.setTop (mkF m 7 #[.val (.ref x)] [.ref x])) := (c1.trans (st2 _ (Steps.refl _))).trans (by
    refine XS.ifNo X2.here hexec rfl (hb hbytes d3) rfl (i0_eq_f hz) ?_
    refine XS.aloadN X2.here hexec rfl (hb hbytes d6) rfl rfl ?_
    exact Steps.refl _)
  obtain ⟨T4, X4, q4, st4⟩ := X2.hget hexec hown (wk W (.fieldLink "java/lang/String" 15 "java/lang/String" "coder" "B")) (hx.mv X2.warmed.alike hh2) (g := (mkF m 7 #[.val (.ref x)] [.ref x])) rfl (rest := []) rfl (hb hbytes d7)
  have c5 : Steps p.tables e below (s₁.setTop (entryFrame m #[.ref x] 1)) (T4.setTop (mkF m 14 #[.val (.ref x)] [.int cd])) := (c3.trans (st4 _ (Steps.refl _))).trans (by
    refine XS.goto X4.here hexec rfl (pc0 := 10) rfl (hb hbytes d10) (by decide) rfl ?_
    exact Steps.refl _)
  exact ⟨T4, some (.int cd), _, _, _, X4, rfl, rfl, rfl, (fun h => by cases h), ⟨rfl, q4.trans hh2⟩, fun fs hl => c5.trans (X4.ireturnOut hexec hret (by rcases hc with rfl | rfl <;> rfl) (Or.inr (Or.inr (Or.inl rfl))) (hb hbytes d14) hl)⟩
end Cdr
namespace Len
def yN : MethodName := ⟨"java/lang/String", "length", "()I"⟩
abbrev yB : ByteArray := jdk_42_method_54_code
theorem d0 : decode yB 0 = .ok (.aload_n 0, 1) := by decide +kernel
theorem d1 : decode yB 1 = .ok (.getfield 9, 3) := by decide +kernel
theorem d4 : decode yB 4 = .ok (.arraylength, 1) := by decide +kernel
theorem d5 : decode yB 5 = .ok (.aload_n 0, 1) := by decide +kernel
theorem d6 : decode yB 6 = .ok (.invokevirtual 335, 3) := by decide +kernel
theorem d9 : decode yB 9 = .ok (.ishr, 1) := by decide +kernel
theorem d10 : decode yB 10 = .ok (.ireturn, 1) := by decide +kernel
def site : List Cond := [.fieldLink "java/lang/String" 9 "java/lang/String" "value" "[B", Cdr.tab] ++ virtW "java/lang/String" 335 "java/lang/String" Cdr.yN Cdr.yN
def tab : Cond := tabOf yN yB 1 (some .int) site
def P (x t : Addr) (V : Cell) (cd : Int32) (n : Nat) (f : Nat → Int32) (z : Int32) (args : Array Value) (s : State) : Prop := args = #[.ref x] ∧ Txt x t V cd n f s ∧ StaticIs s "java/lang/String" "COMPACT_STRINGS" "Z" (.int z) ∧ ¬ z = 0
def E (n : Nat) (r : Option Value) (s u : State) : Prop := XT.PureE (some (.int (Int32.ofNat n))) r s u
/-- length() of a String of n chars, in either coding -/
theorem law (l : Launch) (x t : Addr) (V : Cell) (cd : Int32) (n : Nat) (f : Nat → Int32) (z : Int32) : Law l yN 1 0 1 13 yB 1 (some .int) site (P x t V cd n f z) (E n) [] 0 0 := by
  refine Law.of_walk (plainFor_of_name (by decide +kernel)) (by decide +kernel) (by decide +kernel) (by decide) (fun _ _ h => by rw [h.1]; rfl) (fun _ U U' hal hh h => ⟨h.1, h.2.1.mv hal hh, h.2.2.1.there hal hh, h.2.2.2⟩) (fun r U U' V V' h1 hal h2 h => XT.PureE.mv r U U' V V' h1 hal h2 h) ?_
  intro p e s m args below meth c s₁ X0 hexec hbytes hml hret hlk hnm hown hh0 W hP
  obtain ⟨rfl, hx, s1, hz⟩ := hP
  have v31 := hx.2.2.2.1.2.2.2
  have c1 : Steps p.tables e below (s₁.setTop (entryFrame m #[.ref x] 1)) (s₁.setTop (mkF m 1 #[.val (.ref x)] [.ref x])) := Steps.trans (entry rfl) (by
    show Steps p.tables e below (s₁.setTop (mkF m 0 #[.val (.ref x)] [])) _
    refine XS.aloadN X0.here hexec rfl (hb hbytes d0) rfl rfl ?_
    exact Steps.refl _)
  obtain ⟨T2, X2, q2, st2⟩ := X0.hget hexec hown (wk W (.fieldLink "java/lang/String" 9 "java/lang/String" "value" "[B")) (hx.mv X0.warmed.alike hh0).2.1 (g := (mkF m 1 #[.val (.ref x)] [.ref x])) rfl (rest := []) rfl (hb hbytes d1)
  have hh2 := q2.trans hh0
  have hx2 := hx.mv X2.warmed.alike hh2
  have c3 : Steps p.tables e below (s₁.setTop (entryFrame m #[.ref x] 1)) (T2.setTop (mkF m 6 #[.val (.ref x)] [.ref x, .int (Int32.ofNat V.slots.size)])) := (c1.trans (st2 _ (Steps.refl _))).trans (by
    refine X2.alen hexec hx2.2.2.2.1 rfl rfl (hb hbytes d4) ?_
    refine XS.aloadN X2.here hexec rfl (hb hbytes d5) rfl rfl ?_
    exact Steps.refl _)
  obtain ⟨v4, T4, X4, E4, g4⟩ := X2.callV hexec (Cdr.law l x cd z) hown (wks W (virtW "java/lang/String" 335 "java/lang/String" Cdr.yN Cdr.yN)) rfl (by decide) (wk W Cdr.tab) (W := 1) (Nat.le_of_ble_eq_true rfl) (Nat.le_of_ble_eq_true rfl) (Nat.le_refl _) (Nat.le_refl _) (hx2.1.fc X2.warmed.alike) hx2.1.is (g := (mkF m 6 #[.val (.ref x)] [.ref x, .int (Int32.ofNat V.slots.size)])) rfl (by rw [hml]; rfl) c3 (argsL := []) (rest := [.int (Int32.ofNat V.slots.size)]) rfl rfl (by show 2 * 0 + (1 + 0) ≤ _; decide) (hb hbytes d6) (⟨rfl, hx2.2.2.1, hx.2.2.2.2.1.cd, s1.there X2.warmed.alike hh2, hz⟩)
  obtain ⟨rfl, q4⟩ := E4
  have c5 : Steps p.tables e below (s₁.setTop (entryFrame m #[.ref x] 1)) (T4.setTop (mkF m 10 #[.val (.ref x)] [.int (Int32.ofNat V.slots.size >>> (cd &&& 31))])) := Steps.trans g4 (by
    refine ishr X4.here hexec rfl (hb hbytes d9) rfl ?_
    exact Steps.refl _)
  rw [hx.2.2.2.2.1.len v31] at c5
  exact ⟨T4, some (.int (Int32.ofNat n)), _, _, _, X4, rfl, rfl, rfl, (fun h => by cases h), ⟨rfl, q4.trans hh2⟩, fun fs hl => c5.trans (X4.ireturnOut hexec hret rfl (Or.inl rfl) (hb hbytes d10) hl)⟩
theorem pays {l : Launch} {R : Room} {p : Program} {e : Env} {below : List Frame} {s : State} {sargs : Array Value} {len W : Nat} (x t : Addr) (V : Cell) (cd : Int32) (n : Nat) (f : Nat → Int32) (z : Int32) (htab : tab.before sargs s = true) (hfr : 2 ≤ R.frames) (hlo : W + 25 ≤ R.locals) :
    Back l R p e below s sargs yN len W (fun A₁ a₁ => A₁.cells + 0 ≤ R.cells ∧ A₁.slots + 0 ≤ R.slots ∧ P x t V cd n f z a₁ A₁.U) (fun A₁ _ v₁ B₁ => E n v₁ A₁.U B₁.U ∧ B₁.locs = A₁.locs ++ [] ∧ B₁.cells = A₁.cells + 0 ∧ B₁.slots = A₁.slots + 0) :=
  (law l x t V cd n f z).pays htab hfr (by omega)
end Len
end StrChars
namespace StrChars.Road
open Jvm Sem ClassFile Op Lib Jvm.Stand Jvm.Free Jvm.Free.XT
open Jvm.Lib.Cold (StaticIs)
theorem consq {a : Array Value} {s : State} {c : Jvm.Cond} {L : List Jvm.Cond} (h0 : c.before a s = true) (h : ∀ w ∈ L, w.before a s = true) : ∀ w ∈ c :: L, w.before a s = true := fun w hw => (List.mem_cons.mp hw).elim (fun e => e ▸ h0) (h w)
/-- the words of String.length(), either coding -/
abbrev wordsLen : List Jvm.Cond := [.code Len.yN Len.yB 1 (some .int), .initialized ST, .fieldLink ST 9 ST "value" "[B", .fieldLink ST 38 ST "COMPACT_STRINGS" "Z", .fieldLink ST 15 ST "coder" "B", .code Cdr.yN Cdr.yB 1 (some .byte), .methodLink ST 335 Cdr.yN, .declares Cdr.yN, .selects ST Cdr.yN Cdr.yN, .instanceMethod Cdr.yN]
theorem tabLen_of {a : Array Value} {s : State} (h : ∀ w ∈ wordsLen, w.before a s = true) : Len.tab.before a s = true := by
  have hc : Cdr.tab.before a s = true := unparts (wk h (.code Cdr.yN Cdr.yB 1 (some .byte))) (wks h (.initialized Cdr.yN.cls :: Cdr.site))
  have q := consq hc h
  exact unparts (wk q (.code Len.yN Len.yB 1 (some .int))) (wks q (.initialized Len.yN.cls :: Len.site))
theorem movedLen {Z s : State} {a0 args : Array Value} (hZ : Z.Warmed39 s.vm) (hw : ∀ d ∈ wordsLen, d.before a0 Z = true) : ∀ d ∈ wordsLen, d.before args s = true := fun d hd => by
  have q := hw d hd
  have t : ∀ d ∈ wordsLen, d = .arrayClass .byte ∨ (d.onTables && d.keepsFace) = true := by decide +kernel
  rcases t d hd with rfl | t
  · exact RoadKit.mvA hZ q
  · exact RoadKit.mv hZ q t
/-- the bytes of the chars cs, low before high -/
def wideBytes : List Int32 → List Value
  | [] => []
  | c :: cs => .int (lo8 c) :: .int (hi8 c) :: wideBytes cs
theorem wide_lo (d : Value) : ∀ (cs : List Int32) (j : Nat), j < cs.length → (wideBytes cs).getD (2 * j) d = .int (lo8 (cs.getD j 0))
  | [], j, h => absurd h (Nat.not_lt_zero j)
  | c :: cs, 0, _ => rfl
  | c :: cs, j + 1, h => by
    have q := wide_lo d cs j (by simpa using h)
    rw [show 2 * (j + 1) = 2 * j + 1 + 1 from by omega]
    simpa [wideBytes] using q
theorem wide_hi (d : Value) : ∀ (cs : List Int32) (j : Nat), j < cs.length → (wideBytes cs).getD (2 * j + 1) d = .int (hi8 (cs.getD j 0))
  | [], j, h => absurd h (Nat.not_lt_zero j)
  | c :: cs, 0, _ => rfl
  | c :: cs, j + 1, h => by
    have q := wide_hi d cs j (by simpa using h)
    rw [show 2 * (j + 1) + 1 = 2 * j + 1 + 1 + 1 from by omega]
    simpa [wideBytes] using q
theorem low_at (d : Value) (cs : List Int32) (j : Nat) (h : j < cs.length) : (cs.map fun c => Value.int (lo8 c)).getD j d = .int (lo8 (cs.getD j 0)) := by
  simp [List.getD_eq_getElem?_getD, h]
/-- an array of N2 bytes vs codes the chars cs by the coder cd -/
def CodA (cs : List Int32) (cd N2 : Int32) (vs : List Value) : Prop := (cd = 0 ∧ N2 = Int32.ofNat cs.length ∧ vs = (cs.map fun c => Value.int (lo8 c)) ∧ ∀ c ∈ cs, ¬ 255 < c) ∨ (cd = 1 ∧ N2 = Int32.ofNat (2 * cs.length) ∧ vs = wideBytes cs ∧ ∃ c ∈ cs, 255 < c)
theorem CodA.cod {cs : List Int32} {cd N2 : Int32} {vs : List Value} {V : Cell} (h : CodA cs cd N2 vs) (hn : 2 * cs.length < 2 ^ 31) (hs : V.slots.size = N2.toNatClampNeg) (hv : RoadKit.Has V vs (.int 0)) : Cod cd cs.length (fun j => cs.getD j 0) V := by
  rcases h with ⟨rfl, rfl, rfl, h⟩ | ⟨rfl, rfl, rfl, c, hc, hw⟩
  · rw [n32 (by omega)] at hs
    exact Or.inl ⟨rfl, hs, fun j hj => ⟨by rw [hv j (by omega), low_at _ _ _ hj], by
      have e : cs.getD j 0 = cs[j] := by simp [List.getD_eq_getElem?_getD, hj]
      show ¬ 255 < cs.getD j 0
      rw [e]; exact h _ (List.getElem_mem _)⟩⟩
  · rw [n32 (by omega)] at hs
    obtain ⟨j, hj, rfl⟩ := List.getElem_of_mem hc
    exact Or.inr ⟨rfl, hs, fun j hj => ⟨by rw [hv _ (by omega), wide_lo _ _ _ hj], by rw [hv _ (by omega), wide_hi _ _ _ hj]⟩, j, hj, by
      have e : cs.getD j 0 = cs[j] := by simp [List.getD_eq_getElem?_getD, hj]
      show 255 < cs.getD j 0
      rw [e]; exact hw⟩
/-- an object of exactly java/lang/String, its two fields found: as the laws ask it -/
theorem strObj {Z U : State} {a0 : Array Value} {kI : Nat} (wi : (Jvm.Cond.instantiable ST kI).before a0 Z = true) (al : Z.vm.Alike U.vm) {x : Addr} {v0 c0 : Value} (E : RoadKit.Exa Z U.heap x ST) (V : RoadKit.Fld Z U.heap x ST "value" "[B" v0) (C : RoadKit.Fld Z U.heap x ST "coder" "B" c0) :
    ∃ (D : Cell) (fV fC : Field), Blank ST x D U ∧ Found ST "value" "[B" fV U ∧ Found ST "coder" "B" fC U ∧ D.slots[fV.slot]? = some v0 ∧ D.slots[fC.slot]? = some c0 ∧ RoadKit.slotOf Z ST "value" "[B" = fV.slot ∧ RoadKit.slotOf Z ST "coder" "B" = fC.slot := by
  obtain ⟨D, cfV, kV, iV, fV, hD, gV, stV, knV, obV, asV, slV⟩ := V
  obtain ⟨D', cfC, kC, iC, fC, hD', gC, stC, -, -, asC, slC⟩ := C
  cases hD.symm.trans hD'
  obtain ⟨D2, kD, e1, e2, e3, e4, e5⟩ := E
  cases hD.symm.trans e1
  obtain ⟨c2, k2, i1, i2, i3, -⟩ := Cond.instantiable_spec wi
  cases e2.symm.trans i1
  cases e3.symm.trans i2
  obtain ⟨kU, u1, u2⟩ := al.2.2 _ _ e3
  exact ⟨D, fV, fC, ⟨hD, ⟨knV, fun q hq => by rw [hq] at obV; cases obV⟩, by rw [al.findClass]; exact e2, kU, u1, by rw [u2]; exact i3, by rw [u2]; exact e5 i3⟩, ⟨SBG.found_only al ⟨cfV, kV, iV, gV⟩, stV⟩, ⟨SBG.found_only al ⟨cfC, kC, iC, gC⟩, stC⟩, slV, slC, by simp [RoadKit.slotOf, gV], by simp [RoadKit.slotOf, gC]⟩
theorem sta_is {Z U : State} (al : Z.vm.Alike U.vm) {C n d : String} {v : Value} (S : RoadKit.Sta Z U.heap C n d v) : StaticIs U C n d v := by
  obtain ⟨cfS, iS, kS, fS, st, cS, t1, t2, t3, t4, t5, t6, t7⟩ := S
  exact StaticIs.there (s := { Z with heap := U.heap }) ⟨cfS, iS, kS, fS, st, cS, t1, t2, t3, t4, t5, (fun q => by rw [q] at t6; cases t6), t7⟩ al rfl
/-- **length() OF SUCH A STRING** -/
theorem lenW {p : Program} {l : Launch} {e : Env} {R : Room} {s : State} {args : Array Value} {below : List Frame} {len W : Nat} {Z : State} {a0 : Array Value} {h : Heap} (hZ : Z.Warmed39 s.vm) (hw : ∀ d ∈ wordsLen, d.before a0 Z = true) {kI : Nat} (wi : (Jvm.Cond.instantiable ST kI).before a0 Z = true)
    {x t : Addr} {kb : ClassId} {cs : List Int32} {cd N2 z : Int32} {vs : List Value} (E : RoadKit.Exa Z h x ST) (V : RoadKit.Fld Z h x ST "value" "[B" (.ref t)) (C : RoadKit.Fld Z h x ST "coder" "B" (.int cd)) (K : RoadKit.Arv Z h t kb .byte N2 vs (.int 0)) (hc : CodA cs cd N2 vs) (hb : ∀ c ∈ cs, ¬ c < 0 ∧ ¬ (65535 : Int32) < c)
    (S : RoadKit.Sta Z h ST "COMPACT_STRINGS" "Z" (.int z)) (hz : ¬ z = 0) (l2 : cs.length ≤ 4000) (hfr : 2 ≤ R.frames) (hlo : W + 25 ≤ R.locals) :
    Back l R p e below s args (⟨"java/lang/String", "length", "()I"⟩ : MethodName) len W (fun P a => a = #[.ref x] ∧ P.U.heap = h ∧ P.cells + 0 ≤ R.cells ∧ P.slots + 0 ≤ R.slots)
      (fun P _ v B => ∃ L, (v = some (.int (Int32.ofNat cs.length)) ∧ L = [] ∧ B.U.heap = h) ∧ B.locs = P.locs ++ L ∧ B.cells = P.cells + 0 ∧ B.slots = P.slots + 0) := by
  obtain ⟨A, K1, K2, K3, K4, K5, K6⟩ := K
  have hcod := hc.cod (by omega) K3 K5
  intro m meth c P g ig mk a X hg hsize hdg hW hn hp'
  obtain ⟨rfl, rfl, r1, r2⟩ := hp'
  have al : Z.vm.Alike P.U.vm := hZ.alike.trans X.warmed.alike
  obtain ⟨D, fV, fC, hB, F1, F2, g1, g2, -, -⟩ := strObj wi al E V C
  have hx : Txt x t A cd cs.length (fun j => cs.getD j 0) P.U := ⟨⟨_, hB.2.2.1, D, hB.1, rfl, by cases q : D.vm <;> first | rfl | exact absurd q (hB.2.1.2 _)⟩, Has.of hB F1 g1, Has.of hB F2 g2, ⟨K1.1, State.isArrayOf_alike al K1.2.1, K1.2.2, by rcases hcod with ⟨-, q, -⟩ | ⟨-, q, -⟩ <;> omega⟩, hcod, fun j hj => by
    have e : cs.getD j 0 = cs[j] := by simp [List.getD_eq_getElem?_getD, hj]
    show ¬ cs.getD j 0 < 0 ∧ ¬ 65535 < cs.getD j 0
    rw [e]; exact hb _ (List.getElem_mem _)⟩
  obtain ⟨v, B, X', ⟨⟨hv, hh⟩, hl, hk, hs⟩, st⟩ := Len.pays x t A cd cs.length (fun j => cs.getD j 0) z (tabLen_of (movedLen hZ hw)) hfr hlo m meth c P g ig mk _ X hg hsize hdg hW hn ⟨r1, r2, rfl, hx, sta_is al S, hz⟩
  exact ⟨v, B, X', ⟨[], ⟨hv, rfl, hh⟩, hl, hk, hs⟩, st⟩
end StrChars.Road
namespace StrChars
open Jvm Sem ClassFile Op Lib Jvm.Stand Jvm.Free.XT Jvm.Free.ALB Jvm.Free.JM Jvm.Free
open Jvm.Lib.Cold (StaticIs)
/-- what place i of a byte[]'s cell holds -/
def yv (A : Cell) (i : Nat) : Int32 := match A.slots[i]? with | some (.int x) => x | _ => 0
theorem yv_get {a : Addr} {A : Cell} {U : State} (h : XT.Arr .byte a A U) (ht : Typed .byte A) {i : Nat} (hi : i < A.slots.size) : A.slots[i]? = some (.int (yv A i)) := by
  have e := Array.getElem?_eq_getElem hi
  have f := ht i _ e
  unfold yv; rw [e]
  generalize A.slots[i] = v at f
  cases v <;> simp [fits] at f ⊢
/-- the two arrays are equal, place for place -/
def EqC (A B : Cell) : Prop := A.slots.size = B.slots.size ∧ ∀ i, i < A.slots.size → yv A i = yv B i
/-- a boolean that says whether p -/
def Says01 (q : Prop) (r : Option Value) (s u : State) : Prop := ∃ v : Int32, r = some (.int v) ∧ u.heap = s.heap ∧ ((v = 1 ∧ q) ∨ (v = 0 ∧ ¬ q))
theorem Says01.mv {q : Prop} : ∀ r (U U' V V' : State), U'.heap = U.heap → V.vm.Alike V'.vm → V'.heap = V.heap → Says01 q r U V → Says01 q r U' V' :=
  fun r U U' V V' h1 _ h2 ⟨v, a, b, c⟩ => ⟨v, a, by rw [h1, h2]; exact b, c⟩
namespace LEq
def yN : MethodName := ⟨"java/lang/StringLatin1", "equals", "([B[B)Z"⟩
abbrev yB : ByteArray := jdk_43_method_13_code
theorem d0 : decode yB 0 = .ok (.aload_n 0, 1) := by decide +kernel
theorem d1 : decode yB 1 = .ok (.arraylength, 1) := by decide +kernel
theorem d2 : decode yB 2 = .ok (.aload_n 1, 1) := by decide +kernel
theorem d3 : decode yB 3 = .ok (.arraylength, 1) := by decide +kernel
theorem d4 : decode yB 4 = .ok (.if_icmp (.ne) 30, 3) := by decide +kernel
theorem d7 : decode yB 7 = .ok (.iconst 0, 1) := by decide +kernel
theorem d8 : decode yB 8 = .ok (.istore_n 2, 1) := by decide +kernel
theorem d9 : decode yB 9 = .ok (.iload_n 2, 1) := by decide +kernel
theorem d10 : decode yB 10 = .ok (.aload_n 0, 1) := by decide +kernel
theorem d11 : decode yB 11 = .ok (.arraylength, 1) := by decide +kernel
theorem d12 : decode yB 12 = .ok (.if_icmp (.ge) 20, 3) := by decide +kernel
theorem d15 : decode yB 15 = .ok (.aload_n 0, 1) := by decide +kernel
theorem d16 : decode yB 16 = .ok (.iload_n 2, 1) := by decide +kernel
theorem d17 : decode yB 17 = .ok (.baload, 1) := by decide +kernel
theorem d18 : decode yB 18 = .ok (.aload_n 1, 1) := by decide +kernel
theorem d19 : decode yB 19 = .ok (.iload_n 2, 1) := by decide +kernel
theorem d20 : decode yB 20 = .ok (.baload, 1) := by decide +kernel
theorem d21 : decode yB 21 = .ok (.if_icmp (.eq) 5, 3) := by decide +kernel
theorem d24 : decode yB 24 = .ok (.iconst 0, 1) := by decide +kernel
theorem d25 : decode yB 25 = .ok (.ireturn, 1) := by decide +kernel
theorem d26 : decode yB 26 = .ok (.iinc 2 1, 3) := by decide +kernel
theorem d29 : decode yB 29 = .ok (.goto (-20), 3) := by decide +kernel
theorem d32 : decode yB 32 = .ok (.iconst 1, 1) := by decide +kernel
theorem d33 : decode yB 33 = .ok (.ireturn, 1) := by decide +kernel
theorem d34 : decode yB 34 = .ok (.iconst 0, 1) := by decide +kernel
theorem d35 : decode yB 35 = .ok (.ireturn, 1) := by decide +kernel
def site : List Cond := []
def tab : Cond := tabOf yN yB 3 (some .boolean) site
def P (a : Addr) (A : Cell) (b : Addr) (B : Cell) (args : Array Value) (s : State) : Prop := args = #[.ref a, .ref b] ∧ XT.Arr .byte a A s ∧ Typed .byte A ∧ XT.Arr .byte b B s ∧ Typed .byte B
/-- whether two byte[] are equal, place for place -/
theorem law (l : Launch) (a : Addr) (A : Cell) (b : Addr) (B : Cell) : Law l yN 2 2 0 0 yB 3 (some .boolean) site (P a A b B) (Says01 (EqC A B)) [] 0 0 := by
  refine Law.of_walk (plainFor_of_name (by decide +kernel)) (by decide +kernel) (by decide +kernel) (by decide) (fun _ _ h => by rw [h.1]; rfl) (fun _ U U' hal hh h => ⟨h.1, h.2.1.mv hal hh, h.2.2.1, h.2.2.2.1.mv hal hh, h.2.2.2.2⟩) (fun r U U' V V' h1 hal h2 h => Says01.mv r U U' V V' h1 hal h2 h) ?_
  intro p e s m args below meth c s₁ X0 hexec hbytes hml hret hlk hnm hown hh0 W hP
  obtain ⟨rfl, hA, tA, hB, tB⟩ := hP
  have a31 := hA.2.2.2
  have b31 := hB.2.2.2
  have hA0 := hA.mv X0.warmed.alike hh0
  have hB0 := hB.mv X0.warmed.alike hh0
  have c1 : Steps p.tables e below (s₁.setTop (entryFrame m #[.ref a, .ref b] 3)) (s₁.setTop (mkF m 0 #[.val (.ref a), .val (.ref b), .unset] [])) := entry rfl
  have c2 : Steps p.tables e below (s₁.setTop (entryFrame m #[.ref a, .ref b] 3)) (s₁.setTop (mkF m 4 #[.val (.ref a), .val (.ref b), .unset] [.int (Int32.ofNat B.slots.size), .int (Int32.ofNat A.slots.size)])) := c1.trans (by
    refine XS.aloadN X0.here hexec rfl (hb hbytes d0) rfl rfl ?_
    refine X0.alen hexec hA0 rfl rfl (hb hbytes d1) ?_
    refine XS.aloadN X0.here hexec rfl (hb hbytes d2) rfl rfl ?_
    refine X0.alen hexec hB0 rfl rfl (hb hbytes d3) ?_
    exact Steps.refl _)
  by_cases hs : A.slots.size = B.slots.size
  · have c3 : Steps p.tables e below (s₁.setTop (entryFrame m #[.ref a, .ref b] 3)) (s₁.setTop (mkF m 9 #[.val (.ref a), .val (.ref b), .val (.int 0)] [])) := c2.trans (by
      refine XS.icmpNo X0.here hexec rfl (hb hbytes d4) rfl (ii_ne_f (by rw [hs])) ?_
      refine iconstV X0.here hexec rfl 0 (hb hbytes d7) (by decide) ?_
      refine XS.istoreN X0.here hexec rfl (hb hbytes d8) rfl rfl ?_
      exact Steps.refl _)
    have loop : ∀ (r i : Nat), i + r = A.slots.size → (∀ j, j < i → yv A j = yv B j) → Steps p.tables e below (s₁.setTop (entryFrame m #[.ref a, .ref b] 3)) (s₁.setTop (mkF m 9 #[.val (.ref a), .val (.ref b), .val (.int (Int32.ofNat i))] [])) → ∃ (pc : Nat) (Ls : Array Slot) (v : Int32), (pc = 25 ∨ pc = 33) ∧ ((v = 1 ∧ EqC A B) ∨ (v = 0 ∧ ¬ EqC A B)) ∧ Steps p.tables e below (s₁.setTop (entryFrame m #[.ref a, .ref b] 3)) (s₁.setTop (mkF m pc Ls [.int v])) := by
      intro r
      induction r with
      | zero =>
        intro i hi he cl
        exact ⟨33, _, 1, Or.inr rfl, Or.inl ⟨rfl, hs, fun j hj => he j (by omega)⟩, cl.trans (by
          refine XS.iloadN X0.here hexec rfl (hb hbytes d9) rfl ?_
          refine XS.aloadN X0.here hexec rfl (hb hbytes d10) rfl rfl ?_
          refine X0.alen hexec hA0 rfl rfl (hb hbytes d11) ?_
          refine XS.icmpYes X0.here hexec rfl (pc0 := 12) rfl (hb hbytes d12) rfl (ii_ge_t (nlt32 (by omega) (by omega))) (by decide) rfl ?_
          refine iconstV X0.here hexec rfl 1 (hb hbytes d32) (by decide) ?_
          exact Steps.refl _)⟩
      | succ r ih =>
        intro i hi he cl
        have c4 : Steps p.tables e below (s₁.setTop (entryFrame m #[.ref a, .ref b] 3)) (s₁.setTop (mkF m 21 #[.val (.ref a), .val (.ref b), .val (.int (Int32.ofNat i))] [.int (yv B i), .int (yv A i)])) := cl.trans (by
          refine XS.iloadN X0.here hexec rfl (hb hbytes d9) rfl ?_
          refine XS.aloadN X0.here hexec rfl (hb hbytes d10) rfl rfl ?_
          refine X0.alen hexec hA0 rfl rfl (hb hbytes d11) ?_
          refine XS.icmpNo X0.here hexec rfl (hb hbytes d12) rfl (ii_ge_f (lt32 (by omega) (by omega))) ?_
          refine XS.aloadN X0.here hexec rfl (hb hbytes d15) rfl rfl ?_
          refine XS.iloadN X0.here hexec rfl (hb hbytes d16) rfl ?_
          refine X0.aget hexec hA0 rfl (yv_get hA tA (i := i) (by omega)) rfl rfl (hb hbytes d17) ?_
          refine XS.aloadN X0.here hexec rfl (hb hbytes d18) rfl rfl ?_
          refine XS.iloadN X0.here hexec rfl (hb hbytes d19) rfl ?_
          refine X0.aget hexec hB0 rfl (yv_get hB tB (i := i) (by omega)) rfl rfl (hb hbytes d20) ?_
          exact Steps.refl _)
        by_cases hv : yv A i = yv B i
        · have c5 : Steps p.tables e below (s₁.setTop (entryFrame m #[.ref a, .ref b] 3)) (s₁.setTop (mkF m 9 #[.val (.ref a), .val (.ref b), .val (.int (Int32.ofNat i + 1))] [])) := c4.trans (by
            refine XS.icmpYes X0.here hexec rfl (pc0 := 21) rfl (hb hbytes d21) rfl (ii_eq_t hv) (by decide) rfl ?_
            refine iincV X0.here hexec rfl 1 (hb hbytes d26) (by decide) rfl rfl ?_
            refine XS.goto X0.here hexec rfl (pc0 := 29) rfl (hb hbytes d29) (by decide) rfl ?_
            exact Steps.refl _)
          rw [succ32] at c5
          exact ih (i + 1) (by omega) (fun j hj => by
            by_cases e : j = i
            · rw [e]; exact hv
            · exact he j (by omega)) c5
        · exact ⟨25, _, 0, Or.inl rfl, Or.inr ⟨rfl, fun q => hv (q.2 i (by omega))⟩, c4.trans (by
            refine XS.icmpNo X0.here hexec rfl (hb hbytes d21) rfl (ii_eq_f hv) ?_
            refine iconstV X0.here hexec rfl 0 (hb hbytes d24) (by decide) ?_
            exact Steps.refl _)⟩
    obtain ⟨pc, Ls, v, hpc, hv, cz⟩ := loop A.slots.size 0 (by omega) (fun j hj => absurd hj (Nat.not_lt_zero j)) c3
    have nv : narrow .boolean (.int v) = .int v := by rcases hv with ⟨rfl, -⟩ | ⟨rfl, -⟩ <;> rfl
    rcases hpc with rfl | rfl
    · exact ⟨s₁, some (.int v), _, _, _, X0, rfl, rfl, rfl, (fun h => by cases h), ⟨v, rfl, hh0, hv⟩, fun fs hl => cz.trans (X0.ireturnOut hexec hret nv (Or.inr (Or.inl rfl)) (hb hbytes d25) hl)⟩
    · exact ⟨s₁, some (.int v), _, _, _, X0, rfl, rfl, rfl, (fun h => by cases h), ⟨v, rfl, hh0, hv⟩, fun fs hl => cz.trans (X0.ireturnOut hexec hret nv (Or.inr (Or.inl rfl)) (hb hbytes d33) hl)⟩
  · have c3 : Steps p.tables e below (s₁.setTop (entryFrame m #[.ref a, .ref b] 3)) (s₁.setTop (mkF m 35 #[.val (.ref a), .val (.ref b), .unset] [.int 0])) := c2.trans (by
      refine XS.icmpYes X0.here hexec rfl (pc0 := 4) rfl (hb hbytes d4) rfl (ii_ne_t (ne32 a31 b31 hs)) (by decide) rfl ?_
      refine iconstV X0.here hexec rfl 0 (hb hbytes d34) (by decide) ?_
      exact Steps.refl _)
    exact ⟨s₁, some (.int 0), _, _, _, X0, rfl, rfl, rfl, (fun h => by cases h), ⟨0, rfl, hh0, Or.inr ⟨rfl, fun q => hs q.1⟩⟩, fun fs hl => c3.trans (X0.ireturnOut hexec hret rfl (Or.inr (Or.inl rfl)) (hb hbytes d35) hl)⟩
end LEq
theorem Cod.ty {cd : Int32} {n : Nat} {f : Nat → Int32} {V : Cell} (h : Cod cd n f V) : Typed .byte V := fun i v hv => by
  have hi : i < V.slots.size := (Array.getElem?_eq_some_iff.mp hv).1
  rcases h with ⟨-, k1, k2⟩ | ⟨-, k1, k2, -⟩
  · rw [(k2 i (by omega)).1] at hv; cases hv; exact fits_lo8 _
  · rcases Nat.mod_two_eq_zero_or_one i with e | e
    · obtain ⟨j, rfl⟩ : ∃ j, i = 2 * j := ⟨i / 2, by omega⟩
      rw [(k2 j (by omega)).1] at hv; cases hv; exact fits_lo8 _
    · obtain ⟨j, rfl⟩ : ∃ j, i = 2 * j + 1 := ⟨i / 2, by omega⟩
      rw [(k2 j (by omega)).2] at hv; cases hv; exact fits_lo8 _
/-- the same text -/
def SameT (n : Nat) (f : Nat → Int32) (k : Nat) (g : Nat → Int32) : Prop := n = k ∧ ∀ j, j < n → f j = g j
theorem lo8_inj {x y : Int32} (h0 : ¬ x < 0) (h1 : ¬ 255 < x) (k0 : ¬ y < 0) (k1 : ¬ 255 < y) (h : lo8 x = lo8 y) : x = y := by
  rw [← lo8_mask h0 h1, ← lo8_mask k0 k1, h]
/-- arrays coded by one coder are equal just where the texts are -/
theorem Cod.eqv {cd : Int32} {n k : Nat} {f g : Nat → Int32} {V V' : Cell} (h : Cod cd n f V) (h' : Cod cd k g V') (hf : ∀ j, j < n → ¬ f j < 0 ∧ ¬ 65535 < f j) (hg : ∀ j, j < k → ¬ g j < 0 ∧ ¬ 65535 < g j) : EqC V V' ↔ SameT n f k g := by
  have yvv : ∀ {W : Cell} {i : Nat} {x : Int32}, W.slots[i]? = some (.int x) → yv W i = x := fun q => by unfold yv; rw [q]
  rcases h with ⟨rfl, k1, k2⟩ | ⟨rfl, k1, k2, -⟩
  · rcases h' with ⟨-, m1, m2⟩ | ⟨e, -⟩
    · constructor
      · rintro ⟨e1, e2⟩
        refine ⟨by omega, fun j hj => ?_⟩
        have q := e2 j (by omega)
        rw [yvv (k2 j hj).1, yvv (m2 j (by omega)).1] at q
        exact lo8_inj (hf j hj).1 (k2 j hj).2 (hg j (by omega)).1 (m2 j (by omega)).2 q
      · rintro ⟨rfl, e2⟩
        refine ⟨by omega, fun j hj => ?_⟩
        rw [yvv (k2 j (by omega)).1, yvv (m2 j (by omega)).1, e2 j (by omega)]
    · exact absurd e (by decide)
  · rcases h' with ⟨e, -⟩ | ⟨-, m1, m2, -⟩
    · exact absurd e (by decide)
    · constructor
      · rintro ⟨e1, e2⟩
        refine ⟨by omega, fun j hj => ?_⟩
        have q1 := e2 (2 * j) (by omega)
        have q2 := e2 (2 * j + 1) (by omega)
        rw [yvv (k2 j hj).1, yvv (m2 j (by omega)).1] at q1
        rw [yvv (k2 j hj).2, yvv (m2 j (by omega)).2] at q2
        rw [← pair_says (hf j hj).1 (hf j hj).2, ← pair_says (hg j (by omega)).1 (hg j (by omega)).2, q1, q2]
      · rintro ⟨rfl, e2⟩
        refine ⟨by omega, fun i hi => ?_⟩
        rcases Nat.mod_two_eq_zero_or_one i with e | e
        · obtain ⟨j, rfl⟩ : ∃ j, i = 2 * j := ⟨i / 2, by omega⟩
          rw [yvv (k2 j (by omega)).1, yvv (m2 j (by omega)).1, e2 j (by omega)]
        · obtain ⟨j, rfl⟩ : ∃ j, i = 2 * j + 1 := ⟨i / 2, by omega⟩
          rw [yvv (k2 j (by omega)).2, yvv (m2 j (by omega)).2, e2 j (by omega)]
/-- two codings differ: so do the texts -/
theorem Cod.dif {cd cd' : Int32} {n k : Nat} {f g : Nat → Int32} {V V' : Cell} (h : Cod cd n f V) (h' : Cod cd' k g V') (hne : ¬ cd = cd') : ¬ SameT n f k g := by
  rintro ⟨rfl, e⟩
  rcases h with ⟨rfl, -, k2⟩ | ⟨rfl, -, -, j, hj, hw⟩
  · rcases h' with ⟨rfl, -⟩ | ⟨-, -, -, j, hj, hw⟩
    · exact hne rfl
    · exact (k2 j hj).2 (by rw [e j hj]; exact hw)
  · rcases h' with ⟨-, -, m2⟩ | ⟨rfl, -⟩
    · exact (m2 j hj).2 (by rw [← e j hj]; exact hw)
    · exact hne rfl
/-- an object of exactly C is an instance of C -/
theorem cinst {p : Program} {l : Launch} {e : Env} {R : Room} {s : State} {m : MethodId} {args : Array Value} {below : List Frame} {meth : Method} {c : Code} {T : State} {locs : List Loc} {cells slots : Nat} (X : Stand p l e R s m args below meth c T locs cells slots) (hexec : p.tables.exec = Jvm.exec) {own C : String} {index : Nat} (hown : s.vm.findClass own = some m.cls) (hlink : (Cond.classLink own index C).before args s = true) {a : Addr} (hE : Exact C a T)
    {g : JFrame} (hg : g.method = m) {rest : List Value} (hstack : g.stack = .ref a :: rest) (hdg : decode c.code g.pc = .ok (.instanceof index, 3)) :
    ∃ T', Stand p l e R s m args below meth c T' locs cells slots ∧ T'.heap = T.heap ∧ ∀ target, Steps p.tables e below (T'.setTop { g with pc := g.pc + 3, stack := .int 1 :: rest }) target → Steps p.tables e below (T.setTop g) target := by
  obtain ⟨cB, h1, D, h2, h3, h4⟩ := hE
  have h1' : s.vm.findClass C = some cB := by rw [← X.warmed.alike.findClass]; exact h1
  obtain ⟨vm', X', st⟩ := X.instanceofYes hexec hown hlink h2 h4 h1' (by rw [h3]; exact Jvm.Free.SB.assignable_self _ _) hg hstack hdg
  exact ⟨_, X', rfl, st⟩
theorem cself {p : Program} {l : Launch} {e : Env} {R : Room} {s : State} {m : MethodId} {args : Array Value} {below : List Frame} {meth : Method} {c : Code} {T : State} {locs : List Loc} {cells slots : Nat} (X : Stand p l e R s m args below meth c T locs cells slots) (hexec : p.tables.exec = Jvm.exec) {own C : String} {index : Nat} (hown : s.vm.findClass own = some m.cls) (hlink : (Cond.classLink own index C).before args s = true) {a : Addr} (hE : Exact C a T)
    {g : JFrame} (hg : g.method = m) {rest : List Value} (hstack : g.stack = .ref a :: rest) (hdg : decode c.code g.pc = .ok (.checkcast index, 3)) :
    ∃ T', Stand p l e R s m args below meth c T' locs cells slots ∧ T'.heap = T.heap ∧ ∀ target, Steps p.tables e below (T'.setTop { g with pc := g.pc + 3, stack := .ref a :: rest }) target → Steps p.tables e below (T.setTop g) target := by
  obtain ⟨cB, h1, D, h2, h3, h4⟩ := hE
  have h1' : s.vm.findClass C = some cB := by rw [← X.warmed.alike.findClass]; exact h1
  obtain ⟨vm', X', st⟩ := X.checkcastYes hexec hown hlink h2 h4 h1' (by rw [h3]; exact Jvm.Free.SB.assignable_self _ _) hg hstack hdg
  exact ⟨_, X', rfl, fun t h => st t (by rw [← hstack] at h; exact h)⟩
namespace SEq
def yN : MethodName := ⟨"java/lang/String", "equals", "(Ljava/lang/Object;)Z"⟩
abbrev yB : ByteArray := jdk_42_method_66_code
theorem d0 : decode yB 0 = .ok (.aload_n 0, 1) := by decide +kernel
theorem d1 : decode yB 1 = .ok (.aload_n 1, 1) := by decide +kernel
theorem d2 : decode yB 2 = .ok (.if_acmp (.ne) 5, 3) := by decide +kernel
theorem d5 : decode yB 5 = .ok (.iconst 1, 1) := by decide +kernel
theorem d6 : decode yB 6 = .ok (.ireturn, 1) := by decide +kernel
theorem d7 : decode yB 7 = .ok (.aload_n 1, 1) := by decide +kernel
theorem d8 : decode yB 8 = .ok (.instanceof 10, 3) := by decide +kernel
theorem d11 : decode yB 11 = .ok (.ifCond (.eq) 43, 3) := by decide +kernel
theorem d14 : decode yB 14 = .ok (.aload_n 1, 1) := by decide +kernel
theorem d15 : decode yB 15 = .ok (.checkcast 10, 3) := by decide +kernel
theorem d18 : decode yB 18 = .ok (.astore_n 2, 1) := by decide +kernel
theorem d19 : decode yB 19 = .ok (.getstatic 38, 3) := by decide +kernel
theorem d22 : decode yB 22 = .ok (.ifCond (.eq) 14, 3) := by decide +kernel
theorem d25 : decode yB 25 = .ok (.aload_n 0, 1) := by decide +kernel
theorem d26 : decode yB 26 = .ok (.getfield 15, 3) := by decide +kernel
theorem d29 : decode yB 29 = .ok (.aload_n 2, 1) := by decide +kernel
theorem d30 : decode yB 30 = .ok (.getfield 15, 3) := by decide +kernel
theorem d33 : decode yB 33 = .ok (.if_icmp (.ne) 21, 3) := by decide +kernel
theorem d36 : decode yB 36 = .ok (.aload_n 0, 1) := by decide +kernel
theorem d37 : decode yB 37 = .ok (.getfield 9, 3) := by decide +kernel
theorem d40 : decode yB 40 = .ok (.aload_n 2, 1) := by decide +kernel
theorem d41 : decode yB 41 = .ok (.getfield 9, 3) := by decide +kernel
theorem d44 : decode yB 44 = .ok (.invokestatic 541, 3) := by decide +kernel
theorem d47 : decode yB 47 = .ok (.ifCond (.eq) 7, 3) := by decide +kernel
theorem d50 : decode yB 50 = .ok (.iconst 1, 1) := by decide +kernel
theorem d51 : decode yB 51 = .ok (.goto 4, 3) := by decide +kernel
theorem d54 : decode yB 54 = .ok (.iconst 0, 1) := by decide +kernel
theorem d55 : decode yB 55 = .ok (.ireturn, 1) := by decide +kernel
def site : List Cond := [.classLink "java/lang/String" 10 "java/lang/String", .fieldLink "java/lang/String" 38 "java/lang/String" "COMPACT_STRINGS" "Z", .fieldLink "java/lang/String" 15 "java/lang/String" "coder" "B", .fieldLink "java/lang/String" 9 "java/lang/String" "value" "[B", LEq.tab] ++ staticW "java/lang/String" 541 LEq.yN
def tab : Cond := tabOf yN yB 3 (some .boolean) site
def P (x t : Addr) (V : Cell) (cd : Int32) (n : Nat) (f : Nat → Int32) (y t' : Addr) (V' : Cell) (cd' : Int32) (k : Nat) (g : Nat → Int32) (z : Int32) (args : Array Value) (s : State) : Prop := args = #[.ref x, .ref y] ∧ Txt x t V cd n f s ∧ Txt y t' V' cd' k g s ∧ StaticIs s "java/lang/String" "COMPACT_STRINGS" "Z" (.int z) ∧ ¬ z = 0
/-- equals(Object) of two Strings: whether the texts are the same -/
theorem law (l : Launch) (x t : Addr) (V : Cell) (cd : Int32) (n : Nat) (f : Nat → Int32) (y t' : Addr) (V' : Cell) (cd' : Int32) (k : Nat) (g : Nat → Int32) (z : Int32) : Law l yN 2 1 1 14 yB 3 (some .boolean) site (P x t V cd n f y t' V' cd' k g z) (Says01 (SameT n f k g)) [] 0 0 := by
  refine Law.of_walk (plainFor_of_name (by decide +kernel)) (by decide +kernel) (by decide +kernel) (by decide) (fun _ _ h => by rw [h.1]; rfl) (fun _ U U' hal hh h => ⟨h.1, h.2.1.mv hal hh, h.2.2.1.mv hal hh, h.2.2.2.1.there hal hh, h.2.2.2.2⟩) (fun r U U' V V' h1 hal h2 h => Says01.mv r U U' V V' h1 hal h2 h) ?_
  intro p e s m args below meth c s₁ X0 hexec hbytes hml hret hlk hnm hown hh0 W hP
  obtain ⟨rfl, hx, hy, s1, hz⟩ := hP
  have c1 : Steps p.tables e below (s₁.setTop (entryFrame m #[.ref x, .ref y] 3)) (s₁.setTop (mkF m 2 #[.val (.ref x), .val (.ref y), .unset] [.ref y, .ref x])) := Steps.trans (entry rfl) (by
    show Steps p.tables e below (s₁.setTop (mkF m 0 #[.val (.ref x), .val (.ref y), .unset] [])) _
    refine XS.aloadN X0.here hexec rfl (hb hbytes d0) rfl rfl ?_
    refine XS.aloadN X0.here hexec rfl (hb hbytes d1) rfl rfl ?_
    exact Steps.refl _)
  by_cases hxy : x = y
  · have c2 : Steps p.tables e below (s₁.setTop (entryFrame m #[.ref x, .ref y] 3)) (s₁.setTop (mkF m 6 #[.val (.ref x), .val (.ref y), .unset] [.int 1])) := c1.trans (by
      refine acmpNo X0.here hexec rfl (hb hbytes d2) rfl rfl rfl (by simp [acmp, hxy]) ?_
      refine iconstV X0.here hexec rfl 1 (hb hbytes d5) (by decide) ?_
      exact Steps.refl _)
    subst hxy
    have ec : cd = cd' := by
      obtain ⟨D, fd, a1, a2, a3⟩ := hx.2.2.1
      obtain ⟨D', fd', b1, b2, b3⟩ := hy.2.2.1
      cases a1.symm.trans b1
      obtain ⟨q1, q2, q3, q4⟩ := a2.1
      obtain ⟨r1, r2, r3, r4⟩ := b2.1
      cases q4.symm.trans r4
      cases a3.symm.trans b3; rfl
    have et : t = t' := by
      obtain ⟨D, fd, a1, a2, a3⟩ := hx.2.1
      obtain ⟨D', fd', b1, b2, b3⟩ := hy.2.1
      cases a1.symm.trans b1
      obtain ⟨q1, q2, q3, q4⟩ := a2.1
      obtain ⟨r1, r2, r3, r4⟩ := b2.1
      cases q4.symm.trans r4
      cases a3.symm.trans b3; rfl
    subst ec et
    have ev : V = V' := by cases hx.2.2.2.1.1.symm.trans hy.2.2.2.1.1; rfl
    subst ev
    have hs : SameT n f k g := (Cod.eqv hx.2.2.2.2.1 hy.2.2.2.2.1 hx.2.2.2.2.2 hy.2.2.2.2.2).mp ⟨rfl, fun _ _ => rfl⟩
    exact ⟨s₁, some (.int 1), _, _, _, X0, rfl, rfl, rfl, (fun h => by cases h), ⟨1, rfl, hh0, Or.inl ⟨rfl, hs⟩⟩, fun fs hl => c2.trans (X0.ireturnOut hexec hret rfl (Or.inr (Or.inl rfl)) (hb hbytes d6) hl)⟩
  · have c2 : Steps p.tables e below (s₁.setTop (entryFrame m #[.ref x, .ref y] 3)) (s₁.setTop (mkF m 8 #[.val (.ref x), .val (.ref y), .unset] [.ref y])) := c1.trans (by
      refine acmpYes X0.here hexec rfl (pc0 := 2) rfl (hb hbytes d2) rfl rfl rfl (by simp [acmp, hxy]) (by decide) rfl ?_
      refine XS.aloadN X0.here hexec rfl (hb hbytes d7) rfl rfl ?_
      exact Steps.refl _)
    obtain ⟨T3, X3, q3, st3⟩ := cinst X0 hexec hown (wk W (.classLink "java/lang/String" 10 "java/lang/String")) (hy.mv X0.warmed.alike hh0).1 (g := (mkF m 8 #[.val (.ref x), .val (.ref y), .unset] [.ref y])) rfl (rest := []) rfl (hb hbytes d8)
    have hh3 := q3.trans hh0
    have c4 : Steps p.tables e below (s₁.setTop (entryFrame m #[.ref x, .ref y] 3)) (T3.setTop (mkF m 15 #[.val (.ref x), .val (.ref y), .unset] [.ref y])) := (c2.trans (st3 _ (Steps.refl _))).trans (by
      refine XS.ifNo X3.here hexec rfl (hb hbytes d11) rfl (i0_eq_f (by decide)) ?_
      refine XS.aloadN X3.here hexec rfl (hb hbytes d14) rfl rfl ?_
      exact Steps.refl _)
    obtain ⟨T5, X5, q5, st5⟩ := cself X3 hexec hown (wk W (.classLink "java/lang/String" 10 "java/lang/String")) (hy.mv X3.warmed.alike hh3).1 (g := (mkF m 15 #[.val (.ref x), .val (.ref y), .unset] [.ref y])) rfl (rest := []) rfl (hb hbytes d15)
    have hh5 := q5.trans hh3
    have c6 : Steps p.tables e below (s₁.setTop (entryFrame m #[.ref x, .ref y] 3)) (T5.setTop (mkF m 19 #[.val (.ref x), .val (.ref y), .val (.ref y)] [])) := (c4.trans (st5 _ (Steps.refl _))).trans (by
      refine XS.astoreN X5.here hexec rfl (hb hbytes d18) rfl rfl rfl ?_
      exact Steps.refl _)
    obtain ⟨T7, X7, q7, st7⟩ := X5.sget hexec hown (wk W (.fieldLink "java/lang/String" 38 "java/lang/String" "COMPACT_STRINGS" "Z")) s1 (fun _ _ h => by rw [hh5]; exact h) (g := (mkF m 19 #[.val (.ref x), .val (.ref y), .val (.ref y)] [])) rfl (hb hbytes d19)
    have hh7 := q7.trans hh5
    have c8 : Steps p.tables e below (s₁.setTop (entryFrame m #[.ref x, .ref y] 3)) (T7.setTop (mkF m 26 #[.val (.ref x), .val (.ref y), .val (.ref y)] [.ref x])) := (c6.trans (st7 _ (Steps.refl _))).trans (by
      refine XS.ifNo X7.here hexec rfl (hb hbytes d22) rfl (i0_eq_f hz) ?_
      refine XS.aloadN X7.here hexec rfl (hb hbytes d25) rfl rfl ?_
      exact Steps.refl _)
    obtain ⟨T9, X9, q9, st9⟩ := X7.hget hexec hown (wk W (.fieldLink "java/lang/String" 15 "java/lang/String" "coder" "B")) (hx.mv X7.warmed.alike hh7).2.2.1 (g := (mkF m 26 #[.val (.ref x), .val (.ref y), .val (.ref y)] [.ref x])) rfl (rest := []) rfl (hb hbytes d26)
    have hh9 := q9.trans hh7
    have c10 : Steps p.tables e below (s₁.setTop (entryFrame m #[.ref x, .ref y] 3)) (T9.setTop (mkF m 30 #[.val (.ref x), .val (.ref y), .val (.ref y)] [.ref y, .int cd])) := (c8.trans (st9 _ (Steps.refl _))).trans (by
      refine XS.aloadN X9.here hexec rfl (hb hbytes d29) rfl rfl ?_
      exact Steps.refl _)
    obtain ⟨T11, X11, q11, st11⟩ := X9.hget hexec hown (wk W (.fieldLink "java/lang/String" 15 "java/lang/String" "coder" "B")) (hy.mv X9.warmed.alike hh9).2.2.1 (g := (mkF m 30 #[.val (.ref x), .val (.ref y), .val (.ref y)] [.ref y, .int cd])) rfl (rest := [.int cd]) rfl (hb hbytes d30)
    have hh11 := q11.trans hh9
    have c12 : Steps p.tables e below (s₁.setTop (entryFrame m #[.ref x, .ref y] 3)) (T11.setTop (mkF m 33 #[.val (.ref x), .val (.ref y), .val (.ref y)] [.int cd', .int cd])) := c10.trans (st11 _ (Steps.refl _))
    by_cases hcd : cd = cd'
    · subst hcd
      have c13 : Steps p.tables e below (s₁.setTop (entryFrame m #[.ref x, .ref y] 3)) (T11.setTop (mkF m 37 #[.val (.ref x), .val (.ref y), .val (.ref y)] [.ref x])) := c12.trans (by
        refine XS.icmpNo X11.here hexec rfl (hb hbytes d33) rfl (ii_ne_f rfl) ?_
        refine XS.aloadN X11.here hexec rfl (hb hbytes d36) rfl rfl ?_
        exact Steps.refl _)
      obtain ⟨T14, X14, q14, st14⟩ := X11.hget hexec hown (wk W (.fieldLink "java/lang/String" 9 "java/lang/String" "value" "[B")) (hx.mv X11.warmed.alike hh11).2.1 (g := (mkF m 37 #[.val (.ref x), .val (.ref y), .val (.ref y)] [.ref x])) rfl (rest := []) rfl (hb hbytes d37)
      have hh14 := q14.trans hh11
      have c15 : Steps p.tables e below (s₁.setTop (entryFrame m #[.ref x, .ref y] 3)) (T14.setTop (mkF m 41 #[.val (.ref x), .val (.ref y), .val (.ref y)] [.ref y, .ref t])) := (c13.trans (st14 _ (Steps.refl _))).trans (by
        refine XS.aloadN X14.here hexec rfl (hb hbytes d40) rfl rfl ?_
        exact Steps.refl _)
      obtain ⟨T16, X16, q16, st16⟩ := X14.hget hexec hown (wk W (.fieldLink "java/lang/String" 9 "java/lang/String" "value" "[B")) (hy.mv X14.warmed.alike hh14).2.1 (g := (mkF m 41 #[.val (.ref x), .val (.ref y), .val (.ref y)] [.ref y, .ref t])) rfl (rest := [.ref t]) rfl (hb hbytes d41)
      have hh16 := q16.trans hh14
      have c17 : Steps p.tables e below (s₁.setTop (entryFrame m #[.ref x, .ref y] 3)) (T16.setTop (mkF m 44 #[.val (.ref x), .val (.ref y), .val (.ref y)] [.ref t', .ref t])) := c15.trans (st16 _ (Steps.refl _))
      obtain ⟨v18, T18, X18, E18, g18⟩ := X16.callS hexec (LEq.law l t V t' V') hown (wks W (staticW "java/lang/String" 541 LEq.yN)) (wk W LEq.tab) (W := 0) (Nat.le_of_ble_eq_true rfl) (Nat.le_of_ble_eq_true rfl) (Nat.le_refl _) (Nat.le_refl _) (g := (mkF m 44 #[.val (.ref x), .val (.ref y), .val (.ref y)] [.ref t', .ref t])) rfl (by rw [hml]; rfl) c17 (argsL := [.ref t, .ref t']) (rest := []) rfl rfl (by show 2 * 0 + 0 ≤ _; decide) (hb hbytes d44) (⟨rfl, hx.2.2.2.1.mv X16.warmed.alike hh16, hx.2.2.2.2.1.ty, hy.2.2.2.1.mv X16.warmed.alike hh16, hy.2.2.2.2.1.ty⟩)
      obtain ⟨v, rfl, q18, hv⟩ := E18
      have iff := Cod.eqv hx.2.2.2.2.1 hy.2.2.2.2.1 hx.2.2.2.2.2 hy.2.2.2.2.2
      rcases hv with ⟨rfl, he⟩ | ⟨rfl, he⟩
      · have c19 : Steps p.tables e below (s₁.setTop (entryFrame m #[.ref x, .ref y] 3)) (T18.setTop (mkF m 55 #[.val (.ref x), .val (.ref y), .val (.ref y)] [.int 1])) := Steps.trans g18 (by
          refine XS.ifNo X18.here hexec rfl (hb hbytes d47) rfl (i0_eq_f (by decide)) ?_
          refine iconstV X18.here hexec rfl 1 (hb hbytes d50) (by decide) ?_
          refine XS.goto X18.here hexec rfl (pc0 := 51) rfl (hb hbytes d51) (by decide) rfl ?_
          exact Steps.refl _)
        exact ⟨T18, some (.int 1), _, _, _, X18, rfl, rfl, rfl, (fun h => by cases h), ⟨1, rfl, q18.trans hh16, Or.inl ⟨rfl, iff.mp he⟩⟩, fun fs hl => c19.trans (X18.ireturnOut hexec hret rfl (Or.inr (Or.inl rfl)) (hb hbytes d55) hl)⟩
      · have c19 : Steps p.tables e below (s₁.setTop (entryFrame m #[.ref x, .ref y] 3)) (T18.setTop (mkF m 55 #[.val (.ref x), .val (.ref y), .val (.ref y)] [.int 0])) := Steps.trans g18 (by
          refine XS.ifYes X18.here hexec rfl (pc0 := 47) rfl (hb hbytes d47) rfl (i0_eq_t rfl) (by decide) rfl ?_
          refine iconstV X18.here hexec rfl 0 (hb hbytes d54) (by decide) ?_
          exact Steps.refl _)
        exact ⟨T18, some (.int 0), _, _, _, X18, rfl, rfl, rfl, (fun h => by cases h), ⟨0, rfl, q18.trans hh16, Or.inr ⟨rfl, fun q => he (iff.mpr q)⟩⟩, fun fs hl => c19.trans (X18.ireturnOut hexec hret rfl (Or.inr (Or.inl rfl)) (hb hbytes d55) hl)⟩
    · have c13 : Steps p.tables e below (s₁.setTop (entryFrame m #[.ref x, .ref y] 3)) (T11.setTop (mkF m 55 #[.val (.ref x), .val (.ref y), .val (.ref y)] [.int 0])) := c12.trans (by
        refine XS.icmpYes X11.here hexec rfl (pc0 := 33) rfl (hb hbytes d33) rfl (ii_ne_t hcd) (by decide) rfl ?_
        refine iconstV X11.here hexec rfl 0 (hb hbytes d54) (by decide) ?_
        exact Steps.refl _)
      exact ⟨T11, some (.int 0), _, _, _, X11, rfl, rfl, rfl, (fun h => by cases h), ⟨0, rfl, hh11, Or.inr ⟨rfl, Cod.dif hx.2.2.2.2.1 hy.2.2.2.2.1 hcd⟩⟩, fun fs hl => c13.trans (X11.ireturnOut hexec hret rfl (Or.inr (Or.inl rfl)) (hb hbytes d55) hl)⟩
theorem pays {l : Launch} {R : Room} {p : Program} {e : Env} {below : List Frame} {s : State} {sargs : Array Value} {len W : Nat} (x t : Addr) (V : Cell) (cd : Int32) (n : Nat) (f : Nat → Int32) (y t' : Addr) (V' : Cell) (cd' : Int32) (k : Nat) (g : Nat → Int32) (z : Int32) (htab : tab.before sargs s = true) (hfr : 2 ≤ R.frames) (hlo : W + 28 ≤ R.locals) :
    Back l R p e below s sargs yN len W (fun A₁ a₁ => A₁.cells + 0 ≤ R.cells ∧ A₁.slots + 0 ≤ R.slots ∧ P x t V cd n f y t' V' cd' k g z a₁ A₁.U) (fun A₁ _ v₁ B₁ => Says01 (SameT n f k g) v₁ A₁.U B₁.U ∧ B₁.locs = A₁.locs ++ [] ∧ B₁.cells = A₁.cells + 0 ∧ B₁.slots = A₁.slots + 0) :=
  (law l x t V cd n f y t' V' cd' k g z).pays htab hfr (by omega)
end SEq
end StrChars
namespace StrChars.Road
open Jvm Sem ClassFile Op Lib Jvm.Stand Jvm.Free Jvm.Free.XT
open Jvm.Lib.Cold (StaticIs)
/-- the words of String.equals(Object) -/
abbrev wordsEq : List Jvm.Cond := [.code SEq.yN SEq.yB 3 (some .boolean), .initialized ST, .classLink ST 10 ST, .fieldLink ST 38 ST "COMPACT_STRINGS" "Z", .fieldLink ST 15 ST "coder" "B", .fieldLink ST 9 ST "value" "[B", .methodLink ST 541 LEq.yN, .static LEq.yN, .code LEq.yN LEq.yB 3 (some .boolean), .initialized "java/lang/StringLatin1"]
theorem tabEq_of {a : Array Value} {s : State} (h : ∀ w ∈ wordsEq, w.before a s = true) : SEq.tab.before a s = true := by
  have hl : LEq.tab.before a s = true := unparts (wk h (.code LEq.yN LEq.yB 3 (some .boolean))) (wks h (.initialized LEq.yN.cls :: LEq.site))
  have q := consq hl h
  exact unparts (wk q (.code SEq.yN SEq.yB 3 (some .boolean))) (wks q (.initialized SEq.yN.cls :: SEq.site))
theorem movedEq {Z s : State} {a0 args : Array Value} (hZ : Z.Warmed39 s.vm) (hw : ∀ d ∈ wordsEq, d.before a0 Z = true) : ∀ d ∈ wordsEq, d.before args s = true := fun d hd => by
  have t : ∀ d ∈ wordsEq, (d.onTables && d.keepsFace) = true := by decide +kernel
  exact RoadKit.mv hZ (hw d hd) (t d hd)
/-- the road's facts of a String, as the laws ask it -/
theorem txt_of {Z U : State} {a0 : Array Value} {kI : Nat} (wi : (Jvm.Cond.instantiable ST kI).before a0 Z = true) (al : Z.vm.Alike U.vm) {x t : Addr} {kb : ClassId} {cs : List Int32} {cd N2 : Int32} {vs : List Value} (E : RoadKit.Exa Z U.heap x ST) (V : RoadKit.Fld Z U.heap x ST "value" "[B" (.ref t)) (C : RoadKit.Fld Z U.heap x ST "coder" "B" (.int cd)) (K : RoadKit.Arv Z U.heap t kb .byte N2 vs (.int 0)) (hc : CodA cs cd N2 vs) (hb : ∀ c ∈ cs, ¬ c < 0 ∧ ¬ (65535 : Int32) < c) (l2 : cs.length ≤ 4000) :
    ∃ A, Txt x t A cd cs.length (fun j => cs.getD j 0) U := by
  obtain ⟨A, K1, K2, K3, K4, K5, K6⟩ := K
  have hcod := hc.cod (by omega) K3 K5
  obtain ⟨D, fV, fC, hB, F1, F2, g1, g2, -, -⟩ := strObj wi al E V C
  exact ⟨A, ⟨_, hB.2.2.1, D, hB.1, rfl, by cases q : D.vm <;> first | rfl | exact absurd q (hB.2.1.2 _)⟩, Has.of hB F1 g1, Has.of hB F2 g2, ⟨K1.1, State.isArrayOf_alike al K1.2.1, K1.2.2, by rcases hcod with ⟨-, q, -⟩ | ⟨-, q, -⟩ <;> omega⟩, hcod, fun j hj => by
    have e : cs.getD j 0 = cs[j] := by simp [List.getD_eq_getElem?_getD, hj]
    show ¬ cs.getD j 0 < 0 ∧ ¬ 65535 < cs.getD j 0
    rw [e]; exact hb _ (List.getElem_mem _)⟩
theorem same_list (cs ds : List Int32) : SameT cs.length (fun j => cs.getD j 0) ds.length (fun j => ds.getD j 0) ↔ cs = ds := by
  constructor
  · rintro ⟨e, q⟩
    refine List.ext_getElem e fun j h1 h2 => ?_
    have := q j h1
    simpa [List.getD_eq_getElem?_getD, h1, h2] using this
  · rintro rfl
    exact ⟨rfl, fun _ _ => rfl⟩
/-- **equals(Object) OF TWO SUCH STRINGS**: 1 just where the chars are the same -/
theorem eqW {p : Program} {l : Launch} {e : Env} {R : Room} {s : State} {args : Array Value} {below : List Frame} {len W : Nat} {Z : State} {a0 : Array Value} {h : Heap} (hZ : Z.Warmed39 s.vm) (hw : ∀ d ∈ wordsEq, d.before a0 Z = true) {kI : Nat} (wi : (Jvm.Cond.instantiable ST kI).before a0 Z = true)
    {x t : Addr} {kb : ClassId} {cs : List Int32} {cd N2 : Int32} {vs : List Value} (E : RoadKit.Exa Z h x ST) (V : RoadKit.Fld Z h x ST "value" "[B" (.ref t)) (C : RoadKit.Fld Z h x ST "coder" "B" (.int cd)) (K : RoadKit.Arv Z h t kb .byte N2 vs (.int 0)) (hc : CodA cs cd N2 vs) (hb : ∀ c ∈ cs, ¬ c < 0 ∧ ¬ (65535 : Int32) < c) (l2 : cs.length ≤ 4000)
    {y t' : Addr} {kb' : ClassId} {ds : List Int32} {cd' N2' : Int32} {vs' : List Value} (E' : RoadKit.Exa Z h y ST) (V' : RoadKit.Fld Z h y ST "value" "[B" (.ref t')) (C' : RoadKit.Fld Z h y ST "coder" "B" (.int cd')) (K' : RoadKit.Arv Z h t' kb' .byte N2' vs' (.int 0)) (hc' : CodA ds cd' N2' vs') (hb' : ∀ c ∈ ds, ¬ c < 0 ∧ ¬ (65535 : Int32) < c) (l2' : ds.length ≤ 4000)
    {z : Int32} (S : RoadKit.Sta Z h ST "COMPACT_STRINGS" "Z" (.int z)) (hz : ¬ z = 0) (hfr : 2 ≤ R.frames) (hlo : W + 28 ≤ R.locals) :
    Back l R p e below s args (⟨"java/lang/String", "equals", "(Ljava/lang/Object;)Z"⟩ : MethodName) len W (fun P a => a = #[.ref x, .ref y] ∧ P.U.heap = h ∧ P.cells + 0 ≤ R.cells ∧ P.slots + 0 ≤ R.slots)
      (fun P _ v B => ∃ L, (((v = some (.int 1) ∧ cs = ds) ∨ (v = some (.int 0) ∧ ¬ cs = ds)) ∧ L = [] ∧ B.U.heap = h) ∧ B.locs = P.locs ++ L ∧ B.cells = P.cells + 0 ∧ B.slots = P.slots + 0) := by
  intro m meth c P g ig mk a X hg hsize hdg hW hn hp'
  obtain ⟨rfl, rfl, r1, r2⟩ := hp'
  have al : Z.vm.Alike P.U.vm := hZ.alike.trans X.warmed.alike
  obtain ⟨A, hx⟩ := txt_of wi al E V C K hc hb l2
  obtain ⟨A', hy⟩ := txt_of wi al E' V' C' K' hc' hb' l2'
  obtain ⟨v, B, X', ⟨⟨w, hv, hh, hq⟩, hl, hk, hs⟩, st⟩ := SEq.pays x t A cd cs.length (fun j => cs.getD j 0) y t' A' cd' ds.length (fun j => ds.getD j 0) z (tabEq_of (movedEq hZ hw)) hfr hlo m meth c P g ig mk _ X hg hsize hdg hW hn ⟨r1, r2, rfl, hx, hy, sta_is al S, hz⟩
  refine ⟨v, B, X', ⟨[], ⟨?_, rfl, hh⟩, hl, hk, hs⟩, st⟩
  rcases hq with ⟨rfl, q⟩ | ⟨rfl, q⟩
  · exact Or.inl ⟨hv, (same_list cs ds).mp q⟩
  · exact Or.inr ⟨hv, fun e => q ((same_list cs ds).mpr e)⟩
end StrChars.Road
namespace StrChars.Road
open Jvm Sem ClassFile Op Lib Jvm.Stand Jvm.Free Jvm.Free.XT
open Jvm.Lib.Cold (StaticIs)
/-- what backV says of its String, as the contracts of this text ask it: cs's low bytes, coder 0 -/
theorem codOf {cs : List Int32} {n : Nat} (hn : cs.length = n) (hb : ∀ c ∈ cs, ¬ 255 < c) : CodA cs 0 (Int32.ofNat n) ((cs.map lo8).map Value.int) := Or.inl ⟨rfl, by rw [hn], by simp [List.map_map, Function.comp_def], hb⟩
end StrChars.Road
end Jvm.Pilot.@@N@@
set_option maxRecDepth 65536
set_option maxHeartbeats 40000000
namespace Jvm.Pilot.@@N@@
open Jvm Jvm.ClassFile Sem Op Lib Jvm.Free Jvm.Stand Jvm.LawKit Jvm.RoadKit Bundle Jvm.Own Jvm.Pilot.@@N@@.Jvm.D
theorem pn_0 : plainName "java/lang/String" = true := by first | (simp [plainName, overriddenIn]; done) | decide +kernel
theorem pd_0 : parseMethodDescriptor "([CIILjava/lang/Void;)V" = some ⟨[(.array .char), .int, .int, (.object "java/lang/Void")], none⟩ := by decide +kernel
theorem pd_1 : parseMethodDescriptor "([C)V" = some ⟨[(.array .char)], none⟩ := by decide +kernel
theorem pn_1 : plainName "java/lang/AbstractStringBuilder" = true := by first | (simp [plainName, overriddenIn]; done) | decide +kernel
theorem pd_2 : parseMethodDescriptor "(I)V" = some ⟨[.int], none⟩ := by decide +kernel
theorem pn_2 : plainName "java/lang/StringBuilder" = true := by first | (simp [plainName, overriddenIn]; done) | decide +kernel
theorem pd_3 : parseMethodDescriptor "()V" = some ⟨[], none⟩ := by decide +kernel
theorem pd_4 : parseMethodDescriptor "()B" = some ⟨[], some .byte⟩ := by decide +kernel
theorem pd_5 : parseMethodDescriptor "(Ljava/lang/String;)V" = some ⟨[(.object "java/lang/String")], none⟩ := by decide +kernel
theorem pd_6 : parseMethodDescriptor "([BIB)V" = some ⟨[(.array .byte), .int, .byte], none⟩ := by decide +kernel
theorem pd_7 : parseMethodDescriptor "(ILjava/lang/String;)V" = some ⟨[.int, (.object "java/lang/String")], none⟩ := by decide +kernel
theorem pd_8 : parseMethodDescriptor "(Ljava/lang/String;)Ljava/lang/AbstractStringBuilder;" = some ⟨[(.object "java/lang/String")], some (.object "java/lang/AbstractStringBuilder")⟩ := by decide +kernel
theorem pd_9 : parseMethodDescriptor "()I" = some ⟨[], some .int⟩ := by decide +kernel
theorem pd_10 : parseMethodDescriptor "(Ljava/lang/String;)Ljava/lang/StringBuilder;" = some ⟨[(.object "java/lang/String")], some (.object "java/lang/StringBuilder")⟩ := by decide +kernel
theorem pd_11 : parseMethodDescriptor "()[B" = some ⟨[], some (.array .byte)⟩ := by decide +kernel
theorem pd_12 : parseMethodDescriptor "()Z" = some ⟨[], some .boolean⟩ := by decide +kernel
theorem pn_3 : plainName "java/util/Arrays" = true := by first | (simp [plainName, overriddenIn]; done) | decide +kernel
theorem pd_13 : parseMethodDescriptor "(II)V" = some ⟨[.int, .int], none⟩ := by decide +kernel
theorem pd_14 : parseMethodDescriptor "(II)I" = some ⟨[.int, .int], some .int⟩ := by decide +kernel
theorem pd_15 : parseMethodDescriptor "([BII)[B" = some ⟨[(.array .byte), .int, .int], some (.array .byte)⟩ := by decide +kernel
theorem pd_16 : parseMethodDescriptor "(Ljava/lang/AbstractStringBuilder;Ljava/lang/Void;)V" = some ⟨[(.object "java/lang/AbstractStringBuilder"), (.object "java/lang/Void")], none⟩ := by decide +kernel
theorem pd_17 : parseMethodDescriptor "(Ljava/lang/StringBuilder;)V" = some ⟨[(.object "java/lang/StringBuilder")], none⟩ := by decide +kernel
theorem pd_18 : parseMethodDescriptor "()Ljava/lang/String;" = some ⟨[], some (.object "java/lang/String")⟩ := by decide +kernel
theorem pn_4 : plainName "com/example/lazo/lazo/UnsupportedOperationPinLaw" = true := by first | (simp [plainName, overriddenIn]; done) | decide +kernel
theorem pn_5 : plainName "java/lang/Throwable" = true := by first | (simp [plainName, overriddenIn]; done) | decide +kernel
theorem pn_6 : plainName "java/lang/Exception" = true := by first | (simp [plainName, overriddenIn]; done) | decide +kernel
theorem pn_7 : plainName "java/lang/RuntimeException" = true := by first | (simp [plainName, overriddenIn]; done) | decide +kernel
theorem pn_8 : plainName "java/lang/UnsupportedOperationException" = true := by first | (simp [plainName, overriddenIn]; done) | decide +kernel
theorem pn_9 : plainName "jdk/internal/util/ArraysSupport" = true := by first | (simp [plainName, overriddenIn]; done) | decide +kernel
theorem pd_19 : parseMethodDescriptor "(III)I" = some ⟨[.int, .int, .int], some .int⟩ := by decide +kernel
theorem pd_20 : parseMethodDescriptor "(I)I" = some ⟨[.int], some .int⟩ := by decide +kernel
theorem pd_21 : parseMethodDescriptor "([BI)[B" = some ⟨[(.array .byte), .int], some (.array .byte)⟩ := by decide +kernel
theorem pn_10 : plainName "com/example/lazo/lazo/Unsupported" = true := by first | (simp [plainName, overriddenIn]; done) | decide +kernel
theorem pd_22 : parseMethodDescriptor "(Ljava/lang/String;)Ljava/lang/UnsupportedOperationException;" = some ⟨[(.object "java/lang/String")], some (.object "java/lang/UnsupportedOperationException")⟩ := by decide +kernel
theorem pd_23 : parseMethodDescriptor "(Ljava/lang/Object;)Z" = some ⟨[(.object "java/lang/Object")], some .boolean⟩ := by decide +kernel

def Str (V : Vw) (h : Heap) (m : Nat) (x : Nat) (cs : List Int32) : Prop := ∃ (t : Nat) (kb : ClassId) (cd N2 : Int32) (vs : List Value), x < m ∧ t < m ∧ m ≤ h.size ∧ Exa V.Z h x "java/lang/String" ∧ Fld V.Z h x "java/lang/String" "value" "[B" (.ref t) ∧ Fld V.Z h x "java/lang/String" "coder" "B" (.int cd) ∧ Arv V.Z h t kb .byte N2 vs (.int 0) ∧ StrChars.Road.CodA cs cd N2 vs ∧ (∀ c ∈ cs, ¬ c < 0 ∧ ¬ (65535 : Int32) < c) ∧ cs.length ≤ 4000
theorem Str.ext {V : Vw} {h h' : Heap} {m : Nat} {x : Nat} {cs : List Int32} (E : Ext h h') (S : Str V h m x cs) : Str V h' m x cs := by
  obtain ⟨t, kb, cd, N2, vs, a1, a2, a3, a4, a5, a6, a7, a8⟩ := S
  exact ⟨t, kb, cd, N2, vs, a1, a2, Nat.le_trans a3 E.1, a4.ext E, a5.ext E, a6.ext E, a7.ext E, a8⟩
theorem Str.up {V : Vw} {h : Heap} {m m' : Nat} {x : Nat} {cs : List Int32} (S : Str V h m x cs) (q : m ≤ m') (r : m' ≤ h.size) : Str V h m' x cs := by
  obtain ⟨t, kb, cd, N2, vs, a1, a2, a3, a8⟩ := S
  exact ⟨t, kb, cd, N2, vs, by omega, by omega, r, a8⟩
theorem Str.keep {V : Vw} {h h' : Heap} {ws : List Addr} {m : Nat} {x : Nat} {cs : List Int32} (K : Keep h h' ws) (q : ∀ w ∈ ws, m ≤ w) (S : Str V h m x cs) : Str V h' m x cs := by
  obtain ⟨t, kb, cd, N2, vs, a1, a2, a3, a4, a5, a6, a7, a8⟩ := S
  have nx : x ∉ ws := fun z => absurd (q x z) (by omega)
  have nt : t ∉ ws := fun z => absurd (q t z) (by omega)
  exact ⟨t, kb, cd, N2, vs, a1, a2, Nat.le_trans a3 K.1, a4.keep K, a5.keep K nx, a6.keep K nx, a7.keep K nt, a8⟩
theorem Str.keepE {V : Vw} {h h' : Heap} {a : Nat} {C : String} {n m : Nat} {x : Nat} {cs : List Int32} (K : Keep h h' [a]) (E : Exa V.Z h a C) (hC : C ≠ "java/lang/String") (wi : (Jvm.Cond.instantiable C n).before V.a0 V.Z = true) (S : Str V h m x cs) : Str V h' m x cs := by
  obtain ⟨t, kb, cd, N2, vs, a1, a2, a3, a4, a5, a6, a7, a8⟩ := S
  have nx : x ∉ [a] := ninS (a4.ne E (Ne.symm hC)) nin0
  have nt : t ∉ [a] := ninS (Ne.symm (E.neArv a7 wi)) nin0
  exact ⟨t, kb, cd, N2, vs, a1, a2, Nat.le_trans a3 K.1, a4.keep K, a5.keep K nx, a6.keep K nx, a7.keep K nt, a8⟩
theorem Arr.neTy {Z : State} {h : Heap} {a b : Nat} {c d : Cell} {ty ty' : FieldType} (A : RoadKit.Arr Z h a c ty) (D : RoadKit.Arr Z h b d ty') (q : ty ≠ ty') : a ≠ b := fun e => by
  subst e
  cases A.1.symm.trans D.1
  obtain ⟨-, k1, h1, c1, g1⟩ := A.2.1
  obtain ⟨-, k2, h2, c2, g2⟩ := D.2.1
  cases h1.symm.trans h2
  rw [g1] at g2
  injection g2 with _ g3
  exact q g3
theorem Str.keepA {V : Vw} {h h' : Heap} {a : Nat} {k : ClassId} {ty : FieldType} {z : Int32} {us : List Value} {dv : Value} {n m : Nat} {x : Nat} {cs : List Int32} (K : Keep h h' [a]) (A : Arv V.Z h a k ty z us dv) (hty : ty ≠ .byte) (wi : (Jvm.Cond.instantiable "java/lang/String" n).before V.a0 V.Z = true) (S : Str V h m x cs) : Str V h' m x cs := by
  obtain ⟨t, kb, cd, N2, vs, a1, a2, a3, a4, a5, a6, a7, a8⟩ := S
  have nx : x ∉ [a] := ninS (a4.neArv A wi) nin0
  have nt : t ∉ [a] := ninS (fun e => by obtain ⟨c1, A1, -⟩ := A; obtain ⟨c2, A2, -⟩ := a7; exact Arr.neTy A1 A2 hty e.symm) nin0
  exact ⟨t, kb, cd, N2, vs, a1, a2, Nat.le_trans a3 K.1, a4.keep K, a5.keep K nx, a6.keep K nx, a7.keep K nt, a8⟩
theorem Str.exa {V : Vw} {h : Heap} {m : Nat} {x : Nat} {cs : List Int32} (S : Str V h m x cs) : Exa V.Z h x "java/lang/String" := by
  obtain ⟨t, kb, cd, N2, vs, a1, a2, a3, a4, -⟩ := S; exact a4
theorem Str.lt {V : Vw} {h : Heap} {m : Nat} {x : Nat} {cs : List Int32} (S : Str V h m x cs) : x < m ∧ m ≤ h.size := by
  obtain ⟨t, kb, cd, N2, vs, a1, a2, a3, a4, -⟩ := S; exact ⟨a1, a3⟩
theorem up16 {cs : List Int32} (h : ∀ c ∈ cs, By c) : ∀ c ∈ cs, ¬ c < 0 ∧ ¬ (65535 : Int32) < c := fun c hc => ⟨(h c hc).1, fun q => (h c hc).2 (by
  rw [Int32.lt_iff_toInt_lt] at q ⊢; have e1 : (65535 : Int32).toInt = 65535 := rfl; have e2 : (255 : Int32).toInt = 255 := rfl; omega)⟩

def Qsm (q : Prop) (h0 : Heap) : Qt := fun v h _ => ∃ b : Int32, v = some (.int b) ∧ h = h0 ∧ (b = 1 ∧ q ∨ b = 0 ∧ ¬ q)
theorem bt {b : Int32} {q : Prop} (h : b = 1 ∧ q ∨ b = 0 ∧ ¬ q) (c : ¬ b = 0) : q := h.elim (fun x => x.2) (fun x => absurd x.1 c)
theorem bf {b : Int32} {q : Prop} (h : b = 1 ∧ q ∨ b = 0 ∧ ¬ q) (c : b = 0) : ¬ q := h.elim (fun x => absurd (x.1.symm.trans c) (by decide)) (fun x => x.2)
theorem beq {b c : Int32} {q r : Prop} (h : b = 1 ∧ q ∨ b = 0 ∧ ¬ q) (k : c = 1 ∧ r ∨ c = 0 ∧ ¬ r) (e : q ↔ r) : b = c := by
  rcases h with ⟨rfl, x⟩ | ⟨rfl, x⟩ <;> rcases k with ⟨rfl, y⟩ | ⟨rfl, y⟩ <;> first | rfl | exact absurd (e.mp x) y | exact absurd (e.mpr y) x
theorem bnar {b : Int32} {q : Prop} (h : b = 1 ∧ q ∨ b = 0 ∧ ¬ q) : RoadKit.nar .boolean b = b := by rcases h with ⟨rfl, x⟩ | ⟨rfl, x⟩ <;> rfl
def Qmk (V : Vw) (cs : List Int32) (h0 : Heap) : Qt := fun v h _ => ∃ x : Nat, v = some (.ref x) ∧ Ext h0 h ∧ Str V h h.size x cs
theorem Keep.ext0 {h h1 h2 : Heap} {ws : List Addr} (E : Ext h h1) (K : Keep h1 h2 ws) (q : ∀ w ∈ ws, h.size ≤ w) : Ext h h2 := ⟨Nat.le_trans E.1 K.1, fun a c hc => K.2.1 a c (E.2 a c hc) fun z => absurd (Array.getElem?_eq_some_iff.mp hc).1 (Nat.not_lt.mpr (q a z))⟩
theorem Ext.wr0 {h h1 h2 : Heap} {a : Nat} {j : Nat} {v : Value} (E : Ext h h1) (W : Wr h1 h2 a j v) (q : h.size ≤ a) : Ext h h2 := Keep.ext0 E (Keep.of_wr W) (fun w hw => by cases List.mem_singleton.mp hw; exact q)
theorem Ext.refl0 (h : Heap) : Ext h h := ⟨Nat.le_refl _, fun _ _ q => q⟩
theorem nby {c : Int32} (h : By c) : RoadKit.nar .char c = c := by
  have f := c_i2c c
  obtain ⟨a, b⟩ := h
  rw [Int32.lt_iff_toInt_lt] at a b
  have e0 : (0 : Int32).toInt = 0 := rfl
  have e1 : (255 : Int32).toInt = 255 := rfl
  show c.toUInt32.toUInt16.toUInt32.toInt32 = c
  rw [← Int32.toInt_inj]; omega
theorem by0 : ∀ c ∈ ([] : List Int32), By c := fun _ q => nomatch q
theorem by1 {a : Int32} (h : By a) : ∀ c ∈ [a], By c := fun c hc => by cases List.mem_singleton.mp hc; exact h
theorem byS {a : Int32} {l : List Int32} (h : By a) (t : ∀ c ∈ l, By c) : ∀ c ∈ a :: l, By c := fun c hc => by rcases List.mem_cons.mp hc with rfl | hc; exact h; exact t c hc
def Qn (V : Vw) (x : Nat) (cs : List Int32) (h0 : Heap) : Qt := fun v h _ => v = none ∧ Keep h0 h [x] ∧ Str V h h.size x cs
theorem wds (V : Vw) (hw : ∀ d ∈ tables_1, d.before V.a0 V.Z = true) (ws : List Jvm.Cond) (h : ∀ d ∈ ws, d ∈ tables_1) : ∀ d ∈ ws, d.before V.a0 V.Z = true := fun d hd => hw d (h d hd)
theorem pay_newN (V : Vw) (hw : ∀ d ∈ tables_1, d.before V.a0 V.Z = true) (K : Cx) (B : Bx) (W : Nat) (x b : Nat) (kC : ClassId) (cs : List Int32) (N : Int32) (h : Heap) (ps : List Addr) (d v0 c0 : Value) (zx : V.Z.heap.size ≤ x) (zh : V.Z.heap.size ≤ h.size) (E : Exa V.Z h x "java/lang/String") (Fv : Fld V.Z h x "java/lang/String" "value" "[B" v0) (Fc : Fld V.Z h x "java/lang/String" "coder" "B" c0) (A : Arv V.Z h b kC .char N (cs.map Value.int) d) (O : Ext V.Z.heap h) (cz : Int32) (hCS : Sta V.Z V.Z.heap "java/lang/String" "COMPACT_STRINGS" "Z" (.int cz)) (hcz : ¬ cz = 0) (hN : N = Int32.ofNat cs.length) (l0 : 0 < cs.length) (l2 : cs.length ≤ 4000) (hp : ∀ c ∈ cs, By c) (hxp : x ∈ ps) (hfr : 4 ≤ B.R.frames) (hlo : W + 65 ≤ B.R.locals) :
    Pays V K B (⟨"java/lang/String", "<init>", "([C)V"⟩ : MethodName) 3 W #[.ref x, .ref b] h ps 1 cs.length (Qn V x cs h) :=
  Pays.back (ws := [x]) (fun s hZ => StrChars.Road.backV (W := W) hZ (wds V hw _ (by decide +kernel)) (kI := 4) (wd hw 2 rfl) (cs := cs) (bs := cs.map (fun c => c.toInt8.toInt32)) (n := cs.length) zx zh E Fv Fc A (hCS.ext O) hcz rfl hN l0 l2 hp rfl hfr hlo)
    (fun v h' L q => by
      obtain ⟨q1, q2, q3, q4, q5, t, kb, q6, q7, q8, q9, q10⟩ := q
      exact ⟨q2, q3, q1, q3, t, kb, 0, N, _, q4.lt, q10.lt, Nat.le_refl _, q4, q9, q5, q10, Or.inl ⟨rfl, hN, by simp [List.map_map, Function.comp_def, StrChars.lo8], fun c hc => (hp c hc).2⟩, up16 hp, l2⟩)
    (by simpa using zx) (fun vm al P y hy => by cases List.mem_singleton.mp hy; exact (P _ hxp).2)
theorem satoms (V : Vw) (hw : ∀ d ∈ tables_1, d.before V.a0 V.Z = true) : ∀ a ∈ Bundle.stringAtoms, a.before V.a0 V.Z = true := wds V hw _ (by decide +kernel)
theorem d0_0 : decode jdk_42_method_149_code 0 = .ok (.aload_n 0, 1) := by decide +kernel
theorem d0_1 : decode jdk_42_method_149_code 1 = .ok (.invokespecial 1, 3) := by decide +kernel
theorem d0_4 : decode jdk_42_method_149_code 4 = .ok (.iload_n 3, 1) := by decide +kernel
theorem d0_5 : decode jdk_42_method_149_code 5 = .ok (.ifCond .ne 22, 3) := by decide +kernel
theorem d0_8 : decode jdk_42_method_149_code 8 = .ok (.aload_n 0, 1) := by decide +kernel
theorem d0_9 : decode jdk_42_method_149_code 9 = .ok (.ldc 7, 2) := by decide +kernel
theorem d0_11 : decode jdk_42_method_149_code 11 = .ok (.getfield 9, 3) := by decide +kernel
theorem d0_14 : decode jdk_42_method_149_code 14 = .ok (.putfield 9, 3) := by decide +kernel
theorem d0_17 : decode jdk_42_method_149_code 17 = .ok (.aload_n 0, 1) := by decide +kernel
theorem d0_18 : decode jdk_42_method_149_code 18 = .ok (.ldc 7, 2) := by decide +kernel
theorem d0_20 : decode jdk_42_method_149_code 20 = .ok (.getfield 15, 3) := by decide +kernel
theorem d0_23 : decode jdk_42_method_149_code 23 = .ok (.putfield 15, 3) := by decide +kernel
theorem d0_26 : decode jdk_42_method_149_code 26 = .ok (.return_, 1) := by decide +kernel
theorem d0_27 : decode jdk_42_method_149_code 27 = .ok (.getstatic 38, 3) := by decide +kernel
theorem d0_30 : decode jdk_42_method_149_code 30 = .ok (.ifCond .eq 28, 3) := by decide +kernel
theorem d0_33 : decode jdk_42_method_149_code 33 = .ok (.aload_n 1, 1) := by decide +kernel
theorem d0_34 : decode jdk_42_method_149_code 34 = .ok (.iload_n 2, 1) := by decide +kernel
theorem d0_35 : decode jdk_42_method_149_code 35 = .ok (.iload_n 3, 1) := by decide +kernel
theorem d0_36 : decode jdk_42_method_149_code 36 = .ok (.invokestatic 177, 3) := by decide +kernel
theorem d0_39 : decode jdk_42_method_149_code 39 = .ok (.astore 5, 2) := by decide +kernel
theorem d0_41 : decode jdk_42_method_149_code 41 = .ok (.aload_n 0, 1) := by decide +kernel
theorem d0_42 : decode jdk_42_method_149_code 42 = .ok (.aload 5, 2) := by decide +kernel
theorem d0_44 : decode jdk_42_method_149_code 44 = .ok (.iload_n 3, 1) := by decide +kernel
theorem d0_45 : decode jdk_42_method_149_code 45 = .ok (.invokestatic 47, 3) := by decide +kernel
theorem d0_48 : decode jdk_42_method_149_code 48 = .ok (.putfield 15, 3) := by decide +kernel
theorem d0_51 : decode jdk_42_method_149_code 51 = .ok (.aload_n 0, 1) := by decide +kernel
theorem d0_52 : decode jdk_42_method_149_code 52 = .ok (.aload 5, 2) := by decide +kernel
theorem d0_54 : decode jdk_42_method_149_code 54 = .ok (.putfield 9, 3) := by decide +kernel
theorem d0_57 : decode jdk_42_method_149_code 57 = .ok (.return_, 1) := by decide +kernel
theorem d0_58 : decode jdk_42_method_149_code 58 = .ok (.aload_n 0, 1) := by decide +kernel
theorem d0_59 : decode jdk_42_method_149_code 59 = .ok (.iconst 1, 1) := by decide +kernel
theorem d0_60 : decode jdk_42_method_149_code 60 = .ok (.putfield 15, 3) := by decide +kernel
theorem d0_63 : decode jdk_42_method_149_code 63 = .ok (.aload_n 0, 1) := by decide +kernel
theorem d0_64 : decode jdk_42_method_149_code 64 = .ok (.aload_n 1, 1) := by decide +kernel
theorem d0_65 : decode jdk_42_method_149_code 65 = .ok (.iload_n 2, 1) := by decide +kernel
theorem d0_66 : decode jdk_42_method_149_code 66 = .ok (.iload_n 3, 1) := by decide +kernel
theorem d0_67 : decode jdk_42_method_149_code 67 = .ok (.invokestatic 180, 3) := by decide +kernel
theorem d0_70 : decode jdk_42_method_149_code 70 = .ok (.putfield 9, 3) := by decide +kernel
theorem d0_73 : decode jdk_42_method_149_code 73 = .ok (.return_, 1) := by decide +kernel
abbrev b_new4 : Bx := (⟨"java/lang/String", "<init>", "([CIILjava/lang/Void;)V"⟩, jdk_42_method_149_code, 6, none, { frames := 1, cells := 4, slots := 8, locals := 24 })
theorem c_new4e (V : Vw) (hw : ∀ d ∈ tables_1, d.before V.a0 V.Z = true) (hm : ("java/lang/String", 7) ∈ V.EL) (hn : V.nar = false) (x b : Nat) (h : Heap) (ps : List Addr) (zx : V.Z.heap.size ≤ x) (hxp : x ∈ ps) (E : Exa V.Z h x "java/lang/String") (Fv : Fld V.Z h x "java/lang/String" "value" "[B" .null) (Fc : Fld V.Z h x "java/lang/String" "coder" "B" (.int 0)) : Con V b_new4 #[.ref x, .ref b, .int 0, .int 0, .null] h ps (Qn V x [] h) := Con.of (plainFor_of_name pn_0) (L := [.val (.ref x), .val (.ref b), .val (.int (0 : Int32)), .val (.int (0 : Int32)), .val (.null), .unset]) rfl fun K => by
  have lx := ltN E.lt
  refine r_aloadN 1 rfl d0_0 rfl rfl ?_
  refine r_initO 0 4 rfl d0_1 (wd hw 11 rfl) (wd hw 12 rfl) (wd hw 13 rfl) rfl (by decide) (Nat.le_of_eq rfl) (by decide) ?_
  refine r_iloadN 5 rfl d0_4 rfl ?_
  refine r_if_ne 27 8 d0_5 (by decide) rfl rfl (fun c1 => ?_) (fun c1 => ?_)
  · exact absurd rfl c1
  refine r_aloadN 9 rfl d0_8 rfl rfl ?_
  refine r_ldcS [] (0 : Int32) 0 11 rfl d0_9 (wd hw 14 rfl) (satoms V hw) hm hn (by decide) (by decide) rfl (by decide) (by decide) (by decide) (by decide) fun a2 b3 k4 h5 Eh5 Xh5 Ch5 Yh5 Ah5 Nh5 => ?_
  have f6 := Exa.ext Eh5 E
  have f7 := Fld.ext Eh5 Fv
  have f8 := Fld.ext Eh5 Fc
  have sh5 := Eh5.1
  have la2 := ltN Xh5.lt
  have lb3 := ltN Ah5.lt
  have n1xh5 := neN (Nh5 _ hxp).1
  have n2xh5 := neN (Nh5 _ hxp).2
  refine r_getfield 14 rfl d0_11 (wd hw 20 rfl) Yh5 ?_
  refine r_putfield 17 rfl d0_14 (wd hw 20 rfl) f7 f6 (Or.inr ⟨wd hw 16 rfl, rfl, rfl⟩) (wd hw 2 rfl) (ty := (.array .byte)) (by decide) rfl rfl zx (Or.inr hxp) fun h9 Wh9 => ?_
  have sh9 := Wh9.size
  have f10 := Exa.wr Wh9 f6
  have f11 := Fld.same Wh9 f7
  have f12 := Fld.other Wh9 f8 (Or.inr (slot_ne (C := "java/lang/String") (Or.inr (wd hw 17 rfl)) (Or.inr (wd hw 16 rfl)) (by decide) (t := .byte) (by decide) (t' := (.array .byte)) (by decide)))
  have f13 := Exa.wr Wh9 Xh5
  have f14 := Fld.other Wh9 Ch5 (Or.inl (neA (by omega)))
  have f15 := Fld.other Wh9 Yh5 (Or.inl (neA (by omega)))
  have f16 := Arv.other Ah5 Wh9 (neA (by omega))
  refine r_aloadN 18 rfl d0_17 rfl rfl ?_
  refine r_ldcS [] (0 : Int32) 0 20 rfl d0_18 (wd hw 14 rfl) (satoms V hw) hm hn (by decide) (by decide) rfl (by decide) (by decide) (by decide) (by decide) fun a17 b18 k19 h20 Eh20 Xh20 Ch20 Yh20 Ah20 Nh20 => ?_
  have f21 := Exa.ext Eh20 f10
  have f22 := Fld.ext Eh20 f11
  have f23 := Fld.ext Eh20 f12
  have f24 := Exa.ext Eh20 f13
  have f25 := Fld.ext Eh20 f14
  have f26 := Fld.ext Eh20 f15
  have f27 := f16.ext Eh20
  have sh20 := Eh20.1
  have la17 := ltN Xh20.lt
  have lb18 := ltN Ah20.lt
  have n1xh20 := neN (Nh20 _ hxp).1
  have n2xh20 := neN (Nh20 _ hxp).2
  refine r_getfield 23 rfl d0_20 (wd hw 21 rfl) Ch20 ?_
  refine r_putfield 26 rfl d0_23 (wd hw 21 rfl) f23 f21 (Or.inr ⟨wd hw 17 rfl, rfl, rfl⟩) (wd hw 2 rfl) (ty := .byte) (by decide) (by decide) (by decide) zx (Or.inr hxp) fun h28 Wh28 => ?_
  have sh28 := Wh28.size
  have f29 := Exa.wr Wh28 f21
  have f30 := Fld.other Wh28 f22 (Or.inr (slot_ne (C := "java/lang/String") (Or.inr (wd hw 16 rfl)) (Or.inr (wd hw 17 rfl)) (by decide) (t := (.array .byte)) (by decide) (t' := .byte) (by decide)))
  have f31 := Fld.same Wh28 f23
  have f32 := Exa.wr Wh28 f24
  have f33 := Fld.other Wh28 f25 (Or.inl (neA (by omega)))
  have f34 := Fld.other Wh28 f26 (Or.inl (neA (by omega)))
  have f35 := Arv.other f27 Wh28 (neA (by omega))
  have f36 := Exa.wr Wh28 Xh20
  have f37 := Fld.other Wh28 Ch20 (Or.inl (neA (by omega)))
  have f38 := Fld.other Wh28 Yh20 (Or.inl (neA (by omega)))
  have f39 := Arv.other Ah20 Wh28 (neA (by omega))
  have KK : Keep h h28 [x] := ((((Keep.refl _ _).ext Eh5).wr Wh9 (Or.inl (by simp))).ext Eh20).wr Wh28 (Or.inl (by simp))
  refine r_ret rfl d0_26 (by decide) (by decide) [] (fun _ q => nomatch q) ?_
  exact ⟨rfl, KK, b3, _, 0, 0, [], f29.lt, f35.lt, Nat.le_refl _, f29, f30, f31, f35, Or.inl ⟨rfl, rfl, rfl, fun _ q => nomatch q⟩, (fun _ q => nomatch q), by decide⟩
theorem d1_0 : decode jdk_42_method_3_code 0 = .ok (.aload_n 0, 1) := by decide +kernel
theorem d1_1 : decode jdk_42_method_3_code 1 = .ok (.aload_n 1, 1) := by decide +kernel
theorem d1_2 : decode jdk_42_method_3_code 2 = .ok (.iconst 0, 1) := by decide +kernel
theorem d1_3 : decode jdk_42_method_3_code 3 = .ok (.aload_n 1, 1) := by decide +kernel
theorem d1_4 : decode jdk_42_method_3_code 4 = .ok (.arraylength, 1) := by decide +kernel
theorem d1_5 : decode jdk_42_method_3_code 5 = .ok (.aconst_null, 1) := by decide +kernel
theorem d1_6 : decode jdk_42_method_3_code 6 = .ok (.invokespecial 27, 3) := by decide +kernel
theorem d1_9 : decode jdk_42_method_3_code 9 = .ok (.return_, 1) := by decide +kernel
abbrev b_new1 : Bx := (⟨"java/lang/String", "<init>", "([C)V"⟩, jdk_42_method_3_code, 2, none, { frames := 2, cells := 4, slots := 8, locals := 44 })
theorem c_new1e (V : Vw) (hw : ∀ d ∈ tables_1, d.before V.a0 V.Z = true) (hm : ("java/lang/String", 7) ∈ V.EL) (hn : V.nar = false) (x b : Nat) (kC : ClassId) (vs : List Value) (d : Value) (h : Heap) (ps : List Addr) (zx : V.Z.heap.size ≤ x) (hxp : x ∈ ps) (E : Exa V.Z h x "java/lang/String") (Fv : Fld V.Z h x "java/lang/String" "value" "[B" .null) (Fc : Fld V.Z h x "java/lang/String" "coder" "B" (.int 0)) (A : Arv V.Z h b kC .char 0 vs d) : Con V b_new1 #[.ref x, .ref b] h ps (Qn V x [] h) := Con.of (plainFor_of_name pn_0) (L := [.val (.ref x), .val (.ref b)]) rfl fun K => by
  refine r_aloadN 1 rfl d1_0 rfl rfl ?_
  refine r_aloadN 2 rfl d1_1 rfl rfl ?_
  refine r_iconst (0 : Int32) 3 rfl d1_2 rfl ?_
  refine r_aloadN 4 rfl d1_3 rfl rfl ?_
  refine r_arraylength 5 rfl d1_4 A ?_
  refine r_null 6 rfl d1_5 ?_
  refine r_special 9 rfl d1_6 rfl (wd hw 7 rfl) (wd hw 8 rfl) (wd hw 10 rfl) (by decide) (Pays.con (K := K) (B := b_new1) (c_new4e V hw hm hn x b h _ zx hxp E Fv Fc) (wd hw 10 rfl) (wd hw 3 rfl) (by decide) (by decide)) (W := 0) (argsL := [.ref b, .int (0 : Int32), .int (0 : Int32), .null]) (lenOf pd_0 rfl) rfl rfl rfl (Nat.le_of_eq rfl) (Nat.le_of_ble_eq_true rfl) (Nat.le_of_ble_eq_true rfl) fun v43 h44 ps40 q42 z41 => ?_
  obtain ⟨rfl, K1, S1⟩ := q42
  show Own.Run V K b_new1 _ h44 _ 4 8 9 [.val (.ref x), .val (.ref b)] []
  refine r_ret rfl d1_9 (by decide) (by decide) [] (fun _ q => nomatch q) ?_
  exact ⟨rfl, K1, S1⟩
theorem pay_newE (V : Vw) (hw : ∀ d ∈ tables_1, d.before V.a0 V.Z = true) (K : Cx) (B : Bx) (W : Nat) (hm : ("java/lang/String", 7) ∈ V.EL) (hn : V.nar = false) (x b : Nat) (kC : ClassId) (vs : List Value) (d : Value) (h : Heap) (ps : List Addr) (zx : V.Z.heap.size ≤ x) (hxp : x ∈ ps) (E : Exa V.Z h x "java/lang/String") (Fv : Fld V.Z h x "java/lang/String" "value" "[B" .null) (Fc : Fld V.Z h x "java/lang/String" "coder" "B" (.int 0)) (A : Arv V.Z h b kC .char 0 vs d) (hfr : 3 ≤ B.R.frames) (hlo : W + 57 ≤ B.R.locals) :
    Pays V K B (⟨"java/lang/String", "<init>", "([C)V"⟩ : MethodName) 3 W #[.ref x, .ref b] h ps 4 8 (Qn V x [] h) := Pays.con (B' := b_new1) (c_new1e V hw hm hn x b kC vs d h ps zx hxp E Fv Fc A) (wd hw 6 rfl) (wd hw 3 rfl) hfr (by show W + (2 + 11) + 44 ≤ _; omega)
theorem pay_len (V : Vw) (hw : ∀ d ∈ tables_1, d.before V.a0 V.Z = true) (K : Cx) (B : Bx) (W : Nat) (x : Nat) (m : Nat) (cs : List Int32) (h : Heap) (ps : List Addr) (S : Str V h m x cs) (O : Ext V.Z.heap h) (cz : Int32) (hCS : Sta V.Z V.Z.heap "java/lang/String" "COMPACT_STRINGS" "Z" (.int cz)) (hcz : ¬ cz = 0) (hfr : 2 ≤ B.R.frames) (hlo : W + 25 ≤ B.R.locals) : Pays V K B (⟨"java/lang/String", "length", "()I"⟩ : MethodName) 3 W #[.ref x] h ps 0 0 (fun v h' _ => v = some (.int (Int32.ofNat cs.length)) ∧ h' = h) := by
  obtain ⟨t, kb, cd, N2, vs, a1, a2, a3, a4, a5, a6, a7, a8, a9, a10⟩ := S
  exact Pays.back (ws := []) (Q0 := fun v h' L => v = some (.int (Int32.ofNat cs.length)) ∧ L = [] ∧ h' = h) (fun s hZ => StrChars.Road.lenW (W := W) hZ (wds V hw _ (by decide +kernel)) (kI := 4) (wd hw 2 rfl) a4 a5 a6 a7 a8 a9 (hCS.ext O) hcz a10 hfr hlo) (fun v h' L q => ⟨by rw [q.2.1]; exact Fr.nil _, by rw [q.2.2]; exact Keep.refl _ _, q.1, q.2.2⟩) all0 (fun vm al P => all0)
theorem pay_eq (V : Vw) (hw : ∀ d ∈ tables_1, d.before V.a0 V.Z = true) (K : Cx) (B : Bx) (W : Nat) (x y : Nat) (m m' : Nat) (cs ds : List Int32) (h : Heap) (ps : List Addr) (S : Str V h m x cs) (S' : Str V h m' y ds) (O : Ext V.Z.heap h) (cz : Int32) (hCS : Sta V.Z V.Z.heap "java/lang/String" "COMPACT_STRINGS" "Z" (.int cz)) (hcz : ¬ cz = 0) (hfr : 2 ≤ B.R.frames) (hlo : W + 28 ≤ B.R.locals) : Pays V K B (⟨"java/lang/String", "equals", "(Ljava/lang/Object;)Z"⟩ : MethodName) 3 W #[.ref x, .ref y] h ps 0 0 (Qsm (cs = ds) h) := by
  obtain ⟨t, kb, cd, N2, vs, a1, a2, a3, a4, a5, a6, a7, a8, a9, a10⟩ := S
  obtain ⟨t', kb', cd', N2', vs', b1, b2, b3, b4, b5, b6, b7, b8, b9, b10⟩ := S'
  exact Pays.back (ws := []) (Q0 := fun v h' L => ((v = some (.int 1) ∧ cs = ds) ∨ (v = some (.int 0) ∧ ¬ cs = ds)) ∧ L = [] ∧ h' = h) (fun s hZ => StrChars.Road.eqW (W := W) hZ (wds V hw _ (by decide +kernel)) (kI := 4) (wd hw 2 rfl) a4 a5 a6 a7 a8 a9 a10 b4 b5 b6 b7 b8 b9 b10 (hCS.ext O) hcz hfr hlo) (fun v h' L q => ⟨by rw [q.2.1]; exact Fr.nil _, by rw [q.2.2]; exact Keep.refl _ _, q.1.elim (fun z => ⟨1, z.1, q.2.2, Or.inl ⟨rfl, z.2⟩⟩) (fun z => ⟨0, z.1, q.2.2, Or.inr ⟨rfl, z.2⟩⟩)⟩) all0 (fun vm al P => all0)
theorem ofN_nat {n : Nat} (h : n < 2 ^ 31) : (Int32.ofNat n).toNatClampNeg = n := by
  have q : (Int32.ofNat n).toInt = n := Int32.toInt_ofNat_small h
  simp only [Int32.toNatClampNeg, q]; omega
theorem ofN_lt {n k : Nat} (h : n < 2 ^ 31) (g : k < 2 ^ 31) : Int32.ofNat n < Int32.ofNat k ↔ n < k := by
  have q : (Int32.ofNat n).toInt = n := Int32.toInt_ofNat_small h
  have r : (Int32.ofNat k).toInt = k := Int32.toInt_ofNat_small g
  rw [Int32.lt_iff_toInt_lt, q, r]; omega
theorem ofN_nn {n : Nat} (h : n < 2 ^ 31) : ¬ Int32.ofNat n < 0 := by
  have q : (Int32.ofNat n).toInt = n := Int32.toInt_ofNat_small h
  rw [Int32.lt_iff_toInt_lt, q]; have : (0 : Int32).toInt = 0 := rfl; omega
theorem ofN_s (n : Nat) : Int32.ofNat n + 1 = Int32.ofNat (n + 1) := (Int32.ofNat_add n 1).symm
theorem by_int {x : Int32} (h : By x) : 0 ≤ x.toInt ∧ x.toInt ≤ 255 := by
  obtain ⟨a, b⟩ := h
  rw [Int32.lt_iff_toInt_lt] at a b
  have e0 : (0 : Int32).toInt = 0 := rfl
  have e1 : (255 : Int32).toInt = 255 := rfl
  omega
theorem lo8_by {x y : Int32} (hx : By x) (hy : By y) (e : x.toInt8.toInt32 = y.toInt8.toInt32) : x = y := by
  have a := c_i2b x
  have b := c_i2b y
  have c := by_int hx
  have d := by_int hy
  rw [e] at a
  rw [← Int32.toInt_inj]; omega
theorem vsGet (cs : List Int32) (i : Nat) (h : i < cs.length) : ((cs.map fun c => Value.int (StrChars.lo8 c))).getD i (.int 0) = .int ((cs.getD i 0).toInt8.toInt32) := by
  simp [List.getD_eq_getElem?_getD, h, StrChars.lo8]

def Qi (z : Int32) (h0 : Heap) : Qt := fun v h _ => v = some (.int z) ∧ h = h0
def Qu (h0 : Heap) : Qt := fun v h _ => v = none ∧ h = h0

def Sb (V : Vw) (h : Heap) (s t cap : Nat) (cs : List Int32) : Prop := ∃ kb : ClassId, V.Z.heap.size ≤ s ∧ V.Z.heap.size ≤ t ∧ Exa V.Z h s "java/lang/StringBuilder" ∧ Fld V.Z h s "java/lang/AbstractStringBuilder" "value" "[B" (.ref t) ∧ Fld V.Z h s "java/lang/AbstractStringBuilder" "coder" "B" (.int 0) ∧ Fld V.Z h s "java/lang/AbstractStringBuilder" "count" "I" (.int (Int32.ofNat cs.length)) ∧ Arv V.Z h t kb .byte (Int32.ofNat cap) (cs.map fun c => Value.int (StrChars.lo8 c)) (.int 0) ∧ cs.length ≤ cap ∧ cap ≤ 4000
theorem Sb.ext {V : Vw} {h h' : Heap} {s t cap : Nat} {cs : List Int32} (E : Ext h h') (S : Sb V h s t cap cs) : Sb V h' s t cap cs := by
  obtain ⟨kb, zs, zt, X, Fv, Fc, Fn, A, r⟩ := S
  exact ⟨kb, zs, zt, X.ext E, Fv.ext E, Fc.ext E, Fn.ext E, A.ext E, r⟩
theorem Keep.wide {h h' : Heap} {ws ws' : List Addr} (K : Keep h h' ws) (q : ∀ x ∈ ws, x ∈ ws') : Keep h h' ws' := (Keep.refl h ws').trans K (fun x hx => Or.inl (q x hx))
theorem Sb.exa {V : Vw} {h : Heap} {s t cap : Nat} {cs : List Int32} (S : Sb V h s t cap cs) : Exa V.Z h s "java/lang/StringBuilder" := by
  obtain ⟨kb, zs, zt, X, r⟩ := S; exact X
theorem Sb.zt {V : Vw} {h : Heap} {s t cap : Nat} {cs : List Int32} (S : Sb V h s t cap cs) : V.Z.heap.size ≤ t := by
  obtain ⟨kb, zs, zt, X, r⟩ := S; exact zt

def Qsi (V : Vw) (s cap : Nat) (h0 : Heap) : Qt := fun v h ps => v = none ∧ ∃ t : Nat, t ∈ ps ∧ h0.size ≤ t ∧ Keep h0 h [s] ∧ Sb V h s t cap []
theorem d2_0 : decode jdk_68_method_2_code 0 = .ok (.aload_n 0, 1) := by decide +kernel
theorem d2_1 : decode jdk_68_method_2_code 1 = .ok (.invokespecial 3, 3) := by decide +kernel
theorem d2_4 : decode jdk_68_method_2_code 4 = .ok (.getstatic 18, 3) := by decide +kernel
theorem d2_7 : decode jdk_68_method_2_code 7 = .ok (.ifCond .eq 18, 3) := by decide +kernel
theorem d2_10 : decode jdk_68_method_2_code 10 = .ok (.aload_n 0, 1) := by decide +kernel
theorem d2_11 : decode jdk_68_method_2_code 11 = .ok (.iload_n 1, 1) := by decide +kernel
theorem d2_12 : decode jdk_68_method_2_code 12 = .ok (.newarray .byte, 2) := by decide +kernel
theorem d2_14 : decode jdk_68_method_2_code 14 = .ok (.putfield 15, 3) := by decide +kernel
theorem d2_17 : decode jdk_68_method_2_code 17 = .ok (.aload_n 0, 1) := by decide +kernel
theorem d2_18 : decode jdk_68_method_2_code 18 = .ok (.iconst 0, 1) := by decide +kernel
theorem d2_19 : decode jdk_68_method_2_code 19 = .ok (.putfield 22, 3) := by decide +kernel
theorem d2_22 : decode jdk_68_method_2_code 22 = .ok (.goto 16, 3) := by decide +kernel
theorem d2_25 : decode jdk_68_method_2_code 25 = .ok (.aload_n 0, 1) := by decide +kernel
theorem d2_26 : decode jdk_68_method_2_code 26 = .ok (.iload_n 1, 1) := by decide +kernel
theorem d2_27 : decode jdk_68_method_2_code 27 = .ok (.invokestatic 26, 3) := by decide +kernel
theorem d2_30 : decode jdk_68_method_2_code 30 = .ok (.putfield 15, 3) := by decide +kernel
theorem d2_33 : decode jdk_68_method_2_code 33 = .ok (.aload_n 0, 1) := by decide +kernel
theorem d2_34 : decode jdk_68_method_2_code 34 = .ok (.iconst 1, 1) := by decide +kernel
theorem d2_35 : decode jdk_68_method_2_code 35 = .ok (.putfield 22, 3) := by decide +kernel
theorem d2_38 : decode jdk_68_method_2_code 38 = .ok (.return_, 1) := by decide +kernel
abbrev b_asbi : Bx := (⟨"java/lang/AbstractStringBuilder", "<init>", "(I)V"⟩, jdk_68_method_2_code, 2, none, { frames := 1, cells := 1, slots := 34, locals := 12 })
theorem c_asbi (V : Vw) (hw : ∀ d ∈ tables_1, d.before V.a0 V.Z = true) (cz : Int32) (hCS : Sta V.Z V.Z.heap "java/lang/String" "COMPACT_STRINGS" "Z" (.int cz)) (hcz : ¬ cz = 0) (s cap : Nat) (hcap : cap ≤ 34) (h : Heap) (ps : List Addr) (zs : V.Z.heap.size ≤ s) (X : Exa V.Z h s "java/lang/StringBuilder") (Fv : Fld V.Z h s "java/lang/AbstractStringBuilder" "value" "[B" .null) (Fc : Fld V.Z h s "java/lang/AbstractStringBuilder" "coder" "B" (.int 0)) (Fn : Fld V.Z h s "java/lang/AbstractStringBuilder" "count" "I" (.int 0)) : Con V b_asbi #[.ref s, .int (Int32.ofNat cap)] h ps (Qsi V s cap h) := Con.of (plainFor_of_name pn_1) (L := [.val (.ref s), .val (.int (Int32.ofNat cap))]) rfl fun K => by
  have ls := ltN X.lt
  refine r_aloadN 1 rfl d2_0 rfl rfl ?_
  refine r_initO 0 4 rfl d2_1 (wd hw 56 rfl) (wd hw 12 rfl) (wd hw 13 rfl) rfl (by decide) (Nat.le_of_eq rfl) (by decide) ?_
  refine r_getstatic 7 rfl d2_4 (wd hw 57 rfl) hCS ?_
  refine r_if_eq 25 10 d2_7 (by decide) rfl rfl (fun c45 => ?_) (fun c45 => ?_)
  · exact absurd c45 hcz
  refine r_aloadN 11 rfl d2_10 rfl rfl ?_
  refine r_iloadN 12 rfl d2_11 rfl ?_
  refine r_newarray 34 14 rfl d2_12 (wd hw 15 rfl) (ofN_nn (by omega)) (by rw [ofN_nat (by omega)]; exact hcap) (by decide) (by decide) (by decide) fun a46 h47 k48 ga46 za46 Eh47 Aa46 => ?_
  have f49 := Exa.ext Eh47 X
  have f50 := Fld.ext Eh47 Fv
  have f51 := Fld.ext Eh47 Fc
  have f52 := Fld.ext Eh47 Fn
  have sh47 := Eh47.1
  have la46 := ltN Aa46.lt
  refine r_putfield 17 rfl d2_14 (wd hw 58 rfl) f50 f49 (Or.inl (wd hw 59 rfl)) (wd hw 45 rfl) (ty := (.array .byte)) (by decide) rfl rfl zs (Or.inl (by decide)) fun h53 Wh53 => ?_
  have sh53 := Wh53.size
  have f54 := Exa.wr Wh53 f49
  have f55 := Fld.same Wh53 f50
  have f56 := Fld.other Wh53 f51 (Or.inr (slot_ne (C := "java/lang/StringBuilder") (Or.inl (wd hw 61 rfl)) (Or.inl (wd hw 59 rfl)) (by decide) (t := .byte) (by decide) (t' := (.array .byte)) (by decide)))
  have f57 := Fld.other Wh53 f52 (Or.inr (slot_ne (C := "java/lang/StringBuilder") (Or.inl (wd hw 84 rfl)) (Or.inl (wd hw 59 rfl)) (by decide) (t := .int) (by decide) (t' := (.array .byte)) (by decide)))
  have f58 := Arv.other Aa46 Wh53 (neA (by omega))
  refine r_aloadN 18 rfl d2_17 rfl rfl ?_
  refine r_iconst (0 : Int32) 19 rfl d2_18 rfl ?_
  refine r_putfield 22 rfl d2_19 (wd hw 60 rfl) f56 f54 (Or.inl (wd hw 61 rfl)) (wd hw 45 rfl) (ty := .byte) (by decide) (by decide) (by decide) zs (Or.inl (by decide)) fun h59 Wh59 => ?_
  have sh59 := Wh59.size
  have f60 := Exa.wr Wh59 f54
  have f61 := Fld.other Wh59 f55 (Or.inr (slot_ne (C := "java/lang/StringBuilder") (Or.inl (wd hw 59 rfl)) (Or.inl (wd hw 61 rfl)) (by decide) (t := (.array .byte)) (by decide) (t' := .byte) (by decide)))
  have f62 := Fld.same Wh59 f56
  have f63 := Fld.other Wh59 f57 (Or.inr (slot_ne (C := "java/lang/StringBuilder") (Or.inl (wd hw 84 rfl)) (Or.inl (wd hw 61 rfl)) (by decide) (t := .int) (by decide) (t' := .byte) (by decide)))
  have f64 := Arv.other f58 Wh59 (neA (by omega))
  refine r_goto 38 d2_22 (by decide) rfl ?_
  refine r_ret rfl d2_38 (by decide) (by decide) [a46] (fun y hy => by cases List.mem_singleton.mp hy; simp) ?_
  exact ⟨rfl, a46, List.mem_singleton.mpr rfl, by omega, ((((Keep.refl _ _).ext Eh47).wr Wh53 (Or.inl (by simp))).wr Wh59 (Or.inl (by simp))), _, zs, za46, f60, f61, f62, f63, f64, Nat.zero_le _, by omega⟩
theorem d3_0 : decode jdk_67_method_1_code 0 = .ok (.aload_n 0, 1) := by decide +kernel
theorem d3_1 : decode jdk_67_method_1_code 1 = .ok (.bipush 16, 2) := by decide +kernel
theorem d3_3 : decode jdk_67_method_1_code 3 = .ok (.invokespecial 1, 3) := by decide +kernel
theorem d3_6 : decode jdk_67_method_1_code 6 = .ok (.return_, 1) := by decide +kernel
abbrev b_sbi : Bx := (⟨"java/lang/StringBuilder", "<init>", "()V"⟩, jdk_67_method_1_code, 1, none, { frames := 2, cells := 1, slots := 34, locals := 28 })
theorem c_sbi (V : Vw) (hw : ∀ d ∈ tables_1, d.before V.a0 V.Z = true) (cz : Int32) (hCS : Sta V.Z V.Z.heap "java/lang/String" "COMPACT_STRINGS" "Z" (.int cz)) (hcz : ¬ cz = 0) (s : Nat) (h : Heap) (ps : List Addr) (zs : V.Z.heap.size ≤ s) (X : Exa V.Z h s "java/lang/StringBuilder") (Fv : Fld V.Z h s "java/lang/AbstractStringBuilder" "value" "[B" .null) (Fc : Fld V.Z h s "java/lang/AbstractStringBuilder" "coder" "B" (.int 0)) (Fn : Fld V.Z h s "java/lang/AbstractStringBuilder" "count" "I" (.int 0)) : Con V b_sbi #[.ref s] h ps (Qsi V s 16 h) := Con.of (plainFor_of_name pn_2) (L := [.val (.ref s)]) rfl fun K => by
  refine r_aloadN 1 rfl d3_0 rfl rfl ?_
  refine r_bipush (16 : Int32) 3 rfl d3_1 rfl ?_
  refine r_special 6 rfl d3_3 rfl (wd hw 50 rfl) (wd hw 51 rfl) (wd hw 55 rfl) (by decide) (Pays.con (K := K) (B := b_sbi) (c_asbi V hw cz hCS hcz s 16 (by decide) h _ zs X Fv Fc Fn) (wd hw 55 rfl) (wd hw 54 rfl) (by decide) (by decide)) (W := 0) (argsL := [.int (16 : Int32)]) (lenOf pd_2 rfl) rfl rfl rfl (Nat.le_of_eq rfl) (Nat.le_of_ble_eq_true rfl) (Nat.le_of_ble_eq_true rfl) fun v67 h68 psx q66 z65 => ?_
  obtain ⟨rfl, t, ht, lt, K1, S1⟩ := q66
  show Own.Run V K b_sbi _ h68 _ 1 34 6 [.val (.ref s)] []
  refine r_ret rfl d3_6 (by decide) (by decide) psx (fun y hy => List.mem_append_left _ hy) ?_
  exact ⟨rfl, t, ht, lt, K1, S1⟩
theorem d4_0 : decode jdk_68_method_9_code 0 = .ok (.aload_n 0, 1) := by decide +kernel
theorem d4_1 : decode jdk_68_method_9_code 1 = .ok (.getfield 15, 3) := by decide +kernel
theorem d4_4 : decode jdk_68_method_9_code 4 = .ok (.arraylength, 1) := by decide +kernel
theorem d4_5 : decode jdk_68_method_9_code 5 = .ok (.aload_n 0, 1) := by decide +kernel
theorem d4_6 : decode jdk_68_method_9_code 6 = .ok (.getfield 22, 3) := by decide +kernel
theorem d4_9 : decode jdk_68_method_9_code 9 = .ok (.ishr, 1) := by decide +kernel
theorem d4_10 : decode jdk_68_method_9_code 10 = .ok (.istore_n 2, 1) := by decide +kernel
theorem d4_11 : decode jdk_68_method_9_code 11 = .ok (.iload_n 1, 1) := by decide +kernel
theorem d4_12 : decode jdk_68_method_9_code 12 = .ok (.iload_n 2, 1) := by decide +kernel
theorem d4_13 : decode jdk_68_method_9_code 13 = .ok (.isub, 1) := by decide +kernel
theorem d4_14 : decode jdk_68_method_9_code 14 = .ok (.ifCond .le 24, 3) := by decide +kernel
theorem d4_17 : decode jdk_68_method_9_code 17 = .ok (.aload_n 0, 1) := by decide +kernel
theorem d4_18 : decode jdk_68_method_9_code 18 = .ok (.aload_n 0, 1) := by decide +kernel
theorem d4_19 : decode jdk_68_method_9_code 19 = .ok (.getfield 15, 3) := by decide +kernel
theorem d4_22 : decode jdk_68_method_9_code 22 = .ok (.aload_n 0, 1) := by decide +kernel
theorem d4_23 : decode jdk_68_method_9_code 23 = .ok (.iload_n 1, 1) := by decide +kernel
theorem d4_24 : decode jdk_68_method_9_code 24 = .ok (.invokevirtual 104, 3) := by decide +kernel
theorem d4_27 : decode jdk_68_method_9_code 27 = .ok (.aload_n 0, 1) := by decide +kernel
theorem d4_28 : decode jdk_68_method_9_code 28 = .ok (.getfield 22, 3) := by decide +kernel
theorem d4_31 : decode jdk_68_method_9_code 31 = .ok (.ishl, 1) := by decide +kernel
theorem d4_32 : decode jdk_68_method_9_code 32 = .ok (.invokestatic 108, 3) := by decide +kernel
theorem d4_35 : decode jdk_68_method_9_code 35 = .ok (.putfield 15, 3) := by decide +kernel
theorem d4_38 : decode jdk_68_method_9_code 38 = .ok (.return_, 1) := by decide +kernel
abbrev b_ens : Bx := (⟨"java/lang/AbstractStringBuilder", "ensureCapacityInternal", "(I)V"⟩, jdk_68_method_9_code, 3, none, { frames := 0, cells := 0, slots := 0, locals := 0 })
theorem c_ens (V : Vw) (hw : ∀ d ∈ tables_1, d.before V.a0 V.Z = true) (n : Nat) (s t cap : Nat) (cs : List Int32) (h : Heap) (ps : List Addr) (S : Sb V h s t cap cs) (hn : n ≤ cap) : Con V b_ens #[.ref s, .int (Int32.ofNat n)] h ps (Qu h) := Con.of (plainFor_of_name pn_1) (L := [.val (.ref s), .val (.int (Int32.ofNat n)), .unset]) rfl fun K => by
  obtain ⟨kb, zs, zt, X, Fv, Fc, Fn, A, lc, lcap⟩ := id S
  refine r_aloadN 1 rfl d4_0 rfl rfl ?_
  refine r_getfield 4 rfl d4_1 (wd hw 58 rfl) Fv ?_
  refine r_arraylength 5 rfl d4_4 A ?_
  refine r_aloadN 6 rfl d4_5 rfl rfl ?_
  refine r_getfield 9 rfl d4_6 (wd hw 60 rfl) Fc ?_
  refine r_ishr 10 rfl d4_9 ?_
  rw [shr0]
  refine r_istoreN [.val (.ref s), .val (.int (Int32.ofNat n)), .val (.int (Int32.ofNat cap))] 11 rfl d4_10 rfl ?_
  refine r_iloadN 12 rfl d4_11 rfl ?_
  refine r_iloadN 13 rfl d4_12 rfl ?_
  refine r_isub 14 rfl d4_13 ?_
  refine r_if_le 38 17 d4_14 (by decide) rfl rfl (fun c69 => ?_) (fun c69 => ?_)
  rotate_left
  · exact absurd c69 (sub_nle hn (by omega))
  refine r_ret rfl d4_38 (by decide) (by decide) [] (fun _ q => nomatch q) ?_
  exact ⟨rfl, rfl⟩
theorem d5_0 : decode jdk_42_method_152_code 0 = .ok (.getstatic 38, 3) := by decide +kernel
theorem d5_3 : decode jdk_42_method_152_code 3 = .ok (.ifCond .eq 10, 3) := by decide +kernel
theorem d5_6 : decode jdk_42_method_152_code 6 = .ok (.aload_n 0, 1) := by decide +kernel
theorem d5_7 : decode jdk_42_method_152_code 7 = .ok (.getfield 15, 3) := by decide +kernel
theorem d5_10 : decode jdk_42_method_152_code 10 = .ok (.goto 4, 3) := by decide +kernel
theorem d5_13 : decode jdk_42_method_152_code 13 = .ok (.iconst 1, 1) := by decide +kernel
theorem d5_14 : decode jdk_42_method_152_code 14 = .ok (.ireturn, 1) := by decide +kernel
abbrev b_coder : Bx := (⟨"java/lang/String", "coder", "()B"⟩, jdk_42_method_152_code, 1, some .byte, { frames := 0, cells := 0, slots := 0, locals := 0 })
theorem c_coder (V : Vw) (hw : ∀ d ∈ tables_1, d.before V.a0 V.Z = true) (cz : Int32) (hCS : Sta V.Z V.Z.heap "java/lang/String" "COMPACT_STRINGS" "Z" (.int cz)) (hcz : ¬ cz = 0) (x : Nat) (h : Heap) (ps : List Addr) (F : Fld V.Z h x "java/lang/String" "coder" "B" (.int 0)) : Con V b_coder #[.ref x] h ps (Qi 0 h) := Con.of (plainFor_of_name pn_0) (L := [.val (.ref x)]) rfl fun K => by
  refine r_getstatic 3 rfl d5_0 (wd hw 26 rfl) hCS ?_
  refine r_if_eq 13 6 d5_3 (by decide) rfl rfl (fun c70 => ?_) (fun c70 => ?_)
  · exact absurd c70 hcz
  refine r_aloadN 7 rfl d5_6 rfl rfl ?_
  refine r_getfield 10 rfl d5_7 (wd hw 21 rfl) F ?_
  refine r_goto 14 d5_10 (by decide) rfl ?_
  refine r_nret (t := .byte) (0 : Int32) rfl (by simp) rfl d5_14 (by decide) (by decide) [] (fun _ q => nomatch q) ?_
  exact ⟨rfl, rfl⟩
theorem d6_0 : decode jdk_68_method_71_code 0 = .ok (.getstatic 18, 3) := by decide +kernel
theorem d6_3 : decode jdk_68_method_71_code 3 = .ok (.ifCond .eq 18, 3) := by decide +kernel
theorem d6_6 : decode jdk_68_method_71_code 6 = .ok (.aload_n 0, 1) := by decide +kernel
theorem d6_7 : decode jdk_68_method_71_code 7 = .ok (.getfield 22, 3) := by decide +kernel
theorem d6_10 : decode jdk_68_method_71_code 10 = .ok (.aload_n 1, 1) := by decide +kernel
theorem d6_11 : decode jdk_68_method_71_code 11 = .ok (.invokevirtual 40, 3) := by decide +kernel
theorem d6_14 : decode jdk_68_method_71_code 14 = .ok (.if_icmp .eq 7, 3) := by decide +kernel
theorem d6_17 : decode jdk_68_method_71_code 17 = .ok (.aload_n 0, 1) := by decide +kernel
theorem d6_18 : decode jdk_68_method_71_code 18 = .ok (.invokevirtual 195, 3) := by decide +kernel
theorem d6_21 : decode jdk_68_method_71_code 21 = .ok (.return_, 1) := by decide +kernel
abbrev b_infl : Bx := (⟨"java/lang/AbstractStringBuilder", "inflateIfNeededFor", "(Ljava/lang/String;)V"⟩, jdk_68_method_71_code, 2, none, { frames := 1, cells := 0, slots := 0, locals := 16 })
theorem c_infl (V : Vw) (hw : ∀ d ∈ tables_1, d.before V.a0 V.Z = true) (cz : Int32) (hCS : Sta V.Z V.Z.heap "java/lang/String" "COMPACT_STRINGS" "Z" (.int cz)) (hcz : ¬ cz = 0) (x : Nat) (s t cap : Nat) (cs : List Int32) (h : Heap) (ps : List Addr) (S : Sb V h s t cap cs) (Ex : Exa V.Z h x "java/lang/String") (F : Fld V.Z h x "java/lang/String" "coder" "B" (.int 0)) : Con V b_infl #[.ref s, .ref x] h ps (Qu h) := Con.of (plainFor_of_name pn_1) (L := [.val (.ref s), .val (.ref x)]) rfl fun K => by
  obtain ⟨kb, zs, zt, X, Fv, Fc, Fn, A, lc, lcap⟩ := id S
  refine r_getstatic 3 rfl d6_0 (wd hw 57 rfl) hCS ?_
  refine r_if_eq 21 6 d6_3 (by decide) rfl rfl (fun c71 => ?_) (fun c71 => ?_)
  · exact absurd c71 hcz
  refine r_aloadN 7 rfl d6_6 rfl rfl ?_
  refine r_getfield 10 rfl d6_7 (wd hw 60 rfl) Fc ?_
  refine r_aloadN 11 rfl d6_10 rfl rfl ?_
  refine r_virtual 14 rfl d6_11 (wd hw 126 rfl) (wd hw 79 rfl) (wd hw 81 rfl) (wd hw 80 rfl) (nfS (wd hw 81 rfl)) (by decide) Ex (Pays.con (K := K) (B := b_infl) (c_coder V hw cz hCS hcz x h _ F) (wd hw 82 rfl) (wd hw 3 rfl) (by decide) (by decide)) (W := 1) (argsL := []) (lenOf pd_4 rfl) rfl rfl rfl (Nat.le_of_eq rfl) (Nat.le_of_ble_eq_true rfl) (Nat.le_of_ble_eq_true rfl) fun v75 h76 ps72 q74 z73 => ?_
  obtain ⟨rfl, es77⟩ := q74
  subst h76
  show Own.Run V K b_infl _ h _ 0 0 14 [.val (.ref s), .val (.ref x)] [.int (0 : Int32), .int (0 : Int32)]
  refine r_icmp_eq 21 17 d6_14 (by decide) rfl rfl (fun c78 => ?_) (fun c78 => ?_)
  rotate_left
  · exact absurd rfl c78
  refine r_ret rfl d6_21 (by decide) (by decide) [] (fun _ q => nomatch q) ?_
  exact ⟨rfl, rfl⟩
theorem d7_0 : decode jdk_42_method_147_code 0 = .ok (.aload_n 0, 1) := by decide +kernel
theorem d7_1 : decode jdk_42_method_147_code 1 = .ok (.invokevirtual 335, 3) := by decide +kernel
theorem d7_4 : decode jdk_42_method_147_code 4 = .ok (.iload_n 3, 1) := by decide +kernel
theorem d7_5 : decode jdk_42_method_147_code 5 = .ok (.if_icmp .ne 23, 3) := by decide +kernel
theorem d7_8 : decode jdk_42_method_147_code 8 = .ok (.aload_n 0, 1) := by decide +kernel
theorem d7_9 : decode jdk_42_method_147_code 9 = .ok (.getfield 9, 3) := by decide +kernel
theorem d7_12 : decode jdk_42_method_147_code 12 = .ok (.iconst 0, 1) := by decide +kernel
theorem d7_13 : decode jdk_42_method_147_code 13 = .ok (.aload_n 1, 1) := by decide +kernel
theorem d7_14 : decode jdk_42_method_147_code 14 = .ok (.iload_n 2, 1) := by decide +kernel
theorem d7_15 : decode jdk_42_method_147_code 15 = .ok (.iload_n 3, 1) := by decide +kernel
theorem d7_16 : decode jdk_42_method_147_code 16 = .ok (.ishl, 1) := by decide +kernel
theorem d7_17 : decode jdk_42_method_147_code 17 = .ok (.aload_n 0, 1) := by decide +kernel
theorem d7_18 : decode jdk_42_method_147_code 18 = .ok (.getfield 9, 3) := by decide +kernel
theorem d7_21 : decode jdk_42_method_147_code 21 = .ok (.arraylength, 1) := by decide +kernel
theorem d7_22 : decode jdk_42_method_147_code 22 = .ok (.invokestatic 212, 3) := by decide +kernel
theorem d7_25 : decode jdk_42_method_147_code 25 = .ok (.goto 18, 3) := by decide +kernel
theorem d7_28 : decode jdk_42_method_147_code 28 = .ok (.aload_n 0, 1) := by decide +kernel
theorem d7_29 : decode jdk_42_method_147_code 29 = .ok (.getfield 9, 3) := by decide +kernel
theorem d7_32 : decode jdk_42_method_147_code 32 = .ok (.iconst 0, 1) := by decide +kernel
theorem d7_33 : decode jdk_42_method_147_code 33 = .ok (.aload_n 1, 1) := by decide +kernel
theorem d7_34 : decode jdk_42_method_147_code 34 = .ok (.iload_n 2, 1) := by decide +kernel
theorem d7_35 : decode jdk_42_method_147_code 35 = .ok (.aload_n 0, 1) := by decide +kernel
theorem d7_36 : decode jdk_42_method_147_code 36 = .ok (.getfield 9, 3) := by decide +kernel
theorem d7_39 : decode jdk_42_method_147_code 39 = .ok (.arraylength, 1) := by decide +kernel
theorem d7_40 : decode jdk_42_method_147_code 40 = .ok (.invokestatic 106, 3) := by decide +kernel
theorem d7_43 : decode jdk_42_method_147_code 43 = .ok (.return_, 1) := by decide +kernel
abbrev b_getB : Bx := (⟨"java/lang/String", "getBytes", "([BIB)V"⟩, jdk_42_method_147_code, 4, none, { frames := 1, cells := 0, slots := 0, locals := 46 })
def Qgb (V : Vw) (t : Nat) (kb : ClassId) (cap : Nat) (cs : List Int32) (h0 : Heap) : Qt := fun v h _ => v = none ∧ Keep h0 h [t] ∧ Arv V.Z h t kb .byte (Int32.ofNat cap) (cs.map fun c => Value.int (StrChars.lo8 c)) (.int 0)
theorem c_getB (V : Vw) (hw : ∀ d ∈ tables_1, d.before V.a0 V.Z = true) (cz : Int32) (hCS : Sta V.Z V.Z.heap "java/lang/String" "COMPACT_STRINGS" "Z" (.int cz)) (hcz : ¬ cz = 0) (t cap : Nat) (kb : ClassId) (cs : List Int32) (h : Heap) (ps : List Addr) (zt : V.Z.heap.size ≤ t) (mt : t ∈ ps) (A : Arv V.Z h t kb .byte (Int32.ofNat cap) (cs.map fun c => Value.int (StrChars.lo8 c)) (.int 0)) (x u : Nat) (ku : ClassId) (ds : List Int32) (Ex : Exa V.Z h x "java/lang/String") (Gv : Fld V.Z h x "java/lang/String" "value" "[B" (.ref u)) (Gc : Fld V.Z h x "java/lang/String" "coder" "B" (.int 0)) (U : Arv V.Z h u ku .byte (Int32.ofNat ds.length) (ds.map fun c => Value.int (StrChars.lo8 c)) (.int 0)) (lcap : cap ≤ 4000) (hle : cs.length + ds.length ≤ cap) : Con V b_getB #[.ref x, .ref t, .int (Int32.ofNat cs.length), .int 0] h ps (Qgb V t kb cap (cs ++ ds) h) := Con.of (plainFor_of_name pn_0) (L := [.val (.ref x), .val (.ref t), .val (.int (Int32.ofNat cs.length)), .val (.int (0 : Int32))]) rfl fun K => by
  refine r_aloadN 1 rfl d7_0 rfl rfl ?_
  refine r_virtual 4 rfl d7_1 (wd hw 78 rfl) (wd hw 79 rfl) (wd hw 81 rfl) (wd hw 80 rfl) (nfS (wd hw 81 rfl)) (by decide) Ex (Pays.con (K := K) (B := b_getB) (c_coder V hw cz hCS hcz x h _ Gc) (wd hw 82 rfl) (wd hw 3 rfl) (by decide) (by decide)) (W := 0) (argsL := []) (lenOf pd_4 rfl) rfl rfl rfl (Nat.le_of_eq rfl) (Nat.le_of_ble_eq_true rfl) (Nat.le_of_ble_eq_true rfl) fun v82 h83 ps79 q81 z80 => ?_
  obtain ⟨rfl, es84⟩ := q81
  subst h83
  show Own.Run V K b_getB _ h _ 0 0 4 [.val (.ref x), .val (.ref t), .val (.int (Int32.ofNat cs.length)), .val (.int (0 : Int32))] [.int (0 : Int32)]
  refine r_iloadN 5 rfl d7_4 rfl ?_
  refine r_icmp_ne 28 8 d7_5 (by decide) rfl rfl (fun c85 => ?_) (fun c85 => ?_)
  · exact absurd rfl c85
  refine r_aloadN 9 rfl d7_8 rfl rfl ?_
  refine r_getfield 12 rfl d7_9 (wd hw 20 rfl) Gv ?_
  refine r_iconst (0 : Int32) 13 rfl d7_12 rfl ?_
  refine r_aloadN 14 rfl d7_13 rfl rfl ?_
  refine r_iloadN 15 rfl d7_14 rfl ?_
  refine r_iloadN 16 rfl d7_15 rfl ?_
  refine r_ishl 17 rfl d7_16 ?_
  refine r_aloadN 18 rfl d7_17 rfl rfl ?_
  refine r_getfield 21 rfl d7_18 (wd hw 20 rfl) Gv ?_
  refine r_arraylength 22 rfl d7_21 U ?_
  refine r_acopy 0 cs.length ds.length 0 ((cs ++ ds).map fun c => Value.int (StrChars.lo8 c)) 25 rfl d7_22 (wd hw 132 rfl) (wd hw 115 rfl) (wd hw 113 rfl) (wd hw 114 rfl) U A (rfl) (shl0 _) (rfl) (by rw [ofN_nat (by omega)]; omega) (by rw [ofN_nat (by omega)]; omega) (fun j _ => appG _ cs ds _ j) zt (by simp [mt]) rfl (by decide) (Nat.le_of_eq rfl) (by decide) fun h86 Kh86 Ah86 => ?_
  refine r_goto 43 d7_25 (by decide) rfl ?_
  refine r_ret rfl d7_43 (by decide) (by decide) [] (fun _ q => nomatch q) ?_
  exact ⟨rfl, Kh86, Ah86⟩
theorem d8_0 : decode jdk_68_method_73_code 0 = .ok (.aload_n 0, 1) := by decide +kernel
theorem d8_1 : decode jdk_68_method_73_code 1 = .ok (.aload_n 2, 1) := by decide +kernel
theorem d8_2 : decode jdk_68_method_73_code 2 = .ok (.invokevirtual 397, 3) := by decide +kernel
theorem d8_5 : decode jdk_68_method_73_code 5 = .ok (.aload_n 2, 1) := by decide +kernel
theorem d8_6 : decode jdk_68_method_73_code 6 = .ok (.aload_n 0, 1) := by decide +kernel
theorem d8_7 : decode jdk_68_method_73_code 7 = .ok (.getfield 15, 3) := by decide +kernel
theorem d8_10 : decode jdk_68_method_73_code 10 = .ok (.iload_n 1, 1) := by decide +kernel
theorem d8_11 : decode jdk_68_method_73_code 11 = .ok (.aload_n 0, 1) := by decide +kernel
theorem d8_12 : decode jdk_68_method_73_code 12 = .ok (.getfield 22, 3) := by decide +kernel
theorem d8_15 : decode jdk_68_method_73_code 15 = .ok (.invokevirtual 399, 3) := by decide +kernel
theorem d8_18 : decode jdk_68_method_73_code 18 = .ok (.return_, 1) := by decide +kernel
abbrev b_putS : Bx := (⟨"java/lang/AbstractStringBuilder", "putStringAt", "(ILjava/lang/String;)V"⟩, jdk_68_method_73_code, 3, none, { frames := 2, cells := 0, slots := 0, locals := 66 })
def Qpt (V : Vw) (s t cap : Nat) (cs : List Int32) (n : Int32) (h0 : Heap) : Qt := fun v h _ => v = none ∧ Keep h0 h [t] ∧ ∃ kb : ClassId, Arv V.Z h t kb .byte (Int32.ofNat cap) (cs.map fun c => Value.int (StrChars.lo8 c)) (.int 0)
theorem c_putS (V : Vw) (hw : ∀ d ∈ tables_1, d.before V.a0 V.Z = true) (cz : Int32) (hCS : Sta V.Z V.Z.heap "java/lang/String" "COMPACT_STRINGS" "Z" (.int cz)) (hcz : ¬ cz = 0) (s t cap : Nat) (cs : List Int32) (h : Heap) (ps : List Addr) (S : Sb V h s t cap cs) (mt : t ∈ ps) (x u : Nat) (ku : ClassId) (ds : List Int32) (Ex : Exa V.Z h x "java/lang/String") (Gv : Fld V.Z h x "java/lang/String" "value" "[B" (.ref u)) (Gc : Fld V.Z h x "java/lang/String" "coder" "B" (.int 0)) (U : Arv V.Z h u ku .byte (Int32.ofNat ds.length) (ds.map fun c => Value.int (StrChars.lo8 c)) (.int 0)) (hle : cs.length + ds.length ≤ cap) : Con V b_putS #[.ref s, .int (Int32.ofNat cs.length), .ref x] h ps (Qpt V s t cap (cs ++ ds) 0 h) := Con.of (plainFor_of_name pn_1) (L := [.val (.ref s), .val (.int (Int32.ofNat cs.length)), .val (.ref x)]) rfl fun K => by
  obtain ⟨kb, zs, zt, X, Fv, Fc, Fn, A, lc, lcap⟩ := id S
  refine r_aloadN 1 rfl d8_0 rfl rfl ?_
  refine r_aloadN 2 rfl d8_1 rfl rfl ?_
  refine r_private 5 rfl d8_2 (wd hw 121 rfl) (wd hw 123 rfl) (wd hw 124 rfl) (wd hw 122 rfl) (wd hw 125 rfl) (by decide) X (Pays.con (K := K) (B := b_putS) (c_infl V hw cz hCS hcz x s t cap cs h _ S Ex Gc) (wd hw 125 rfl) (wd hw 54 rfl) (by decide) (by decide)) (W := 0) (argsL := [.ref x]) (lenOf pd_5 rfl) rfl rfl rfl (Nat.le_of_eq rfl) (Nat.le_of_ble_eq_true rfl) (Nat.le_of_ble_eq_true rfl) fun v90 h91 ps87 q89 z88 => ?_
  obtain ⟨rfl, es92⟩ := q89
  subst h91
  show Own.Run V K b_putS _ h _ 0 0 5 [.val (.ref s), .val (.int (Int32.ofNat cs.length)), .val (.ref x)] []
  refine r_aloadN 6 rfl d8_5 rfl rfl ?_
  refine r_aloadN 7 rfl d8_6 rfl rfl ?_
  refine r_getfield 10 rfl d8_7 (wd hw 58 rfl) Fv ?_
  refine r_iloadN 11 rfl d8_10 rfl ?_
  refine r_aloadN 12 rfl d8_11 rfl rfl ?_
  refine r_getfield 15 rfl d8_12 (wd hw 60 rfl) Fc ?_
  refine r_virtual 18 rfl d8_15 (wd hw 127 rfl) (wd hw 128 rfl) (wd hw 130 rfl) (wd hw 129 rfl) (nfS (wd hw 130 rfl)) (by decide) Ex (Pays.con (K := K) (B := b_putS) (c_getB V hw cz hCS hcz t cap kb cs h _ zt (by simp [mt]) A x u ku ds Ex Gv Gc U lcap hle) (wd hw 131 rfl) (wd hw 3 rfl) (by decide) (by decide)) (W := 0) (argsL := [.ref t, .int (Int32.ofNat cs.length), .int (0 : Int32)]) (lenOf pd_6 rfl) rfl rfl rfl (Nat.le_of_eq rfl) (Nat.le_of_ble_eq_true rfl) (Nat.le_of_ble_eq_true rfl) fun v96 h97 ps93 q95 z94 => ?_
  obtain ⟨rfl, K1, A1⟩ := q95
  show Own.Run V K b_putS _ h97 _ 0 0 18 [.val (.ref s), .val (.int (Int32.ofNat cs.length)), .val (.ref x)] []
  refine r_ret rfl d8_18 (by decide) (by decide) [] (fun _ q => nomatch q) ?_
  exact ⟨rfl, K1, _, A1⟩
theorem d9_0 : decode jdk_68_method_22_code 0 = .ok (.aload_n 1, 1) := by decide +kernel
theorem d9_1 : decode jdk_68_method_22_code 1 = .ok (.ifnonnull 8, 3) := by decide +kernel
theorem d9_4 : decode jdk_68_method_22_code 4 = .ok (.aload_n 0, 1) := by decide +kernel
theorem d9_5 : decode jdk_68_method_22_code 5 = .ok (.invokevirtual 204, 3) := by decide +kernel
theorem d9_8 : decode jdk_68_method_22_code 8 = .ok (.areturn, 1) := by decide +kernel
theorem d9_9 : decode jdk_68_method_22_code 9 = .ok (.aload_n 1, 1) := by decide +kernel
theorem d9_10 : decode jdk_68_method_22_code 10 = .ok (.invokevirtual 32, 3) := by decide +kernel
theorem d9_13 : decode jdk_68_method_22_code 13 = .ok (.istore_n 2, 1) := by decide +kernel
theorem d9_14 : decode jdk_68_method_22_code 14 = .ok (.aload_n 0, 1) := by decide +kernel
theorem d9_15 : decode jdk_68_method_22_code 15 = .ok (.aload_n 0, 1) := by decide +kernel
theorem d9_16 : decode jdk_68_method_22_code 16 = .ok (.getfield 79, 3) := by decide +kernel
theorem d9_19 : decode jdk_68_method_22_code 19 = .ok (.iload_n 2, 1) := by decide +kernel
theorem d9_20 : decode jdk_68_method_22_code 20 = .ok (.iadd, 1) := by decide +kernel
theorem d9_21 : decode jdk_68_method_22_code 21 = .ok (.invokevirtual 100, 3) := by decide +kernel
theorem d9_24 : decode jdk_68_method_22_code 24 = .ok (.aload_n 0, 1) := by decide +kernel
theorem d9_25 : decode jdk_68_method_22_code 25 = .ok (.aload_n 0, 1) := by decide +kernel
theorem d9_26 : decode jdk_68_method_22_code 26 = .ok (.getfield 79, 3) := by decide +kernel
theorem d9_29 : decode jdk_68_method_22_code 29 = .ok (.aload_n 1, 1) := by decide +kernel
theorem d9_30 : decode jdk_68_method_22_code 30 = .ok (.invokevirtual 208, 3) := by decide +kernel
theorem d9_33 : decode jdk_68_method_22_code 33 = .ok (.aload_n 0, 1) := by decide +kernel
theorem d9_34 : decode jdk_68_method_22_code 34 = .ok (.dup, 1) := by decide +kernel
theorem d9_35 : decode jdk_68_method_22_code 35 = .ok (.getfield 79, 3) := by decide +kernel
theorem d9_38 : decode jdk_68_method_22_code 38 = .ok (.iload_n 2, 1) := by decide +kernel
theorem d9_39 : decode jdk_68_method_22_code 39 = .ok (.iadd, 1) := by decide +kernel
theorem d9_40 : decode jdk_68_method_22_code 40 = .ok (.putfield 79, 3) := by decide +kernel
theorem d9_43 : decode jdk_68_method_22_code 43 = .ok (.aload_n 0, 1) := by decide +kernel
theorem d9_44 : decode jdk_68_method_22_code 44 = .ok (.areturn, 1) := by decide +kernel
abbrev b_apS : Bx := (⟨"java/lang/AbstractStringBuilder", "append", "(Ljava/lang/String;)Ljava/lang/AbstractStringBuilder;"⟩, jdk_68_method_22_code, 3, some (.object "java/lang/AbstractStringBuilder"), { frames := 3, cells := 0, slots := 0, locals := 86 })
def Qap (V : Vw) (s t cap : Nat) (cs : List Int32) (h0 : Heap) : Qt := fun v h _ => v = some (.ref s) ∧ Keep h0 h [s, t] ∧ Sb V h s t cap cs
theorem c_apS (V : Vw) (hw : ∀ d ∈ tables_1, d.before V.a0 V.Z = true) (cz : Int32) (hCS : Sta V.Z V.Z.heap "java/lang/String" "COMPACT_STRINGS" "Z" (.int cz)) (hcz : ¬ cz = 0) (s t cap : Nat) (cs : List Int32) (h : Heap) (ps : List Addr) (S : Sb V h s t cap cs) (mt : t ∈ ps) (x m : Nat) (ds : List Int32) (Sx : Str V h m x ds) (hb : ∀ c ∈ ds, By c) (hle : cs.length + ds.length ≤ cap) : Con V b_apS #[.ref s, .ref x] h ps (Qap V s t cap (cs ++ ds) h) := Con.of (plainFor_of_name pn_1) (L := [.val (.ref s), .val (.ref x), .unset]) rfl fun K => by
  obtain ⟨kb, zs, zt, X, Fv, Fc, Fn, A, lc, lcap⟩ := id S
  refine Run.old fun OX => ?_
  obtain ⟨u, ku, cd, N2, us, a1, a2, a3, a4, a5, a6, a7, a8, a9, a10⟩ := id Sx
  obtain ⟨rfl, rfl, rfl⟩ : cd = 0 ∧ N2 = Int32.ofNat ds.length ∧ us = (ds.map fun c => Value.int (StrChars.lo8 c)) := by
    rcases a8 with q | ⟨-, -, -, c, hc, hq⟩
    · exact ⟨q.1, q.2.1, q.2.2.1⟩
    · exact absurd hq (hb c hc).2
  have nst := neN (X.neArv A (wd hw 45 rfl))
  refine r_aloadN 1 rfl d9_0 rfl rfl ?_
  refine r_ifnonnull_t 9 d9_1 (by decide) rfl ?_
  refine r_aloadN 10 rfl d9_9 rfl rfl ?_
  refine r_virtual 13 rfl d9_10 (wd hw 73 rfl) (wd hw 74 rfl) (wd hw 76 rfl) (wd hw 75 rfl) (nfS (wd hw 76 rfl)) (by decide) a4 (pay_len V hw K b_apS 0 x m ds h _ Sx OX cz hCS hcz (by decide) (by decide)) (W := 0) (argsL := []) (lenOf pd_9 rfl) rfl rfl rfl (Nat.le_of_eq rfl) (Nat.le_of_ble_eq_true rfl) (Nat.le_of_ble_eq_true rfl) fun v101 h102 ps98 q100 z99 => ?_
  obtain ⟨rfl, es103⟩ := q100
  subst h102
  show Own.Run V K b_apS _ h _ 0 0 13 [.val (.ref s), .val (.ref x), .unset] [.int (Int32.ofNat ds.length)]
  refine r_istoreN [.val (.ref s), .val (.ref x), .val (.int (Int32.ofNat ds.length))] 14 rfl d9_13 rfl ?_
  refine r_aloadN 15 rfl d9_14 rfl rfl ?_
  refine r_aloadN 16 rfl d9_15 rfl rfl ?_
  refine r_getfield 19 rfl d9_16 (wd hw 83 rfl) Fn ?_
  refine r_iloadN 20 rfl d9_19 rfl ?_
  refine r_iadd 21 rfl d9_20 ?_
  rw [← Int32.ofNat_add]
  refine r_private 24 rfl d9_21 (wd hw 85 rfl) (wd hw 87 rfl) (wd hw 88 rfl) (wd hw 86 rfl) (wd hw 89 rfl) (by decide) X (Pays.con (K := K) (B := b_apS) (c_ens V hw (cs.length + ds.length) s t cap cs h _ S hle) (wd hw 89 rfl) (wd hw 54 rfl) (by decide) (by decide)) (W := 0) (argsL := [.int (Int32.ofNat (cs.length + ds.length))]) (lenOf pd_2 rfl) rfl rfl rfl (Nat.le_of_eq rfl) (Nat.le_of_ble_eq_true rfl) (Nat.le_of_ble_eq_true rfl) fun v107 h108 ps104 q106 z105 => ?_
  obtain ⟨rfl, es109⟩ := q106
  subst h108
  show Own.Run V K b_apS _ h _ 0 0 24 [.val (.ref s), .val (.ref x), .val (.int (Int32.ofNat ds.length))] []
  refine r_aloadN 25 rfl d9_24 rfl rfl ?_
  refine r_aloadN 26 rfl d9_25 rfl rfl ?_
  refine r_getfield 29 rfl d9_26 (wd hw 83 rfl) Fn ?_
  refine r_aloadN 30 rfl d9_29 rfl rfl ?_
  refine r_private 33 rfl d9_30 (wd hw 116 rfl) (wd hw 118 rfl) (wd hw 119 rfl) (wd hw 117 rfl) (wd hw 120 rfl) (by decide) X (Pays.con (K := K) (B := b_apS) (c_putS V hw cz hCS hcz s t cap cs h _ S (by simp [mt]) x u ku ds a4 a5 a6 a7 hle) (wd hw 120 rfl) (wd hw 54 rfl) (by decide) (by decide)) (W := 0) (argsL := [.int (Int32.ofNat cs.length), .ref x]) (lenOf pd_7 rfl) rfl rfl rfl (Nat.le_of_eq rfl) (Nat.le_of_ble_eq_true rfl) (Nat.le_of_ble_eq_true rfl) fun v113 h114 ps110 q112 z111 => ?_
  obtain ⟨rfl, K1, kb1, A1⟩ := q112
  have f115 := Exa.keep X K1
  have f116 := Fld.keep Fv K1 (ninS (neA (by omega)) nin0)
  have f117 := Fld.keep Fc K1 (ninS (neA (by omega)) nin0)
  have f118 := Fld.keep Fn K1 (ninS (neA (by omega)) nin0)
  have f119 := Exa.keep a4 K1
  show Own.Run V K b_apS _ h114 _ 0 0 33 [.val (.ref s), .val (.ref x), .val (.int (Int32.ofNat ds.length))] []
  refine r_aloadN 34 rfl d9_33 rfl rfl ?_
  refine r_dup 35 rfl d9_34 rfl ?_
  refine r_getfield 38 rfl d9_35 (wd hw 83 rfl) f118 ?_
  refine r_iloadN 39 rfl d9_38 rfl ?_
  refine r_iadd 40 rfl d9_39 ?_
  rw [← Int32.ofNat_add]
  refine r_putfield 43 rfl d9_40 (wd hw 83 rfl) f118 f115 (Or.inl (wd hw 84 rfl)) (wd hw 45 rfl) (ty := .int) (by decide) rfl rfl zs (Or.inl (by decide)) fun h120 Wh120 => ?_
  have sh120 := Wh120.size
  have f121 := Exa.wr Wh120 f115
  have f122 := Fld.other Wh120 f116 (Or.inr (slot_ne (C := "java/lang/StringBuilder") (Or.inl (wd hw 59 rfl)) (Or.inl (wd hw 84 rfl)) (by decide) (t := (.array .byte)) (by decide) (t' := .int) (by decide)))
  have f123 := Fld.other Wh120 f117 (Or.inr (slot_ne (C := "java/lang/StringBuilder") (Or.inl (wd hw 61 rfl)) (Or.inl (wd hw 84 rfl)) (by decide) (t := .byte) (by decide) (t' := .int) (by decide)))
  have f124 := Fld.same Wh120 f118
  have f125 := Exa.wr Wh120 f119
  have f126 := Arv.other A1 Wh120 (neA (by omega))
  refine r_aloadN 44 rfl d9_43 rfl rfl ?_
  refine r_aret (t := (.object "java/lang/AbstractStringBuilder")) rfl rfl rfl d9_44 (by decide) (by decide) [] (fun _ q => nomatch q) ?_
  exact ⟨rfl, (Keep.wide K1 (by simp)).wr Wh120 (Or.inl (by simp)), kb1, zs, zt, f121, f122, f123, by rw [List.length_append]; exact f124, f126, by rw [List.length_append]; exact hle, lcap⟩
theorem d10_0 : decode jdk_67_method_7_code 0 = .ok (.aload_n 0, 1) := by decide +kernel
theorem d10_1 : decode jdk_67_method_7_code 1 = .ok (.aload_n 1, 1) := by decide +kernel
theorem d10_2 : decode jdk_67_method_7_code 2 = .ok (.invokespecial 29, 3) := by decide +kernel
theorem d10_5 : decode jdk_67_method_7_code 5 = .ok (.pop, 1) := by decide +kernel
theorem d10_6 : decode jdk_67_method_7_code 6 = .ok (.aload_n 0, 1) := by decide +kernel
theorem d10_7 : decode jdk_67_method_7_code 7 = .ok (.areturn, 1) := by decide +kernel
abbrev b_sbS : Bx := (⟨"java/lang/StringBuilder", "append", "(Ljava/lang/String;)Ljava/lang/StringBuilder;"⟩, jdk_67_method_7_code, 2, some (.object "java/lang/StringBuilder"), { frames := 4, cells := 0, slots := 0, locals := 102 })
theorem c_sbS (V : Vw) (hw : ∀ d ∈ tables_1, d.before V.a0 V.Z = true) (cz : Int32) (hCS : Sta V.Z V.Z.heap "java/lang/String" "COMPACT_STRINGS" "Z" (.int cz)) (hcz : ¬ cz = 0) (s t cap : Nat) (cs : List Int32) (h : Heap) (ps : List Addr) (S : Sb V h s t cap cs) (mt : t ∈ ps) (x m : Nat) (ds : List Int32) (Sx : Str V h m x ds) (hb : ∀ c ∈ ds, By c) (hle : cs.length + ds.length ≤ cap) : Con V b_sbS #[.ref s, .ref x] h ps (Qap V s t cap (cs ++ ds) h) := Con.of (plainFor_of_name pn_2) (L := [.val (.ref s), .val (.ref x)]) rfl fun K => by
  refine r_aloadN 1 rfl d10_0 rfl rfl ?_
  refine r_aloadN 2 rfl d10_1 rfl rfl ?_
  refine r_super 5 rfl d10_2 (by decide) (wd hw 68 rfl) (wd hw 70 rfl) (wd hw 69 rfl) (wd hw 72 rfl) (wd hw 88 rfl) rfl (by decide) S.exa (Pays.con (K := K) (B := b_sbS) (c_apS V hw cz hCS hcz s t cap cs h _ S (by simp [mt]) x m ds Sx hb hle) (wd hw 72 rfl) (wd hw 54 rfl) (by decide) (by decide)) (W := 0) (argsL := [.ref x]) (lenOf pd_8 rfl) rfl rfl rfl (Nat.le_of_eq rfl) (Nat.le_of_ble_eq_true rfl) (Nat.le_of_ble_eq_true rfl) fun v130 h131 ps127 q129 z128 => ?_
  obtain ⟨rfl, K1, S1⟩ := q129
  show Own.Run V K b_sbS _ h131 _ 0 0 5 [.val (.ref s), .val (.ref x)] [.ref s]
  refine r_pop 6 rfl d10_5 rfl ?_
  refine r_aloadN 7 rfl d10_6 rfl rfl ?_
  refine r_aret (t := (.object "java/lang/StringBuilder")) rfl rfl rfl d10_7 (by decide) (by decide) [] (fun _ q => nomatch q) ?_
  exact ⟨rfl, K1, S1⟩
theorem d11_0 : decode jdk_68_method_64_code 0 = .ok (.aload_n 0, 1) := by decide +kernel
theorem d11_1 : decode jdk_68_method_64_code 1 = .ok (.getfield 15, 3) := by decide +kernel
theorem d11_4 : decode jdk_68_method_64_code 4 = .ok (.areturn, 1) := by decide +kernel
abbrev b_getV : Bx := (⟨"java/lang/AbstractStringBuilder", "getValue", "()[B"⟩, jdk_68_method_64_code, 1, some (.array .byte), { frames := 0, cells := 0, slots := 0, locals := 0 })
theorem c_getV (V : Vw) (hw : ∀ d ∈ tables_1, d.before V.a0 V.Z = true) (s t cap : Nat) (cs : List Int32) (h : Heap) (ps : List Addr) (S : Sb V h s t cap cs) : Con V b_getV #[.ref s] h ps (fun v h' _ => v = some (.ref t) ∧ h' = h) := Con.of (plainFor_of_name pn_1) (L := [.val (.ref s)]) rfl fun K => by
  obtain ⟨kb, zs, zt, X, Fv, Fc, Fn, A, lc, lcap⟩ := id S
  refine r_aloadN 1 rfl d11_0 rfl rfl ?_
  refine r_getfield 4 rfl d11_1 (wd hw 58 rfl) Fv ?_
  refine r_aret (t := (.array .byte)) rfl rfl rfl d11_4 (by decide) (by decide) [] (fun _ q => nomatch q) ?_
  exact ⟨rfl, rfl⟩
theorem d12_0 : decode jdk_68_method_6_code 0 = .ok (.aload_n 0, 1) := by decide +kernel
theorem d12_1 : decode jdk_68_method_6_code 1 = .ok (.getfield 79, 3) := by decide +kernel
theorem d12_4 : decode jdk_68_method_6_code 4 = .ok (.ireturn, 1) := by decide +kernel
abbrev b_aLen : Bx := (⟨"java/lang/AbstractStringBuilder", "length", "()I"⟩, jdk_68_method_6_code, 1, some .int, { frames := 0, cells := 0, slots := 0, locals := 0 })
theorem c_aLen (V : Vw) (hw : ∀ d ∈ tables_1, d.before V.a0 V.Z = true) (s t cap : Nat) (cs : List Int32) (h : Heap) (ps : List Addr) (S : Sb V h s t cap cs) : Con V b_aLen #[.ref s] h ps (Qi (Int32.ofNat cs.length) h) := Con.of (plainFor_of_name pn_1) (L := [.val (.ref s)]) rfl fun K => by
  obtain ⟨kb, zs, zt, X, Fv, Fc, Fn, A, lc, lcap⟩ := id S
  refine r_aloadN 1 rfl d12_0 rfl rfl ?_
  refine r_getfield 4 rfl d12_1 (wd hw 83 rfl) Fn ?_
  refine r_iret rfl d12_4 (by decide) (by decide) [] (fun _ q => nomatch q) ?_
  exact ⟨rfl, rfl⟩
theorem d13_0 : decode jdk_67_method_93_code 0 = .ok (.aload_n 0, 1) := by decide +kernel
theorem d13_1 : decode jdk_67_method_93_code 1 = .ok (.invokespecial 343, 3) := by decide +kernel
theorem d13_4 : decode jdk_67_method_93_code 4 = .ok (.ireturn, 1) := by decide +kernel
abbrev b_sLen : Bx := (⟨"java/lang/StringBuilder", "length", "()I"⟩, jdk_67_method_93_code, 1, some .int, { frames := 1, cells := 0, slots := 0, locals := 14 })
theorem c_sLen (V : Vw) (hw : ∀ d ∈ tables_1, d.before V.a0 V.Z = true) (s t cap : Nat) (cs : List Int32) (h : Heap) (ps : List Addr) (S : Sb V h s t cap cs) : Con V b_sLen #[.ref s] h ps (Qi (Int32.ofNat cs.length) h) := Con.of (plainFor_of_name pn_2) (L := [.val (.ref s)]) rfl fun K => by
  refine r_aloadN 1 rfl d13_0 rfl rfl ?_
  refine r_super 4 rfl d13_1 (by decide) (wd hw 157 rfl) (wd hw 70 rfl) (wd hw 153 rfl) (wd hw 158 rfl) (wd hw 88 rfl) rfl (by decide) S.exa (Pays.con (K := K) (B := b_sLen) (c_aLen V hw s t cap cs h _ S) (wd hw 158 rfl) (wd hw 54 rfl) (by decide) (by decide)) (W := 0) (argsL := []) (lenOf pd_9 rfl) rfl rfl rfl (Nat.le_of_eq rfl) (Nat.le_of_ble_eq_true rfl) (Nat.le_of_ble_eq_true rfl) fun v135 h136 ps132 q134 z133 => ?_
  obtain ⟨rfl, es137⟩ := q134
  subst h136
  show Own.Run V K b_sLen _ h _ 0 0 4 [.val (.ref s)] [.int (Int32.ofNat cs.length)]
  refine r_iret rfl d13_4 (by decide) (by decide) [] (fun _ q => nomatch q) ?_
  exact ⟨rfl, rfl⟩
theorem d14_0 : decode jdk_68_method_68_code 0 = .ok (.getstatic 18, 3) := by decide +kernel
theorem d14_3 : decode jdk_68_method_68_code 3 = .ok (.ifCond .eq 14, 3) := by decide +kernel
theorem d14_6 : decode jdk_68_method_68_code 6 = .ok (.aload_n 0, 1) := by decide +kernel
theorem d14_7 : decode jdk_68_method_68_code 7 = .ok (.getfield 22, 3) := by decide +kernel
theorem d14_10 : decode jdk_68_method_68_code 10 = .ok (.ifCond .ne 7, 3) := by decide +kernel
theorem d14_13 : decode jdk_68_method_68_code 13 = .ok (.iconst 1, 1) := by decide +kernel
theorem d14_14 : decode jdk_68_method_68_code 14 = .ok (.goto 4, 3) := by decide +kernel
theorem d14_17 : decode jdk_68_method_68_code 17 = .ok (.iconst 0, 1) := by decide +kernel
theorem d14_18 : decode jdk_68_method_68_code 18 = .ok (.ireturn, 1) := by decide +kernel
abbrev b_aLat : Bx := (⟨"java/lang/AbstractStringBuilder", "isLatin1", "()Z"⟩, jdk_68_method_68_code, 1, some .boolean, { frames := 0, cells := 0, slots := 0, locals := 0 })
theorem c_aLat (V : Vw) (hw : ∀ d ∈ tables_1, d.before V.a0 V.Z = true) (cz : Int32) (hCS : Sta V.Z V.Z.heap "java/lang/String" "COMPACT_STRINGS" "Z" (.int cz)) (hcz : ¬ cz = 0) (s t cap : Nat) (cs : List Int32) (h : Heap) (ps : List Addr) (S : Sb V h s t cap cs) : Con V b_aLat #[.ref s] h ps (Qi 1 h) := Con.of (plainFor_of_name pn_1) (L := [.val (.ref s)]) rfl fun K => by
  obtain ⟨kb, zs, zt, X, Fv, Fc, Fn, A, lc, lcap⟩ := id S
  refine r_getstatic 3 rfl d14_0 (wd hw 57 rfl) hCS ?_
  refine r_if_eq 17 6 d14_3 (by decide) rfl rfl (fun c138 => ?_) (fun c138 => ?_)
  · exact absurd c138 hcz
  refine r_aloadN 7 rfl d14_6 rfl rfl ?_
  refine r_getfield 10 rfl d14_7 (wd hw 60 rfl) Fc ?_
  refine r_if_ne 17 13 d14_10 (by decide) rfl rfl (fun c139 => ?_) (fun c139 => ?_)
  · exact absurd rfl c139
  refine r_iconst (1 : Int32) 14 rfl d14_13 rfl ?_
  refine r_goto 18 d14_14 (by decide) rfl ?_
  refine r_nret (t := .boolean) (1 : Int32) rfl (by simp) rfl d14_18 (by decide) (by decide) [] (fun _ q => nomatch q) ?_
  exact ⟨rfl, rfl⟩
theorem d15_0 : decode jdk_65_method_131_code 0 = .ok (.iload_n 1, 1) := by decide +kernel
theorem d15_1 : decode jdk_65_method_131_code 1 = .ok (.iload_n 0, 1) := by decide +kernel
theorem d15_2 : decode jdk_65_method_131_code 2 = .ok (.if_icmp .ge 35, 3) := by decide +kernel
theorem d15_5 : decode jdk_65_method_131_code 5 = .ok (.new 43, 3) := by decide +kernel
theorem d15_8 : decode jdk_65_method_131_code 8 = .ok (.dup, 1) := by decide +kernel
theorem d15_9 : decode jdk_65_method_131_code 9 = .ok (.new 45, 3) := by decide +kernel
theorem d15_12 : decode jdk_65_method_131_code 12 = .ok (.dup, 1) := by decide +kernel
theorem d15_13 : decode jdk_65_method_131_code 13 = .ok (.invokespecial 47, 3) := by decide +kernel
theorem d15_16 : decode jdk_65_method_131_code 16 = .ok (.iload_n 0, 1) := by decide +kernel
theorem d15_17 : decode jdk_65_method_131_code 17 = .ok (.invokevirtual 54, 3) := by decide +kernel
theorem d15_20 : decode jdk_65_method_131_code 20 = .ok (.ldc_w 337, 3) := by decide +kernel
theorem d15_23 : decode jdk_65_method_131_code 23 = .ok (.invokevirtual 50, 3) := by decide +kernel
theorem d15_26 : decode jdk_65_method_131_code 26 = .ok (.iload_n 1, 1) := by decide +kernel
theorem d15_27 : decode jdk_65_method_131_code 27 = .ok (.invokevirtual 54, 3) := by decide +kernel
theorem d15_30 : decode jdk_65_method_131_code 30 = .ok (.invokevirtual 61, 3) := by decide +kernel
theorem d15_33 : decode jdk_65_method_131_code 33 = .ok (.invokespecial 65, 3) := by decide +kernel
theorem d15_36 : decode jdk_65_method_131_code 36 = .ok (.athrow, 1) := by decide +kernel
theorem d15_37 : decode jdk_65_method_131_code 37 = .ok (.return_, 1) := by decide +kernel
abbrev b_chk : Bx := (⟨"java/util/Arrays", "checkLength", "(II)V"⟩, jdk_65_method_131_code, 2, none, { frames := 0, cells := 0, slots := 0, locals := 0 })
theorem c_chk (V : Vw) (hw : ∀ d ∈ tables_1, d.before V.a0 V.Z = true) (n : Nat) (hn : n ≤ 4000) (h : Heap) (ps : List Addr) : Con V b_chk #[.int 0, .int (Int32.ofNat n)] h ps (Qu h) := Con.of (plainFor_of_name pn_3) (L := [.val (.int (0 : Int32)), .val (.int (Int32.ofNat n))]) rfl fun K => by
  refine r_iloadN 1 rfl d15_0 rfl ?_
  refine r_iloadN 2 rfl d15_1 rfl ?_
  refine r_icmp_ge 37 5 d15_2 (by decide) rfl rfl (fun c140 => ?_) (fun c140 => ?_)
  rotate_left
  · exact absurd c140 (ofN_nn (by omega))
  refine r_ret rfl d15_37 (by decide) (by decide) [] (fun _ q => nomatch q) ?_
  exact ⟨rfl, rfl⟩
theorem d16_0 : decode jdk_29_method_69_code 0 = .ok (.iload_n 0, 1) := by decide +kernel
theorem d16_1 : decode jdk_29_method_69_code 1 = .ok (.iload_n 1, 1) := by decide +kernel
theorem d16_2 : decode jdk_29_method_69_code 2 = .ok (.if_icmp .gt 7, 3) := by decide +kernel
theorem d16_5 : decode jdk_29_method_69_code 5 = .ok (.iload_n 0, 1) := by decide +kernel
theorem d16_6 : decode jdk_29_method_69_code 6 = .ok (.goto 4, 3) := by decide +kernel
theorem d16_9 : decode jdk_29_method_69_code 9 = .ok (.iload_n 1, 1) := by decide +kernel
theorem d16_10 : decode jdk_29_method_69_code 10 = .ok (.ireturn, 1) := by decide +kernel
abbrev b_min : Bx := (⟨"java/lang/Math", "min", "(II)I"⟩, jdk_29_method_69_code, 2, some .int, { frames := 0, cells := 0, slots := 0, locals := 0 })
def mn2 (a b : Int32) : Int32 := if b < a then b else a
theorem c_min (V : Vw) (hw : ∀ d ∈ tables_1, d.before V.a0 V.Z = true) (a b : Int32) (h : Heap) (ps : List Addr) : Con V b_min #[.int a, .int b] h ps (Qi (mn2 a b) h) := Con.of (by decide +kernel) (L := [.val (.int a), .val (.int b)]) rfl fun K => by
  refine r_iloadN 1 rfl d16_0 rfl ?_
  refine r_iloadN 2 rfl d16_1 rfl ?_
  refine r_icmp_gt 9 5 d16_2 (by decide) rfl rfl (fun c141 => ?_) (fun c141 => ?_)
  · refine r_iloadN 10 rfl d16_9 rfl ?_
    refine r_iret rfl d16_10 (by decide) (by decide) [] (fun _ q => nomatch q) ?_
    exact ⟨by rw [show mn2 a b = b from if_pos c141], rfl⟩
  · refine r_iloadN 6 rfl d16_5 rfl ?_
    refine r_goto 10 d16_6 (by decide) rfl ?_
    refine r_iret rfl d16_10 (by decide) (by decide) [] (fun _ q => nomatch q) ?_
    exact ⟨by rw [show mn2 a b = a from if_neg c141], rfl⟩
def Qcr (V : Vw) (cs : List Int32) (h0 : Heap) : Qt := fun v h _ => ∃ (u : Nat) (k : ClassId), v = some (.ref u) ∧ Ext h0 h ∧ h0.size ≤ u ∧ Arv V.Z h u k .byte (Int32.ofNat cs.length) (cs.map fun c => Value.int (StrChars.lo8 c)) (.int 0)
theorem d17_0 : decode jdk_65_method_133_code 0 = .ok (.iload_n 1, 1) := by decide +kernel
theorem d17_1 : decode jdk_65_method_133_code 1 = .ok (.iload_n 2, 1) := by decide +kernel
theorem d17_2 : decode jdk_65_method_133_code 2 = .ok (.invokestatic 343, 3) := by decide +kernel
theorem d17_5 : decode jdk_65_method_133_code 5 = .ok (.iload_n 2, 1) := by decide +kernel
theorem d17_6 : decode jdk_65_method_133_code 6 = .ok (.iload_n 1, 1) := by decide +kernel
theorem d17_7 : decode jdk_65_method_133_code 7 = .ok (.isub, 1) := by decide +kernel
theorem d17_8 : decode jdk_65_method_133_code 8 = .ok (.istore_n 3, 1) := by decide +kernel
theorem d17_9 : decode jdk_65_method_133_code 9 = .ok (.iload_n 3, 1) := by decide +kernel
theorem d17_10 : decode jdk_65_method_133_code 10 = .ok (.newarray .byte, 2) := by decide +kernel
theorem d17_12 : decode jdk_65_method_133_code 12 = .ok (.astore 4, 2) := by decide +kernel
theorem d17_14 : decode jdk_65_method_133_code 14 = .ok (.aload_n 0, 1) := by decide +kernel
theorem d17_15 : decode jdk_65_method_133_code 15 = .ok (.iload_n 1, 1) := by decide +kernel
theorem d17_16 : decode jdk_65_method_133_code 16 = .ok (.aload 4, 2) := by decide +kernel
theorem d17_18 : decode jdk_65_method_133_code 18 = .ok (.iconst 0, 1) := by decide +kernel
theorem d17_19 : decode jdk_65_method_133_code 19 = .ok (.aload_n 0, 1) := by decide +kernel
theorem d17_20 : decode jdk_65_method_133_code 20 = .ok (.arraylength, 1) := by decide +kernel
theorem d17_21 : decode jdk_65_method_133_code 21 = .ok (.iload_n 1, 1) := by decide +kernel
theorem d17_22 : decode jdk_65_method_133_code 22 = .ok (.isub, 1) := by decide +kernel
theorem d17_23 : decode jdk_65_method_133_code 23 = .ok (.iload_n 3, 1) := by decide +kernel
theorem d17_24 : decode jdk_65_method_133_code 24 = .ok (.invokestatic 304, 3) := by decide +kernel
theorem d17_27 : decode jdk_65_method_133_code 27 = .ok (.invokestatic 150, 3) := by decide +kernel
theorem d17_30 : decode jdk_65_method_133_code 30 = .ok (.aload 4, 2) := by decide +kernel
theorem d17_32 : decode jdk_65_method_133_code 32 = .ok (.areturn, 1) := by decide +kernel
abbrev b_corB : Bx := (⟨"java/util/Arrays", "copyOfRangeByte", "([BII)[B"⟩, jdk_65_method_133_code, 5, some (.array .byte), { frames := 1, cells := 1, slots := 34, locals := 46 })
theorem c_corB (V : Vw) (hw : ∀ d ∈ tables_1, d.before V.a0 V.Z = true) (t cap : Nat) (kb : ClassId) (cs : List Int32) (h : Heap) (ps : List Addr) (A : Arv V.Z h t kb .byte (Int32.ofNat cap) (cs.map fun c => Value.int (StrChars.lo8 c)) (.int 0)) (hlt : cs.length < cap) (lcap : cap ≤ 34) : Con V b_corB #[.ref t, .int 0, .int (Int32.ofNat cs.length)] h ps (Qcr V cs h) := Con.of (plainFor_of_name pn_3) (L := [.val (.ref t), .val (.int (0 : Int32)), .val (.int (Int32.ofNat cs.length)), .unset, .unset]) rfl fun K => by
  refine r_iloadN 1 rfl d17_0 rfl ?_
  refine r_iloadN 2 rfl d17_1 rfl ?_
  refine r_static 5 rfl d17_2 (wd hw 170 rfl) (wd hw 171 rfl) (wd hw 107 rfl) (wd hw 172 rfl) (by decide) (Pays.con (K := K) (B := b_corB) (c_chk V hw cs.length (by omega) h _) (wd hw 172 rfl) (wd hw 107 rfl) (by decide) (by decide)) (W := 0) (argsL := [.int (0 : Int32), .int (Int32.ofNat cs.length)]) (lenOf pd_13 rfl) rfl rfl rfl (Nat.le_of_eq rfl) (Nat.le_of_ble_eq_true rfl) (Nat.le_of_ble_eq_true rfl) fun v145 h146 ps142 q144 z143 => ?_
  obtain ⟨rfl, es147⟩ := q144
  subst h146
  show Own.Run V K b_corB _ h _ 0 0 5 [.val (.ref t), .val (.int (0 : Int32)), .val (.int (Int32.ofNat cs.length)), .unset, .unset] []
  refine r_iloadN 6 rfl d17_5 rfl ?_
  refine r_iloadN 7 rfl d17_6 rfl ?_
  refine r_isub 8 rfl d17_7 ?_
  rw [sub0]
  refine r_istoreN [.val (.ref t), .val (.int (0 : Int32)), .val (.int (Int32.ofNat cs.length)), .val (.int (Int32.ofNat cs.length)), .unset] 9 rfl d17_8 rfl ?_
  refine r_iloadN 10 rfl d17_9 rfl ?_
  refine r_newarray 34 12 rfl d17_10 (wd hw 15 rfl) (ofN_nn (by omega)) (by rw [ofN_nat (by omega)]; exact (by omega)) (by decide) (by decide) (by decide) fun a148 h149 k150 ga148 za148 Eh149 Aa148 => ?_
  have f151 := A.ext Eh149
  have sh149 := Eh149.1
  have la148 := ltN Aa148.lt
  refine r_astore [.val (.ref t), .val (.int (0 : Int32)), .val (.int (Int32.ofNat cs.length)), .val (.int (Int32.ofNat cs.length)), .val (.ref a148)] 14 rfl d17_12 rfl rfl ?_
  refine r_aloadN 15 rfl d17_14 rfl rfl ?_
  refine r_iloadN 16 rfl d17_15 rfl ?_
  refine r_aload 18 rfl d17_16 rfl rfl ?_
  refine r_iconst (0 : Int32) 19 rfl d17_18 rfl ?_
  refine r_aloadN 20 rfl d17_19 rfl rfl ?_
  refine r_arraylength 21 rfl d17_20 f151 ?_
  refine r_iloadN 22 rfl d17_21 rfl ?_
  refine r_isub 23 rfl d17_22 ?_
  rw [sub0]
  refine r_iloadN 24 rfl d17_23 rfl ?_
  refine r_static 27 rfl d17_24 (wd hw 109 rfl) (wd hw 110 rfl) (wd hw 101 rfl) (wd hw 111 rfl) (by decide) (Pays.con (K := K) (B := b_corB) (c_min V hw (Int32.ofNat cap) (Int32.ofNat cs.length) h149 _) (wd hw 111 rfl) (wd hw 101 rfl) (by decide) (by decide)) (W := 4) (argsL := [.int (Int32.ofNat cap), .int (Int32.ofNat cs.length)]) (lenOf pd_14 rfl) rfl rfl rfl (Nat.le_of_eq rfl) (Nat.le_of_ble_eq_true rfl) (Nat.le_of_ble_eq_true rfl) fun v155 h156 ps152 q154 z153 => ?_
  obtain ⟨rfl, es157⟩ := q154
  subst h156
  show Own.Run V K b_corB _ h149 _ 1 34 27 [.val (.ref t), .val (.int (0 : Int32)), .val (.int (Int32.ofNat cs.length)), .val (.int (Int32.ofNat cs.length)), .val (.ref a148)] [.int (mn2 (Int32.ofNat cap) (Int32.ofNat cs.length)), .int (0 : Int32), .ref a148, .int (0 : Int32), .ref t]
  rw [show (mn2 (Int32.ofNat cap) (Int32.ofNat cs.length)) = Int32.ofNat cs.length from if_pos ((ofN_lt (by omega) (by omega)).mpr hlt)]
  refine r_acopy 0 0 cs.length 0 (cs.map fun c => Value.int (StrChars.lo8 c)) 30 rfl d17_27 (wd hw 112 rfl) (wd hw 115 rfl) (wd hw 113 rfl) (wd hw 114 rfl) f151 Aa148 (rfl) (rfl) (rfl) (by rw [ofN_nat (by omega)]; omega) (by rw [ofN_nat (by omega)]; omega) (fun j hj => cpyG _ cs _ j (by rw [ofN_nat (by omega)] at hj; exact hj)) za148 (by simp) rfl (by decide) (Nat.le_of_eq rfl) (by decide) fun h158 Kh158 Ah158 => ?_
  refine r_aload 32 rfl d17_30 rfl rfl ?_
  refine r_aret (t := (.array .byte)) rfl rfl rfl d17_32 (by decide) (by decide) [] (fun _ q => nomatch q) ?_
  exact ⟨_, _, rfl, Keep.ext0 Eh149 Kh158 (fun w hw' => by cases List.mem_singleton.mp hw'; exact leA (by omega)), by omega, Ah158⟩
theorem d18_0 : decode jdk_65_method_132_code 0 = .ok (.iload_n 1, 1) := by decide +kernel
theorem d18_1 : decode jdk_65_method_132_code 1 = .ok (.ifCond .ne 9, 3) := by decide +kernel
theorem d18_4 : decode jdk_65_method_132_code 4 = .ok (.iload_n 2, 1) := by decide +kernel
theorem d18_5 : decode jdk_65_method_132_code 5 = .ok (.aload_n 0, 1) := by decide +kernel
theorem d18_6 : decode jdk_65_method_132_code 6 = .ok (.arraylength, 1) := by decide +kernel
theorem d18_7 : decode jdk_65_method_132_code 7 = .ok (.if_icmp .eq 10, 3) := by decide +kernel
theorem d18_10 : decode jdk_65_method_132_code 10 = .ok (.aload_n 0, 1) := by decide +kernel
theorem d18_11 : decode jdk_65_method_132_code 11 = .ok (.iload_n 1, 1) := by decide +kernel
theorem d18_12 : decode jdk_65_method_132_code 12 = .ok (.iload_n 2, 1) := by decide +kernel
theorem d18_13 : decode jdk_65_method_132_code 13 = .ok (.invokestatic 339, 3) := by decide +kernel
theorem d18_16 : decode jdk_65_method_132_code 16 = .ok (.areturn, 1) := by decide +kernel
theorem d18_17 : decode jdk_65_method_132_code 17 = .ok (.aload_n 0, 1) := by decide +kernel
theorem d18_18 : decode jdk_65_method_132_code 18 = .ok (.invokevirtual 310, 3) := by decide +kernel
theorem d18_21 : decode jdk_65_method_132_code 21 = .ok (.checkcast 311, 3) := by decide +kernel
theorem d18_24 : decode jdk_65_method_132_code 24 = .ok (.areturn, 1) := by decide +kernel
abbrev b_cor : Bx := (⟨"java/util/Arrays", "copyOfRange", "([BII)[B"⟩, jdk_65_method_132_code, 3, some (.array .byte), { frames := 2, cells := 1, slots := 34, locals := 64 })
theorem c_cor (V : Vw) (hw : ∀ d ∈ tables_1, d.before V.a0 V.Z = true) (t cap : Nat) (kb : ClassId) (cs : List Int32) (h : Heap) (ps : List Addr) (A : Arv V.Z h t kb .byte (Int32.ofNat cap) (cs.map fun c => Value.int (StrChars.lo8 c)) (.int 0)) (hlt : cs.length < cap) (lcap : cap ≤ 34) : Con V b_cor #[.ref t, .int 0, .int (Int32.ofNat cs.length)] h ps (Qcr V cs h) := Con.of (plainFor_of_name pn_3) (L := [.val (.ref t), .val (.int (0 : Int32)), .val (.int (Int32.ofNat cs.length))]) rfl fun K => by
  refine r_iloadN 1 rfl d18_0 rfl ?_
  refine r_if_ne 10 4 d18_1 (by decide) rfl rfl (fun c159 => ?_) (fun c159 => ?_)
  · exact absurd rfl c159
  refine r_iloadN 5 rfl d18_4 rfl ?_
  refine r_aloadN 6 rfl d18_5 rfl rfl ?_
  refine r_arraylength 7 rfl d18_6 A ?_
  refine r_icmp_eq 17 10 d18_7 (by decide) rfl rfl (fun c160 => ?_) (fun c160 => ?_)
  · exact absurd ((ofN_lt (by omega) (by omega)).mpr hlt) (by rw [c160]; exact Int32.lt_irrefl)
  refine r_aloadN 11 rfl d18_10 rfl rfl ?_
  refine r_iloadN 12 rfl d18_11 rfl ?_
  refine r_iloadN 13 rfl d18_12 rfl ?_
  refine r_static 16 rfl d18_13 (wd hw 167 rfl) (wd hw 168 rfl) (wd hw 107 rfl) (wd hw 169 rfl) (by decide) (Pays.con (K := K) (B := b_cor) (c_corB V hw t cap kb cs h _ A hlt lcap) (wd hw 169 rfl) (wd hw 107 rfl) (by decide) (by decide)) (W := 0) (argsL := [.ref t, .int (0 : Int32), .int (Int32.ofNat cs.length)]) (lenOf pd_15 rfl) rfl rfl rfl (Nat.le_of_eq rfl) (Nat.le_of_ble_eq_true rfl) (Nat.le_of_ble_eq_true rfl) fun v164 h165 ps161 q163 z162 => ?_
  obtain ⟨u, ku, rfl, E1, gu, A1⟩ := q163
  show Own.Run V K b_cor _ h165 _ 1 34 16 [.val (.ref t), .val (.int (0 : Int32)), .val (.int (Int32.ofNat cs.length))] [.ref u]
  refine r_aret (t := (.array .byte)) rfl rfl rfl d18_16 (by decide) (by decide) [] (fun _ q => nomatch q) ?_
  exact ⟨_, _, rfl, E1, gu, A1⟩
theorem d19_0 : decode jdk_42_method_150_code 0 = .ok (.aload_n 0, 1) := by decide +kernel
theorem d19_1 : decode jdk_42_method_150_code 1 = .ok (.invokespecial 1, 3) := by decide +kernel
theorem d19_4 : decode jdk_42_method_150_code 4 = .ok (.aload_n 1, 1) := by decide +kernel
theorem d19_5 : decode jdk_42_method_150_code 5 = .ok (.invokevirtual 552, 3) := by decide +kernel
theorem d19_8 : decode jdk_42_method_150_code 8 = .ok (.astore_n 3, 1) := by decide +kernel
theorem d19_9 : decode jdk_42_method_150_code 9 = .ok (.aload_n 1, 1) := by decide +kernel
theorem d19_10 : decode jdk_42_method_150_code 10 = .ok (.invokevirtual 549, 3) := by decide +kernel
theorem d19_13 : decode jdk_42_method_150_code 13 = .ok (.istore 4, 2) := by decide +kernel
theorem d19_15 : decode jdk_42_method_150_code 15 = .ok (.aload_n 1, 1) := by decide +kernel
theorem d19_16 : decode jdk_42_method_150_code 16 = .ok (.invokevirtual 1047, 3) := by decide +kernel
theorem d19_19 : decode jdk_42_method_150_code 19 = .ok (.ifCond .eq 22, 3) := by decide +kernel
theorem d19_22 : decode jdk_42_method_150_code 22 = .ok (.aload_n 0, 1) := by decide +kernel
theorem d19_23 : decode jdk_42_method_150_code 23 = .ok (.iconst 0, 1) := by decide +kernel
theorem d19_24 : decode jdk_42_method_150_code 24 = .ok (.putfield 15, 3) := by decide +kernel
theorem d19_27 : decode jdk_42_method_150_code 27 = .ok (.aload_n 0, 1) := by decide +kernel
theorem d19_28 : decode jdk_42_method_150_code 28 = .ok (.aload_n 3, 1) := by decide +kernel
theorem d19_29 : decode jdk_42_method_150_code 29 = .ok (.iconst 0, 1) := by decide +kernel
theorem d19_30 : decode jdk_42_method_150_code 30 = .ok (.iload 4, 2) := by decide +kernel
theorem d19_32 : decode jdk_42_method_150_code 32 = .ok (.invokestatic 54, 3) := by decide +kernel
theorem d19_35 : decode jdk_42_method_150_code 35 = .ok (.putfield 9, 3) := by decide +kernel
theorem d19_38 : decode jdk_42_method_150_code 38 = .ok (.goto 59, 3) := by decide +kernel
theorem d19_41 : decode jdk_42_method_150_code 41 = .ok (.getstatic 38, 3) := by decide +kernel
theorem d19_44 : decode jdk_42_method_150_code 44 = .ok (.ifCond .eq 35, 3) := by decide +kernel
theorem d19_47 : decode jdk_42_method_150_code 47 = .ok (.aload_n 1, 1) := by decide +kernel
theorem d19_48 : decode jdk_42_method_150_code 48 = .ok (.getfield 1048, 3) := by decide +kernel
theorem d19_51 : decode jdk_42_method_150_code 51 = .ok (.ifCond .eq 28, 3) := by decide +kernel
theorem d19_54 : decode jdk_42_method_150_code 54 = .ok (.aload_n 0, 1) := by decide +kernel
theorem d19_55 : decode jdk_42_method_150_code 55 = .ok (.aload_n 3, 1) := by decide +kernel
theorem d19_56 : decode jdk_42_method_150_code 56 = .ok (.iconst 0, 1) := by decide +kernel
theorem d19_57 : decode jdk_42_method_150_code 57 = .ok (.iload 4, 2) := by decide +kernel
theorem d19_59 : decode jdk_42_method_150_code 59 = .ok (.invokestatic 1051, 3) := by decide +kernel
theorem d19_62 : decode jdk_42_method_150_code 62 = .ok (.putfield 9, 3) := by decide +kernel
theorem d19_65 : decode jdk_42_method_150_code 65 = .ok (.aload_n 0, 1) := by decide +kernel
theorem d19_66 : decode jdk_42_method_150_code 66 = .ok (.aload_n 0, 1) := by decide +kernel
theorem d19_67 : decode jdk_42_method_150_code 67 = .ok (.getfield 9, 3) := by decide +kernel
theorem d19_70 : decode jdk_42_method_150_code 70 = .ok (.iload 4, 2) := by decide +kernel
theorem d19_72 : decode jdk_42_method_150_code 72 = .ok (.invokestatic 47, 3) := by decide +kernel
theorem d19_75 : decode jdk_42_method_150_code 75 = .ok (.putfield 15, 3) := by decide +kernel
theorem d19_78 : decode jdk_42_method_150_code 78 = .ok (.return_, 1) := by decide +kernel
theorem d19_79 : decode jdk_42_method_150_code 79 = .ok (.aload_n 0, 1) := by decide +kernel
theorem d19_80 : decode jdk_42_method_150_code 80 = .ok (.iconst 1, 1) := by decide +kernel
theorem d19_81 : decode jdk_42_method_150_code 81 = .ok (.putfield 15, 3) := by decide +kernel
theorem d19_84 : decode jdk_42_method_150_code 84 = .ok (.aload_n 0, 1) := by decide +kernel
theorem d19_85 : decode jdk_42_method_150_code 85 = .ok (.aload_n 3, 1) := by decide +kernel
theorem d19_86 : decode jdk_42_method_150_code 86 = .ok (.iconst 0, 1) := by decide +kernel
theorem d19_87 : decode jdk_42_method_150_code 87 = .ok (.iload 4, 2) := by decide +kernel
theorem d19_89 : decode jdk_42_method_150_code 89 = .ok (.iconst 1, 1) := by decide +kernel
theorem d19_90 : decode jdk_42_method_150_code 90 = .ok (.ishl, 1) := by decide +kernel
theorem d19_91 : decode jdk_42_method_150_code 91 = .ok (.invokestatic 54, 3) := by decide +kernel
theorem d19_94 : decode jdk_42_method_150_code 94 = .ok (.putfield 9, 3) := by decide +kernel
theorem d19_97 : decode jdk_42_method_150_code 97 = .ok (.return_, 1) := by decide +kernel
abbrev b_sn2 : Bx := (⟨"java/lang/String", "<init>", "(Ljava/lang/AbstractStringBuilder;Ljava/lang/Void;)V"⟩, jdk_42_method_150_code, 5, none, { frames := 3, cells := 1, slots := 34, locals := 82 })
theorem c_sn2 (V : Vw) (hw : ∀ d ∈ tables_1, d.before V.a0 V.Z = true) (cz : Int32) (hCS : Sta V.Z V.Z.heap "java/lang/String" "COMPACT_STRINGS" "Z" (.int cz)) (hcz : ¬ cz = 0) (s t cap : Nat) (cs : List Int32) (h : Heap) (ps : List Addr) (S : Sb V h s t cap cs) (hlt : cs.length < cap) (lc2 : cap ≤ 34) (hby : ∀ c ∈ cs, By c) (x : Nat) (zx : V.Z.heap.size ≤ x) (hxp : x ∈ ps) (E : Exa V.Z h x "java/lang/String") (Gv : Fld V.Z h x "java/lang/String" "value" "[B" .null) (Gc : Fld V.Z h x "java/lang/String" "coder" "B" (.int 0)) : Con V b_sn2 #[.ref x, .ref s, .null] h ps (Qn V x cs h) := Con.of (plainFor_of_name pn_0) (L := [.val (.ref x), .val (.ref s), .val (.null), .unset, .unset]) rfl fun K => by
  obtain ⟨kb, zs, zt, X, Fv, Fc, Fn, A, lc, lcap⟩ := id S
  have nxs := neN (E.ne X (by decide))
  have nxt := neN (E.neArv A (wd hw 2 rfl))
  have lx := ltN E.lt
  have ltt := ltN A.lt
  refine r_aloadN 1 rfl d19_0 rfl rfl ?_
  refine r_initO 0 4 rfl d19_1 (wd hw 11 rfl) (wd hw 12 rfl) (wd hw 13 rfl) rfl (by decide) (Nat.le_of_eq rfl) (by decide) ?_
  refine r_aloadN 5 rfl d19_4 rfl rfl ?_
  refine r_virtual 8 rfl d19_5 (wd hw 146 rfl) (wd hw 147 rfl) (wd hw 149 rfl) (wd hw 148 rfl) (nfS (wd hw 149 rfl)) (by decide) X (Pays.con (K := K) (B := b_sn2) (c_getV V hw s t cap cs h _ S) (wd hw 150 rfl) (wd hw 54 rfl) (by decide) (by decide)) (W := 0) (argsL := []) (lenOf pd_11 rfl) rfl rfl rfl (Nat.le_of_eq rfl) (Nat.le_of_ble_eq_true rfl) (Nat.le_of_ble_eq_true rfl) fun v169 h170 ps166 q168 z167 => ?_
  obtain ⟨rfl, es171⟩ := q168
  subst h170
  show Own.Run V K b_sn2 _ h _ 0 0 8 [.val (.ref x), .val (.ref s), .val (.null), .unset, .unset] [.ref t]
  refine r_astoreN [.val (.ref x), .val (.ref s), .val (.null), .val (.ref t), .unset] 9 rfl d19_8 rfl rfl ?_
  refine r_aloadN 10 rfl d19_9 rfl rfl ?_
  refine r_virtual 13 rfl d19_10 (wd hw 151 rfl) (wd hw 152 rfl) (wd hw 154 rfl) (wd hw 155 rfl) (nfO (wd hw 88 rfl) rfl) (by decide) X (Pays.con (K := K) (B := b_sn2) (c_sLen V hw s t cap cs h _ S) (wd hw 156 rfl) (wd hw 46 rfl) (by decide) (by decide)) (W := 0) (argsL := []) (lenOf pd_9 rfl) rfl rfl rfl (Nat.le_of_eq rfl) (Nat.le_of_ble_eq_true rfl) (Nat.le_of_ble_eq_true rfl) fun v175 h176 ps172 q174 z173 => ?_
  obtain ⟨rfl, es177⟩ := q174
  subst h176
  show Own.Run V K b_sn2 _ h _ 0 0 13 [.val (.ref x), .val (.ref s), .val (.null), .val (.ref t), .unset] [.int (Int32.ofNat cs.length)]
  refine r_istore [.val (.ref x), .val (.ref s), .val (.null), .val (.ref t), .val (.int (Int32.ofNat cs.length))] 15 rfl d19_13 rfl ?_
  refine r_aloadN 16 rfl d19_15 rfl rfl ?_
  refine r_virtual 19 rfl d19_16 (wd hw 159 rfl) (wd hw 160 rfl) (wd hw 162 rfl) (wd hw 161 rfl) (nfS (wd hw 162 rfl)) (by decide) X (Pays.con (K := K) (B := b_sn2) (c_aLat V hw cz hCS hcz s t cap cs h _ S) (wd hw 163 rfl) (wd hw 54 rfl) (by decide) (by decide)) (W := 0) (argsL := []) (lenOf pd_12 rfl) rfl rfl rfl (Nat.le_of_eq rfl) (Nat.le_of_ble_eq_true rfl) (Nat.le_of_ble_eq_true rfl) fun v181 h182 ps178 q180 z179 => ?_
  obtain ⟨rfl, es183⟩ := q180
  subst h182
  show Own.Run V K b_sn2 _ h _ 0 0 19 [.val (.ref x), .val (.ref s), .val (.null), .val (.ref t), .val (.int (Int32.ofNat cs.length))] [.int (1 : Int32)]
  refine r_if_eq 41 22 d19_19 (by decide) rfl rfl (fun c184 => ?_) (fun c184 => ?_)
  · exact absurd c184 (by decide)
  refine r_aloadN 23 rfl d19_22 rfl rfl ?_
  refine r_iconst (0 : Int32) 24 rfl d19_23 rfl ?_
  refine r_putfield 27 rfl d19_24 (wd hw 21 rfl) Gc E (Or.inr ⟨wd hw 17 rfl, rfl, rfl⟩) (wd hw 2 rfl) (ty := .byte) (by decide) (by decide) (by decide) zx (Or.inr (by simp [hxp])) fun h185 Wh185 => ?_
  have sh185 := Wh185.size
  have f186 := Exa.wr Wh185 X
  have f187 := Exa.wr Wh185 E
  have f188 := Fld.other Wh185 Gv (Or.inr (slot_ne (C := "java/lang/String") (Or.inr (wd hw 16 rfl)) (Or.inr (wd hw 17 rfl)) (by decide) (t := (.array .byte)) (by decide) (t' := .byte) (by decide)))
  have f189 := Fld.same Wh185 Gc
  have f190 := Arv.other A Wh185 (neA (by omega))
  refine r_aloadN 28 rfl d19_27 rfl rfl ?_
  refine r_aloadN 29 rfl d19_28 rfl rfl ?_
  refine r_iconst (0 : Int32) 30 rfl d19_29 rfl ?_
  refine r_iload 32 rfl d19_30 rfl ?_
  refine r_static 35 rfl d19_32 (wd hw 164 rfl) (wd hw 165 rfl) (wd hw 107 rfl) (wd hw 166 rfl) (by decide) (Pays.con (K := K) (B := b_sn2) (c_cor V hw t cap kb cs h185 _ f190 hlt lc2) (wd hw 166 rfl) (wd hw 107 rfl) (by decide) (by decide)) (W := 1) (argsL := [.ref t, .int (0 : Int32), .int (Int32.ofNat cs.length)]) (lenOf pd_15 rfl) rfl rfl rfl (Nat.le_of_eq rfl) (Nat.le_of_ble_eq_true rfl) (Nat.le_of_ble_eq_true rfl) fun v194 h195 ps191 q193 z192 => ?_
  obtain ⟨u, ku, rfl, E1, gu, A1⟩ := q193
  have f196 := Exa.ext E1 f186
  have f197 := Exa.ext E1 f187
  have f198 := Fld.ext E1 f188
  have f199 := Fld.ext E1 f189
  have f200 := f190.ext E1
  have sh195 := E1.1
  show Own.Run V K b_sn2 _ h195 _ 1 34 35 [.val (.ref x), .val (.ref s), .val (.null), .val (.ref t), .val (.int (Int32.ofNat cs.length))] [.ref u, .ref x]
  have lu := ltN A1.lt
  refine r_putfield 38 rfl d19_35 (wd hw 20 rfl) f198 f197 (Or.inr ⟨wd hw 16 rfl, rfl, rfl⟩) (wd hw 2 rfl) (ty := (.array .byte)) (by decide) rfl rfl zx (Or.inr (by simp [hxp])) fun h201 Wh201 => ?_
  have sh201 := Wh201.size
  have f202 := Exa.wr Wh201 f196
  have f203 := Exa.wr Wh201 f197
  have f204 := Fld.same Wh201 f198
  have f205 := Fld.other Wh201 f199 (Or.inr (slot_ne (C := "java/lang/String") (Or.inr (wd hw 17 rfl)) (Or.inr (wd hw 16 rfl)) (by decide) (t := .byte) (by decide) (t' := (.array .byte)) (by decide)))
  have f206 := Arv.other f200 Wh201 (neA (by omega))
  have f207 := Arv.other A1 Wh201 (neA (by omega))
  refine r_goto 97 d19_38 (by decide) rfl ?_
  refine r_ret rfl d19_97 (by decide) (by decide) [] (fun _ q => nomatch q) ?_
  exact ⟨rfl, ((((Keep.refl _ _).wr Wh185 (Or.inl (by simp))).ext E1).wr Wh201 (Or.inl (by simp))), u, ku, 0, _, _, f203.lt, f207.lt, Nat.le_refl _, f203, f204, f205, f207, Or.inl ⟨rfl, rfl, rfl, fun c hc => (hby c hc).2⟩, up16 hby, by omega⟩
theorem d20_0 : decode jdk_42_method_53_code 0 = .ok (.aload_n 0, 1) := by decide +kernel
theorem d20_1 : decode jdk_42_method_53_code 1 = .ok (.aload_n 1, 1) := by decide +kernel
theorem d20_2 : decode jdk_42_method_53_code 2 = .ok (.aconst_null, 1) := by decide +kernel
theorem d20_3 : decode jdk_42_method_53_code 3 = .ok (.invokespecial 489, 3) := by decide +kernel
theorem d20_6 : decode jdk_42_method_53_code 6 = .ok (.return_, 1) := by decide +kernel
abbrev b_sn1 : Bx := (⟨"java/lang/String", "<init>", "(Ljava/lang/StringBuilder;)V"⟩, jdk_42_method_53_code, 2, none, { frames := 4, cells := 1, slots := 34, locals := 100 })
theorem c_sn1 (V : Vw) (hw : ∀ d ∈ tables_1, d.before V.a0 V.Z = true) (cz : Int32) (hCS : Sta V.Z V.Z.heap "java/lang/String" "COMPACT_STRINGS" "Z" (.int cz)) (hcz : ¬ cz = 0) (s t cap : Nat) (cs : List Int32) (h : Heap) (ps : List Addr) (S : Sb V h s t cap cs) (hlt : cs.length < cap) (lc2 : cap ≤ 34) (hby : ∀ c ∈ cs, By c) (x : Nat) (zx : V.Z.heap.size ≤ x) (hxp : x ∈ ps) (E : Exa V.Z h x "java/lang/String") (Gv : Fld V.Z h x "java/lang/String" "value" "[B" .null) (Gc : Fld V.Z h x "java/lang/String" "coder" "B" (.int 0)) : Con V b_sn1 #[.ref x, .ref s] h ps (Qn V x cs h) := Con.of (plainFor_of_name pn_0) (L := [.val (.ref x), .val (.ref s)]) rfl fun K => by
  refine r_aloadN 1 rfl d20_0 rfl rfl ?_
  refine r_aloadN 2 rfl d20_1 rfl rfl ?_
  refine r_null 3 rfl d20_2 ?_
  refine r_special 6 rfl d20_3 rfl (wd hw 143 rfl) (wd hw 144 rfl) (wd hw 145 rfl) (by decide) (Pays.con (K := K) (B := b_sn1) (c_sn2 V hw cz hCS hcz s t cap cs h _ S hlt lc2 hby x zx (by simp [hxp]) E Gv Gc) (wd hw 145 rfl) (wd hw 3 rfl) (by decide) (by decide)) (W := 0) (argsL := [.ref s, .null]) (lenOf pd_16 rfl) rfl rfl rfl (Nat.le_of_eq rfl) (Nat.le_of_ble_eq_true rfl) (Nat.le_of_ble_eq_true rfl) fun v211 h212 ps208 q210 z209 => ?_
  obtain ⟨rfl, K1, S1⟩ := q210
  show Own.Run V K b_sn1 _ h212 _ 1 34 6 [.val (.ref x), .val (.ref s)] []
  refine r_ret rfl d20_6 (by decide) (by decide) [] (fun _ q => nomatch q) ?_
  exact ⟨rfl, K1, S1⟩
theorem d21_0 : decode jdk_67_method_42_code 0 = .ok (.new 18, 3) := by decide +kernel
theorem d21_3 : decode jdk_67_method_42_code 3 = .ok (.dup, 1) := by decide +kernel
theorem d21_4 : decode jdk_67_method_42_code 4 = .ok (.aload_n 0, 1) := by decide +kernel
theorem d21_5 : decode jdk_67_method_42_code 5 = .ok (.invokespecial 137, 3) := by decide +kernel
theorem d21_8 : decode jdk_67_method_42_code 8 = .ok (.areturn, 1) := by decide +kernel
abbrev b_toS : Bx := (⟨"java/lang/StringBuilder", "toString", "()Ljava/lang/String;"⟩, jdk_67_method_42_code, 1, some (.object "java/lang/String"), { frames := 5, cells := 2, slots := 38, locals := 118 })
theorem c_toS (V : Vw) (hw : ∀ d ∈ tables_1, d.before V.a0 V.Z = true) (cz : Int32) (hCS : Sta V.Z V.Z.heap "java/lang/String" "COMPACT_STRINGS" "Z" (.int cz)) (hcz : ¬ cz = 0) (s t cap : Nat) (cs : List Int32) (h : Heap) (ps : List Addr) (S : Sb V h s t cap cs) (hlt : cs.length < cap) (lc2 : cap ≤ 34) (hby : ∀ c ∈ cs, By c) : Con V b_toS #[.ref s] h ps (Qmk V cs h) := Con.of (plainFor_of_name pn_2) (L := [.val (.ref s)]) rfl fun K => by
  refine r_new 3 rfl d21_0 (wd hw 139 rfl) (wd hw 2 rfl) (wd hw 3 rfl) (by decide) (by decide) fun a213 h214 ga213 za213 Eh214 Xa213 Da213 => ?_
  have sh214 := Eh214.1
  have la213 := ltN Xa213.lt
  have f215 : Fld V.Z h214 a213 "java/lang/String" "value" "[B" (.null) := Da213 (Or.inr (wd hw 16 rfl)) (ty := (.array .byte)) (by decide)
  have f216 : Fld V.Z h214 a213 "java/lang/String" "coder" "B" (.int (0 : Int32)) := Da213 (Or.inr (wd hw 17 rfl)) (ty := .byte) (by decide)
  refine r_dup 4 rfl d21_3 rfl ?_
  refine r_aloadN 5 rfl d21_4 rfl rfl ?_
  refine r_special 8 rfl d21_5 rfl (wd hw 140 rfl) (wd hw 141 rfl) (wd hw 142 rfl) (by decide) (Pays.con (K := K) (B := b_toS) (c_sn1 V hw cz hCS hcz s t cap cs h214 _ (S.ext Eh214) hlt lc2 hby a213 za213 (by simp) Xa213 f215 f216) (wd hw 142 rfl) (wd hw 3 rfl) (by decide) (by decide)) (W := 1) (argsL := [.ref s]) (lenOf pd_17 rfl) rfl rfl rfl (Nat.le_of_eq rfl) (Nat.le_of_ble_eq_true rfl) (Nat.le_of_ble_eq_true rfl) fun v220 h221 ps217 q219 z218 => ?_
  obtain ⟨rfl, K1, S1⟩ := q219
  show Own.Run V K b_toS _ h221 _ 2 38 8 [.val (.ref s)] [.ref a213]
  refine r_aret (t := (.object "java/lang/String")) rfl rfl rfl d21_8 (by decide) (by decide) [] (fun _ q => nomatch q) ?_
  exact ⟨_, rfl, Keep.ext0 Eh214 K1 (fun w hw' => by cases List.mem_singleton.mp hw'; exact leA (by omega)), S1⟩
abbrev P22 : List Int32 := [76, 97, 122, 111, 32, 100, 111, 101, 115, 32, 110, 111, 116, 32, 115, 117, 112, 112, 111, 114, 116, 32]
abbrev Y4 : List Int32 := [32, 121, 101, 116]
theorem P22by : ∀ c ∈ P22, By c := fun c hc => (by decide : ∀ c ∈ P22, ¬ c < 0 ∧ ¬ 255 < c) c hc
theorem Y4by : ∀ c ∈ Y4, By c := fun c hc => (by decide : ∀ c ∈ Y4, ¬ c < 0 ∧ ¬ 255 < c) c hc
theorem by_app {a b : List Int32} (ha : ∀ c ∈ a, By c) (hb : ∀ c ∈ b, By c) : ∀ c ∈ a ++ b, By c := fun c hc => (List.mem_append.mp hc).elim (ha c) (hb c)
theorem litStr {V : Vw} {h : Heap} {a b : Nat} {k : ClassId} {N : Int32} {vs : List Value} (cs : List Int32) (X : Exa V.Z h a "java/lang/String") (Cc : Fld V.Z h a "java/lang/String" "coder" "B" (.int 0)) (Y : Fld V.Z h a "java/lang/String" "value" "[B" (.ref b)) (A : Arv V.Z h b k .byte N vs (.int 0)) (hN : N = Int32.ofNat cs.length) (hv : vs = cs.map fun c => Value.int (StrChars.lo8 c)) (hb : ∀ c ∈ cs, By c) (hl : cs.length ≤ 4000) : Str V h h.size a cs :=
  ⟨b, k, 0, N, vs, X.lt, A.lt, Nat.le_refl _, X, Y, Cc, A, Or.inl ⟨rfl, hN, hv, fun c hc => (hb c hc).2⟩, up16 hb, hl⟩
theorem i2cBy {z x : Int32} (e : z = (x &&& 255).toUInt32.toUInt16.toUInt32.toInt32) : By z := by rw [e, i2c_mask]; exact By.mask x
theorem and4 {z x : Int32} (e : z = x &&& 3) : z = 0 ∨ z = 1 ∨ z = 2 ∨ z = 3 := by
  have h := c_and x 3 (by decide)
  rw [← e] at h
  simp only [← Int32.toInt_inj]
  have e0 : (0 : Int32).toInt = 0 := rfl
  have e1 : (1 : Int32).toInt = 1 := rfl
  have e2 : (2 : Int32).toInt = 2 := rfl
  have e3 : (3 : Int32).toInt = 3 := rfl
  omega
/-- what a literal's cells may not be: the cells that the walk has made and may write -/
theorem litNe {a b x : Nat} {ps : List Addr} (N : ∀ x ∈ ps, x ≠ a ∧ x ≠ b) (h : x ∈ ps) : x ≠ a ∧ x ≠ b := N x h
theorem fw (V : Vw) (hw : ∀ d ∈ tables_1, d.before V.a0 V.Z = true) : ∀ d ∈ fillW "java/lang/UnsupportedOperationException", d.before V.a0 V.Z = true := fun d hd => hw d ((by decide +kernel : ∀ d ∈ fillW "java/lang/UnsupportedOperationException", d ∈ tables_1) d hd)
def Qex (V : Vw) (a y : Nat) (h0 : Heap) : Qt := fun v h _ => v = none ∧ Keep h0 h [a] ∧ Exa V.Z h a "java/lang/UnsupportedOperationException" ∧ Fld V.Z h a "java/lang/Throwable" "detailMessage" "Ljava/lang/String;" (.ref y)
theorem d22_0 : decode jdk_78_method_2_code 0 = .ok (.aload_n 0, 1) := by decide +kernel
theorem d22_1 : decode jdk_78_method_2_code 1 = .ok (.invokespecial 1, 3) := by decide +kernel
theorem d22_4 : decode jdk_78_method_2_code 4 = .ok (.aload_n 0, 1) := by decide +kernel
theorem d22_5 : decode jdk_78_method_2_code 5 = .ok (.aload_n 0, 1) := by decide +kernel
theorem d22_6 : decode jdk_78_method_2_code 6 = .ok (.putfield 7, 3) := by decide +kernel
theorem d22_9 : decode jdk_78_method_2_code 9 = .ok (.aload_n 0, 1) := by decide +kernel
theorem d22_10 : decode jdk_78_method_2_code 10 = .ok (.getstatic 13, 3) := by decide +kernel
theorem d22_13 : decode jdk_78_method_2_code 13 = .ok (.putfield 17, 3) := by decide +kernel
theorem d22_16 : decode jdk_78_method_2_code 16 = .ok (.aload_n 0, 1) := by decide +kernel
theorem d22_17 : decode jdk_78_method_2_code 17 = .ok (.getstatic 20, 3) := by decide +kernel
theorem d22_20 : decode jdk_78_method_2_code 20 = .ok (.putfield 24, 3) := by decide +kernel
theorem d22_23 : decode jdk_78_method_2_code 23 = .ok (.aload_n 0, 1) := by decide +kernel
theorem d22_24 : decode jdk_78_method_2_code 24 = .ok (.invokevirtual 27, 3) := by decide +kernel
theorem d22_27 : decode jdk_78_method_2_code 27 = .ok (.pop, 1) := by decide +kernel
theorem d22_28 : decode jdk_78_method_2_code 28 = .ok (.aload_n 0, 1) := by decide +kernel
theorem d22_29 : decode jdk_78_method_2_code 29 = .ok (.aload_n 1, 1) := by decide +kernel
theorem d22_30 : decode jdk_78_method_2_code 30 = .ok (.putfield 31, 3) := by decide +kernel
theorem d22_33 : decode jdk_78_method_2_code 33 = .ok (.return_, 1) := by decide +kernel
abbrev b_thr : Bx := (⟨"java/lang/Throwable", "<init>", "(Ljava/lang/String;)V"⟩, jdk_78_method_2_code, 2, none, { frames := 3, cells := 1, slots := 2752, locals := 42 })
theorem c_thr (V : Vw) (hw : ∀ d ∈ tables_1, d.before V.a0 V.Z = true) (hn : V.nar = false) (u0 sen : RefV) (hU : Sta V.Z V.Z.heap "java/lang/Throwable" "UNASSIGNED_STACK" "[Ljava/lang/StackTraceElement;" u0.v) (hSe : Sta V.Z V.Z.heap "java/lang/Throwable" "SUPPRESSED_SENTINEL" "Ljava/util/List;" sen.v) (hst : V.l.stackTraces = true) (a y : Nat) (h : Heap) (ps : List Addr) (za : V.Z.heap.size ≤ a) (E : Exa V.Z h a "java/lang/UnsupportedOperationException") (N : Unt h a) (F1 : Fld V.Z h a "java/lang/Throwable" "cause" "Ljava/lang/Throwable;" .null) (F2 : Fld V.Z h a "java/lang/Throwable" "stackTrace" "[Ljava/lang/StackTraceElement;" .null) (F3 : Fld V.Z h a "java/lang/Throwable" "suppressedExceptions" "Ljava/util/List;" .null) (F4 : Fld V.Z h a "java/lang/Throwable" "backtrace" "Ljava/lang/Object;" .null) (F5 : Fld V.Z h a "java/lang/Throwable" "detailMessage" "Ljava/lang/String;" .null) : ConK V b_thr #[.ref a, .ref y] h ps (Qex V a y h) := ConK.th (L := [.val (.ref a), .val (.ref y)]) hst (plainFor_of_name pn_5) rfl rfl (by unfold Jvm.Free.Exc.Head; decide +kernel) rfl rfl (by decide) za (fw V hw) (wd hw 42 rfl) E N F1 F2 F3 F4 F5 hU hSe (by decide) (by decide) (by decide) (by decide) fun K h6 K6 E6 G6 => by
  refine r_pop 28 rfl d22_27 rfl ?_
  refine r_aloadN 29 rfl d22_28 rfl rfl ?_
  refine r_aloadN 30 rfl d22_29 rfl rfl ?_
  have za' := za
  refine r_putfield 33 rfl d22_30 (wd hw 230 rfl) G6 E6 (Or.inl (wd hw 226 rfl)) (wd hw 42 rfl) (ty := (.object "java/lang/String")) (by decide) rfl rfl za (Or.inl (by decide)) fun h222 Wh222 => ?_
  have sh222 := Wh222.size
  have f223 := Exa.wr Wh222 E6
  have f224 := Fld.same Wh222 G6
  refine r_ret rfl d22_33 (by decide) (by decide) [] (fun _ q => nomatch q) ?_
  exact ⟨rfl, K6.wr Wh222 (Or.inl (by simp)), f223, f224⟩
theorem d23_0 : decode jdk_59_method_2_code 0 = .ok (.aload_n 0, 1) := by decide +kernel
theorem d23_1 : decode jdk_59_method_2_code 1 = .ok (.aload_n 1, 1) := by decide +kernel
theorem d23_2 : decode jdk_59_method_2_code 2 = .ok (.invokespecial 7, 3) := by decide +kernel
theorem d23_5 : decode jdk_59_method_2_code 5 = .ok (.return_, 1) := by decide +kernel
abbrev b_exn : Bx := (⟨"java/lang/Exception", "<init>", "(Ljava/lang/String;)V"⟩, jdk_59_method_2_code, 2, none, { frames := 4, cells := 1, slots := 2752, locals := 55 })
theorem c_exn (V : Vw) (hw : ∀ d ∈ tables_1, d.before V.a0 V.Z = true) (hn : V.nar = false) (u0 sen : RefV) (hU : Sta V.Z V.Z.heap "java/lang/Throwable" "UNASSIGNED_STACK" "[Ljava/lang/StackTraceElement;" u0.v) (hSe : Sta V.Z V.Z.heap "java/lang/Throwable" "SUPPRESSED_SENTINEL" "Ljava/util/List;" sen.v) (hst : V.l.stackTraces = true) (a y : Nat) (h : Heap) (ps : List Addr) (za : V.Z.heap.size ≤ a) (E : Exa V.Z h a "java/lang/UnsupportedOperationException") (N : Unt h a) (F1 : Fld V.Z h a "java/lang/Throwable" "cause" "Ljava/lang/Throwable;" .null) (F2 : Fld V.Z h a "java/lang/Throwable" "stackTrace" "[Ljava/lang/StackTraceElement;" .null) (F3 : Fld V.Z h a "java/lang/Throwable" "suppressedExceptions" "Ljava/util/List;" .null) (F4 : Fld V.Z h a "java/lang/Throwable" "backtrace" "Ljava/lang/Object;" .null) (F5 : Fld V.Z h a "java/lang/Throwable" "detailMessage" "Ljava/lang/String;" .null) : ConK V b_exn #[.ref a, .ref y] h ps (Qex V a y h) := ConK.of hst (plainFor_of_name pn_6) (L := [.val (.ref a), .val (.ref y)]) rfl fun K hk => by
  refine r_aloadN 1 rfl d23_0 rfl rfl ?_
  refine r_aloadN 2 rfl d23_1 rfl rfl ?_
  refine r_special 5 rfl d23_2 rfl (wd hw 188 rfl) (wd hw 189 rfl) (wd hw 193 rfl) (by decide) (Pays.conK (K := K) (B := b_exn) hk hn (c_thr V hw hn u0 sen hU hSe hst a y h _ za E N F1 F2 F3 F4 F5) (wd hw 193 rfl) (wd hw 192 rfl) (by decide) (by decide)) (W := 0) (argsL := [.ref y]) (lenOf pd_5 rfl) rfl rfl rfl (Nat.le_of_eq rfl) (Nat.le_of_ble_eq_true rfl) (Nat.le_of_ble_eq_true rfl) fun v228 h229 ps225 q227 z226 => ?_
  obtain ⟨rfl, K1, E1, G1⟩ := q227
  show Own.Run V K b_exn _ h229 _ 1 2752 5 [.val (.ref a), .val (.ref y)] []
  refine r_ret rfl d23_5 (by decide) (by decide) [] (fun _ q => nomatch q) ?_
  exact ⟨rfl, K1, E1, G1⟩
theorem d24_0 : decode jdk_58_method_2_code 0 = .ok (.aload_n 0, 1) := by decide +kernel
theorem d24_1 : decode jdk_58_method_2_code 1 = .ok (.aload_n 1, 1) := by decide +kernel
theorem d24_2 : decode jdk_58_method_2_code 2 = .ok (.invokespecial 7, 3) := by decide +kernel
theorem d24_5 : decode jdk_58_method_2_code 5 = .ok (.return_, 1) := by decide +kernel
abbrev b_rte : Bx := (⟨"java/lang/RuntimeException", "<init>", "(Ljava/lang/String;)V"⟩, jdk_58_method_2_code, 2, none, { frames := 5, cells := 1, slots := 2752, locals := 68 })
theorem c_rte (V : Vw) (hw : ∀ d ∈ tables_1, d.before V.a0 V.Z = true) (hn : V.nar = false) (u0 sen : RefV) (hU : Sta V.Z V.Z.heap "java/lang/Throwable" "UNASSIGNED_STACK" "[Ljava/lang/StackTraceElement;" u0.v) (hSe : Sta V.Z V.Z.heap "java/lang/Throwable" "SUPPRESSED_SENTINEL" "Ljava/util/List;" sen.v) (hst : V.l.stackTraces = true) (a y : Nat) (h : Heap) (ps : List Addr) (za : V.Z.heap.size ≤ a) (E : Exa V.Z h a "java/lang/UnsupportedOperationException") (N : Unt h a) (F1 : Fld V.Z h a "java/lang/Throwable" "cause" "Ljava/lang/Throwable;" .null) (F2 : Fld V.Z h a "java/lang/Throwable" "stackTrace" "[Ljava/lang/StackTraceElement;" .null) (F3 : Fld V.Z h a "java/lang/Throwable" "suppressedExceptions" "Ljava/util/List;" .null) (F4 : Fld V.Z h a "java/lang/Throwable" "backtrace" "Ljava/lang/Object;" .null) (F5 : Fld V.Z h a "java/lang/Throwable" "detailMessage" "Ljava/lang/String;" .null) : ConK V b_rte #[.ref a, .ref y] h ps (Qex V a y h) := ConK.of hst (plainFor_of_name pn_7) (L := [.val (.ref a), .val (.ref y)]) rfl fun K hk => by
  refine r_aloadN 1 rfl d24_0 rfl rfl ?_
  refine r_aloadN 2 rfl d24_1 rfl rfl ?_
  refine r_special 5 rfl d24_2 rfl (wd hw 182 rfl) (wd hw 183 rfl) (wd hw 187 rfl) (by decide) (Pays.conK (K := K) (B := b_rte) hk hn (c_exn V hw hn u0 sen hU hSe hst a y h _ za E N F1 F2 F3 F4 F5) (wd hw 187 rfl) (wd hw 186 rfl) (by decide) (by decide)) (W := 0) (argsL := [.ref y]) (lenOf pd_5 rfl) rfl rfl rfl (Nat.le_of_eq rfl) (Nat.le_of_ble_eq_true rfl) (Nat.le_of_ble_eq_true rfl) fun v233 h234 ps230 q232 z231 => ?_
  obtain ⟨rfl, K1, E1, G1⟩ := q232
  show Own.Run V K b_rte _ h234 _ 1 2752 5 [.val (.ref a), .val (.ref y)] []
  refine r_ret rfl d24_5 (by decide) (by decide) [] (fun _ q => nomatch q) ?_
  exact ⟨rfl, K1, E1, G1⟩
theorem d25_0 : decode jdk_102_method_2_code 0 = .ok (.aload_n 0, 1) := by decide +kernel
theorem d25_1 : decode jdk_102_method_2_code 1 = .ok (.aload_n 1, 1) := by decide +kernel
theorem d25_2 : decode jdk_102_method_2_code 2 = .ok (.invokespecial 7, 3) := by decide +kernel
theorem d25_5 : decode jdk_102_method_2_code 5 = .ok (.return_, 1) := by decide +kernel
abbrev b_uoe : Bx := (⟨"java/lang/UnsupportedOperationException", "<init>", "(Ljava/lang/String;)V"⟩, jdk_102_method_2_code, 2, none, { frames := 6, cells := 1, slots := 2752, locals := 81 })
theorem c_uoe (V : Vw) (hw : ∀ d ∈ tables_1, d.before V.a0 V.Z = true) (hn : V.nar = false) (u0 sen : RefV) (hU : Sta V.Z V.Z.heap "java/lang/Throwable" "UNASSIGNED_STACK" "[Ljava/lang/StackTraceElement;" u0.v) (hSe : Sta V.Z V.Z.heap "java/lang/Throwable" "SUPPRESSED_SENTINEL" "Ljava/util/List;" sen.v) (hst : V.l.stackTraces = true) (a y : Nat) (h : Heap) (ps : List Addr) (za : V.Z.heap.size ≤ a) (E : Exa V.Z h a "java/lang/UnsupportedOperationException") (N : Unt h a) (F1 : Fld V.Z h a "java/lang/Throwable" "cause" "Ljava/lang/Throwable;" .null) (F2 : Fld V.Z h a "java/lang/Throwable" "stackTrace" "[Ljava/lang/StackTraceElement;" .null) (F3 : Fld V.Z h a "java/lang/Throwable" "suppressedExceptions" "Ljava/util/List;" .null) (F4 : Fld V.Z h a "java/lang/Throwable" "backtrace" "Ljava/lang/Object;" .null) (F5 : Fld V.Z h a "java/lang/Throwable" "detailMessage" "Ljava/lang/String;" .null) : ConK V b_uoe #[.ref a, .ref y] h ps (Qex V a y h) := ConK.of hst (plainFor_of_name pn_8) (L := [.val (.ref a), .val (.ref y)]) rfl fun K hk => by
  refine r_aloadN 1 rfl d25_0 rfl rfl ?_
  refine r_aloadN 2 rfl d25_1 rfl rfl ?_
  refine r_special 5 rfl d25_2 rfl (wd hw 176 rfl) (wd hw 177 rfl) (wd hw 181 rfl) (by decide) (Pays.conK (K := K) (B := b_uoe) hk hn (c_rte V hw hn u0 sen hU hSe hst a y h _ za E N F1 F2 F3 F4 F5) (wd hw 181 rfl) (wd hw 180 rfl) (by decide) (by decide)) (W := 0) (argsL := [.ref y]) (lenOf pd_5 rfl) rfl rfl rfl (Nat.le_of_eq rfl) (Nat.le_of_ble_eq_true rfl) (Nat.le_of_ble_eq_true rfl) fun v238 h239 ps235 q237 z236 => ?_
  obtain ⟨rfl, K1, E1, G1⟩ := q237
  show Own.Run V K b_uoe _ h239 _ 1 2752 5 [.val (.ref a), .val (.ref y)] []
  refine r_ret rfl d25_5 (by decide) (by decide) [] (fun _ q => nomatch q) ?_
  exact ⟨rfl, K1, E1, G1⟩
theorem d26_0 : decode jdk_29_method_65_code 0 = .ok (.iload_n 0, 1) := by decide +kernel
theorem d26_1 : decode jdk_29_method_65_code 1 = .ok (.iload_n 1, 1) := by decide +kernel
theorem d26_2 : decode jdk_29_method_65_code 2 = .ok (.if_icmp .lt 7, 3) := by decide +kernel
theorem d26_5 : decode jdk_29_method_65_code 5 = .ok (.iload_n 0, 1) := by decide +kernel
theorem d26_6 : decode jdk_29_method_65_code 6 = .ok (.goto 4, 3) := by decide +kernel
theorem d26_9 : decode jdk_29_method_65_code 9 = .ok (.iload_n 1, 1) := by decide +kernel
theorem d26_10 : decode jdk_29_method_65_code 10 = .ok (.ireturn, 1) := by decide +kernel
abbrev b_max : Bx := (⟨"java/lang/Math", "max", "(II)I"⟩, jdk_29_method_65_code, 2, some .int, { frames := 0, cells := 0, slots := 0, locals := 0 })
def mx2 (a b : Int32) : Int32 := if a < b then b else a
theorem c_max (V : Vw) (hw : ∀ d ∈ tables_1, d.before V.a0 V.Z = true) (a b : Int32) (h : Heap) (ps : List Addr) : Con V b_max #[.int a, .int b] h ps (Qi (mx2 a b) h) := Con.of (by decide +kernel) (L := [.val (.int a), .val (.int b)]) rfl fun K => by
  refine r_iloadN 1 rfl d26_0 rfl ?_
  refine r_iloadN 2 rfl d26_1 rfl ?_
  refine r_icmp_lt 9 5 d26_2 (by decide) rfl rfl (fun c240 => ?_) (fun c240 => ?_)
  · refine r_iloadN 10 rfl d26_9 rfl ?_
    refine r_iret rfl d26_10 (by decide) (by decide) [] (fun _ q => nomatch q) ?_
    exact ⟨by rw [show mx2 a b = b from if_pos c240], rfl⟩
  · refine r_iloadN 6 rfl d26_5 rfl ?_
    refine r_goto 10 d26_6 (by decide) rfl ?_
    refine r_iret rfl d26_10 (by decide) (by decide) [] (fun _ q => nomatch q) ?_
    exact ⟨by rw [show mx2 a b = a from if_neg c240], rfl⟩
theorem d27_0 : decode jdk_48_method_27_code 0 = .ok (.iload_n 0, 1) := by decide +kernel
theorem d27_1 : decode jdk_48_method_27_code 1 = .ok (.iload_n 1, 1) := by decide +kernel
theorem d27_2 : decode jdk_48_method_27_code 2 = .ok (.iload_n 2, 1) := by decide +kernel
theorem d27_3 : decode jdk_48_method_27_code 3 = .ok (.invokestatic 194, 3) := by decide +kernel
theorem d27_6 : decode jdk_48_method_27_code 6 = .ok (.iadd, 1) := by decide +kernel
theorem d27_7 : decode jdk_48_method_27_code 7 = .ok (.istore_n 3, 1) := by decide +kernel
theorem d27_8 : decode jdk_48_method_27_code 8 = .ok (.iconst 0, 1) := by decide +kernel
theorem d27_9 : decode jdk_48_method_27_code 9 = .ok (.iload_n 3, 1) := by decide +kernel
theorem d27_10 : decode jdk_48_method_27_code 10 = .ok (.if_icmp .ge 11, 3) := by decide +kernel
theorem d27_13 : decode jdk_48_method_27_code 13 = .ok (.iload_n 3, 1) := by decide +kernel
theorem d27_14 : decode jdk_48_method_27_code 14 = .ok (.ldc 200, 2) := by decide +kernel
theorem d27_16 : decode jdk_48_method_27_code 16 = .ok (.if_icmp .gt 5, 3) := by decide +kernel
theorem d27_19 : decode jdk_48_method_27_code 19 = .ok (.iload_n 3, 1) := by decide +kernel
theorem d27_20 : decode jdk_48_method_27_code 20 = .ok (.ireturn, 1) := by decide +kernel
theorem d27_21 : decode jdk_48_method_27_code 21 = .ok (.iload_n 0, 1) := by decide +kernel
theorem d27_22 : decode jdk_48_method_27_code 22 = .ok (.iload_n 1, 1) := by decide +kernel
theorem d27_23 : decode jdk_48_method_27_code 23 = .ok (.invokestatic 201, 3) := by decide +kernel
theorem d27_26 : decode jdk_48_method_27_code 26 = .ok (.ireturn, 1) := by decide +kernel
abbrev b_nlen : Bx := (⟨"jdk/internal/util/ArraysSupport", "newLength", "(III)I"⟩, jdk_48_method_27_code, 4, some .int, { frames := 1, cells := 0, slots := 0, locals := 18 })
theorem c_nlen (V : Vw) (hw : ∀ d ∈ tables_1, d.before V.a0 V.Z = true) (h : Heap) (ps : List Addr) : Con V b_nlen #[.int 16, .int 6, .int 18] h ps (Qi 34 h) := Con.of (plainFor_of_name pn_9) (L := [.val (.int (16 : Int32)), .val (.int (6 : Int32)), .val (.int (18 : Int32)), .unset]) rfl fun K => by
  refine r_iloadN 1 rfl d27_0 rfl ?_
  refine r_iloadN 2 rfl d27_1 rfl ?_
  refine r_iloadN 3 rfl d27_2 rfl ?_
  refine r_static 6 rfl d27_3 (wd hw 99 rfl) (wd hw 100 rfl) (wd hw 101 rfl) (wd hw 102 rfl) (by decide) (Pays.con (K := K) (B := b_nlen) (c_max V hw 6 18 h _) (wd hw 102 rfl) (wd hw 101 rfl) (by decide) (by decide)) (W := 1) (argsL := [.int (6 : Int32), .int (18 : Int32)]) (lenOf pd_14 rfl) rfl rfl rfl (Nat.le_of_eq rfl) (Nat.le_of_ble_eq_true rfl) (Nat.le_of_ble_eq_true rfl) fun v244 h245 ps241 q243 z242 => ?_
  obtain ⟨rfl, es246⟩ := q243
  subst h245
  show Own.Run V K b_nlen _ h _ 0 0 6 [.val (.int (16 : Int32)), .val (.int (6 : Int32)), .val (.int (18 : Int32)), .unset] [.int (mx2 6 18), .int (16 : Int32)]
  rw [show mx2 6 18 = 18 from by decide]
  refine r_iadd 7 rfl d27_6 ?_
  rw [show (16 : Int32) + 18 = 34 from by decide]
  refine r_istoreN [.val (.int (16 : Int32)), .val (.int (6 : Int32)), .val (.int (18 : Int32)), .val (.int (34 : Int32))] 8 rfl d27_7 rfl ?_
  refine r_iconst (0 : Int32) 9 rfl d27_8 rfl ?_
  refine r_iloadN 10 rfl d27_9 rfl ?_
  refine r_icmp_ge 21 13 d27_10 (by decide) rfl rfl (fun c247 => ?_) (fun c247 => ?_)
  · exact absurd c247 (by decide)
  refine r_iloadN 14 rfl d27_13 rfl ?_
  refine r_ldcI 16 rfl d27_14 (wd hw 103 rfl) ?_
  refine r_icmp_gt 21 19 d27_16 (by decide) rfl rfl (fun c248 => ?_) (fun c248 => ?_)
  · exact absurd c248 (by decide)
  refine r_iloadN 20 rfl d27_19 rfl ?_
  refine r_iret rfl d27_20 (by decide) (by decide) [] (fun _ q => nomatch q) ?_
  exact ⟨rfl, rfl⟩
theorem d28_0 : decode jdk_68_method_10_code 0 = .ok (.aload_n 0, 1) := by decide +kernel
theorem d28_1 : decode jdk_68_method_10_code 1 = .ok (.getfield 15, 3) := by decide +kernel
theorem d28_4 : decode jdk_68_method_10_code 4 = .ok (.arraylength, 1) := by decide +kernel
theorem d28_5 : decode jdk_68_method_10_code 5 = .ok (.istore_n 2, 1) := by decide +kernel
theorem d28_6 : decode jdk_68_method_10_code 6 = .ok (.iload_n 1, 1) := by decide +kernel
theorem d28_7 : decode jdk_68_method_10_code 7 = .ok (.aload_n 0, 1) := by decide +kernel
theorem d28_8 : decode jdk_68_method_10_code 8 = .ok (.getfield 22, 3) := by decide +kernel
theorem d28_11 : decode jdk_68_method_10_code 11 = .ok (.ishl, 1) := by decide +kernel
theorem d28_12 : decode jdk_68_method_10_code 12 = .ok (.istore_n 3, 1) := by decide +kernel
theorem d28_13 : decode jdk_68_method_10_code 13 = .ok (.iload_n 3, 1) := by decide +kernel
theorem d28_14 : decode jdk_68_method_10_code 14 = .ok (.iload_n 2, 1) := by decide +kernel
theorem d28_15 : decode jdk_68_method_10_code 15 = .ok (.isub, 1) := by decide +kernel
theorem d28_16 : decode jdk_68_method_10_code 16 = .ok (.istore 4, 2) := by decide +kernel
theorem d28_18 : decode jdk_68_method_10_code 18 = .ok (.iload_n 2, 1) := by decide +kernel
theorem d28_19 : decode jdk_68_method_10_code 19 = .ok (.iload 4, 2) := by decide +kernel
theorem d28_21 : decode jdk_68_method_10_code 21 = .ok (.iload_n 2, 1) := by decide +kernel
theorem d28_22 : decode jdk_68_method_10_code 22 = .ok (.iconst 2, 1) := by decide +kernel
theorem d28_23 : decode jdk_68_method_10_code 23 = .ok (.aload_n 0, 1) := by decide +kernel
theorem d28_24 : decode jdk_68_method_10_code 24 = .ok (.getfield 22, 3) := by decide +kernel
theorem d28_27 : decode jdk_68_method_10_code 27 = .ok (.ishl, 1) := by decide +kernel
theorem d28_28 : decode jdk_68_method_10_code 28 = .ok (.iadd, 1) := by decide +kernel
theorem d28_29 : decode jdk_68_method_10_code 29 = .ok (.invokestatic 114, 3) := by decide +kernel
theorem d28_32 : decode jdk_68_method_10_code 32 = .ok (.istore 5, 2) := by decide +kernel
theorem d28_34 : decode jdk_68_method_10_code 34 = .ok (.iload 5, 2) := by decide +kernel
theorem d28_36 : decode jdk_68_method_10_code 36 = .ok (.ldc 39, 2) := by decide +kernel
theorem d28_38 : decode jdk_68_method_10_code 38 = .ok (.if_icmp .ne 13, 3) := by decide +kernel
theorem d28_41 : decode jdk_68_method_10_code 41 = .ok (.new 120, 3) := by decide +kernel
theorem d28_44 : decode jdk_68_method_10_code 44 = .ok (.dup, 1) := by decide +kernel
theorem d28_45 : decode jdk_68_method_10_code 45 = .ok (.ldc 122, 2) := by decide +kernel
theorem d28_47 : decode jdk_68_method_10_code 47 = .ok (.invokespecial 124, 3) := by decide +kernel
theorem d28_50 : decode jdk_68_method_10_code 50 = .ok (.athrow, 1) := by decide +kernel
theorem d28_51 : decode jdk_68_method_10_code 51 = .ok (.iload 5, 2) := by decide +kernel
theorem d28_53 : decode jdk_68_method_10_code 53 = .ok (.aload_n 0, 1) := by decide +kernel
theorem d28_54 : decode jdk_68_method_10_code 54 = .ok (.getfield 22, 3) := by decide +kernel
theorem d28_57 : decode jdk_68_method_10_code 57 = .ok (.ishr, 1) := by decide +kernel
theorem d28_58 : decode jdk_68_method_10_code 58 = .ok (.ireturn, 1) := by decide +kernel
abbrev b_ncap : Bx := (⟨"java/lang/AbstractStringBuilder", "newCapacity", "(I)I"⟩, jdk_68_method_10_code, 6, some .int, { frames := 2, cells := 0, slots := 0, locals := 40 })
theorem c_ncap (V : Vw) (hw : ∀ d ∈ tables_1, d.before V.a0 V.Z = true) (s t : Nat) (h : Heap) (ps : List Addr) (S : Sb V h s t 16 []) : Con V b_ncap #[.ref s, .int 22] h ps (Qi 34 h) := Con.of (plainFor_of_name pn_1) (L := [.val (.ref s), .val (.int (22 : Int32)), .unset, .unset, .unset, .unset]) rfl fun K => by
  obtain ⟨kb, zs, zt, X, Fv, Fc, Fn, A, lc, lcap⟩ := id S
  refine r_aloadN 1 rfl d28_0 rfl rfl ?_
  refine r_getfield 4 rfl d28_1 (wd hw 58 rfl) Fv ?_
  refine r_arraylength 5 rfl d28_4 A ?_
  show Own.Run V K b_ncap _ h _ 0 0 5 [.val (.ref s), .val (.int (22 : Int32)), .unset, .unset, .unset, .unset] [.int (16 : Int32)]
  refine r_istoreN [.val (.ref s), .val (.int (22 : Int32)), .val (.int (16 : Int32)), .unset, .unset, .unset] 6 rfl d28_5 rfl ?_
  refine r_iloadN 7 rfl d28_6 rfl ?_
  refine r_aloadN 8 rfl d28_7 rfl rfl ?_
  refine r_getfield 11 rfl d28_8 (wd hw 60 rfl) Fc ?_
  refine r_ishl 12 rfl d28_11 ?_
  rw [shl0]
  refine r_istoreN [.val (.ref s), .val (.int (22 : Int32)), .val (.int (16 : Int32)), .val (.int (22 : Int32)), .unset, .unset] 13 rfl d28_12 rfl ?_
  refine r_iloadN 14 rfl d28_13 rfl ?_
  refine r_iloadN 15 rfl d28_14 rfl ?_
  refine r_isub 16 rfl d28_15 ?_
  rw [show (22 : Int32) - 16 = 6 from by decide]
  refine r_istore [.val (.ref s), .val (.int (22 : Int32)), .val (.int (16 : Int32)), .val (.int (22 : Int32)), .val (.int (6 : Int32)), .unset] 18 rfl d28_16 rfl ?_
  refine r_iloadN 19 rfl d28_18 rfl ?_
  refine r_iload 21 rfl d28_19 rfl ?_
  refine r_iloadN 22 rfl d28_21 rfl ?_
  refine r_iconst (2 : Int32) 23 rfl d28_22 rfl ?_
  refine r_aloadN 24 rfl d28_23 rfl rfl ?_
  refine r_getfield 27 rfl d28_24 (wd hw 60 rfl) Fc ?_
  refine r_ishl 28 rfl d28_27 ?_
  rw [shl0]
  refine r_iadd 29 rfl d28_28 ?_
  rw [show (16 : Int32) + 2 = 18 from by decide]
  refine r_static 32 rfl d28_29 (wd hw 95 rfl) (wd hw 96 rfl) (wd hw 97 rfl) (wd hw 98 rfl) (by decide) (Pays.con (K := K) (B := b_ncap) (c_nlen V hw h _) (wd hw 98 rfl) (wd hw 97 rfl) (by decide) (by decide)) (W := 0) (argsL := [.int (16 : Int32), .int (6 : Int32), .int (18 : Int32)]) (lenOf pd_19 rfl) rfl rfl rfl (Nat.le_of_eq rfl) (Nat.le_of_ble_eq_true rfl) (Nat.le_of_ble_eq_true rfl) fun v252 h253 ps249 q251 z250 => ?_
  obtain ⟨rfl, es254⟩ := q251
  subst h253
  show Own.Run V K b_ncap _ h _ 0 0 32 [.val (.ref s), .val (.int (22 : Int32)), .val (.int (16 : Int32)), .val (.int (22 : Int32)), .val (.int (6 : Int32)), .unset] [.int (34 : Int32)]
  refine r_istore [.val (.ref s), .val (.int (22 : Int32)), .val (.int (16 : Int32)), .val (.int (22 : Int32)), .val (.int (6 : Int32)), .val (.int (34 : Int32))] 34 rfl d28_32 rfl ?_
  refine r_iload 36 rfl d28_34 rfl ?_
  refine r_ldcI 38 rfl d28_36 (wd hw 104 rfl) ?_
  refine r_icmp_ne 51 41 d28_38 (by decide) rfl rfl (fun c255 => ?_) (fun c255 => ?_)
  rotate_left
  · exact absurd c255 (by decide)
  refine r_iload 53 rfl d28_51 rfl ?_
  refine r_aloadN 54 rfl d28_53 rfl rfl ?_
  refine r_getfield 57 rfl d28_54 (wd hw 60 rfl) Fc ?_
  refine r_ishr 58 rfl d28_57 ?_
  rw [shr0]
  refine r_iret rfl d28_58 (by decide) (by decide) [] (fun _ q => nomatch q) ?_
  exact ⟨rfl, rfl⟩
theorem d29_0 : decode jdk_65_method_121_code 0 = .ok (.iload_n 1, 1) := by decide +kernel
theorem d29_1 : decode jdk_65_method_121_code 1 = .ok (.aload_n 0, 1) := by decide +kernel
theorem d29_2 : decode jdk_65_method_121_code 2 = .ok (.arraylength, 1) := by decide +kernel
theorem d29_3 : decode jdk_65_method_121_code 3 = .ok (.if_icmp .ne 11, 3) := by decide +kernel
theorem d29_6 : decode jdk_65_method_121_code 6 = .ok (.aload_n 0, 1) := by decide +kernel
theorem d29_7 : decode jdk_65_method_121_code 7 = .ok (.invokevirtual 310, 3) := by decide +kernel
theorem d29_10 : decode jdk_65_method_121_code 10 = .ok (.checkcast 311, 3) := by decide +kernel
theorem d29_13 : decode jdk_65_method_121_code 13 = .ok (.areturn, 1) := by decide +kernel
theorem d29_14 : decode jdk_65_method_121_code 14 = .ok (.iload_n 1, 1) := by decide +kernel
theorem d29_15 : decode jdk_65_method_121_code 15 = .ok (.newarray .byte, 2) := by decide +kernel
theorem d29_17 : decode jdk_65_method_121_code 17 = .ok (.astore_n 2, 1) := by decide +kernel
theorem d29_18 : decode jdk_65_method_121_code 18 = .ok (.aload_n 0, 1) := by decide +kernel
theorem d29_19 : decode jdk_65_method_121_code 19 = .ok (.iconst 0, 1) := by decide +kernel
theorem d29_20 : decode jdk_65_method_121_code 20 = .ok (.aload_n 2, 1) := by decide +kernel
theorem d29_21 : decode jdk_65_method_121_code 21 = .ok (.iconst 0, 1) := by decide +kernel
theorem d29_22 : decode jdk_65_method_121_code 22 = .ok (.aload_n 0, 1) := by decide +kernel
theorem d29_23 : decode jdk_65_method_121_code 23 = .ok (.arraylength, 1) := by decide +kernel
theorem d29_24 : decode jdk_65_method_121_code 24 = .ok (.iload_n 1, 1) := by decide +kernel
theorem d29_25 : decode jdk_65_method_121_code 25 = .ok (.invokestatic 304, 3) := by decide +kernel
theorem d29_28 : decode jdk_65_method_121_code 28 = .ok (.invokestatic 150, 3) := by decide +kernel
theorem d29_31 : decode jdk_65_method_121_code 31 = .ok (.aload_n 2, 1) := by decide +kernel
theorem d29_32 : decode jdk_65_method_121_code 32 = .ok (.areturn, 1) := by decide +kernel
abbrev b_cpo : Bx := (⟨"java/util/Arrays", "copyOf", "([BI)[B"⟩, jdk_65_method_121_code, 3, some (.array .byte), { frames := 1, cells := 1, slots := 34, locals := 46 })
theorem c_cpo (V : Vw) (hw : ∀ d ∈ tables_1, d.before V.a0 V.Z = true) (t : Nat) (kb : ClassId) (h : Heap) (ps : List Addr) (A : Arv V.Z h t kb .byte 16 [] (.int 0)) : Con V b_cpo #[.ref t, .int 34] h ps (fun v h' ps' => ∃ (u : Nat) (k : ClassId), v = some (.ref u) ∧ Ext h h' ∧ h.size ≤ u ∧ V.Z.heap.size ≤ u ∧ u ∈ ps' ∧ Arv V.Z h' u k .byte 34 [] (.int 0)) := Con.of (plainFor_of_name pn_3) (L := [.val (.ref t), .val (.int (34 : Int32)), .unset]) rfl fun K => by
  refine r_iloadN 1 rfl d29_0 rfl ?_
  refine r_aloadN 2 rfl d29_1 rfl rfl ?_
  refine r_arraylength 3 rfl d29_2 A ?_
  refine r_icmp_ne 14 6 d29_3 (by decide) rfl rfl (fun c256 => ?_) (fun c256 => ?_)
  rotate_left
  · exact absurd c256 (by decide)
  refine r_iloadN 15 rfl d29_14 rfl ?_
  refine r_newarray 34 17 rfl d29_15 (wd hw 15 rfl) (by decide) (by decide) (by decide) (by decide) (by decide) fun a257 h258 k259 ga257 za257 Eh258 Aa257 => ?_
  have f260 := A.ext Eh258
  have sh258 := Eh258.1
  have la257 := ltN Aa257.lt
  have f261 : Arv V.Z h258 a257 k259 .byte (34 : Int32) [.int 0, .int 0, .int 0, .int 0, .int 0, .int 0, .int 0, .int 0, .int 0, .int 0, .int 0, .int 0, .int 0, .int 0, .int 0, .int 0, .int 0, .int 0, .int 0, .int 0, .int 0, .int 0, .int 0, .int 0, .int 0, .int 0, .int 0, .int 0, .int 0, .int 0, .int 0, .int 0, .int 0, .int 0] (.int 0) := Arv.pad Aa257 (pad_rep [] (.int 0) 34)
  refine r_astoreN [.val (.ref t), .val (.int (34 : Int32)), .val (.ref a257)] 18 rfl d29_17 rfl rfl ?_
  refine r_aloadN 19 rfl d29_18 rfl rfl ?_
  refine r_iconst (0 : Int32) 20 rfl d29_19 rfl ?_
  refine r_aloadN 21 rfl d29_20 rfl rfl ?_
  refine r_iconst (0 : Int32) 22 rfl d29_21 rfl ?_
  refine r_aloadN 23 rfl d29_22 rfl rfl ?_
  refine r_arraylength 24 rfl d29_23 f260 ?_
  refine r_iloadN 25 rfl d29_24 rfl ?_
  refine r_static 28 rfl d29_25 (wd hw 109 rfl) (wd hw 110 rfl) (wd hw 101 rfl) (wd hw 111 rfl) (by decide) (Pays.con (K := K) (B := b_cpo) (c_min V hw 16 34 h258 _) (wd hw 111 rfl) (wd hw 101 rfl) (by decide) (by decide)) (W := 4) (argsL := [.int (16 : Int32), .int (34 : Int32)]) (lenOf pd_14 rfl) rfl rfl rfl (Nat.le_of_eq rfl) (Nat.le_of_ble_eq_true rfl) (Nat.le_of_ble_eq_true rfl) fun v265 h266 ps262 q264 z263 => ?_
  obtain ⟨rfl, es267⟩ := q264
  subst h266
  show Own.Run V K b_cpo _ h258 _ 1 34 28 [.val (.ref t), .val (.int (34 : Int32)), .val (.ref a257)] [.int (mn2 16 34), .int (0 : Int32), .ref a257, .int (0 : Int32), .ref t]
  rw [show mn2 16 34 = 16 from by decide]
  refine r_acopy 0 0 16 0 [] 31 rfl d29_28 (wd hw 112 rfl) (wd hw 115 rfl) (wd hw 113 rfl) (wd hw 114 rfl) f260 Aa257 (rfl) (rfl) (rfl) (by decide) (by decide) (fun j _ => by simp) za257 (by simp) rfl (by decide) (Nat.le_of_eq rfl) (by decide) fun h268 Kh268 Ah268 => ?_
  refine r_aloadN 32 rfl d29_31 rfl rfl ?_
  refine r_aret (t := (.array .byte)) rfl rfl rfl d29_32 (by decide) (by decide) [a257] (fun y hy => by cases List.mem_singleton.mp hy; simp) ?_
  exact ⟨_, _, rfl, Keep.ext0 Eh258 Kh268 (fun w hw' => by cases List.mem_singleton.mp hw'; exact leA (by omega)), by omega, za257, List.mem_singleton.mpr rfl, Ah268⟩
def Qeg (V : Vw) (s : Nat) (h0 : Heap) : Qt := fun v h ps => v = none ∧ ∃ u : Nat, u ∈ ps ∧ h0.size ≤ u ∧ Keep h0 h [s] ∧ Sb V h s u 34 []
abbrev b_ensG : Bx := (⟨"java/lang/AbstractStringBuilder", "ensureCapacityInternal", "(I)V"⟩, jdk_68_method_9_code, 3, none, { frames := 3, cells := 1, slots := 34, locals := 62 })
theorem c_ensG (V : Vw) (hw : ∀ d ∈ tables_1, d.before V.a0 V.Z = true) (s t : Nat) (h : Heap) (ps : List Addr) (S : Sb V h s t 16 []) : Con V b_ensG #[.ref s, .int 22] h ps (Qeg V s h) := Con.of (plainFor_of_name pn_1) (L := [.val (.ref s), .val (.int (22 : Int32)), .unset]) rfl fun K => by
  obtain ⟨kb, zs, zt, X, Fv, Fc, Fn, A, lc, lcap⟩ := id S
  have nst := neN (X.neArv A (wd hw 45 rfl))
  have ls := ltN X.lt
  have lt_ := ltN A.lt
  refine r_aloadN 1 rfl d4_0 rfl rfl ?_
  refine r_getfield 4 rfl d4_1 (wd hw 58 rfl) Fv ?_
  refine r_arraylength 5 rfl d4_4 A ?_
  refine r_aloadN 6 rfl d4_5 rfl rfl ?_
  refine r_getfield 9 rfl d4_6 (wd hw 60 rfl) Fc ?_
  refine r_ishr 10 rfl d4_9 ?_
  rw [shr0]
  show Own.Run V K b_ensG _ h _ 0 0 10 [.val (.ref s), .val (.int (22 : Int32)), .unset] [.int (16 : Int32)]
  refine r_istoreN [.val (.ref s), .val (.int (22 : Int32)), .val (.int (16 : Int32))] 11 rfl d4_10 rfl ?_
  refine r_iloadN 12 rfl d4_11 rfl ?_
  refine r_iloadN 13 rfl d4_12 rfl ?_
  refine r_isub 14 rfl d4_13 ?_
  refine r_if_le 38 17 d4_14 (by decide) rfl rfl (fun c269 => ?_) (fun c269 => ?_)
  · exact absurd c269 (by decide)
  refine r_aloadN 18 rfl d4_17 rfl rfl ?_
  refine r_aloadN 19 rfl d4_18 rfl rfl ?_
  refine r_getfield 22 rfl d4_19 (wd hw 58 rfl) Fv ?_
  refine r_aloadN 23 rfl d4_22 rfl rfl ?_
  refine r_iloadN 24 rfl d4_23 rfl ?_
  refine r_private 27 rfl d4_24 (wd hw 90 rfl) (wd hw 92 rfl) (wd hw 93 rfl) (wd hw 91 rfl) (wd hw 94 rfl) (by decide) X (Pays.con (K := K) (B := b_ensG) (c_ncap V hw s t h _ S) (wd hw 94 rfl) (wd hw 54 rfl) (by decide) (by decide)) (W := 2) (argsL := [.int (22 : Int32)]) (lenOf pd_20 rfl) rfl rfl rfl (Nat.le_of_eq rfl) (Nat.le_of_ble_eq_true rfl) (Nat.le_of_ble_eq_true rfl) fun v273 h274 ps270 q272 z271 => ?_
  obtain ⟨rfl, es275⟩ := q272
  subst h274
  show Own.Run V K b_ensG _ h _ 0 0 27 [.val (.ref s), .val (.int (22 : Int32)), .val (.int (16 : Int32))] [.int (34 : Int32), .ref t, .ref s]
  refine r_aloadN 28 rfl d4_27 rfl rfl ?_
  refine r_getfield 31 rfl d4_28 (wd hw 60 rfl) Fc ?_
  refine r_ishl 32 rfl d4_31 ?_
  rw [shl0]
  refine r_static 35 rfl d4_32 (wd hw 105 rfl) (wd hw 106 rfl) (wd hw 107 rfl) (wd hw 108 rfl) (by decide) (Pays.con (K := K) (B := b_ensG) (c_cpo V hw t kb h _ A) (wd hw 108 rfl) (wd hw 107 rfl) (by decide) (by decide)) (W := 1) (argsL := [.ref t, .int (34 : Int32)]) (lenOf pd_21 rfl) rfl rfl rfl (Nat.le_of_eq rfl) (Nat.le_of_ble_eq_true rfl) (Nat.le_of_ble_eq_true rfl) fun v278 h279 psu q277 z276 => ?_
  obtain ⟨u, ku, rfl, E1, gu, zu, mu, A1⟩ := q277
  have f280 := Exa.ext E1 X
  have f281 := Fld.ext E1 Fv
  have f282 := Fld.ext E1 Fc
  have f283 := Fld.ext E1 Fn
  have f284 := A.ext E1
  have sh279 := E1.1
  show Own.Run V K b_ensG _ h279 _ 1 34 35 [.val (.ref s), .val (.int (22 : Int32)), .val (.int (16 : Int32))] [.ref u, .ref s]
  have lu := ltN A1.lt
  refine r_putfield 38 rfl d4_35 (wd hw 58 rfl) f281 f280 (Or.inl (wd hw 59 rfl)) (wd hw 45 rfl) (ty := (.array .byte)) (by decide) rfl rfl zs (Or.inl (by decide)) fun h285 Wh285 => ?_
  have sh285 := Wh285.size
  have f286 := Exa.wr Wh285 f280
  have f287 := Fld.same Wh285 f281
  have f288 := Fld.other Wh285 f282 (Or.inr (slot_ne (C := "java/lang/StringBuilder") (Or.inl (wd hw 61 rfl)) (Or.inl (wd hw 59 rfl)) (by decide) (t := .byte) (by decide) (t' := (.array .byte)) (by decide)))
  have f289 := Fld.other Wh285 f283 (Or.inr (slot_ne (C := "java/lang/StringBuilder") (Or.inl (wd hw 84 rfl)) (Or.inl (wd hw 59 rfl)) (by decide) (t := .int) (by decide) (t' := (.array .byte)) (by decide)))
  have f290 := Arv.other f284 Wh285 (neA (by omega))
  have f291 := Arv.other A1 Wh285 (neA (by omega))
  refine r_ret rfl d4_38 (by decide) (by decide) psu (fun y hy => List.mem_append_left _ hy) ?_
  exact ⟨rfl, u, mu, gu, ((Keep.refl _ _).ext E1).wr Wh285 (Or.inl (by simp)), ku, zs, zu, f286, f287, f288, f289, f291, Nat.zero_le _, by decide⟩
def Qag (V : Vw) (s : Nat) (cs : List Int32) (h0 : Heap) : Qt := fun v h ps => v = some (.ref s) ∧ ∃ u : Nat, u ∈ ps ∧ h0.size ≤ u ∧ Keep h0 h [s] ∧ Sb V h s u 34 cs
abbrev b_apG : Bx := (⟨"java/lang/AbstractStringBuilder", "append", "(Ljava/lang/String;)Ljava/lang/AbstractStringBuilder;"⟩, jdk_68_method_22_code, 3, some (.object "java/lang/AbstractStringBuilder"), { frames := 4, cells := 1, slots := 34, locals := 86 })
theorem c_apG (V : Vw) (hw : ∀ d ∈ tables_1, d.before V.a0 V.Z = true) (cz : Int32) (hCS : Sta V.Z V.Z.heap "java/lang/String" "COMPACT_STRINGS" "Z" (.int cz)) (hcz : ¬ cz = 0) (s t : Nat) (h : Heap) (ps : List Addr) (S : Sb V h s t 16 []) (x m : Nat) (Sx : Str V h m x P22) : Con V b_apG #[.ref s, .ref x] h ps (Qag V s P22 h) := Con.of (plainFor_of_name pn_1) (L := [.val (.ref s), .val (.ref x), .unset]) rfl fun K => by
  obtain ⟨kb, zs, zt, X, Fv, Fc, Fn, A, lc, lcap⟩ := id S
  refine Run.old fun OX => ?_
  have nst := neN (X.neArv A (wd hw 45 rfl))
  have ls := ltN X.lt
  refine r_aloadN 1 rfl d9_0 rfl rfl ?_
  refine r_ifnonnull_t 9 d9_1 (by decide) rfl ?_
  refine r_aloadN 10 rfl d9_9 rfl rfl ?_
  refine r_virtual 13 rfl d9_10 (wd hw 73 rfl) (wd hw 74 rfl) (wd hw 76 rfl) (wd hw 75 rfl) (nfS (wd hw 76 rfl)) (by decide) Sx.exa (pay_len V hw K b_apG 0 x m P22 h _ Sx OX cz hCS hcz (by decide) (by decide)) (W := 0) (argsL := []) (lenOf pd_9 rfl) rfl rfl rfl (Nat.le_of_eq rfl) (Nat.le_of_ble_eq_true rfl) (Nat.le_of_ble_eq_true rfl) fun v295 h296 ps292 q294 z293 => ?_
  obtain ⟨rfl, es297⟩ := q294
  subst h296
  show Own.Run V K b_apG _ h _ 0 0 13 [.val (.ref s), .val (.ref x), .unset] [.int (22 : Int32)]
  refine r_istoreN [.val (.ref s), .val (.ref x), .val (.int (22 : Int32))] 14 rfl d9_13 rfl ?_
  refine r_aloadN 15 rfl d9_14 rfl rfl ?_
  refine r_aloadN 16 rfl d9_15 rfl rfl ?_
  refine r_getfield 19 rfl d9_16 (wd hw 83 rfl) Fn ?_
  refine r_iloadN 20 rfl d9_19 rfl ?_
  refine r_iadd 21 rfl d9_20 ?_
  show Own.Run V K b_apG _ h _ 0 0 21 [.val (.ref s), .val (.ref x), .val (.int (22 : Int32))] [.int ((0 : Int32) + 22), .ref s]
  rw [show (0 : Int32) + 22 = 22 from by decide]
  refine r_private 24 rfl d9_21 (wd hw 85 rfl) (wd hw 87 rfl) (wd hw 88 rfl) (wd hw 86 rfl) (wd hw 89 rfl) (by decide) X (Pays.con (K := K) (B := b_apG) (c_ensG V hw s t h _ S) (wd hw 89 rfl) (wd hw 54 rfl) (by decide) (by decide)) (W := 0) (argsL := [.int (22 : Int32)]) (lenOf pd_2 rfl) rfl rfl rfl (Nat.le_of_eq rfl) (Nat.le_of_ble_eq_true rfl) (Nat.le_of_ble_eq_true rfl) fun v300 h301 psu q299 z298 => ?_
  obtain ⟨rfl, u, mu, gu, K0, S1⟩ := q299
  have f302 : Str V h301 m x P22 := by first | exact Str.keep K0 (fun w hw' => by cases List.mem_singleton.mp hw'; exact leA (by omega)) Sx | exact Str.keepE K0 X (by decide) (wd hw 45 rfl) Sx
  have f303 := Exa.keep X K0
  have f304 := Exa.keep Sx.exa K0
  show Own.Run V K b_apG _ h301 _ 1 34 24 [.val (.ref s), .val (.ref x), .val (.int (22 : Int32))] []
  have sh301 := K0.1
  obtain ⟨kb1, zs1, zu1, X1, Fv1, Fc1, Fn1, A1, lc1, lcap1⟩ := id S1
  obtain ⟨v, kv, cd, N2, us, a1, a2, a3, a4, a5, a6, a7, a8, a9, a10⟩ := id f302
  obtain ⟨rfl, rfl, rfl⟩ : cd = 0 ∧ N2 = Int32.ofNat P22.length ∧ us = (P22.map fun c => Value.int (StrChars.lo8 c)) := by
    rcases a8 with q | ⟨-, -, -, c, hc, hq⟩
    · exact ⟨q.1, q.2.1, q.2.2.1⟩
    · exact absurd hq (P22by c hc).2
  have nsu := neN (X1.neArv A1 (wd hw 45 rfl))
  refine r_aloadN 25 rfl d9_24 rfl rfl ?_
  refine r_aloadN 26 rfl d9_25 rfl rfl ?_
  refine r_getfield 29 rfl d9_26 (wd hw 83 rfl) Fn1 ?_
  refine r_aloadN 30 rfl d9_29 rfl rfl ?_
  refine r_private 33 rfl d9_30 (wd hw 116 rfl) (wd hw 118 rfl) (wd hw 119 rfl) (wd hw 117 rfl) (wd hw 120 rfl) (by decide) X1 (Pays.con (K := K) (B := b_apG) (c_putS V hw cz hCS hcz s u 34 [] h301 _ S1 (by simp [mu]) x v kv P22 a4 a5 a6 a7 (by decide)) (wd hw 120 rfl) (wd hw 54 rfl) (by decide) (by decide)) (W := 0) (argsL := [.int (0 : Int32), .ref x]) (lenOf pd_7 rfl) rfl rfl rfl (Nat.le_of_eq rfl) (Nat.le_of_ble_eq_true rfl) (Nat.le_of_ble_eq_true rfl) fun v308 h309 ps305 q307 z306 => ?_
  obtain ⟨rfl, K1, kb2, A2⟩ := q307
  have f310 := Exa.keep X1 K1
  have f311 := Fld.keep Fv1 K1 (ninS (neA (by omega)) nin0)
  have f312 := Fld.keep Fc1 K1 (ninS (neA (by omega)) nin0)
  have f313 := Fld.keep Fn1 K1 (ninS (neA (by omega)) nin0)
  show Own.Run V K b_apG _ h309 _ 1 34 33 [.val (.ref s), .val (.ref x), .val (.int (22 : Int32))] []
  have sh309 := K1.1
  refine r_aloadN 34 rfl d9_33 rfl rfl ?_
  refine r_dup 35 rfl d9_34 rfl ?_
  refine r_getfield 38 rfl d9_35 (wd hw 83 rfl) f313 ?_
  refine r_iloadN 39 rfl d9_38 rfl ?_
  refine r_iadd 40 rfl d9_39 ?_
  show Own.Run V K b_apG _ h309 _ 1 34 40 [.val (.ref s), .val (.ref x), .val (.int (22 : Int32))] [.int ((0 : Int32) + 22), .ref s]
  rw [show (0 : Int32) + 22 = 22 from by decide]
  have zs := zs1
  refine r_putfield 43 rfl d9_40 (wd hw 83 rfl) f313 f310 (Or.inl (wd hw 84 rfl)) (wd hw 45 rfl) (ty := .int) (by decide) rfl rfl zs (Or.inl (by decide)) fun h314 Wh314 => ?_
  have sh314 := Wh314.size
  have f315 := Exa.wr Wh314 f310
  have f316 := Fld.other Wh314 f311 (Or.inr (slot_ne (C := "java/lang/StringBuilder") (Or.inl (wd hw 59 rfl)) (Or.inl (wd hw 84 rfl)) (by decide) (t := (.array .byte)) (by decide) (t' := .int) (by decide)))
  have f317 := Fld.other Wh314 f312 (Or.inr (slot_ne (C := "java/lang/StringBuilder") (Or.inl (wd hw 61 rfl)) (Or.inl (wd hw 84 rfl)) (by decide) (t := .byte) (by decide) (t' := .int) (by decide)))
  have f318 := Fld.same Wh314 f313
  have f319 := Arv.other A2 Wh314 (neA (by omega))
  refine r_aloadN 44 rfl d9_43 rfl rfl ?_
  refine r_aret (t := (.object "java/lang/AbstractStringBuilder")) rfl rfl rfl d9_44 (by decide) (by decide) [u] (fun y hy => by cases List.mem_singleton.mp hy; simp [mu]) ?_
  exact ⟨rfl, u, by simp [mu], gu, ((Keep.trans K0 K1 (fun x hx => by cases List.mem_singleton.mp hx; exact Or.inr gu)).wr Wh314 (Or.inl (by simp))), kb2, zs1, zu1, f315, f316, f317, f318, f319, by decide, by decide⟩
abbrev b_sbG : Bx := (⟨"java/lang/StringBuilder", "append", "(Ljava/lang/String;)Ljava/lang/StringBuilder;"⟩, jdk_67_method_7_code, 2, some (.object "java/lang/StringBuilder"), { frames := 5, cells := 1, slots := 34, locals := 102 })
theorem c_sbG (V : Vw) (hw : ∀ d ∈ tables_1, d.before V.a0 V.Z = true) (cz : Int32) (hCS : Sta V.Z V.Z.heap "java/lang/String" "COMPACT_STRINGS" "Z" (.int cz)) (hcz : ¬ cz = 0) (s t : Nat) (h : Heap) (ps : List Addr) (S : Sb V h s t 16 []) (x m : Nat) (Sx : Str V h m x P22) : Con V b_sbG #[.ref s, .ref x] h ps (Qag V s P22 h) := Con.of (plainFor_of_name pn_2) (L := [.val (.ref s), .val (.ref x)]) rfl fun K => by
  refine r_aloadN 1 rfl d10_0 rfl rfl ?_
  refine r_aloadN 2 rfl d10_1 rfl rfl ?_
  refine r_super 5 rfl d10_2 (by decide) (wd hw 68 rfl) (wd hw 70 rfl) (wd hw 69 rfl) (wd hw 72 rfl) (wd hw 88 rfl) rfl (by decide) S.exa (Pays.con (K := K) (B := b_sbG) (c_apG V hw cz hCS hcz s t h _ S x m Sx) (wd hw 72 rfl) (wd hw 54 rfl) (by decide) (by decide)) (W := 0) (argsL := [.ref x]) (lenOf pd_8 rfl) rfl rfl rfl (Nat.le_of_eq rfl) (Nat.le_of_ble_eq_true rfl) (Nat.le_of_ble_eq_true rfl) fun v322 h323 psu q321 z320 => ?_
  obtain ⟨rfl, u, mu, gu, K1, S1⟩ := q321
  show Own.Run V K b_sbG _ h323 _ 1 34 5 [.val (.ref s), .val (.ref x)] [.ref s]
  refine r_pop 6 rfl d10_5 rfl ?_
  refine r_aloadN 7 rfl d10_6 rfl rfl ?_
  refine r_aret (t := (.object "java/lang/StringBuilder")) rfl rfl rfl d10_7 (by decide) (by decide) psu (fun y hy => List.mem_append_left _ hy) ?_
  exact ⟨rfl, u, mu, gu, K1, S1⟩
theorem d30_0 : decode method_2_code 0 = .ok (.aload_n 0, 1) := by decide +kernel
theorem d30_1 : decode method_2_code 1 = .ok (.iconst 0, 1) := by decide +kernel
theorem d30_2 : decode method_2_code 2 = .ok (.bipush 76, 2) := by decide +kernel
theorem d30_4 : decode method_2_code 4 = .ok (.castore, 1) := by decide +kernel
theorem d30_5 : decode method_2_code 5 = .ok (.aload_n 0, 1) := by decide +kernel
theorem d30_6 : decode method_2_code 6 = .ok (.iconst 1, 1) := by decide +kernel
theorem d30_7 : decode method_2_code 7 = .ok (.bipush 97, 2) := by decide +kernel
theorem d30_9 : decode method_2_code 9 = .ok (.castore, 1) := by decide +kernel
theorem d30_10 : decode method_2_code 10 = .ok (.aload_n 0, 1) := by decide +kernel
theorem d30_11 : decode method_2_code 11 = .ok (.iconst 2, 1) := by decide +kernel
theorem d30_12 : decode method_2_code 12 = .ok (.bipush 122, 2) := by decide +kernel
theorem d30_14 : decode method_2_code 14 = .ok (.castore, 1) := by decide +kernel
theorem d30_15 : decode method_2_code 15 = .ok (.aload_n 0, 1) := by decide +kernel
theorem d30_16 : decode method_2_code 16 = .ok (.iconst 3, 1) := by decide +kernel
theorem d30_17 : decode method_2_code 17 = .ok (.bipush 111, 2) := by decide +kernel
theorem d30_19 : decode method_2_code 19 = .ok (.castore, 1) := by decide +kernel
theorem d30_20 : decode method_2_code 20 = .ok (.aload_n 0, 1) := by decide +kernel
theorem d30_21 : decode method_2_code 21 = .ok (.iconst 4, 1) := by decide +kernel
theorem d30_22 : decode method_2_code 22 = .ok (.bipush 32, 2) := by decide +kernel
theorem d30_24 : decode method_2_code 24 = .ok (.castore, 1) := by decide +kernel
theorem d30_25 : decode method_2_code 25 = .ok (.aload_n 0, 1) := by decide +kernel
theorem d30_26 : decode method_2_code 26 = .ok (.iconst 5, 1) := by decide +kernel
theorem d30_27 : decode method_2_code 27 = .ok (.bipush 100, 2) := by decide +kernel
theorem d30_29 : decode method_2_code 29 = .ok (.castore, 1) := by decide +kernel
theorem d30_30 : decode method_2_code 30 = .ok (.aload_n 0, 1) := by decide +kernel
theorem d30_31 : decode method_2_code 31 = .ok (.bipush 6, 2) := by decide +kernel
theorem d30_33 : decode method_2_code 33 = .ok (.bipush 111, 2) := by decide +kernel
theorem d30_35 : decode method_2_code 35 = .ok (.castore, 1) := by decide +kernel
theorem d30_36 : decode method_2_code 36 = .ok (.aload_n 0, 1) := by decide +kernel
theorem d30_37 : decode method_2_code 37 = .ok (.bipush 7, 2) := by decide +kernel
theorem d30_39 : decode method_2_code 39 = .ok (.bipush 101, 2) := by decide +kernel
theorem d30_41 : decode method_2_code 41 = .ok (.castore, 1) := by decide +kernel
theorem d30_42 : decode method_2_code 42 = .ok (.aload_n 0, 1) := by decide +kernel
theorem d30_43 : decode method_2_code 43 = .ok (.bipush 8, 2) := by decide +kernel
theorem d30_45 : decode method_2_code 45 = .ok (.bipush 115, 2) := by decide +kernel
theorem d30_47 : decode method_2_code 47 = .ok (.castore, 1) := by decide +kernel
theorem d30_48 : decode method_2_code 48 = .ok (.aload_n 0, 1) := by decide +kernel
theorem d30_49 : decode method_2_code 49 = .ok (.bipush 9, 2) := by decide +kernel
theorem d30_51 : decode method_2_code 51 = .ok (.bipush 32, 2) := by decide +kernel
theorem d30_53 : decode method_2_code 53 = .ok (.castore, 1) := by decide +kernel
theorem d30_54 : decode method_2_code 54 = .ok (.aload_n 0, 1) := by decide +kernel
theorem d30_55 : decode method_2_code 55 = .ok (.bipush 10, 2) := by decide +kernel
theorem d30_57 : decode method_2_code 57 = .ok (.bipush 110, 2) := by decide +kernel
theorem d30_59 : decode method_2_code 59 = .ok (.castore, 1) := by decide +kernel
theorem d30_60 : decode method_2_code 60 = .ok (.aload_n 0, 1) := by decide +kernel
theorem d30_61 : decode method_2_code 61 = .ok (.bipush 11, 2) := by decide +kernel
theorem d30_63 : decode method_2_code 63 = .ok (.bipush 111, 2) := by decide +kernel
theorem d30_65 : decode method_2_code 65 = .ok (.castore, 1) := by decide +kernel
theorem d30_66 : decode method_2_code 66 = .ok (.aload_n 0, 1) := by decide +kernel
theorem d30_67 : decode method_2_code 67 = .ok (.bipush 12, 2) := by decide +kernel
theorem d30_69 : decode method_2_code 69 = .ok (.bipush 116, 2) := by decide +kernel
theorem d30_71 : decode method_2_code 71 = .ok (.castore, 1) := by decide +kernel
theorem d30_72 : decode method_2_code 72 = .ok (.aload_n 0, 1) := by decide +kernel
theorem d30_73 : decode method_2_code 73 = .ok (.bipush 13, 2) := by decide +kernel
theorem d30_75 : decode method_2_code 75 = .ok (.bipush 32, 2) := by decide +kernel
theorem d30_77 : decode method_2_code 77 = .ok (.castore, 1) := by decide +kernel
theorem d30_78 : decode method_2_code 78 = .ok (.aload_n 0, 1) := by decide +kernel
theorem d30_79 : decode method_2_code 79 = .ok (.bipush 14, 2) := by decide +kernel
theorem d30_81 : decode method_2_code 81 = .ok (.bipush 115, 2) := by decide +kernel
theorem d30_83 : decode method_2_code 83 = .ok (.castore, 1) := by decide +kernel
theorem d30_84 : decode method_2_code 84 = .ok (.aload_n 0, 1) := by decide +kernel
theorem d30_85 : decode method_2_code 85 = .ok (.bipush 15, 2) := by decide +kernel
theorem d30_87 : decode method_2_code 87 = .ok (.bipush 117, 2) := by decide +kernel
theorem d30_89 : decode method_2_code 89 = .ok (.castore, 1) := by decide +kernel
theorem d30_90 : decode method_2_code 90 = .ok (.aload_n 0, 1) := by decide +kernel
theorem d30_91 : decode method_2_code 91 = .ok (.bipush 16, 2) := by decide +kernel
theorem d30_93 : decode method_2_code 93 = .ok (.bipush 112, 2) := by decide +kernel
theorem d30_95 : decode method_2_code 95 = .ok (.castore, 1) := by decide +kernel
theorem d30_96 : decode method_2_code 96 = .ok (.aload_n 0, 1) := by decide +kernel
theorem d30_97 : decode method_2_code 97 = .ok (.bipush 17, 2) := by decide +kernel
theorem d30_99 : decode method_2_code 99 = .ok (.bipush 112, 2) := by decide +kernel
theorem d30_101 : decode method_2_code 101 = .ok (.castore, 1) := by decide +kernel
theorem d30_102 : decode method_2_code 102 = .ok (.aload_n 0, 1) := by decide +kernel
theorem d30_103 : decode method_2_code 103 = .ok (.bipush 18, 2) := by decide +kernel
theorem d30_105 : decode method_2_code 105 = .ok (.bipush 111, 2) := by decide +kernel
theorem d30_107 : decode method_2_code 107 = .ok (.castore, 1) := by decide +kernel
theorem d30_108 : decode method_2_code 108 = .ok (.aload_n 0, 1) := by decide +kernel
theorem d30_109 : decode method_2_code 109 = .ok (.bipush 19, 2) := by decide +kernel
theorem d30_111 : decode method_2_code 111 = .ok (.bipush 114, 2) := by decide +kernel
theorem d30_113 : decode method_2_code 113 = .ok (.castore, 1) := by decide +kernel
theorem d30_114 : decode method_2_code 114 = .ok (.aload_n 0, 1) := by decide +kernel
theorem d30_115 : decode method_2_code 115 = .ok (.bipush 20, 2) := by decide +kernel
theorem d30_117 : decode method_2_code 117 = .ok (.bipush 116, 2) := by decide +kernel
theorem d30_119 : decode method_2_code 119 = .ok (.castore, 1) := by decide +kernel
theorem d30_120 : decode method_2_code 120 = .ok (.aload_n 0, 1) := by decide +kernel
theorem d30_121 : decode method_2_code 121 = .ok (.bipush 21, 2) := by decide +kernel
theorem d30_123 : decode method_2_code 123 = .ok (.bipush 32, 2) := by decide +kernel
theorem d30_125 : decode method_2_code 125 = .ok (.castore, 1) := by decide +kernel
theorem d30_126 : decode method_2_code 126 = .ok (.return_, 1) := by decide +kernel
abbrev b_pf0 : Bx := (⟨"com/example/lazo/lazo/UnsupportedOperationPinLaw", "prefix", "([C)V"⟩, method_2_code, 1, none, { frames := 0, cells := 0, slots := 0, locals := 0 })
theorem c_pf0 (V : Vw) (hw : ∀ d ∈ tables_1, d.before V.a0 V.Z = true) (e : Nat) (k : ClassId) (h : Heap) (ps : List Addr) (ze : V.Z.heap.size ≤ e) (A : Arv V.Z h e k .char 26 [.int 0, .int 0, .int 0, .int 0, .int 0, .int 0, .int 0, .int 0, .int 0, .int 0, .int 0, .int 0, .int 0, .int 0, .int 0, .int 0, .int 0, .int 0, .int 0, .int 0, .int 0, .int 0, .int 0, .int 0, .int 0, .int 0] (.int 0)) : Con V b_pf0 #[.ref e] h ps (fun v h' _ => v = none ∧ Keep h h' [e] ∧ Arv V.Z h' e k .char 26 [.int 76, .int 97, .int 122, .int 111, .int 32, .int 100, .int 111, .int 101, .int 115, .int 32, .int 110, .int 111, .int 116, .int 32, .int 115, .int 117, .int 112, .int 112, .int 111, .int 114, .int 116, .int 32, .int 0, .int 0, .int 0, .int 0] (.int 0)) := Con.of (plainFor_of_name pn_4) (L := [.val (.ref e)]) rfl fun K => by
  refine r_aloadN 1 rfl d30_0 rfl rfl ?_
  refine r_iconst (0 : Int32) 2 rfl d30_1 rfl ?_
  refine r_bipush (76 : Int32) 4 rfl d30_2 rfl ?_
  refine r_castore 0 5 rfl d30_4 A (by decide) rfl (Nat.le_of_ble_eq_true rfl) ze (76 : Int32) (by decide) fun h324 Wh324 f325 => ?_
  have sh324 := Wh324.size
  replace f325 : Arv V.Z h324 e k .char (26 : Int32) [.int (76 : Int32), .int 0, .int 0, .int 0, .int 0, .int 0, .int 0, .int 0, .int 0, .int 0, .int 0, .int 0, .int 0, .int 0, .int 0, .int 0, .int 0, .int 0, .int 0, .int 0, .int 0, .int 0, .int 0, .int 0, .int 0, .int 0] (.int 0) := f325
  refine r_aloadN 6 rfl d30_5 rfl rfl ?_
  refine r_iconst (1 : Int32) 7 rfl d30_6 rfl ?_
  refine r_bipush (97 : Int32) 9 rfl d30_7 rfl ?_
  refine r_castore 1 10 rfl d30_9 f325 (by decide) rfl (Nat.le_of_ble_eq_true rfl) ze (97 : Int32) (by decide) fun h326 Wh326 f327 => ?_
  have sh326 := Wh326.size
  replace f327 : Arv V.Z h326 e k .char (26 : Int32) [.int (76 : Int32), .int (97 : Int32), .int 0, .int 0, .int 0, .int 0, .int 0, .int 0, .int 0, .int 0, .int 0, .int 0, .int 0, .int 0, .int 0, .int 0, .int 0, .int 0, .int 0, .int 0, .int 0, .int 0, .int 0, .int 0, .int 0, .int 0] (.int 0) := f327
  refine r_aloadN 11 rfl d30_10 rfl rfl ?_
  refine r_iconst (2 : Int32) 12 rfl d30_11 rfl ?_
  refine r_bipush (122 : Int32) 14 rfl d30_12 rfl ?_
  refine r_castore 2 15 rfl d30_14 f327 (by decide) rfl (Nat.le_of_ble_eq_true rfl) ze (122 : Int32) (by decide) fun h328 Wh328 f329 => ?_
  have sh328 := Wh328.size
  replace f329 : Arv V.Z h328 e k .char (26 : Int32) [.int (76 : Int32), .int (97 : Int32), .int (122 : Int32), .int 0, .int 0, .int 0, .int 0, .int 0, .int 0, .int 0, .int 0, .int 0, .int 0, .int 0, .int 0, .int 0, .int 0, .int 0, .int 0, .int 0, .int 0, .int 0, .int 0, .int 0, .int 0, .int 0] (.int 0) := f329
  refine r_aloadN 16 rfl d30_15 rfl rfl ?_
  refine r_iconst (3 : Int32) 17 rfl d30_16 rfl ?_
  refine r_bipush (111 : Int32) 19 rfl d30_17 rfl ?_
  refine r_castore 3 20 rfl d30_19 f329 (by decide) rfl (Nat.le_of_ble_eq_true rfl) ze (111 : Int32) (by decide) fun h330 Wh330 f331 => ?_
  have sh330 := Wh330.size
  replace f331 : Arv V.Z h330 e k .char (26 : Int32) [.int (76 : Int32), .int (97 : Int32), .int (122 : Int32), .int (111 : Int32), .int 0, .int 0, .int 0, .int 0, .int 0, .int 0, .int 0, .int 0, .int 0, .int 0, .int 0, .int 0, .int 0, .int 0, .int 0, .int 0, .int 0, .int 0, .int 0, .int 0, .int 0, .int 0] (.int 0) := f331
  refine r_aloadN 21 rfl d30_20 rfl rfl ?_
  refine r_iconst (4 : Int32) 22 rfl d30_21 rfl ?_
  refine r_bipush (32 : Int32) 24 rfl d30_22 rfl ?_
  refine r_castore 4 25 rfl d30_24 f331 (by decide) rfl (Nat.le_of_ble_eq_true rfl) ze (32 : Int32) (by decide) fun h332 Wh332 f333 => ?_
  have sh332 := Wh332.size
  replace f333 : Arv V.Z h332 e k .char (26 : Int32) [.int (76 : Int32), .int (97 : Int32), .int (122 : Int32), .int (111 : Int32), .int (32 : Int32), .int 0, .int 0, .int 0, .int 0, .int 0, .int 0, .int 0, .int 0, .int 0, .int 0, .int 0, .int 0, .int 0, .int 0, .int 0, .int 0, .int 0, .int 0, .int 0, .int 0, .int 0] (.int 0) := f333
  refine r_aloadN 26 rfl d30_25 rfl rfl ?_
  refine r_iconst (5 : Int32) 27 rfl d30_26 rfl ?_
  refine r_bipush (100 : Int32) 29 rfl d30_27 rfl ?_
  refine r_castore 5 30 rfl d30_29 f333 (by decide) rfl (Nat.le_of_ble_eq_true rfl) ze (100 : Int32) (by decide) fun h334 Wh334 f335 => ?_
  have sh334 := Wh334.size
  replace f335 : Arv V.Z h334 e k .char (26 : Int32) [.int (76 : Int32), .int (97 : Int32), .int (122 : Int32), .int (111 : Int32), .int (32 : Int32), .int (100 : Int32), .int 0, .int 0, .int 0, .int 0, .int 0, .int 0, .int 0, .int 0, .int 0, .int 0, .int 0, .int 0, .int 0, .int 0, .int 0, .int 0, .int 0, .int 0, .int 0, .int 0] (.int 0) := f335
  refine r_aloadN 31 rfl d30_30 rfl rfl ?_
  refine r_bipush (6 : Int32) 33 rfl d30_31 rfl ?_
  refine r_bipush (111 : Int32) 35 rfl d30_33 rfl ?_
  refine r_castore 6 36 rfl d30_35 f335 (by decide) rfl (Nat.le_of_ble_eq_true rfl) ze (111 : Int32) (by decide) fun h336 Wh336 f337 => ?_
  have sh336 := Wh336.size
  replace f337 : Arv V.Z h336 e k .char (26 : Int32) [.int (76 : Int32), .int (97 : Int32), .int (122 : Int32), .int (111 : Int32), .int (32 : Int32), .int (100 : Int32), .int (111 : Int32), .int 0, .int 0, .int 0, .int 0, .int 0, .int 0, .int 0, .int 0, .int 0, .int 0, .int 0, .int 0, .int 0, .int 0, .int 0, .int 0, .int 0, .int 0, .int 0] (.int 0) := f337
  refine r_aloadN 37 rfl d30_36 rfl rfl ?_
  refine r_bipush (7 : Int32) 39 rfl d30_37 rfl ?_
  refine r_bipush (101 : Int32) 41 rfl d30_39 rfl ?_
  refine r_castore 7 42 rfl d30_41 f337 (by decide) rfl (Nat.le_of_ble_eq_true rfl) ze (101 : Int32) (by decide) fun h338 Wh338 f339 => ?_
  have sh338 := Wh338.size
  replace f339 : Arv V.Z h338 e k .char (26 : Int32) [.int (76 : Int32), .int (97 : Int32), .int (122 : Int32), .int (111 : Int32), .int (32 : Int32), .int (100 : Int32), .int (111 : Int32), .int (101 : Int32), .int 0, .int 0, .int 0, .int 0, .int 0, .int 0, .int 0, .int 0, .int 0, .int 0, .int 0, .int 0, .int 0, .int 0, .int 0, .int 0, .int 0, .int 0] (.int 0) := f339
  refine r_aloadN 43 rfl d30_42 rfl rfl ?_
  refine r_bipush (8 : Int32) 45 rfl d30_43 rfl ?_
  refine r_bipush (115 : Int32) 47 rfl d30_45 rfl ?_
  refine r_castore 8 48 rfl d30_47 f339 (by decide) rfl (Nat.le_of_ble_eq_true rfl) ze (115 : Int32) (by decide) fun h340 Wh340 f341 => ?_
  have sh340 := Wh340.size
  replace f341 : Arv V.Z h340 e k .char (26 : Int32) [.int (76 : Int32), .int (97 : Int32), .int (122 : Int32), .int (111 : Int32), .int (32 : Int32), .int (100 : Int32), .int (111 : Int32), .int (101 : Int32), .int (115 : Int32), .int 0, .int 0, .int 0, .int 0, .int 0, .int 0, .int 0, .int 0, .int 0, .int 0, .int 0, .int 0, .int 0, .int 0, .int 0, .int 0, .int 0] (.int 0) := f341
  refine r_aloadN 49 rfl d30_48 rfl rfl ?_
  refine r_bipush (9 : Int32) 51 rfl d30_49 rfl ?_
  refine r_bipush (32 : Int32) 53 rfl d30_51 rfl ?_
  refine r_castore 9 54 rfl d30_53 f341 (by decide) rfl (Nat.le_of_ble_eq_true rfl) ze (32 : Int32) (by decide) fun h342 Wh342 f343 => ?_
  have sh342 := Wh342.size
  replace f343 : Arv V.Z h342 e k .char (26 : Int32) [.int (76 : Int32), .int (97 : Int32), .int (122 : Int32), .int (111 : Int32), .int (32 : Int32), .int (100 : Int32), .int (111 : Int32), .int (101 : Int32), .int (115 : Int32), .int (32 : Int32), .int 0, .int 0, .int 0, .int 0, .int 0, .int 0, .int 0, .int 0, .int 0, .int 0, .int 0, .int 0, .int 0, .int 0, .int 0, .int 0] (.int 0) := f343
  refine r_aloadN 55 rfl d30_54 rfl rfl ?_
  refine r_bipush (10 : Int32) 57 rfl d30_55 rfl ?_
  refine r_bipush (110 : Int32) 59 rfl d30_57 rfl ?_
  refine r_castore 10 60 rfl d30_59 f343 (by decide) rfl (Nat.le_of_ble_eq_true rfl) ze (110 : Int32) (by decide) fun h344 Wh344 f345 => ?_
  have sh344 := Wh344.size
  replace f345 : Arv V.Z h344 e k .char (26 : Int32) [.int (76 : Int32), .int (97 : Int32), .int (122 : Int32), .int (111 : Int32), .int (32 : Int32), .int (100 : Int32), .int (111 : Int32), .int (101 : Int32), .int (115 : Int32), .int (32 : Int32), .int (110 : Int32), .int 0, .int 0, .int 0, .int 0, .int 0, .int 0, .int 0, .int 0, .int 0, .int 0, .int 0, .int 0, .int 0, .int 0, .int 0] (.int 0) := f345
  refine r_aloadN 61 rfl d30_60 rfl rfl ?_
  refine r_bipush (11 : Int32) 63 rfl d30_61 rfl ?_
  refine r_bipush (111 : Int32) 65 rfl d30_63 rfl ?_
  refine r_castore 11 66 rfl d30_65 f345 (by decide) rfl (Nat.le_of_ble_eq_true rfl) ze (111 : Int32) (by decide) fun h346 Wh346 f347 => ?_
  have sh346 := Wh346.size
  replace f347 : Arv V.Z h346 e k .char (26 : Int32) [.int (76 : Int32), .int (97 : Int32), .int (122 : Int32), .int (111 : Int32), .int (32 : Int32), .int (100 : Int32), .int (111 : Int32), .int (101 : Int32), .int (115 : Int32), .int (32 : Int32), .int (110 : Int32), .int (111 : Int32), .int 0, .int 0, .int 0, .int 0, .int 0, .int 0, .int 0, .int 0, .int 0, .int 0, .int 0, .int 0, .int 0, .int 0] (.int 0) := f347
  refine r_aloadN 67 rfl d30_66 rfl rfl ?_
  refine r_bipush (12 : Int32) 69 rfl d30_67 rfl ?_
  refine r_bipush (116 : Int32) 71 rfl d30_69 rfl ?_
  refine r_castore 12 72 rfl d30_71 f347 (by decide) rfl (Nat.le_of_ble_eq_true rfl) ze (116 : Int32) (by decide) fun h348 Wh348 f349 => ?_
  have sh348 := Wh348.size
  replace f349 : Arv V.Z h348 e k .char (26 : Int32) [.int (76 : Int32), .int (97 : Int32), .int (122 : Int32), .int (111 : Int32), .int (32 : Int32), .int (100 : Int32), .int (111 : Int32), .int (101 : Int32), .int (115 : Int32), .int (32 : Int32), .int (110 : Int32), .int (111 : Int32), .int (116 : Int32), .int 0, .int 0, .int 0, .int 0, .int 0, .int 0, .int 0, .int 0, .int 0, .int 0, .int 0, .int 0, .int 0] (.int 0) := f349
  refine r_aloadN 73 rfl d30_72 rfl rfl ?_
  refine r_bipush (13 : Int32) 75 rfl d30_73 rfl ?_
  refine r_bipush (32 : Int32) 77 rfl d30_75 rfl ?_
  refine r_castore 13 78 rfl d30_77 f349 (by decide) rfl (Nat.le_of_ble_eq_true rfl) ze (32 : Int32) (by decide) fun h350 Wh350 f351 => ?_
  have sh350 := Wh350.size
  replace f351 : Arv V.Z h350 e k .char (26 : Int32) [.int (76 : Int32), .int (97 : Int32), .int (122 : Int32), .int (111 : Int32), .int (32 : Int32), .int (100 : Int32), .int (111 : Int32), .int (101 : Int32), .int (115 : Int32), .int (32 : Int32), .int (110 : Int32), .int (111 : Int32), .int (116 : Int32), .int (32 : Int32), .int 0, .int 0, .int 0, .int 0, .int 0, .int 0, .int 0, .int 0, .int 0, .int 0, .int 0, .int 0] (.int 0) := f351
  refine r_aloadN 79 rfl d30_78 rfl rfl ?_
  refine r_bipush (14 : Int32) 81 rfl d30_79 rfl ?_
  refine r_bipush (115 : Int32) 83 rfl d30_81 rfl ?_
  refine r_castore 14 84 rfl d30_83 f351 (by decide) rfl (Nat.le_of_ble_eq_true rfl) ze (115 : Int32) (by decide) fun h352 Wh352 f353 => ?_
  have sh352 := Wh352.size
  replace f353 : Arv V.Z h352 e k .char (26 : Int32) [.int (76 : Int32), .int (97 : Int32), .int (122 : Int32), .int (111 : Int32), .int (32 : Int32), .int (100 : Int32), .int (111 : Int32), .int (101 : Int32), .int (115 : Int32), .int (32 : Int32), .int (110 : Int32), .int (111 : Int32), .int (116 : Int32), .int (32 : Int32), .int (115 : Int32), .int 0, .int 0, .int 0, .int 0, .int 0, .int 0, .int 0, .int 0, .int 0, .int 0, .int 0] (.int 0) := f353
  refine r_aloadN 85 rfl d30_84 rfl rfl ?_
  refine r_bipush (15 : Int32) 87 rfl d30_85 rfl ?_
  refine r_bipush (117 : Int32) 89 rfl d30_87 rfl ?_
  refine r_castore 15 90 rfl d30_89 f353 (by decide) rfl (Nat.le_of_ble_eq_true rfl) ze (117 : Int32) (by decide) fun h354 Wh354 f355 => ?_
  have sh354 := Wh354.size
  replace f355 : Arv V.Z h354 e k .char (26 : Int32) [.int (76 : Int32), .int (97 : Int32), .int (122 : Int32), .int (111 : Int32), .int (32 : Int32), .int (100 : Int32), .int (111 : Int32), .int (101 : Int32), .int (115 : Int32), .int (32 : Int32), .int (110 : Int32), .int (111 : Int32), .int (116 : Int32), .int (32 : Int32), .int (115 : Int32), .int (117 : Int32), .int 0, .int 0, .int 0, .int 0, .int 0, .int 0, .int 0, .int 0, .int 0, .int 0] (.int 0) := f355
  refine r_aloadN 91 rfl d30_90 rfl rfl ?_
  refine r_bipush (16 : Int32) 93 rfl d30_91 rfl ?_
  refine r_bipush (112 : Int32) 95 rfl d30_93 rfl ?_
  refine r_castore 16 96 rfl d30_95 f355 (by decide) rfl (Nat.le_of_ble_eq_true rfl) ze (112 : Int32) (by decide) fun h356 Wh356 f357 => ?_
  have sh356 := Wh356.size
  replace f357 : Arv V.Z h356 e k .char (26 : Int32) [.int (76 : Int32), .int (97 : Int32), .int (122 : Int32), .int (111 : Int32), .int (32 : Int32), .int (100 : Int32), .int (111 : Int32), .int (101 : Int32), .int (115 : Int32), .int (32 : Int32), .int (110 : Int32), .int (111 : Int32), .int (116 : Int32), .int (32 : Int32), .int (115 : Int32), .int (117 : Int32), .int (112 : Int32), .int 0, .int 0, .int 0, .int 0, .int 0, .int 0, .int 0, .int 0, .int 0] (.int 0) := f357
  refine r_aloadN 97 rfl d30_96 rfl rfl ?_
  refine r_bipush (17 : Int32) 99 rfl d30_97 rfl ?_
  refine r_bipush (112 : Int32) 101 rfl d30_99 rfl ?_
  refine r_castore 17 102 rfl d30_101 f357 (by decide) rfl (Nat.le_of_ble_eq_true rfl) ze (112 : Int32) (by decide) fun h358 Wh358 f359 => ?_
  have sh358 := Wh358.size
  replace f359 : Arv V.Z h358 e k .char (26 : Int32) [.int (76 : Int32), .int (97 : Int32), .int (122 : Int32), .int (111 : Int32), .int (32 : Int32), .int (100 : Int32), .int (111 : Int32), .int (101 : Int32), .int (115 : Int32), .int (32 : Int32), .int (110 : Int32), .int (111 : Int32), .int (116 : Int32), .int (32 : Int32), .int (115 : Int32), .int (117 : Int32), .int (112 : Int32), .int (112 : Int32), .int 0, .int 0, .int 0, .int 0, .int 0, .int 0, .int 0, .int 0] (.int 0) := f359
  refine r_aloadN 103 rfl d30_102 rfl rfl ?_
  refine r_bipush (18 : Int32) 105 rfl d30_103 rfl ?_
  refine r_bipush (111 : Int32) 107 rfl d30_105 rfl ?_
  refine r_castore 18 108 rfl d30_107 f359 (by decide) rfl (Nat.le_of_ble_eq_true rfl) ze (111 : Int32) (by decide) fun h360 Wh360 f361 => ?_
  have sh360 := Wh360.size
  replace f361 : Arv V.Z h360 e k .char (26 : Int32) [.int (76 : Int32), .int (97 : Int32), .int (122 : Int32), .int (111 : Int32), .int (32 : Int32), .int (100 : Int32), .int (111 : Int32), .int (101 : Int32), .int (115 : Int32), .int (32 : Int32), .int (110 : Int32), .int (111 : Int32), .int (116 : Int32), .int (32 : Int32), .int (115 : Int32), .int (117 : Int32), .int (112 : Int32), .int (112 : Int32), .int (111 : Int32), .int 0, .int 0, .int 0, .int 0, .int 0, .int 0, .int 0] (.int 0) := f361
  refine r_aloadN 109 rfl d30_108 rfl rfl ?_
  refine r_bipush (19 : Int32) 111 rfl d30_109 rfl ?_
  refine r_bipush (114 : Int32) 113 rfl d30_111 rfl ?_
  refine r_castore 19 114 rfl d30_113 f361 (by decide) rfl (Nat.le_of_ble_eq_true rfl) ze (114 : Int32) (by decide) fun h362 Wh362 f363 => ?_
  have sh362 := Wh362.size
  replace f363 : Arv V.Z h362 e k .char (26 : Int32) [.int (76 : Int32), .int (97 : Int32), .int (122 : Int32), .int (111 : Int32), .int (32 : Int32), .int (100 : Int32), .int (111 : Int32), .int (101 : Int32), .int (115 : Int32), .int (32 : Int32), .int (110 : Int32), .int (111 : Int32), .int (116 : Int32), .int (32 : Int32), .int (115 : Int32), .int (117 : Int32), .int (112 : Int32), .int (112 : Int32), .int (111 : Int32), .int (114 : Int32), .int 0, .int 0, .int 0, .int 0, .int 0, .int 0] (.int 0) := f363
  refine r_aloadN 115 rfl d30_114 rfl rfl ?_
  refine r_bipush (20 : Int32) 117 rfl d30_115 rfl ?_
  refine r_bipush (116 : Int32) 119 rfl d30_117 rfl ?_
  refine r_castore 20 120 rfl d30_119 f363 (by decide) rfl (Nat.le_of_ble_eq_true rfl) ze (116 : Int32) (by decide) fun h364 Wh364 f365 => ?_
  have sh364 := Wh364.size
  replace f365 : Arv V.Z h364 e k .char (26 : Int32) [.int (76 : Int32), .int (97 : Int32), .int (122 : Int32), .int (111 : Int32), .int (32 : Int32), .int (100 : Int32), .int (111 : Int32), .int (101 : Int32), .int (115 : Int32), .int (32 : Int32), .int (110 : Int32), .int (111 : Int32), .int (116 : Int32), .int (32 : Int32), .int (115 : Int32), .int (117 : Int32), .int (112 : Int32), .int (112 : Int32), .int (111 : Int32), .int (114 : Int32), .int (116 : Int32), .int 0, .int 0, .int 0, .int 0, .int 0] (.int 0) := f365
  refine r_aloadN 121 rfl d30_120 rfl rfl ?_
  refine r_bipush (21 : Int32) 123 rfl d30_121 rfl ?_
  refine r_bipush (32 : Int32) 125 rfl d30_123 rfl ?_
  refine r_castore 21 126 rfl d30_125 f365 (by decide) rfl (Nat.le_of_ble_eq_true rfl) ze (32 : Int32) (by decide) fun h366 Wh366 f367 => ?_
  have sh366 := Wh366.size
  replace f367 : Arv V.Z h366 e k .char (26 : Int32) [.int (76 : Int32), .int (97 : Int32), .int (122 : Int32), .int (111 : Int32), .int (32 : Int32), .int (100 : Int32), .int (111 : Int32), .int (101 : Int32), .int (115 : Int32), .int (32 : Int32), .int (110 : Int32), .int (111 : Int32), .int (116 : Int32), .int (32 : Int32), .int (115 : Int32), .int (117 : Int32), .int (112 : Int32), .int (112 : Int32), .int (111 : Int32), .int (114 : Int32), .int (116 : Int32), .int (32 : Int32), .int 0, .int 0, .int 0, .int 0] (.int 0) := f367
  refine r_ret rfl d30_126 (by decide) (by decide) [] (fun _ q => nomatch q) ?_
  exact ⟨rfl, ((((((((((((((((((((((Keep.refl _ _).wr Wh324 (Or.inl (by simp))).wr Wh326 (Or.inl (by simp))).wr Wh328 (Or.inl (by simp))).wr Wh330 (Or.inl (by simp))).wr Wh332 (Or.inl (by simp))).wr Wh334 (Or.inl (by simp))).wr Wh336 (Or.inl (by simp))).wr Wh338 (Or.inl (by simp))).wr Wh340 (Or.inl (by simp))).wr Wh342 (Or.inl (by simp))).wr Wh344 (Or.inl (by simp))).wr Wh346 (Or.inl (by simp))).wr Wh348 (Or.inl (by simp))).wr Wh350 (Or.inl (by simp))).wr Wh352 (Or.inl (by simp))).wr Wh354 (Or.inl (by simp))).wr Wh356 (Or.inl (by simp))).wr Wh358 (Or.inl (by simp))).wr Wh360 (Or.inl (by simp))).wr Wh362 (Or.inl (by simp))).wr Wh364 (Or.inl (by simp))).wr Wh366 (Or.inl (by simp)), f367⟩
abbrev b_pf1 : Bx := (⟨"com/example/lazo/lazo/UnsupportedOperationPinLaw", "prefix", "([C)V"⟩, method_2_code, 1, none, { frames := 0, cells := 0, slots := 0, locals := 0 })
theorem c_pf1 (V : Vw) (hw : ∀ d ∈ tables_1, d.before V.a0 V.Z = true) (e : Nat) (k : ClassId) (h : Heap) (ps : List Addr) (ze : V.Z.heap.size ≤ e) (A : Arv V.Z h e k .char 27 [.int 0, .int 0, .int 0, .int 0, .int 0, .int 0, .int 0, .int 0, .int 0, .int 0, .int 0, .int 0, .int 0, .int 0, .int 0, .int 0, .int 0, .int 0, .int 0, .int 0, .int 0, .int 0, .int 0, .int 0, .int 0, .int 0, .int 0] (.int 0)) : Con V b_pf1 #[.ref e] h ps (fun v h' _ => v = none ∧ Keep h h' [e] ∧ Arv V.Z h' e k .char 27 [.int 76, .int 97, .int 122, .int 111, .int 32, .int 100, .int 111, .int 101, .int 115, .int 32, .int 110, .int 111, .int 116, .int 32, .int 115, .int 117, .int 112, .int 112, .int 111, .int 114, .int 116, .int 32, .int 0, .int 0, .int 0, .int 0, .int 0] (.int 0)) := Con.of (plainFor_of_name pn_4) (L := [.val (.ref e)]) rfl fun K => by
  refine r_aloadN 1 rfl d30_0 rfl rfl ?_
  refine r_iconst (0 : Int32) 2 rfl d30_1 rfl ?_
  refine r_bipush (76 : Int32) 4 rfl d30_2 rfl ?_
  refine r_castore 0 5 rfl d30_4 A (by decide) rfl (Nat.le_of_ble_eq_true rfl) ze (76 : Int32) (by decide) fun h368 Wh368 f369 => ?_
  have sh368 := Wh368.size
  replace f369 : Arv V.Z h368 e k .char (27 : Int32) [.int (76 : Int32), .int 0, .int 0, .int 0, .int 0, .int 0, .int 0, .int 0, .int 0, .int 0, .int 0, .int 0, .int 0, .int 0, .int 0, .int 0, .int 0, .int 0, .int 0, .int 0, .int 0, .int 0, .int 0, .int 0, .int 0, .int 0, .int 0] (.int 0) := f369
  refine r_aloadN 6 rfl d30_5 rfl rfl ?_
  refine r_iconst (1 : Int32) 7 rfl d30_6 rfl ?_
  refine r_bipush (97 : Int32) 9 rfl d30_7 rfl ?_
  refine r_castore 1 10 rfl d30_9 f369 (by decide) rfl (Nat.le_of_ble_eq_true rfl) ze (97 : Int32) (by decide) fun h370 Wh370 f371 => ?_
  have sh370 := Wh370.size
  replace f371 : Arv V.Z h370 e k .char (27 : Int32) [.int (76 : Int32), .int (97 : Int32), .int 0, .int 0, .int 0, .int 0, .int 0, .int 0, .int 0, .int 0, .int 0, .int 0, .int 0, .int 0, .int 0, .int 0, .int 0, .int 0, .int 0, .int 0, .int 0, .int 0, .int 0, .int 0, .int 0, .int 0, .int 0] (.int 0) := f371
  refine r_aloadN 11 rfl d30_10 rfl rfl ?_
  refine r_iconst (2 : Int32) 12 rfl d30_11 rfl ?_
  refine r_bipush (122 : Int32) 14 rfl d30_12 rfl ?_
  refine r_castore 2 15 rfl d30_14 f371 (by decide) rfl (Nat.le_of_ble_eq_true rfl) ze (122 : Int32) (by decide) fun h372 Wh372 f373 => ?_
  have sh372 := Wh372.size
  replace f373 : Arv V.Z h372 e k .char (27 : Int32) [.int (76 : Int32), .int (97 : Int32), .int (122 : Int32), .int 0, .int 0, .int 0, .int 0, .int 0, .int 0, .int 0, .int 0, .int 0, .int 0, .int 0, .int 0, .int 0, .int 0, .int 0, .int 0, .int 0, .int 0, .int 0, .int 0, .int 0, .int 0, .int 0, .int 0] (.int 0) := f373
  refine r_aloadN 16 rfl d30_15 rfl rfl ?_
  refine r_iconst (3 : Int32) 17 rfl d30_16 rfl ?_
  refine r_bipush (111 : Int32) 19 rfl d30_17 rfl ?_
  refine r_castore 3 20 rfl d30_19 f373 (by decide) rfl (Nat.le_of_ble_eq_true rfl) ze (111 : Int32) (by decide) fun h374 Wh374 f375 => ?_
  have sh374 := Wh374.size
  replace f375 : Arv V.Z h374 e k .char (27 : Int32) [.int (76 : Int32), .int (97 : Int32), .int (122 : Int32), .int (111 : Int32), .int 0, .int 0, .int 0, .int 0, .int 0, .int 0, .int 0, .int 0, .int 0, .int 0, .int 0, .int 0, .int 0, .int 0, .int 0, .int 0, .int 0, .int 0, .int 0, .int 0, .int 0, .int 0, .int 0] (.int 0) := f375
  refine r_aloadN 21 rfl d30_20 rfl rfl ?_
  refine r_iconst (4 : Int32) 22 rfl d30_21 rfl ?_
  refine r_bipush (32 : Int32) 24 rfl d30_22 rfl ?_
  refine r_castore 4 25 rfl d30_24 f375 (by decide) rfl (Nat.le_of_ble_eq_true rfl) ze (32 : Int32) (by decide) fun h376 Wh376 f377 => ?_
  have sh376 := Wh376.size
  replace f377 : Arv V.Z h376 e k .char (27 : Int32) [.int (76 : Int32), .int (97 : Int32), .int (122 : Int32), .int (111 : Int32), .int (32 : Int32), .int 0, .int 0, .int 0, .int 0, .int 0, .int 0, .int 0, .int 0, .int 0, .int 0, .int 0, .int 0, .int 0, .int 0, .int 0, .int 0, .int 0, .int 0, .int 0, .int 0, .int 0, .int 0] (.int 0) := f377
  refine r_aloadN 26 rfl d30_25 rfl rfl ?_
  refine r_iconst (5 : Int32) 27 rfl d30_26 rfl ?_
  refine r_bipush (100 : Int32) 29 rfl d30_27 rfl ?_
  refine r_castore 5 30 rfl d30_29 f377 (by decide) rfl (Nat.le_of_ble_eq_true rfl) ze (100 : Int32) (by decide) fun h378 Wh378 f379 => ?_
  have sh378 := Wh378.size
  replace f379 : Arv V.Z h378 e k .char (27 : Int32) [.int (76 : Int32), .int (97 : Int32), .int (122 : Int32), .int (111 : Int32), .int (32 : Int32), .int (100 : Int32), .int 0, .int 0, .int 0, .int 0, .int 0, .int 0, .int 0, .int 0, .int 0, .int 0, .int 0, .int 0, .int 0, .int 0, .int 0, .int 0, .int 0, .int 0, .int 0, .int 0, .int 0] (.int 0) := f379
  refine r_aloadN 31 rfl d30_30 rfl rfl ?_
  refine r_bipush (6 : Int32) 33 rfl d30_31 rfl ?_
  refine r_bipush (111 : Int32) 35 rfl d30_33 rfl ?_
  refine r_castore 6 36 rfl d30_35 f379 (by decide) rfl (Nat.le_of_ble_eq_true rfl) ze (111 : Int32) (by decide) fun h380 Wh380 f381 => ?_
  have sh380 := Wh380.size
  replace f381 : Arv V.Z h380 e k .char (27 : Int32) [.int (76 : Int32), .int (97 : Int32), .int (122 : Int32), .int (111 : Int32), .int (32 : Int32), .int (100 : Int32), .int (111 : Int32), .int 0, .int 0, .int 0, .int 0, .int 0, .int 0, .int 0, .int 0, .int 0, .int 0, .int 0, .int 0, .int 0, .int 0, .int 0, .int 0, .int 0, .int 0, .int 0, .int 0] (.int 0) := f381
  refine r_aloadN 37 rfl d30_36 rfl rfl ?_
  refine r_bipush (7 : Int32) 39 rfl d30_37 rfl ?_
  refine r_bipush (101 : Int32) 41 rfl d30_39 rfl ?_
  refine r_castore 7 42 rfl d30_41 f381 (by decide) rfl (Nat.le_of_ble_eq_true rfl) ze (101 : Int32) (by decide) fun h382 Wh382 f383 => ?_
  have sh382 := Wh382.size
  replace f383 : Arv V.Z h382 e k .char (27 : Int32) [.int (76 : Int32), .int (97 : Int32), .int (122 : Int32), .int (111 : Int32), .int (32 : Int32), .int (100 : Int32), .int (111 : Int32), .int (101 : Int32), .int 0, .int 0, .int 0, .int 0, .int 0, .int 0, .int 0, .int 0, .int 0, .int 0, .int 0, .int 0, .int 0, .int 0, .int 0, .int 0, .int 0, .int 0, .int 0] (.int 0) := f383
  refine r_aloadN 43 rfl d30_42 rfl rfl ?_
  refine r_bipush (8 : Int32) 45 rfl d30_43 rfl ?_
  refine r_bipush (115 : Int32) 47 rfl d30_45 rfl ?_
  refine r_castore 8 48 rfl d30_47 f383 (by decide) rfl (Nat.le_of_ble_eq_true rfl) ze (115 : Int32) (by decide) fun h384 Wh384 f385 => ?_
  have sh384 := Wh384.size
  replace f385 : Arv V.Z h384 e k .char (27 : Int32) [.int (76 : Int32), .int (97 : Int32), .int (122 : Int32), .int (111 : Int32), .int (32 : Int32), .int (100 : Int32), .int (111 : Int32), .int (101 : Int32), .int (115 : Int32), .int 0, .int 0, .int 0, .int 0, .int 0, .int 0, .int 0, .int 0, .int 0, .int 0, .int 0, .int 0, .int 0, .int 0, .int 0, .int 0, .int 0, .int 0] (.int 0) := f385
  refine r_aloadN 49 rfl d30_48 rfl rfl ?_
  refine r_bipush (9 : Int32) 51 rfl d30_49 rfl ?_
  refine r_bipush (32 : Int32) 53 rfl d30_51 rfl ?_
  refine r_castore 9 54 rfl d30_53 f385 (by decide) rfl (Nat.le_of_ble_eq_true rfl) ze (32 : Int32) (by decide) fun h386 Wh386 f387 => ?_
  have sh386 := Wh386.size
  replace f387 : Arv V.Z h386 e k .char (27 : Int32) [.int (76 : Int32), .int (97 : Int32), .int (122 : Int32), .int (111 : Int32), .int (32 : Int32), .int (100 : Int32), .int (111 : Int32), .int (101 : Int32), .int (115 : Int32), .int (32 : Int32), .int 0, .int 0, .int 0, .int 0, .int 0, .int 0, .int 0, .int 0, .int 0, .int 0, .int 0, .int 0, .int 0, .int 0, .int 0, .int 0, .int 0] (.int 0) := f387
  refine r_aloadN 55 rfl d30_54 rfl rfl ?_
  refine r_bipush (10 : Int32) 57 rfl d30_55 rfl ?_
  refine r_bipush (110 : Int32) 59 rfl d30_57 rfl ?_
  refine r_castore 10 60 rfl d30_59 f387 (by decide) rfl (Nat.le_of_ble_eq_true rfl) ze (110 : Int32) (by decide) fun h388 Wh388 f389 => ?_
  have sh388 := Wh388.size
  replace f389 : Arv V.Z h388 e k .char (27 : Int32) [.int (76 : Int32), .int (97 : Int32), .int (122 : Int32), .int (111 : Int32), .int (32 : Int32), .int (100 : Int32), .int (111 : Int32), .int (101 : Int32), .int (115 : Int32), .int (32 : Int32), .int (110 : Int32), .int 0, .int 0, .int 0, .int 0, .int 0, .int 0, .int 0, .int 0, .int 0, .int 0, .int 0, .int 0, .int 0, .int 0, .int 0, .int 0] (.int 0) := f389
  refine r_aloadN 61 rfl d30_60 rfl rfl ?_
  refine r_bipush (11 : Int32) 63 rfl d30_61 rfl ?_
  refine r_bipush (111 : Int32) 65 rfl d30_63 rfl ?_
  refine r_castore 11 66 rfl d30_65 f389 (by decide) rfl (Nat.le_of_ble_eq_true rfl) ze (111 : Int32) (by decide) fun h390 Wh390 f391 => ?_
  have sh390 := Wh390.size
  replace f391 : Arv V.Z h390 e k .char (27 : Int32) [.int (76 : Int32), .int (97 : Int32), .int (122 : Int32), .int (111 : Int32), .int (32 : Int32), .int (100 : Int32), .int (111 : Int32), .int (101 : Int32), .int (115 : Int32), .int (32 : Int32), .int (110 : Int32), .int (111 : Int32), .int 0, .int 0, .int 0, .int 0, .int 0, .int 0, .int 0, .int 0, .int 0, .int 0, .int 0, .int 0, .int 0, .int 0, .int 0] (.int 0) := f391
  refine r_aloadN 67 rfl d30_66 rfl rfl ?_
  refine r_bipush (12 : Int32) 69 rfl d30_67 rfl ?_
  refine r_bipush (116 : Int32) 71 rfl d30_69 rfl ?_
  refine r_castore 12 72 rfl d30_71 f391 (by decide) rfl (Nat.le_of_ble_eq_true rfl) ze (116 : Int32) (by decide) fun h392 Wh392 f393 => ?_
  have sh392 := Wh392.size
  replace f393 : Arv V.Z h392 e k .char (27 : Int32) [.int (76 : Int32), .int (97 : Int32), .int (122 : Int32), .int (111 : Int32), .int (32 : Int32), .int (100 : Int32), .int (111 : Int32), .int (101 : Int32), .int (115 : Int32), .int (32 : Int32), .int (110 : Int32), .int (111 : Int32), .int (116 : Int32), .int 0, .int 0, .int 0, .int 0, .int 0, .int 0, .int 0, .int 0, .int 0, .int 0, .int 0, .int 0, .int 0, .int 0] (.int 0) := f393
  refine r_aloadN 73 rfl d30_72 rfl rfl ?_
  refine r_bipush (13 : Int32) 75 rfl d30_73 rfl ?_
  refine r_bipush (32 : Int32) 77 rfl d30_75 rfl ?_
  refine r_castore 13 78 rfl d30_77 f393 (by decide) rfl (Nat.le_of_ble_eq_true rfl) ze (32 : Int32) (by decide) fun h394 Wh394 f395 => ?_
  have sh394 := Wh394.size
  replace f395 : Arv V.Z h394 e k .char (27 : Int32) [.int (76 : Int32), .int (97 : Int32), .int (122 : Int32), .int (111 : Int32), .int (32 : Int32), .int (100 : Int32), .int (111 : Int32), .int (101 : Int32), .int (115 : Int32), .int (32 : Int32), .int (110 : Int32), .int (111 : Int32), .int (116 : Int32), .int (32 : Int32), .int 0, .int 0, .int 0, .int 0, .int 0, .int 0, .int 0, .int 0, .int 0, .int 0, .int 0, .int 0, .int 0] (.int 0) := f395
  refine r_aloadN 79 rfl d30_78 rfl rfl ?_
  refine r_bipush (14 : Int32) 81 rfl d30_79 rfl ?_
  refine r_bipush (115 : Int32) 83 rfl d30_81 rfl ?_
  refine r_castore 14 84 rfl d30_83 f395 (by decide) rfl (Nat.le_of_ble_eq_true rfl) ze (115 : Int32) (by decide) fun h396 Wh396 f397 => ?_
  have sh396 := Wh396.size
  replace f397 : Arv V.Z h396 e k .char (27 : Int32) [.int (76 : Int32), .int (97 : Int32), .int (122 : Int32), .int (111 : Int32), .int (32 : Int32), .int (100 : Int32), .int (111 : Int32), .int (101 : Int32), .int (115 : Int32), .int (32 : Int32), .int (110 : Int32), .int (111 : Int32), .int (116 : Int32), .int (32 : Int32), .int (115 : Int32), .int 0, .int 0, .int 0, .int 0, .int 0, .int 0, .int 0, .int 0, .int 0, .int 0, .int 0, .int 0] (.int 0) := f397
  refine r_aloadN 85 rfl d30_84 rfl rfl ?_
  refine r_bipush (15 : Int32) 87 rfl d30_85 rfl ?_
  refine r_bipush (117 : Int32) 89 rfl d30_87 rfl ?_
  refine r_castore 15 90 rfl d30_89 f397 (by decide) rfl (Nat.le_of_ble_eq_true rfl) ze (117 : Int32) (by decide) fun h398 Wh398 f399 => ?_
  have sh398 := Wh398.size
  replace f399 : Arv V.Z h398 e k .char (27 : Int32) [.int (76 : Int32), .int (97 : Int32), .int (122 : Int32), .int (111 : Int32), .int (32 : Int32), .int (100 : Int32), .int (111 : Int32), .int (101 : Int32), .int (115 : Int32), .int (32 : Int32), .int (110 : Int32), .int (111 : Int32), .int (116 : Int32), .int (32 : Int32), .int (115 : Int32), .int (117 : Int32), .int 0, .int 0, .int 0, .int 0, .int 0, .int 0, .int 0, .int 0, .int 0, .int 0, .int 0] (.int 0) := f399
  refine r_aloadN 91 rfl d30_90 rfl rfl ?_
  refine r_bipush (16 : Int32) 93 rfl d30_91 rfl ?_
  refine r_bipush (112 : Int32) 95 rfl d30_93 rfl ?_
  refine r_castore 16 96 rfl d30_95 f399 (by decide) rfl (Nat.le_of_ble_eq_true rfl) ze (112 : Int32) (by decide) fun h400 Wh400 f401 => ?_
  have sh400 := Wh400.size
  replace f401 : Arv V.Z h400 e k .char (27 : Int32) [.int (76 : Int32), .int (97 : Int32), .int (122 : Int32), .int (111 : Int32), .int (32 : Int32), .int (100 : Int32), .int (111 : Int32), .int (101 : Int32), .int (115 : Int32), .int (32 : Int32), .int (110 : Int32), .int (111 : Int32), .int (116 : Int32), .int (32 : Int32), .int (115 : Int32), .int (117 : Int32), .int (112 : Int32), .int 0, .int 0, .int 0, .int 0, .int 0, .int 0, .int 0, .int 0, .int 0, .int 0] (.int 0) := f401
  refine r_aloadN 97 rfl d30_96 rfl rfl ?_
  refine r_bipush (17 : Int32) 99 rfl d30_97 rfl ?_
  refine r_bipush (112 : Int32) 101 rfl d30_99 rfl ?_
  refine r_castore 17 102 rfl d30_101 f401 (by decide) rfl (Nat.le_of_ble_eq_true rfl) ze (112 : Int32) (by decide) fun h402 Wh402 f403 => ?_
  have sh402 := Wh402.size
  replace f403 : Arv V.Z h402 e k .char (27 : Int32) [.int (76 : Int32), .int (97 : Int32), .int (122 : Int32), .int (111 : Int32), .int (32 : Int32), .int (100 : Int32), .int (111 : Int32), .int (101 : Int32), .int (115 : Int32), .int (32 : Int32), .int (110 : Int32), .int (111 : Int32), .int (116 : Int32), .int (32 : Int32), .int (115 : Int32), .int (117 : Int32), .int (112 : Int32), .int (112 : Int32), .int 0, .int 0, .int 0, .int 0, .int 0, .int 0, .int 0, .int 0, .int 0] (.int 0) := f403
  refine r_aloadN 103 rfl d30_102 rfl rfl ?_
  refine r_bipush (18 : Int32) 105 rfl d30_103 rfl ?_
  refine r_bipush (111 : Int32) 107 rfl d30_105 rfl ?_
  refine r_castore 18 108 rfl d30_107 f403 (by decide) rfl (Nat.le_of_ble_eq_true rfl) ze (111 : Int32) (by decide) fun h404 Wh404 f405 => ?_
  have sh404 := Wh404.size
  replace f405 : Arv V.Z h404 e k .char (27 : Int32) [.int (76 : Int32), .int (97 : Int32), .int (122 : Int32), .int (111 : Int32), .int (32 : Int32), .int (100 : Int32), .int (111 : Int32), .int (101 : Int32), .int (115 : Int32), .int (32 : Int32), .int (110 : Int32), .int (111 : Int32), .int (116 : Int32), .int (32 : Int32), .int (115 : Int32), .int (117 : Int32), .int (112 : Int32), .int (112 : Int32), .int (111 : Int32), .int 0, .int 0, .int 0, .int 0, .int 0, .int 0, .int 0, .int 0] (.int 0) := f405
  refine r_aloadN 109 rfl d30_108 rfl rfl ?_
  refine r_bipush (19 : Int32) 111 rfl d30_109 rfl ?_
  refine r_bipush (114 : Int32) 113 rfl d30_111 rfl ?_
  refine r_castore 19 114 rfl d30_113 f405 (by decide) rfl (Nat.le_of_ble_eq_true rfl) ze (114 : Int32) (by decide) fun h406 Wh406 f407 => ?_
  have sh406 := Wh406.size
  replace f407 : Arv V.Z h406 e k .char (27 : Int32) [.int (76 : Int32), .int (97 : Int32), .int (122 : Int32), .int (111 : Int32), .int (32 : Int32), .int (100 : Int32), .int (111 : Int32), .int (101 : Int32), .int (115 : Int32), .int (32 : Int32), .int (110 : Int32), .int (111 : Int32), .int (116 : Int32), .int (32 : Int32), .int (115 : Int32), .int (117 : Int32), .int (112 : Int32), .int (112 : Int32), .int (111 : Int32), .int (114 : Int32), .int 0, .int 0, .int 0, .int 0, .int 0, .int 0, .int 0] (.int 0) := f407
  refine r_aloadN 115 rfl d30_114 rfl rfl ?_
  refine r_bipush (20 : Int32) 117 rfl d30_115 rfl ?_
  refine r_bipush (116 : Int32) 119 rfl d30_117 rfl ?_
  refine r_castore 20 120 rfl d30_119 f407 (by decide) rfl (Nat.le_of_ble_eq_true rfl) ze (116 : Int32) (by decide) fun h408 Wh408 f409 => ?_
  have sh408 := Wh408.size
  replace f409 : Arv V.Z h408 e k .char (27 : Int32) [.int (76 : Int32), .int (97 : Int32), .int (122 : Int32), .int (111 : Int32), .int (32 : Int32), .int (100 : Int32), .int (111 : Int32), .int (101 : Int32), .int (115 : Int32), .int (32 : Int32), .int (110 : Int32), .int (111 : Int32), .int (116 : Int32), .int (32 : Int32), .int (115 : Int32), .int (117 : Int32), .int (112 : Int32), .int (112 : Int32), .int (111 : Int32), .int (114 : Int32), .int (116 : Int32), .int 0, .int 0, .int 0, .int 0, .int 0, .int 0] (.int 0) := f409
  refine r_aloadN 121 rfl d30_120 rfl rfl ?_
  refine r_bipush (21 : Int32) 123 rfl d30_121 rfl ?_
  refine r_bipush (32 : Int32) 125 rfl d30_123 rfl ?_
  refine r_castore 21 126 rfl d30_125 f409 (by decide) rfl (Nat.le_of_ble_eq_true rfl) ze (32 : Int32) (by decide) fun h410 Wh410 f411 => ?_
  have sh410 := Wh410.size
  replace f411 : Arv V.Z h410 e k .char (27 : Int32) [.int (76 : Int32), .int (97 : Int32), .int (122 : Int32), .int (111 : Int32), .int (32 : Int32), .int (100 : Int32), .int (111 : Int32), .int (101 : Int32), .int (115 : Int32), .int (32 : Int32), .int (110 : Int32), .int (111 : Int32), .int (116 : Int32), .int (32 : Int32), .int (115 : Int32), .int (117 : Int32), .int (112 : Int32), .int (112 : Int32), .int (111 : Int32), .int (114 : Int32), .int (116 : Int32), .int (32 : Int32), .int 0, .int 0, .int 0, .int 0, .int 0] (.int 0) := f411
  refine r_ret rfl d30_126 (by decide) (by decide) [] (fun _ q => nomatch q) ?_
  exact ⟨rfl, ((((((((((((((((((((((Keep.refl _ _).wr Wh368 (Or.inl (by simp))).wr Wh370 (Or.inl (by simp))).wr Wh372 (Or.inl (by simp))).wr Wh374 (Or.inl (by simp))).wr Wh376 (Or.inl (by simp))).wr Wh378 (Or.inl (by simp))).wr Wh380 (Or.inl (by simp))).wr Wh382 (Or.inl (by simp))).wr Wh384 (Or.inl (by simp))).wr Wh386 (Or.inl (by simp))).wr Wh388 (Or.inl (by simp))).wr Wh390 (Or.inl (by simp))).wr Wh392 (Or.inl (by simp))).wr Wh394 (Or.inl (by simp))).wr Wh396 (Or.inl (by simp))).wr Wh398 (Or.inl (by simp))).wr Wh400 (Or.inl (by simp))).wr Wh402 (Or.inl (by simp))).wr Wh404 (Or.inl (by simp))).wr Wh406 (Or.inl (by simp))).wr Wh408 (Or.inl (by simp))).wr Wh410 (Or.inl (by simp)), f411⟩
abbrev b_pf2 : Bx := (⟨"com/example/lazo/lazo/UnsupportedOperationPinLaw", "prefix", "([C)V"⟩, method_2_code, 1, none, { frames := 0, cells := 0, slots := 0, locals := 0 })
theorem c_pf2 (V : Vw) (hw : ∀ d ∈ tables_1, d.before V.a0 V.Z = true) (e : Nat) (k : ClassId) (h : Heap) (ps : List Addr) (ze : V.Z.heap.size ≤ e) (A : Arv V.Z h e k .char 28 [.int 0, .int 0, .int 0, .int 0, .int 0, .int 0, .int 0, .int 0, .int 0, .int 0, .int 0, .int 0, .int 0, .int 0, .int 0, .int 0, .int 0, .int 0, .int 0, .int 0, .int 0, .int 0, .int 0, .int 0, .int 0, .int 0, .int 0, .int 0] (.int 0)) : Con V b_pf2 #[.ref e] h ps (fun v h' _ => v = none ∧ Keep h h' [e] ∧ Arv V.Z h' e k .char 28 [.int 76, .int 97, .int 122, .int 111, .int 32, .int 100, .int 111, .int 101, .int 115, .int 32, .int 110, .int 111, .int 116, .int 32, .int 115, .int 117, .int 112, .int 112, .int 111, .int 114, .int 116, .int 32, .int 0, .int 0, .int 0, .int 0, .int 0, .int 0] (.int 0)) := Con.of (plainFor_of_name pn_4) (L := [.val (.ref e)]) rfl fun K => by
  refine r_aloadN 1 rfl d30_0 rfl rfl ?_
  refine r_iconst (0 : Int32) 2 rfl d30_1 rfl ?_
  refine r_bipush (76 : Int32) 4 rfl d30_2 rfl ?_
  refine r_castore 0 5 rfl d30_4 A (by decide) rfl (Nat.le_of_ble_eq_true rfl) ze (76 : Int32) (by decide) fun h412 Wh412 f413 => ?_
  have sh412 := Wh412.size
  replace f413 : Arv V.Z h412 e k .char (28 : Int32) [.int (76 : Int32), .int 0, .int 0, .int 0, .int 0, .int 0, .int 0, .int 0, .int 0, .int 0, .int 0, .int 0, .int 0, .int 0, .int 0, .int 0, .int 0, .int 0, .int 0, .int 0, .int 0, .int 0, .int 0, .int 0, .int 0, .int 0, .int 0, .int 0] (.int 0) := f413
  refine r_aloadN 6 rfl d30_5 rfl rfl ?_
  refine r_iconst (1 : Int32) 7 rfl d30_6 rfl ?_
  refine r_bipush (97 : Int32) 9 rfl d30_7 rfl ?_
  refine r_castore 1 10 rfl d30_9 f413 (by decide) rfl (Nat.le_of_ble_eq_true rfl) ze (97 : Int32) (by decide) fun h414 Wh414 f415 => ?_
  have sh414 := Wh414.size
  replace f415 : Arv V.Z h414 e k .char (28 : Int32) [.int (76 : Int32), .int (97 : Int32), .int 0, .int 0, .int 0, .int 0, .int 0, .int 0, .int 0, .int 0, .int 0, .int 0, .int 0, .int 0, .int 0, .int 0, .int 0, .int 0, .int 0, .int 0, .int 0, .int 0, .int 0, .int 0, .int 0, .int 0, .int 0, .int 0] (.int 0) := f415
  refine r_aloadN 11 rfl d30_10 rfl rfl ?_
  refine r_iconst (2 : Int32) 12 rfl d30_11 rfl ?_
  refine r_bipush (122 : Int32) 14 rfl d30_12 rfl ?_
  refine r_castore 2 15 rfl d30_14 f415 (by decide) rfl (Nat.le_of_ble_eq_true rfl) ze (122 : Int32) (by decide) fun h416 Wh416 f417 => ?_
  have sh416 := Wh416.size
  replace f417 : Arv V.Z h416 e k .char (28 : Int32) [.int (76 : Int32), .int (97 : Int32), .int (122 : Int32), .int 0, .int 0, .int 0, .int 0, .int 0, .int 0, .int 0, .int 0, .int 0, .int 0, .int 0, .int 0, .int 0, .int 0, .int 0, .int 0, .int 0, .int 0, .int 0, .int 0, .int 0, .int 0, .int 0, .int 0, .int 0] (.int 0) := f417
  refine r_aloadN 16 rfl d30_15 rfl rfl ?_
  refine r_iconst (3 : Int32) 17 rfl d30_16 rfl ?_
  refine r_bipush (111 : Int32) 19 rfl d30_17 rfl ?_
  refine r_castore 3 20 rfl d30_19 f417 (by decide) rfl (Nat.le_of_ble_eq_true rfl) ze (111 : Int32) (by decide) fun h418 Wh418 f419 => ?_
  have sh418 := Wh418.size
  replace f419 : Arv V.Z h418 e k .char (28 : Int32) [.int (76 : Int32), .int (97 : Int32), .int (122 : Int32), .int (111 : Int32), .int 0, .int 0, .int 0, .int 0, .int 0, .int 0, .int 0, .int 0, .int 0, .int 0, .int 0, .int 0, .int 0, .int 0, .int 0, .int 0, .int 0, .int 0, .int 0, .int 0, .int 0, .int 0, .int 0, .int 0] (.int 0) := f419
  refine r_aloadN 21 rfl d30_20 rfl rfl ?_
  refine r_iconst (4 : Int32) 22 rfl d30_21 rfl ?_
  refine r_bipush (32 : Int32) 24 rfl d30_22 rfl ?_
  refine r_castore 4 25 rfl d30_24 f419 (by decide) rfl (Nat.le_of_ble_eq_true rfl) ze (32 : Int32) (by decide) fun h420 Wh420 f421 => ?_
  have sh420 := Wh420.size
  replace f421 : Arv V.Z h420 e k .char (28 : Int32) [.int (76 : Int32), .int (97 : Int32), .int (122 : Int32), .int (111 : Int32), .int (32 : Int32), .int 0, .int 0, .int 0, .int 0, .int 0, .int 0, .int 0, .int 0, .int 0, .int 0, .int 0, .int 0, .int 0, .int 0, .int 0, .int 0, .int 0, .int 0, .int 0, .int 0, .int 0, .int 0, .int 0] (.int 0) := f421
  refine r_aloadN 26 rfl d30_25 rfl rfl ?_
  refine r_iconst (5 : Int32) 27 rfl d30_26 rfl ?_
  refine r_bipush (100 : Int32) 29 rfl d30_27 rfl ?_
  refine r_castore 5 30 rfl d30_29 f421 (by decide) rfl (Nat.le_of_ble_eq_true rfl) ze (100 : Int32) (by decide) fun h422 Wh422 f423 => ?_
  have sh422 := Wh422.size
  replace f423 : Arv V.Z h422 e k .char (28 : Int32) [.int (76 : Int32), .int (97 : Int32), .int (122 : Int32), .int (111 : Int32), .int (32 : Int32), .int (100 : Int32), .int 0, .int 0, .int 0, .int 0, .int 0, .int 0, .int 0, .int 0, .int 0, .int 0, .int 0, .int 0, .int 0, .int 0, .int 0, .int 0, .int 0, .int 0, .int 0, .int 0, .int 0, .int 0] (.int 0) := f423
  refine r_aloadN 31 rfl d30_30 rfl rfl ?_
  refine r_bipush (6 : Int32) 33 rfl d30_31 rfl ?_
  refine r_bipush (111 : Int32) 35 rfl d30_33 rfl ?_
  refine r_castore 6 36 rfl d30_35 f423 (by decide) rfl (Nat.le_of_ble_eq_true rfl) ze (111 : Int32) (by decide) fun h424 Wh424 f425 => ?_
  have sh424 := Wh424.size
  replace f425 : Arv V.Z h424 e k .char (28 : Int32) [.int (76 : Int32), .int (97 : Int32), .int (122 : Int32), .int (111 : Int32), .int (32 : Int32), .int (100 : Int32), .int (111 : Int32), .int 0, .int 0, .int 0, .int 0, .int 0, .int 0, .int 0, .int 0, .int 0, .int 0, .int 0, .int 0, .int 0, .int 0, .int 0, .int 0, .int 0, .int 0, .int 0, .int 0, .int 0] (.int 0) := f425
  refine r_aloadN 37 rfl d30_36 rfl rfl ?_
  refine r_bipush (7 : Int32) 39 rfl d30_37 rfl ?_
  refine r_bipush (101 : Int32) 41 rfl d30_39 rfl ?_
  refine r_castore 7 42 rfl d30_41 f425 (by decide) rfl (Nat.le_of_ble_eq_true rfl) ze (101 : Int32) (by decide) fun h426 Wh426 f427 => ?_
  have sh426 := Wh426.size
  replace f427 : Arv V.Z h426 e k .char (28 : Int32) [.int (76 : Int32), .int (97 : Int32), .int (122 : Int32), .int (111 : Int32), .int (32 : Int32), .int (100 : Int32), .int (111 : Int32), .int (101 : Int32), .int 0, .int 0, .int 0, .int 0, .int 0, .int 0, .int 0, .int 0, .int 0, .int 0, .int 0, .int 0, .int 0, .int 0, .int 0, .int 0, .int 0, .int 0, .int 0, .int 0] (.int 0) := f427
  refine r_aloadN 43 rfl d30_42 rfl rfl ?_
  refine r_bipush (8 : Int32) 45 rfl d30_43 rfl ?_
  refine r_bipush (115 : Int32) 47 rfl d30_45 rfl ?_
  refine r_castore 8 48 rfl d30_47 f427 (by decide) rfl (Nat.le_of_ble_eq_true rfl) ze (115 : Int32) (by decide) fun h428 Wh428 f429 => ?_
  have sh428 := Wh428.size
  replace f429 : Arv V.Z h428 e k .char (28 : Int32) [.int (76 : Int32), .int (97 : Int32), .int (122 : Int32), .int (111 : Int32), .int (32 : Int32), .int (100 : Int32), .int (111 : Int32), .int (101 : Int32), .int (115 : Int32), .int 0, .int 0, .int 0, .int 0, .int 0, .int 0, .int 0, .int 0, .int 0, .int 0, .int 0, .int 0, .int 0, .int 0, .int 0, .int 0, .int 0, .int 0, .int 0] (.int 0) := f429
  refine r_aloadN 49 rfl d30_48 rfl rfl ?_
  refine r_bipush (9 : Int32) 51 rfl d30_49 rfl ?_
  refine r_bipush (32 : Int32) 53 rfl d30_51 rfl ?_
  refine r_castore 9 54 rfl d30_53 f429 (by decide) rfl (Nat.le_of_ble_eq_true rfl) ze (32 : Int32) (by decide) fun h430 Wh430 f431 => ?_
  have sh430 := Wh430.size
  replace f431 : Arv V.Z h430 e k .char (28 : Int32) [.int (76 : Int32), .int (97 : Int32), .int (122 : Int32), .int (111 : Int32), .int (32 : Int32), .int (100 : Int32), .int (111 : Int32), .int (101 : Int32), .int (115 : Int32), .int (32 : Int32), .int 0, .int 0, .int 0, .int 0, .int 0, .int 0, .int 0, .int 0, .int 0, .int 0, .int 0, .int 0, .int 0, .int 0, .int 0, .int 0, .int 0, .int 0] (.int 0) := f431
  refine r_aloadN 55 rfl d30_54 rfl rfl ?_
  refine r_bipush (10 : Int32) 57 rfl d30_55 rfl ?_
  refine r_bipush (110 : Int32) 59 rfl d30_57 rfl ?_
  refine r_castore 10 60 rfl d30_59 f431 (by decide) rfl (Nat.le_of_ble_eq_true rfl) ze (110 : Int32) (by decide) fun h432 Wh432 f433 => ?_
  have sh432 := Wh432.size
  replace f433 : Arv V.Z h432 e k .char (28 : Int32) [.int (76 : Int32), .int (97 : Int32), .int (122 : Int32), .int (111 : Int32), .int (32 : Int32), .int (100 : Int32), .int (111 : Int32), .int (101 : Int32), .int (115 : Int32), .int (32 : Int32), .int (110 : Int32), .int 0, .int 0, .int 0, .int 0, .int 0, .int 0, .int 0, .int 0, .int 0, .int 0, .int 0, .int 0, .int 0, .int 0, .int 0, .int 0, .int 0] (.int 0) := f433
  refine r_aloadN 61 rfl d30_60 rfl rfl ?_
  refine r_bipush (11 : Int32) 63 rfl d30_61 rfl ?_
  refine r_bipush (111 : Int32) 65 rfl d30_63 rfl ?_
  refine r_castore 11 66 rfl d30_65 f433 (by decide) rfl (Nat.le_of_ble_eq_true rfl) ze (111 : Int32) (by decide) fun h434 Wh434 f435 => ?_
  have sh434 := Wh434.size
  replace f435 : Arv V.Z h434 e k .char (28 : Int32) [.int (76 : Int32), .int (97 : Int32), .int (122 : Int32), .int (111 : Int32), .int (32 : Int32), .int (100 : Int32), .int (111 : Int32), .int (101 : Int32), .int (115 : Int32), .int (32 : Int32), .int (110 : Int32), .int (111 : Int32), .int 0, .int 0, .int 0, .int 0, .int 0, .int 0, .int 0, .int 0, .int 0, .int 0, .int 0, .int 0, .int 0, .int 0, .int 0, .int 0] (.int 0) := f435
  refine r_aloadN 67 rfl d30_66 rfl rfl ?_
  refine r_bipush (12 : Int32) 69 rfl d30_67 rfl ?_
  refine r_bipush (116 : Int32) 71 rfl d30_69 rfl ?_
  refine r_castore 12 72 rfl d30_71 f435 (by decide) rfl (Nat.le_of_ble_eq_true rfl) ze (116 : Int32) (by decide) fun h436 Wh436 f437 => ?_
  have sh436 := Wh436.size
  replace f437 : Arv V.Z h436 e k .char (28 : Int32) [.int (76 : Int32), .int (97 : Int32), .int (122 : Int32), .int (111 : Int32), .int (32 : Int32), .int (100 : Int32), .int (111 : Int32), .int (101 : Int32), .int (115 : Int32), .int (32 : Int32), .int (110 : Int32), .int (111 : Int32), .int (116 : Int32), .int 0, .int 0, .int 0, .int 0, .int 0, .int 0, .int 0, .int 0, .int 0, .int 0, .int 0, .int 0, .int 0, .int 0, .int 0] (.int 0) := f437
  refine r_aloadN 73 rfl d30_72 rfl rfl ?_
  refine r_bipush (13 : Int32) 75 rfl d30_73 rfl ?_
  refine r_bipush (32 : Int32) 77 rfl d30_75 rfl ?_
  refine r_castore 13 78 rfl d30_77 f437 (by decide) rfl (Nat.le_of_ble_eq_true rfl) ze (32 : Int32) (by decide) fun h438 Wh438 f439 => ?_
  have sh438 := Wh438.size
  replace f439 : Arv V.Z h438 e k .char (28 : Int32) [.int (76 : Int32), .int (97 : Int32), .int (122 : Int32), .int (111 : Int32), .int (32 : Int32), .int (100 : Int32), .int (111 : Int32), .int (101 : Int32), .int (115 : Int32), .int (32 : Int32), .int (110 : Int32), .int (111 : Int32), .int (116 : Int32), .int (32 : Int32), .int 0, .int 0, .int 0, .int 0, .int 0, .int 0, .int 0, .int 0, .int 0, .int 0, .int 0, .int 0, .int 0, .int 0] (.int 0) := f439
  refine r_aloadN 79 rfl d30_78 rfl rfl ?_
  refine r_bipush (14 : Int32) 81 rfl d30_79 rfl ?_
  refine r_bipush (115 : Int32) 83 rfl d30_81 rfl ?_
  refine r_castore 14 84 rfl d30_83 f439 (by decide) rfl (Nat.le_of_ble_eq_true rfl) ze (115 : Int32) (by decide) fun h440 Wh440 f441 => ?_
  have sh440 := Wh440.size
  replace f441 : Arv V.Z h440 e k .char (28 : Int32) [.int (76 : Int32), .int (97 : Int32), .int (122 : Int32), .int (111 : Int32), .int (32 : Int32), .int (100 : Int32), .int (111 : Int32), .int (101 : Int32), .int (115 : Int32), .int (32 : Int32), .int (110 : Int32), .int (111 : Int32), .int (116 : Int32), .int (32 : Int32), .int (115 : Int32), .int 0, .int 0, .int 0, .int 0, .int 0, .int 0, .int 0, .int 0, .int 0, .int 0, .int 0, .int 0, .int 0] (.int 0) := f441
  refine r_aloadN 85 rfl d30_84 rfl rfl ?_
  refine r_bipush (15 : Int32) 87 rfl d30_85 rfl ?_
  refine r_bipush (117 : Int32) 89 rfl d30_87 rfl ?_
  refine r_castore 15 90 rfl d30_89 f441 (by decide) rfl (Nat.le_of_ble_eq_true rfl) ze (117 : Int32) (by decide) fun h442 Wh442 f443 => ?_
  have sh442 := Wh442.size
  replace f443 : Arv V.Z h442 e k .char (28 : Int32) [.int (76 : Int32), .int (97 : Int32), .int (122 : Int32), .int (111 : Int32), .int (32 : Int32), .int (100 : Int32), .int (111 : Int32), .int (101 : Int32), .int (115 : Int32), .int (32 : Int32), .int (110 : Int32), .int (111 : Int32), .int (116 : Int32), .int (32 : Int32), .int (115 : Int32), .int (117 : Int32), .int 0, .int 0, .int 0, .int 0, .int 0, .int 0, .int 0, .int 0, .int 0, .int 0, .int 0, .int 0] (.int 0) := f443
  refine r_aloadN 91 rfl d30_90 rfl rfl ?_
  refine r_bipush (16 : Int32) 93 rfl d30_91 rfl ?_
  refine r_bipush (112 : Int32) 95 rfl d30_93 rfl ?_
  refine r_castore 16 96 rfl d30_95 f443 (by decide) rfl (Nat.le_of_ble_eq_true rfl) ze (112 : Int32) (by decide) fun h444 Wh444 f445 => ?_
  have sh444 := Wh444.size
  replace f445 : Arv V.Z h444 e k .char (28 : Int32) [.int (76 : Int32), .int (97 : Int32), .int (122 : Int32), .int (111 : Int32), .int (32 : Int32), .int (100 : Int32), .int (111 : Int32), .int (101 : Int32), .int (115 : Int32), .int (32 : Int32), .int (110 : Int32), .int (111 : Int32), .int (116 : Int32), .int (32 : Int32), .int (115 : Int32), .int (117 : Int32), .int (112 : Int32), .int 0, .int 0, .int 0, .int 0, .int 0, .int 0, .int 0, .int 0, .int 0, .int 0, .int 0] (.int 0) := f445
  refine r_aloadN 97 rfl d30_96 rfl rfl ?_
  refine r_bipush (17 : Int32) 99 rfl d30_97 rfl ?_
  refine r_bipush (112 : Int32) 101 rfl d30_99 rfl ?_
  refine r_castore 17 102 rfl d30_101 f445 (by decide) rfl (Nat.le_of_ble_eq_true rfl) ze (112 : Int32) (by decide) fun h446 Wh446 f447 => ?_
  have sh446 := Wh446.size
  replace f447 : Arv V.Z h446 e k .char (28 : Int32) [.int (76 : Int32), .int (97 : Int32), .int (122 : Int32), .int (111 : Int32), .int (32 : Int32), .int (100 : Int32), .int (111 : Int32), .int (101 : Int32), .int (115 : Int32), .int (32 : Int32), .int (110 : Int32), .int (111 : Int32), .int (116 : Int32), .int (32 : Int32), .int (115 : Int32), .int (117 : Int32), .int (112 : Int32), .int (112 : Int32), .int 0, .int 0, .int 0, .int 0, .int 0, .int 0, .int 0, .int 0, .int 0, .int 0] (.int 0) := f447
  refine r_aloadN 103 rfl d30_102 rfl rfl ?_
  refine r_bipush (18 : Int32) 105 rfl d30_103 rfl ?_
  refine r_bipush (111 : Int32) 107 rfl d30_105 rfl ?_
  refine r_castore 18 108 rfl d30_107 f447 (by decide) rfl (Nat.le_of_ble_eq_true rfl) ze (111 : Int32) (by decide) fun h448 Wh448 f449 => ?_
  have sh448 := Wh448.size
  replace f449 : Arv V.Z h448 e k .char (28 : Int32) [.int (76 : Int32), .int (97 : Int32), .int (122 : Int32), .int (111 : Int32), .int (32 : Int32), .int (100 : Int32), .int (111 : Int32), .int (101 : Int32), .int (115 : Int32), .int (32 : Int32), .int (110 : Int32), .int (111 : Int32), .int (116 : Int32), .int (32 : Int32), .int (115 : Int32), .int (117 : Int32), .int (112 : Int32), .int (112 : Int32), .int (111 : Int32), .int 0, .int 0, .int 0, .int 0, .int 0, .int 0, .int 0, .int 0, .int 0] (.int 0) := f449
  refine r_aloadN 109 rfl d30_108 rfl rfl ?_
  refine r_bipush (19 : Int32) 111 rfl d30_109 rfl ?_
  refine r_bipush (114 : Int32) 113 rfl d30_111 rfl ?_
  refine r_castore 19 114 rfl d30_113 f449 (by decide) rfl (Nat.le_of_ble_eq_true rfl) ze (114 : Int32) (by decide) fun h450 Wh450 f451 => ?_
  have sh450 := Wh450.size
  replace f451 : Arv V.Z h450 e k .char (28 : Int32) [.int (76 : Int32), .int (97 : Int32), .int (122 : Int32), .int (111 : Int32), .int (32 : Int32), .int (100 : Int32), .int (111 : Int32), .int (101 : Int32), .int (115 : Int32), .int (32 : Int32), .int (110 : Int32), .int (111 : Int32), .int (116 : Int32), .int (32 : Int32), .int (115 : Int32), .int (117 : Int32), .int (112 : Int32), .int (112 : Int32), .int (111 : Int32), .int (114 : Int32), .int 0, .int 0, .int 0, .int 0, .int 0, .int 0, .int 0, .int 0] (.int 0) := f451
  refine r_aloadN 115 rfl d30_114 rfl rfl ?_
  refine r_bipush (20 : Int32) 117 rfl d30_115 rfl ?_
  refine r_bipush (116 : Int32) 119 rfl d30_117 rfl ?_
  refine r_castore 20 120 rfl d30_119 f451 (by decide) rfl (Nat.le_of_ble_eq_true rfl) ze (116 : Int32) (by decide) fun h452 Wh452 f453 => ?_
  have sh452 := Wh452.size
  replace f453 : Arv V.Z h452 e k .char (28 : Int32) [.int (76 : Int32), .int (97 : Int32), .int (122 : Int32), .int (111 : Int32), .int (32 : Int32), .int (100 : Int32), .int (111 : Int32), .int (101 : Int32), .int (115 : Int32), .int (32 : Int32), .int (110 : Int32), .int (111 : Int32), .int (116 : Int32), .int (32 : Int32), .int (115 : Int32), .int (117 : Int32), .int (112 : Int32), .int (112 : Int32), .int (111 : Int32), .int (114 : Int32), .int (116 : Int32), .int 0, .int 0, .int 0, .int 0, .int 0, .int 0, .int 0] (.int 0) := f453
  refine r_aloadN 121 rfl d30_120 rfl rfl ?_
  refine r_bipush (21 : Int32) 123 rfl d30_121 rfl ?_
  refine r_bipush (32 : Int32) 125 rfl d30_123 rfl ?_
  refine r_castore 21 126 rfl d30_125 f453 (by decide) rfl (Nat.le_of_ble_eq_true rfl) ze (32 : Int32) (by decide) fun h454 Wh454 f455 => ?_
  have sh454 := Wh454.size
  replace f455 : Arv V.Z h454 e k .char (28 : Int32) [.int (76 : Int32), .int (97 : Int32), .int (122 : Int32), .int (111 : Int32), .int (32 : Int32), .int (100 : Int32), .int (111 : Int32), .int (101 : Int32), .int (115 : Int32), .int (32 : Int32), .int (110 : Int32), .int (111 : Int32), .int (116 : Int32), .int (32 : Int32), .int (115 : Int32), .int (117 : Int32), .int (112 : Int32), .int (112 : Int32), .int (111 : Int32), .int (114 : Int32), .int (116 : Int32), .int (32 : Int32), .int 0, .int 0, .int 0, .int 0, .int 0, .int 0] (.int 0) := f455
  refine r_ret rfl d30_126 (by decide) (by decide) [] (fun _ q => nomatch q) ?_
  exact ⟨rfl, ((((((((((((((((((((((Keep.refl _ _).wr Wh412 (Or.inl (by simp))).wr Wh414 (Or.inl (by simp))).wr Wh416 (Or.inl (by simp))).wr Wh418 (Or.inl (by simp))).wr Wh420 (Or.inl (by simp))).wr Wh422 (Or.inl (by simp))).wr Wh424 (Or.inl (by simp))).wr Wh426 (Or.inl (by simp))).wr Wh428 (Or.inl (by simp))).wr Wh430 (Or.inl (by simp))).wr Wh432 (Or.inl (by simp))).wr Wh434 (Or.inl (by simp))).wr Wh436 (Or.inl (by simp))).wr Wh438 (Or.inl (by simp))).wr Wh440 (Or.inl (by simp))).wr Wh442 (Or.inl (by simp))).wr Wh444 (Or.inl (by simp))).wr Wh446 (Or.inl (by simp))).wr Wh448 (Or.inl (by simp))).wr Wh450 (Or.inl (by simp))).wr Wh452 (Or.inl (by simp))).wr Wh454 (Or.inl (by simp)), f455⟩
abbrev b_pf3 : Bx := (⟨"com/example/lazo/lazo/UnsupportedOperationPinLaw", "prefix", "([C)V"⟩, method_2_code, 1, none, { frames := 0, cells := 0, slots := 0, locals := 0 })
theorem c_pf3 (V : Vw) (hw : ∀ d ∈ tables_1, d.before V.a0 V.Z = true) (e : Nat) (k : ClassId) (h : Heap) (ps : List Addr) (ze : V.Z.heap.size ≤ e) (A : Arv V.Z h e k .char 29 [.int 0, .int 0, .int 0, .int 0, .int 0, .int 0, .int 0, .int 0, .int 0, .int 0, .int 0, .int 0, .int 0, .int 0, .int 0, .int 0, .int 0, .int 0, .int 0, .int 0, .int 0, .int 0, .int 0, .int 0, .int 0, .int 0, .int 0, .int 0, .int 0] (.int 0)) : Con V b_pf3 #[.ref e] h ps (fun v h' _ => v = none ∧ Keep h h' [e] ∧ Arv V.Z h' e k .char 29 [.int 76, .int 97, .int 122, .int 111, .int 32, .int 100, .int 111, .int 101, .int 115, .int 32, .int 110, .int 111, .int 116, .int 32, .int 115, .int 117, .int 112, .int 112, .int 111, .int 114, .int 116, .int 32, .int 0, .int 0, .int 0, .int 0, .int 0, .int 0, .int 0] (.int 0)) := Con.of (plainFor_of_name pn_4) (L := [.val (.ref e)]) rfl fun K => by
  refine r_aloadN 1 rfl d30_0 rfl rfl ?_
  refine r_iconst (0 : Int32) 2 rfl d30_1 rfl ?_
  refine r_bipush (76 : Int32) 4 rfl d30_2 rfl ?_
  refine r_castore 0 5 rfl d30_4 A (by decide) rfl (Nat.le_of_ble_eq_true rfl) ze (76 : Int32) (by decide) fun h456 Wh456 f457 => ?_
  have sh456 := Wh456.size
  replace f457 : Arv V.Z h456 e k .char (29 : Int32) [.int (76 : Int32), .int 0, .int 0, .int 0, .int 0, .int 0, .int 0, .int 0, .int 0, .int 0, .int 0, .int 0, .int 0, .int 0, .int 0, .int 0, .int 0, .int 0, .int 0, .int 0, .int 0, .int 0, .int 0, .int 0, .int 0, .int 0, .int 0, .int 0, .int 0] (.int 0) := f457
  refine r_aloadN 6 rfl d30_5 rfl rfl ?_
  refine r_iconst (1 : Int32) 7 rfl d30_6 rfl ?_
  refine r_bipush (97 : Int32) 9 rfl d30_7 rfl ?_
  refine r_castore 1 10 rfl d30_9 f457 (by decide) rfl (Nat.le_of_ble_eq_true rfl) ze (97 : Int32) (by decide) fun h458 Wh458 f459 => ?_
  have sh458 := Wh458.size
  replace f459 : Arv V.Z h458 e k .char (29 : Int32) [.int (76 : Int32), .int (97 : Int32), .int 0, .int 0, .int 0, .int 0, .int 0, .int 0, .int 0, .int 0, .int 0, .int 0, .int 0, .int 0, .int 0, .int 0, .int 0, .int 0, .int 0, .int 0, .int 0, .int 0, .int 0, .int 0, .int 0, .int 0, .int 0, .int 0, .int 0] (.int 0) := f459
  refine r_aloadN 11 rfl d30_10 rfl rfl ?_
  refine r_iconst (2 : Int32) 12 rfl d30_11 rfl ?_
  refine r_bipush (122 : Int32) 14 rfl d30_12 rfl ?_
  refine r_castore 2 15 rfl d30_14 f459 (by decide) rfl (Nat.le_of_ble_eq_true rfl) ze (122 : Int32) (by decide) fun h460 Wh460 f461 => ?_
  have sh460 := Wh460.size
  replace f461 : Arv V.Z h460 e k .char (29 : Int32) [.int (76 : Int32), .int (97 : Int32), .int (122 : Int32), .int 0, .int 0, .int 0, .int 0, .int 0, .int 0, .int 0, .int 0, .int 0, .int 0, .int 0, .int 0, .int 0, .int 0, .int 0, .int 0, .int 0, .int 0, .int 0, .int 0, .int 0, .int 0, .int 0, .int 0, .int 0, .int 0] (.int 0) := f461
  refine r_aloadN 16 rfl d30_15 rfl rfl ?_
  refine r_iconst (3 : Int32) 17 rfl d30_16 rfl ?_
  refine r_bipush (111 : Int32) 19 rfl d30_17 rfl ?_
  refine r_castore 3 20 rfl d30_19 f461 (by decide) rfl (Nat.le_of_ble_eq_true rfl) ze (111 : Int32) (by decide) fun h462 Wh462 f463 => ?_
  have sh462 := Wh462.size
  replace f463 : Arv V.Z h462 e k .char (29 : Int32) [.int (76 : Int32), .int (97 : Int32), .int (122 : Int32), .int (111 : Int32), .int 0, .int 0, .int 0, .int 0, .int 0, .int 0, .int 0, .int 0, .int 0, .int 0, .int 0, .int 0, .int 0, .int 0, .int 0, .int 0, .int 0, .int 0, .int 0, .int 0, .int 0, .int 0, .int 0, .int 0, .int 0] (.int 0) := f463
  refine r_aloadN 21 rfl d30_20 rfl rfl ?_
  refine r_iconst (4 : Int32) 22 rfl d30_21 rfl ?_
  refine r_bipush (32 : Int32) 24 rfl d30_22 rfl ?_
  refine r_castore 4 25 rfl d30_24 f463 (by decide) rfl (Nat.le_of_ble_eq_true rfl) ze (32 : Int32) (by decide) fun h464 Wh464 f465 => ?_
  have sh464 := Wh464.size
  replace f465 : Arv V.Z h464 e k .char (29 : Int32) [.int (76 : Int32), .int (97 : Int32), .int (122 : Int32), .int (111 : Int32), .int (32 : Int32), .int 0, .int 0, .int 0, .int 0, .int 0, .int 0, .int 0, .int 0, .int 0, .int 0, .int 0, .int 0, .int 0, .int 0, .int 0, .int 0, .int 0, .int 0, .int 0, .int 0, .int 0, .int 0, .int 0, .int 0] (.int 0) := f465
  refine r_aloadN 26 rfl d30_25 rfl rfl ?_
  refine r_iconst (5 : Int32) 27 rfl d30_26 rfl ?_
  refine r_bipush (100 : Int32) 29 rfl d30_27 rfl ?_
  refine r_castore 5 30 rfl d30_29 f465 (by decide) rfl (Nat.le_of_ble_eq_true rfl) ze (100 : Int32) (by decide) fun h466 Wh466 f467 => ?_
  have sh466 := Wh466.size
  replace f467 : Arv V.Z h466 e k .char (29 : Int32) [.int (76 : Int32), .int (97 : Int32), .int (122 : Int32), .int (111 : Int32), .int (32 : Int32), .int (100 : Int32), .int 0, .int 0, .int 0, .int 0, .int 0, .int 0, .int 0, .int 0, .int 0, .int 0, .int 0, .int 0, .int 0, .int 0, .int 0, .int 0, .int 0, .int 0, .int 0, .int 0, .int 0, .int 0, .int 0] (.int 0) := f467
  refine r_aloadN 31 rfl d30_30 rfl rfl ?_
  refine r_bipush (6 : Int32) 33 rfl d30_31 rfl ?_
  refine r_bipush (111 : Int32) 35 rfl d30_33 rfl ?_
  refine r_castore 6 36 rfl d30_35 f467 (by decide) rfl (Nat.le_of_ble_eq_true rfl) ze (111 : Int32) (by decide) fun h468 Wh468 f469 => ?_
  have sh468 := Wh468.size
  replace f469 : Arv V.Z h468 e k .char (29 : Int32) [.int (76 : Int32), .int (97 : Int32), .int (122 : Int32), .int (111 : Int32), .int (32 : Int32), .int (100 : Int32), .int (111 : Int32), .int 0, .int 0, .int 0, .int 0, .int 0, .int 0, .int 0, .int 0, .int 0, .int 0, .int 0, .int 0, .int 0, .int 0, .int 0, .int 0, .int 0, .int 0, .int 0, .int 0, .int 0, .int 0] (.int 0) := f469
  refine r_aloadN 37 rfl d30_36 rfl rfl ?_
  refine r_bipush (7 : Int32) 39 rfl d30_37 rfl ?_
  refine r_bipush (101 : Int32) 41 rfl d30_39 rfl ?_
  refine r_castore 7 42 rfl d30_41 f469 (by decide) rfl (Nat.le_of_ble_eq_true rfl) ze (101 : Int32) (by decide) fun h470 Wh470 f471 => ?_
  have sh470 := Wh470.size
  replace f471 : Arv V.Z h470 e k .char (29 : Int32) [.int (76 : Int32), .int (97 : Int32), .int (122 : Int32), .int (111 : Int32), .int (32 : Int32), .int (100 : Int32), .int (111 : Int32), .int (101 : Int32), .int 0, .int 0, .int 0, .int 0, .int 0, .int 0, .int 0, .int 0, .int 0, .int 0, .int 0, .int 0, .int 0, .int 0, .int 0, .int 0, .int 0, .int 0, .int 0, .int 0, .int 0] (.int 0) := f471
  refine r_aloadN 43 rfl d30_42 rfl rfl ?_
  refine r_bipush (8 : Int32) 45 rfl d30_43 rfl ?_
  refine r_bipush (115 : Int32) 47 rfl d30_45 rfl ?_
  refine r_castore 8 48 rfl d30_47 f471 (by decide) rfl (Nat.le_of_ble_eq_true rfl) ze (115 : Int32) (by decide) fun h472 Wh472 f473 => ?_
  have sh472 := Wh472.size
  replace f473 : Arv V.Z h472 e k .char (29 : Int32) [.int (76 : Int32), .int (97 : Int32), .int (122 : Int32), .int (111 : Int32), .int (32 : Int32), .int (100 : Int32), .int (111 : Int32), .int (101 : Int32), .int (115 : Int32), .int 0, .int 0, .int 0, .int 0, .int 0, .int 0, .int 0, .int 0, .int 0, .int 0, .int 0, .int 0, .int 0, .int 0, .int 0, .int 0, .int 0, .int 0, .int 0, .int 0] (.int 0) := f473
  refine r_aloadN 49 rfl d30_48 rfl rfl ?_
  refine r_bipush (9 : Int32) 51 rfl d30_49 rfl ?_
  refine r_bipush (32 : Int32) 53 rfl d30_51 rfl ?_
  refine r_castore 9 54 rfl d30_53 f473 (by decide) rfl (Nat.le_of_ble_eq_true rfl) ze (32 : Int32) (by decide) fun h474 Wh474 f475 => ?_
  have sh474 := Wh474.size
  replace f475 : Arv V.Z h474 e k .char (29 : Int32) [.int (76 : Int32), .int (97 : Int32), .int (122 : Int32), .int (111 : Int32), .int (32 : Int32), .int (100 : Int32), .int (111 : Int32), .int (101 : Int32), .int (115 : Int32), .int (32 : Int32), .int 0, .int 0, .int 0, .int 0, .int 0, .int 0, .int 0, .int 0, .int 0, .int 0, .int 0, .int 0, .int 0, .int 0, .int 0, .int 0, .int 0, .int 0, .int 0] (.int 0) := f475
  refine r_aloadN 55 rfl d30_54 rfl rfl ?_
  refine r_bipush (10 : Int32) 57 rfl d30_55 rfl ?_
  refine r_bipush (110 : Int32) 59 rfl d30_57 rfl ?_
  refine r_castore 10 60 rfl d30_59 f475 (by decide) rfl (Nat.le_of_ble_eq_true rfl) ze (110 : Int32) (by decide) fun h476 Wh476 f477 => ?_
  have sh476 := Wh476.size
  replace f477 : Arv V.Z h476 e k .char (29 : Int32) [.int (76 : Int32), .int (97 : Int32), .int (122 : Int32), .int (111 : Int32), .int (32 : Int32), .int (100 : Int32), .int (111 : Int32), .int (101 : Int32), .int (115 : Int32), .int (32 : Int32), .int (110 : Int32), .int 0, .int 0, .int 0, .int 0, .int 0, .int 0, .int 0, .int 0, .int 0, .int 0, .int 0, .int 0, .int 0, .int 0, .int 0, .int 0, .int 0, .int 0] (.int 0) := f477
  refine r_aloadN 61 rfl d30_60 rfl rfl ?_
  refine r_bipush (11 : Int32) 63 rfl d30_61 rfl ?_
  refine r_bipush (111 : Int32) 65 rfl d30_63 rfl ?_
  refine r_castore 11 66 rfl d30_65 f477 (by decide) rfl (Nat.le_of_ble_eq_true rfl) ze (111 : Int32) (by decide) fun h478 Wh478 f479 => ?_
  have sh478 := Wh478.size
  replace f479 : Arv V.Z h478 e k .char (29 : Int32) [.int (76 : Int32), .int (97 : Int32), .int (122 : Int32), .int (111 : Int32), .int (32 : Int32), .int (100 : Int32), .int (111 : Int32), .int (101 : Int32), .int (115 : Int32), .int (32 : Int32), .int (110 : Int32), .int (111 : Int32), .int 0, .int 0, .int 0, .int 0, .int 0, .int 0, .int 0, .int 0, .int 0, .int 0, .int 0, .int 0, .int 0, .int 0, .int 0, .int 0, .int 0] (.int 0) := f479
  refine r_aloadN 67 rfl d30_66 rfl rfl ?_
  refine r_bipush (12 : Int32) 69 rfl d30_67 rfl ?_
  refine r_bipush (116 : Int32) 71 rfl d30_69 rfl ?_
  refine r_castore 12 72 rfl d30_71 f479 (by decide) rfl (Nat.le_of_ble_eq_true rfl) ze (116 : Int32) (by decide) fun h480 Wh480 f481 => ?_
  have sh480 := Wh480.size
  replace f481 : Arv V.Z h480 e k .char (29 : Int32) [.int (76 : Int32), .int (97 : Int32), .int (122 : Int32), .int (111 : Int32), .int (32 : Int32), .int (100 : Int32), .int (111 : Int32), .int (101 : Int32), .int (115 : Int32), .int (32 : Int32), .int (110 : Int32), .int (111 : Int32), .int (116 : Int32), .int 0, .int 0, .int 0, .int 0, .int 0, .int 0, .int 0, .int 0, .int 0, .int 0, .int 0, .int 0, .int 0, .int 0, .int 0, .int 0] (.int 0) := f481
  refine r_aloadN 73 rfl d30_72 rfl rfl ?_
  refine r_bipush (13 : Int32) 75 rfl d30_73 rfl ?_
  refine r_bipush (32 : Int32) 77 rfl d30_75 rfl ?_
  refine r_castore 13 78 rfl d30_77 f481 (by decide) rfl (Nat.le_of_ble_eq_true rfl) ze (32 : Int32) (by decide) fun h482 Wh482 f483 => ?_
  have sh482 := Wh482.size
  replace f483 : Arv V.Z h482 e k .char (29 : Int32) [.int (76 : Int32), .int (97 : Int32), .int (122 : Int32), .int (111 : Int32), .int (32 : Int32), .int (100 : Int32), .int (111 : Int32), .int (101 : Int32), .int (115 : Int32), .int (32 : Int32), .int (110 : Int32), .int (111 : Int32), .int (116 : Int32), .int (32 : Int32), .int 0, .int 0, .int 0, .int 0, .int 0, .int 0, .int 0, .int 0, .int 0, .int 0, .int 0, .int 0, .int 0, .int 0, .int 0] (.int 0) := f483
  refine r_aloadN 79 rfl d30_78 rfl rfl ?_
  refine r_bipush (14 : Int32) 81 rfl d30_79 rfl ?_
  refine r_bipush (115 : Int32) 83 rfl d30_81 rfl ?_
  refine r_castore 14 84 rfl d30_83 f483 (by decide) rfl (Nat.le_of_ble_eq_true rfl) ze (115 : Int32) (by decide) fun h484 Wh484 f485 => ?_
  have sh484 := Wh484.size
  replace f485 : Arv V.Z h484 e k .char (29 : Int32) [.int (76 : Int32), .int (97 : Int32), .int (122 : Int32), .int (111 : Int32), .int (32 : Int32), .int (100 : Int32), .int (111 : Int32), .int (101 : Int32), .int (115 : Int32), .int (32 : Int32), .int (110 : Int32), .int (111 : Int32), .int (116 : Int32), .int (32 : Int32), .int (115 : Int32), .int 0, .int 0, .int 0, .int 0, .int 0, .int 0, .int 0, .int 0, .int 0, .int 0, .int 0, .int 0, .int 0, .int 0] (.int 0) := f485
  refine r_aloadN 85 rfl d30_84 rfl rfl ?_
  refine r_bipush (15 : Int32) 87 rfl d30_85 rfl ?_
  refine r_bipush (117 : Int32) 89 rfl d30_87 rfl ?_
  refine r_castore 15 90 rfl d30_89 f485 (by decide) rfl (Nat.le_of_ble_eq_true rfl) ze (117 : Int32) (by decide) fun h486 Wh486 f487 => ?_
  have sh486 := Wh486.size
  replace f487 : Arv V.Z h486 e k .char (29 : Int32) [.int (76 : Int32), .int (97 : Int32), .int (122 : Int32), .int (111 : Int32), .int (32 : Int32), .int (100 : Int32), .int (111 : Int32), .int (101 : Int32), .int (115 : Int32), .int (32 : Int32), .int (110 : Int32), .int (111 : Int32), .int (116 : Int32), .int (32 : Int32), .int (115 : Int32), .int (117 : Int32), .int 0, .int 0, .int 0, .int 0, .int 0, .int 0, .int 0, .int 0, .int 0, .int 0, .int 0, .int 0, .int 0] (.int 0) := f487
  refine r_aloadN 91 rfl d30_90 rfl rfl ?_
  refine r_bipush (16 : Int32) 93 rfl d30_91 rfl ?_
  refine r_bipush (112 : Int32) 95 rfl d30_93 rfl ?_
  refine r_castore 16 96 rfl d30_95 f487 (by decide) rfl (Nat.le_of_ble_eq_true rfl) ze (112 : Int32) (by decide) fun h488 Wh488 f489 => ?_
  have sh488 := Wh488.size
  replace f489 : Arv V.Z h488 e k .char (29 : Int32) [.int (76 : Int32), .int (97 : Int32), .int (122 : Int32), .int (111 : Int32), .int (32 : Int32), .int (100 : Int32), .int (111 : Int32), .int (101 : Int32), .int (115 : Int32), .int (32 : Int32), .int (110 : Int32), .int (111 : Int32), .int (116 : Int32), .int (32 : Int32), .int (115 : Int32), .int (117 : Int32), .int (112 : Int32), .int 0, .int 0, .int 0, .int 0, .int 0, .int 0, .int 0, .int 0, .int 0, .int 0, .int 0, .int 0] (.int 0) := f489
  refine r_aloadN 97 rfl d30_96 rfl rfl ?_
  refine r_bipush (17 : Int32) 99 rfl d30_97 rfl ?_
  refine r_bipush (112 : Int32) 101 rfl d30_99 rfl ?_
  refine r_castore 17 102 rfl d30_101 f489 (by decide) rfl (Nat.le_of_ble_eq_true rfl) ze (112 : Int32) (by decide) fun h490 Wh490 f491 => ?_
  have sh490 := Wh490.size
  replace f491 : Arv V.Z h490 e k .char (29 : Int32) [.int (76 : Int32), .int (97 : Int32), .int (122 : Int32), .int (111 : Int32), .int (32 : Int32), .int (100 : Int32), .int (111 : Int32), .int (101 : Int32), .int (115 : Int32), .int (32 : Int32), .int (110 : Int32), .int (111 : Int32), .int (116 : Int32), .int (32 : Int32), .int (115 : Int32), .int (117 : Int32), .int (112 : Int32), .int (112 : Int32), .int 0, .int 0, .int 0, .int 0, .int 0, .int 0, .int 0, .int 0, .int 0, .int 0, .int 0] (.int 0) := f491
  refine r_aloadN 103 rfl d30_102 rfl rfl ?_
  refine r_bipush (18 : Int32) 105 rfl d30_103 rfl ?_
  refine r_bipush (111 : Int32) 107 rfl d30_105 rfl ?_
  refine r_castore 18 108 rfl d30_107 f491 (by decide) rfl (Nat.le_of_ble_eq_true rfl) ze (111 : Int32) (by decide) fun h492 Wh492 f493 => ?_
  have sh492 := Wh492.size
  replace f493 : Arv V.Z h492 e k .char (29 : Int32) [.int (76 : Int32), .int (97 : Int32), .int (122 : Int32), .int (111 : Int32), .int (32 : Int32), .int (100 : Int32), .int (111 : Int32), .int (101 : Int32), .int (115 : Int32), .int (32 : Int32), .int (110 : Int32), .int (111 : Int32), .int (116 : Int32), .int (32 : Int32), .int (115 : Int32), .int (117 : Int32), .int (112 : Int32), .int (112 : Int32), .int (111 : Int32), .int 0, .int 0, .int 0, .int 0, .int 0, .int 0, .int 0, .int 0, .int 0, .int 0] (.int 0) := f493
  refine r_aloadN 109 rfl d30_108 rfl rfl ?_
  refine r_bipush (19 : Int32) 111 rfl d30_109 rfl ?_
  refine r_bipush (114 : Int32) 113 rfl d30_111 rfl ?_
  refine r_castore 19 114 rfl d30_113 f493 (by decide) rfl (Nat.le_of_ble_eq_true rfl) ze (114 : Int32) (by decide) fun h494 Wh494 f495 => ?_
  have sh494 := Wh494.size
  replace f495 : Arv V.Z h494 e k .char (29 : Int32) [.int (76 : Int32), .int (97 : Int32), .int (122 : Int32), .int (111 : Int32), .int (32 : Int32), .int (100 : Int32), .int (111 : Int32), .int (101 : Int32), .int (115 : Int32), .int (32 : Int32), .int (110 : Int32), .int (111 : Int32), .int (116 : Int32), .int (32 : Int32), .int (115 : Int32), .int (117 : Int32), .int (112 : Int32), .int (112 : Int32), .int (111 : Int32), .int (114 : Int32), .int 0, .int 0, .int 0, .int 0, .int 0, .int 0, .int 0, .int 0, .int 0] (.int 0) := f495
  refine r_aloadN 115 rfl d30_114 rfl rfl ?_
  refine r_bipush (20 : Int32) 117 rfl d30_115 rfl ?_
  refine r_bipush (116 : Int32) 119 rfl d30_117 rfl ?_
  refine r_castore 20 120 rfl d30_119 f495 (by decide) rfl (Nat.le_of_ble_eq_true rfl) ze (116 : Int32) (by decide) fun h496 Wh496 f497 => ?_
  have sh496 := Wh496.size
  replace f497 : Arv V.Z h496 e k .char (29 : Int32) [.int (76 : Int32), .int (97 : Int32), .int (122 : Int32), .int (111 : Int32), .int (32 : Int32), .int (100 : Int32), .int (111 : Int32), .int (101 : Int32), .int (115 : Int32), .int (32 : Int32), .int (110 : Int32), .int (111 : Int32), .int (116 : Int32), .int (32 : Int32), .int (115 : Int32), .int (117 : Int32), .int (112 : Int32), .int (112 : Int32), .int (111 : Int32), .int (114 : Int32), .int (116 : Int32), .int 0, .int 0, .int 0, .int 0, .int 0, .int 0, .int 0, .int 0] (.int 0) := f497
  refine r_aloadN 121 rfl d30_120 rfl rfl ?_
  refine r_bipush (21 : Int32) 123 rfl d30_121 rfl ?_
  refine r_bipush (32 : Int32) 125 rfl d30_123 rfl ?_
  refine r_castore 21 126 rfl d30_125 f497 (by decide) rfl (Nat.le_of_ble_eq_true rfl) ze (32 : Int32) (by decide) fun h498 Wh498 f499 => ?_
  have sh498 := Wh498.size
  replace f499 : Arv V.Z h498 e k .char (29 : Int32) [.int (76 : Int32), .int (97 : Int32), .int (122 : Int32), .int (111 : Int32), .int (32 : Int32), .int (100 : Int32), .int (111 : Int32), .int (101 : Int32), .int (115 : Int32), .int (32 : Int32), .int (110 : Int32), .int (111 : Int32), .int (116 : Int32), .int (32 : Int32), .int (115 : Int32), .int (117 : Int32), .int (112 : Int32), .int (112 : Int32), .int (111 : Int32), .int (114 : Int32), .int (116 : Int32), .int (32 : Int32), .int 0, .int 0, .int 0, .int 0, .int 0, .int 0, .int 0] (.int 0) := f499
  refine r_ret rfl d30_126 (by decide) (by decide) [] (fun _ q => nomatch q) ?_
  exact ⟨rfl, ((((((((((((((((((((((Keep.refl _ _).wr Wh456 (Or.inl (by simp))).wr Wh458 (Or.inl (by simp))).wr Wh460 (Or.inl (by simp))).wr Wh462 (Or.inl (by simp))).wr Wh464 (Or.inl (by simp))).wr Wh466 (Or.inl (by simp))).wr Wh468 (Or.inl (by simp))).wr Wh470 (Or.inl (by simp))).wr Wh472 (Or.inl (by simp))).wr Wh474 (Or.inl (by simp))).wr Wh476 (Or.inl (by simp))).wr Wh478 (Or.inl (by simp))).wr Wh480 (Or.inl (by simp))).wr Wh482 (Or.inl (by simp))).wr Wh484 (Or.inl (by simp))).wr Wh486 (Or.inl (by simp))).wr Wh488 (Or.inl (by simp))).wr Wh490 (Or.inl (by simp))).wr Wh492 (Or.inl (by simp))).wr Wh494 (Or.inl (by simp))).wr Wh496 (Or.inl (by simp))).wr Wh498 (Or.inl (by simp)), f499⟩
theorem d31_0 : decode prog_2_method_2_code 0 = .ok (.new 7, 3) := by decide +kernel
theorem d31_3 : decode prog_2_method_2_code 3 = .ok (.dup, 1) := by decide +kernel
theorem d31_4 : decode prog_2_method_2_code 4 = .ok (.new 9, 3) := by decide +kernel
theorem d31_7 : decode prog_2_method_2_code 7 = .ok (.dup, 1) := by decide +kernel
theorem d31_8 : decode prog_2_method_2_code 8 = .ok (.invokespecial 11, 3) := by decide +kernel
theorem d31_11 : decode prog_2_method_2_code 11 = .ok (.ldc 12, 2) := by decide +kernel
theorem d31_13 : decode prog_2_method_2_code 13 = .ok (.invokevirtual 14, 3) := by decide +kernel
theorem d31_16 : decode prog_2_method_2_code 16 = .ok (.aload_n 0, 1) := by decide +kernel
theorem d31_17 : decode prog_2_method_2_code 17 = .ok (.invokevirtual 14, 3) := by decide +kernel
theorem d31_20 : decode prog_2_method_2_code 20 = .ok (.ldc 18, 2) := by decide +kernel
theorem d31_22 : decode prog_2_method_2_code 22 = .ok (.invokevirtual 14, 3) := by decide +kernel
theorem d31_25 : decode prog_2_method_2_code 25 = .ok (.invokevirtual 20, 3) := by decide +kernel
theorem d31_28 : decode prog_2_method_2_code 28 = .ok (.invokespecial 24, 3) := by decide +kernel
theorem d31_31 : decode prog_2_method_2_code 31 = .ok (.areturn, 1) := by decide +kernel
abbrev b_op : Bx := (⟨"com/example/lazo/lazo/Unsupported", "operation", "(Ljava/lang/String;)Ljava/lang/UnsupportedOperationException;"⟩, prog_2_method_2_code, 1, some (.object "java/lang/UnsupportedOperationException"), { frames := 8, cells := 12, slots := 3100, locals := 150 })
def Qop (V : Vw) (cs : List Int32) (h0 : Heap) : Qt := fun v h _ => ∃ r y m : Nat, v = some (.ref r) ∧ Ext h0 h ∧ Exa V.Z h r "java/lang/UnsupportedOperationException" ∧ Fld V.Z h r "java/lang/Throwable" "detailMessage" "Ljava/lang/String;" (.ref y) ∧ Str V h m y cs
theorem c_op (V : Vw) (hw : ∀ d ∈ tables_1, d.before V.a0 V.Z = true) (hm : ("java/lang/String", 7) ∈ V.EL) (hn : V.nar = false) (cz : Int32) (hCS : Sta V.Z V.Z.heap "java/lang/String" "COMPACT_STRINGS" "Z" (.int cz)) (hcz : ¬ cz = 0) (hl12 : ("com/example/lazo/lazo/Unsupported", 12) ∈ V.EL) (hl18 : ("com/example/lazo/lazo/Unsupported", 18) ∈ V.EL) (u0 sen : RefV) (hU : Sta V.Z V.Z.heap "java/lang/Throwable" "UNASSIGNED_STACK" "[Ljava/lang/StackTraceElement;" u0.v) (hSe : Sta V.Z V.Z.heap "java/lang/Throwable" "SUPPRESSED_SENTINEL" "Ljava/util/List;" sen.v) (hst : V.l.stackTraces = true) (x m : Nat) (cs : List Int32) (hc : ∀ c ∈ cs, By c) (lc : cs.length ≤ 3) (h : Heap) (ps : List Addr) (S : Str V h m x cs) : ConK V b_op #[.ref x] h ps (Qop V (P22 ++ cs ++ Y4) h) := ConK.of hst (plainFor_of_name pn_10) (L := [.val (.ref x)]) rfl fun K hk => by
  have lm := S.lt.2
  refine r_newU 3 rfl d31_0 (wd hw 41 rfl) (wd hw 42 rfl) (wd hw 43 rfl) (by decide) (by decide) fun a500 h501 ga500 za500 Eh501 Xa500 Da500 Na500 => ?_
  have f502 := Str.ext Eh501 S
  have sh501 := Eh501.1
  have la500 := ltN Xa500.lt
  have f503 : Fld V.Z h501 a500 "java/lang/Throwable" "cause" "Ljava/lang/Throwable;" (.null) := Da500 (Or.inl (wd hw 196 rfl)) (ty := (.object "java/lang/Throwable")) (by decide)
  have f504 : Fld V.Z h501 a500 "java/lang/Throwable" "stackTrace" "[Ljava/lang/StackTraceElement;" (.null) := Da500 (Or.inl (wd hw 199 rfl)) (ty := (.array (.object "java/lang/StackTraceElement"))) (by decide)
  have f505 : Fld V.Z h501 a500 "java/lang/Throwable" "suppressedExceptions" "Ljava/util/List;" (.null) := Da500 (Or.inl (wd hw 202 rfl)) (ty := (.object "java/util/List")) (by decide)
  have f506 : Fld V.Z h501 a500 "java/lang/Throwable" "backtrace" "Ljava/lang/Object;" (.null) := Da500 (Or.inl (wd hw 227 rfl)) (ty := (.object "java/lang/Object")) (by decide)
  have f507 : Fld V.Z h501 a500 "java/lang/Throwable" "detailMessage" "Ljava/lang/String;" (.null) := Da500 (Or.inl (wd hw 226 rfl)) (ty := (.object "java/lang/String")) (by decide)
  refine r_dup 4 rfl d31_3 rfl ?_
  refine r_new 7 rfl d31_4 (wd hw 44 rfl) (wd hw 45 rfl) (wd hw 46 rfl) (by decide) (by decide) fun a508 h509 ga508 za508 Eh509 Xa508 Da508 => ?_
  have f510 := Str.ext Eh509 f502
  have f511 := Exa.ext Eh509 Xa500
  have f512 := Fld.ext Eh509 f503
  have f513 := Fld.ext Eh509 f504
  have f514 := Fld.ext Eh509 f505
  have f515 := Fld.ext Eh509 f506
  have f516 := Fld.ext Eh509 f507
  have f517 := Unt.ext Eh509 Na500
  have sh509 := Eh509.1
  have la508 := ltN Xa508.lt
  have f518 : Fld V.Z h509 a508 "java/lang/AbstractStringBuilder" "value" "[B" (.null) := Da508 (Or.inl (wd hw 59 rfl)) (ty := (.array .byte)) (by decide)
  have f519 : Fld V.Z h509 a508 "java/lang/AbstractStringBuilder" "coder" "B" (.int (0 : Int32)) := Da508 (Or.inl (wd hw 61 rfl)) (ty := .byte) (by decide)
  have f520 : Fld V.Z h509 a508 "java/lang/AbstractStringBuilder" "count" "I" (.int (0 : Int32)) := Da508 (Or.inl (wd hw 84 rfl)) (ty := .int) (by decide)
  refine r_dup 8 rfl d31_7 rfl ?_
  refine r_special 11 rfl d31_8 rfl (wd hw 47 rfl) (wd hw 48 rfl) (wd hw 49 rfl) (by decide) (Pays.con (K := K) (B := b_op) (c_sbi V hw cz hCS hcz a508 h509 _ za508 Xa508 f518 f519 f520) (wd hw 49 rfl) (wd hw 46 rfl) (by decide) (by decide)) (W := 3) (argsL := []) (lenOf pd_3 rfl) rfl rfl rfl (Nat.le_of_eq rfl) (Nat.le_of_ble_eq_true rfl) (Nat.le_of_ble_eq_true rfl) fun v523 h524 psx q522 z521 => ?_
  obtain ⟨rfl, t, ht, lt, K1, SB1⟩ := q522
  have f525 : Str V h524 m x cs := by first | exact Str.keep K1 (fun w hw' => by cases List.mem_singleton.mp hw'; exact leA (by omega)) f510 | exact Str.keepE K1 Xa508 (by decide) (wd hw 45 rfl) f510
  have f526 := Exa.keep f511 K1
  have f527 := Fld.keep f512 K1 (ninS (neA (by omega)) nin0)
  have f528 := Fld.keep f513 K1 (ninS (neA (by omega)) nin0)
  have f529 := Fld.keep f514 K1 (ninS (neA (by omega)) nin0)
  have f530 := Fld.keep f515 K1 (ninS (neA (by omega)) nin0)
  have f531 := Fld.keep f516 K1 (ninS (neA (by omega)) nin0)
  have f532 := Unt.keep K1 (ninS (neA (by omega)) nin0) f517
  have f533 := Exa.keep Xa508 K1
  show Own.Run V K b_op _ h524 _ 3 44 11 [.val (.ref x)] [.ref a508, .ref a500, .ref a500]
  have sh524 := K1.1
  refine r_ldcS [.int 76, .int 97, .int 122, .int 111, .int 32, .int 100, .int 111, .int 101, .int 115, .int 32, .int 110, .int 111, .int 116, .int 32, .int 115, .int 117, .int 112, .int 112, .int 111, .int 114, .int 116, .int 32] (22 : Int32) 88 13 rfl d31_11 (wd hw 62 rfl) (satoms V hw) hl12 hn (by decide) (by decide) rfl (by decide) (by decide) (by decide) (by decide) fun a534 b535 k536 h537 Eh537 Xh537 Ch537 Yh537 Ah537 Nh537 => ?_
  have f538 := Str.ext Eh537 f525
  have f539 := Exa.ext Eh537 f526
  have f540 := Fld.ext Eh537 f527
  have f541 := Fld.ext Eh537 f528
  have f542 := Fld.ext Eh537 f529
  have f543 := Fld.ext Eh537 f530
  have f544 := Fld.ext Eh537 f531
  have f545 := Unt.ext Eh537 f532
  have f546 := Exa.ext Eh537 f533
  have sh537 := Eh537.1
  have la534 := ltN Xh537.lt
  have lb535 := ltN Ah537.lt
  have SLa := litStr P22 Xh537 Ch537 Yh537 Ah537 rfl (by decide) P22by (by decide)
  have SBa' := Sb.ext Eh537 SB1
  refine r_virtual 16 rfl d31_13 (wd hw 63 rfl) (wd hw 64 rfl) (wd hw 66 rfl) (wd hw 65 rfl) (nfS (wd hw 66 rfl)) (by decide) f546 (Pays.con (K := K) (B := b_op) (c_sbG V hw cz hCS hcz a508 t h537 _ SBa' a534 _ SLa) (wd hw 67 rfl) (wd hw 46 rfl) (by decide) (by decide)) (W := 2) (argsL := [.ref a534]) (lenOf pd_10 rfl) rfl rfl rfl (Nat.le_of_eq rfl) (Nat.le_of_ble_eq_true rfl) (Nat.le_of_ble_eq_true rfl) fun v549 h550 psu q548 z547 => ?_
  obtain ⟨rfl, u, mu, gu, K2, SB2⟩ := q548
  have f551 : Str V h550 m x cs := by first | exact Str.keep K2 (fun w hw' => by cases List.mem_singleton.mp hw'; exact leA (by omega)) f538 | exact Str.keepE K2 f546 (by decide) (wd hw 45 rfl) f538
  have f552 := Exa.keep f539 K2
  have f553 := Fld.keep f540 K2 (ninS (neA (by omega)) nin0)
  have f554 := Fld.keep f541 K2 (ninS (neA (by omega)) nin0)
  have f555 := Fld.keep f542 K2 (ninS (neA (by omega)) nin0)
  have f556 := Fld.keep f543 K2 (ninS (neA (by omega)) nin0)
  have f557 := Fld.keep f544 K2 (ninS (neA (by omega)) nin0)
  have f558 := Unt.keep K2 (ninS (neA (by omega)) nin0) f545
  have f559 := Exa.keep f546 K2
  show Own.Run V K b_op _ h550 _ 6 170 16 [.val (.ref x)] [.ref a508, .ref a500, .ref a500]
  have sh550 := K2.1
  refine r_aloadN 17 rfl d31_16 rfl rfl ?_
  refine r_virtual 20 rfl d31_17 (wd hw 63 rfl) (wd hw 64 rfl) (wd hw 66 rfl) (wd hw 65 rfl) (nfS (wd hw 66 rfl)) (by decide) (SB2).exa (Pays.con (K := K) (B := b_op) (c_sbS V hw cz hCS hcz a508 u 34 P22 h550 _ SB2 (by simp [mu]) x _ cs f551 hc (by simp only [List.length_append, List.length_cons, List.length_nil] at *; omega)) (wd hw 67 rfl) (wd hw 46 rfl) (by decide) (by decide)) (W := 2) (argsL := [.ref x]) (lenOf pd_10 rfl) rfl rfl rfl (Nat.le_of_eq rfl) (Nat.le_of_ble_eq_true rfl) (Nat.le_of_ble_eq_true rfl) fun v563 h564 ps560 q562 z561 => ?_
  obtain ⟨rfl, K3, SB3⟩ := q562
  have f565 := Str.keep K3 (fun w hw' => by rcases List.mem_cons.mp hw' with rfl | hw'; exact leA (by omega); cases List.mem_singleton.mp hw'; exact leA (by omega)) f551
  have f566 := Exa.keep f552 K3
  have f567 := Fld.keep f553 K3 (ninS (neA (by omega)) (ninS (neA (by omega)) nin0))
  have f568 := Fld.keep f554 K3 (ninS (neA (by omega)) (ninS (neA (by omega)) nin0))
  have f569 := Fld.keep f555 K3 (ninS (neA (by omega)) (ninS (neA (by omega)) nin0))
  have f570 := Fld.keep f556 K3 (ninS (neA (by omega)) (ninS (neA (by omega)) nin0))
  have f571 := Fld.keep f557 K3 (ninS (neA (by omega)) (ninS (neA (by omega)) nin0))
  have f572 := Unt.keep K3 (ninS (neA (by omega)) (ninS (neA (by omega)) nin0)) f558
  have f573 := Exa.keep (SB2).exa K3
  show Own.Run V K b_op _ h564 _ 6 170 20 [.val (.ref x)] [.ref a508, .ref a500, .ref a500]
  have sh564 := K3.1
  refine r_ldcS [.int 32, .int 121, .int 101, .int 116] (4 : Int32) 16 22 rfl d31_20 (wd hw 133 rfl) (satoms V hw) hl18 hn (by decide) (by decide) rfl (by decide) (by decide) (by decide) (by decide) fun a574 b575 k576 h577 Eh577 Xh577 Ch577 Yh577 Ah577 Nh577 => ?_
  have f578 := Exa.ext Eh577 f566
  have f579 := Fld.ext Eh577 f567
  have f580 := Fld.ext Eh577 f568
  have f581 := Fld.ext Eh577 f569
  have f582 := Fld.ext Eh577 f570
  have f583 := Fld.ext Eh577 f571
  have f584 := Unt.ext Eh577 f572
  have f585 := Exa.ext Eh577 f573
  have sh577 := Eh577.1
  have la574 := ltN Xh577.lt
  have lb575 := ltN Ah577.lt
  have SLb := litStr Y4 Xh577 Ch577 Yh577 Ah577 rfl (by decide) Y4by (by decide)
  have SBb' := Sb.ext Eh577 SB3
  refine r_virtual 25 rfl d31_22 (wd hw 63 rfl) (wd hw 64 rfl) (wd hw 66 rfl) (wd hw 65 rfl) (nfS (wd hw 66 rfl)) (by decide) (SBb').exa (Pays.con (K := K) (B := b_op) (c_sbS V hw cz hCS hcz a508 u 34 (P22 ++ cs) h577 _ SBb' (by simp [mu]) a574 _ Y4 SLb Y4by (by simp only [List.length_append, List.length_cons, List.length_nil] at *; omega)) (wd hw 67 rfl) (wd hw 46 rfl) (by decide) (by decide)) (W := 2) (argsL := [.ref a574]) (lenOf pd_10 rfl) rfl rfl rfl (Nat.le_of_eq rfl) (Nat.le_of_ble_eq_true rfl) (Nat.le_of_ble_eq_true rfl) fun v589 h590 ps586 q588 z587 => ?_
  obtain ⟨rfl, K4, SB4⟩ := q588
  have f591 := Exa.keep f578 K4
  have f592 := Fld.keep f579 K4 (ninS (neA (by omega)) (ninS (neA (by omega)) nin0))
  have f593 := Fld.keep f580 K4 (ninS (neA (by omega)) (ninS (neA (by omega)) nin0))
  have f594 := Fld.keep f581 K4 (ninS (neA (by omega)) (ninS (neA (by omega)) nin0))
  have f595 := Fld.keep f582 K4 (ninS (neA (by omega)) (ninS (neA (by omega)) nin0))
  have f596 := Fld.keep f583 K4 (ninS (neA (by omega)) (ninS (neA (by omega)) nin0))
  have f597 := Unt.keep K4 (ninS (neA (by omega)) (ninS (neA (by omega)) nin0)) f584
  have f598 := Exa.keep (SBb').exa K4
  show Own.Run V K b_op _ h590 _ 8 190 25 [.val (.ref x)] [.ref a508, .ref a500, .ref a500]
  have sh590 := K4.1
  refine r_virtual 28 rfl d31_25 (wd hw 134 rfl) (wd hw 135 rfl) (wd hw 137 rfl) (wd hw 136 rfl) (nfS (wd hw 137 rfl)) (by decide) SB4.exa (Pays.con (K := K) (B := b_op) (c_toS V hw cz hCS hcz a508 u 34 (P22 ++ cs ++ Y4) h590 _ SB4 (by simp only [List.length_append, List.length_cons, List.length_nil]; omega) (by decide) (by_app (by_app P22by hc) Y4by)) (wd hw 138 rfl) (wd hw 46 rfl) (by decide) (by decide)) (W := 2) (argsL := []) (lenOf pd_18 rfl) rfl rfl rfl (Nat.le_of_eq rfl) (Nat.le_of_ble_eq_true rfl) (Nat.le_of_ble_eq_true rfl) fun v602 h603 ps599 q601 z600 => ?_
  obtain ⟨y, rfl, E5, S5⟩ := q601
  have f604 := Exa.ext E5 f591
  have f605 := Fld.ext E5 f592
  have f606 := Fld.ext E5 f593
  have f607 := Fld.ext E5 f594
  have f608 := Fld.ext E5 f595
  have f609 := Fld.ext E5 f596
  have f610 := Unt.ext E5 f597
  have f611 := Exa.ext E5 SB4.exa
  have sh603 := E5.1
  show Own.Run V K b_op _ h603 _ 10 228 28 [.val (.ref x)] [.ref y, .ref a500, .ref a500]
  refine r_special 31 rfl d31_28 rfl (wd hw 173 rfl) (wd hw 174 rfl) (wd hw 175 rfl) (by decide) (Pays.conK (K := K) (B := b_op) hk hn (c_uoe V hw hn u0 sen hU hSe hst a500 y h603 _ za500 f604 f610 f605 f606 f607 f608 f609) (wd hw 175 rfl) (wd hw 43 rfl) (by decide) (by decide)) (W := 1) (argsL := [.ref y]) (lenOf pd_5 rfl) rfl rfl rfl (Nat.le_of_eq rfl) (Nat.le_of_ble_eq_true rfl) (Nat.le_of_ble_eq_true rfl) fun v615 h616 ps612 q614 z613 => ?_
  obtain ⟨rfl, KX, X6, G6⟩ := q614
  have f617 : Str V h616 h603.size y (P22 ++ cs ++ Y4) := by first | exact Str.keep KX (fun w hw' => by cases List.mem_singleton.mp hw'; exact leA (by omega)) S5 | exact Str.keepE KX f604 (by decide) (wd hw 42 rfl) S5
  have f618 := Exa.keep f604 KX
  have f619 := Exa.keep f611 KX
  show Own.Run V K b_op _ h616 _ 11 2980 31 [.val (.ref x)] [.ref a500]
  refine r_aret (t := (.object "java/lang/UnsupportedOperationException")) rfl rfl rfl d31_31 (by decide) (by decide) [] (fun _ q => nomatch q) ?_
  exact ⟨_, y, _, rfl, Keep.ext0 (Ext.trans' (Keep.ext0 (Ext.trans' (Keep.ext0 (Keep.ext0 (Ext.trans' (Keep.ext0 (Ext.trans' Eh501 Eh509) K1 (fun w hw' => by cases List.mem_singleton.mp hw'; exact leA (by omega))) Eh537) K2 (fun w hw' => by cases List.mem_singleton.mp hw'; exact leA (by omega))) K3 (fun w hw' => by rcases List.mem_cons.mp hw' with rfl | hw'; exact leA (by omega); cases List.mem_singleton.mp hw'; exact leA (by omega))) Eh577) K4 (fun w hw' => by rcases List.mem_cons.mp hw' with rfl | hw'; exact leA (by omega); cases List.mem_singleton.mp hw'; exact leA (by omega))) E5) KX (fun w hw' => by cases List.mem_singleton.mp hw'; exact leA (by omega)), X6, G6, f617⟩
theorem d32_0 : decode jdk_78_method_6_code 0 = .ok (.aload_n 0, 1) := by decide +kernel
theorem d32_1 : decode jdk_78_method_6_code 1 = .ok (.getfield 31, 3) := by decide +kernel
theorem d32_4 : decode jdk_78_method_6_code 4 = .ok (.areturn, 1) := by decide +kernel
abbrev b_gm : Bx := (⟨"java/lang/Throwable", "getMessage", "()Ljava/lang/String;"⟩, jdk_78_method_6_code, 1, some (.object "java/lang/String"), { frames := 0, cells := 0, slots := 0, locals := 0 })
theorem c_gm (V : Vw) (hw : ∀ d ∈ tables_1, d.before V.a0 V.Z = true) (a y : Nat) (h : Heap) (ps : List Addr) (F : Fld V.Z h a "java/lang/Throwable" "detailMessage" "Ljava/lang/String;" (.ref y)) : Con V b_gm #[.ref a] h ps (fun v h' _ => v = some (.ref y) ∧ h' = h) := Con.of (plainFor_of_name pn_5) (L := [.val (.ref a)]) rfl fun K => by
  refine r_aloadN 1 rfl d32_0 rfl rfl ?_
  refine r_getfield 4 rfl d32_1 (wd hw 230 rfl) F ?_
  refine r_aret (t := (.object "java/lang/String")) rfl rfl rfl d32_4 (by decide) (by decide) [] (fun _ q => nomatch q) ?_
  exact ⟨rfl, rfl⟩
abbrev b_law : Bx := (x, code, maxLocals, ret, room_1)
def Q1 : Qt := fun v _ _ => v = some (.int 1)
theorem c_law (V : Vw) (hw : ∀ d ∈ tables_1, d.before V.a0 V.Z = true) (hm : ("java/lang/String", 7) ∈ V.EL) (hn : V.nar = false) (cz : Int32) (hCS : Sta V.Z V.Z.heap "java/lang/String" "COMPACT_STRINGS" "Z" (.int cz)) (hcz : ¬ cz = 0) (hl12 : ("com/example/lazo/lazo/Unsupported", 12) ∈ V.EL) (hl18 : ("com/example/lazo/lazo/Unsupported", 18) ∈ V.EL) (u0 sen : RefV) (hU : Sta V.Z V.Z.heap "java/lang/Throwable" "UNASSIGNED_STACK" "[Ljava/lang/StackTraceElement;" u0.v) (hSe : Sta V.Z V.Z.heap "java/lang/Throwable" "SUPPRESSED_SENTINEL" "Ljava/util/List;" sen.v) (hst : V.l.stackTraces = true) (p0 p1 p2 p3 : Int32) (h : Heap) : ConK V b_law #[.int p0, .int p1, .int p2, .int p3] h [] Q1 := ConK.of hst (plainFor_of_name pn_4) (L := [.val (.int p0), .val (.int p1), .val (.int p2), .val (.int p3), .unset, .unset, .unset, .unset, .unset, .unset, .unset, .unset, .unset]) rfl fun K hk => by
  refine r_iloadN 1 rfl at_0 rfl ?_
  refine r_iconst (3 : Int32) 2 rfl at_1 rfl ?_
  refine r_iand 3 rfl at_2 ?_
  refine r_gen fun k620 hk620 => ?_
  refine r_istore [.val (.int p0), .val (.int p1), .val (.int p2), .val (.int p3), .val (.int k620), .unset, .unset, .unset, .unset, .unset, .unset, .unset, .unset] 5 rfl at_3 rfl ?_
  refine r_iloadN 6 rfl at_5 rfl ?_
  refine r_sipush (255 : Int32) 9 rfl at_6 rfl ?_
  refine r_iand 10 rfl at_9 ?_
  refine r_i2c 11 rfl at_10 ?_
  refine r_gen fun k621 hk621 => ?_
  refine r_istore [.val (.int p0), .val (.int p1), .val (.int p2), .val (.int p3), .val (.int k620), .val (.int k621), .unset, .unset, .unset, .unset, .unset, .unset, .unset] 13 rfl at_11 rfl ?_
  refine r_iloadN 14 rfl at_13 rfl ?_
  refine r_sipush (255 : Int32) 17 rfl at_14 rfl ?_
  refine r_iand 18 rfl at_17 ?_
  refine r_i2c 19 rfl at_18 ?_
  refine r_gen fun k622 hk622 => ?_
  refine r_istore [.val (.int p0), .val (.int p1), .val (.int p2), .val (.int p3), .val (.int k620), .val (.int k621), .val (.int k622), .unset, .unset, .unset, .unset, .unset, .unset] 21 rfl at_19 rfl ?_
  refine r_iloadN 22 rfl at_21 rfl ?_
  refine r_sipush (255 : Int32) 25 rfl at_22 rfl ?_
  refine r_iand 26 rfl at_25 ?_
  refine r_i2c 27 rfl at_26 ?_
  refine r_gen fun k623 hk623 => ?_
  refine r_istore [.val (.int p0), .val (.int p1), .val (.int p2), .val (.int p3), .val (.int k620), .val (.int k621), .val (.int k622), .val (.int k623), .unset, .unset, .unset, .unset, .unset] 29 rfl at_27 rfl ?_
  have m4 := and4 hk620
  have b0 := i2cBy hk621
  have b1 := i2cBy hk622
  have b2 := i2cBy hk623
  rcases m4 with rfl | rfl | rfl | rfl
  · refine r_iload 31 rfl at_29 rfl ?_
    refine r_newarray 0 33 rfl at_31 (wd hw 0 rfl) (by decide) (by decide) (by decide) (by decide) (by decide) fun a624 h625 k626 ga624 za624 Eh625 Aa624 => ?_
    have sh625 := Eh625.1
    have la624 := ltN Aa624.lt
    have f627 : Arv V.Z h625 a624 k626 .char (0 : Int32) [] (.int 0) := Arv.pad Aa624 (pad_rep [] (.int 0) 0)
    refine r_astore [.val (.int p0), .val (.int p1), .val (.int p2), .val (.int p3), .val (.int (0 : Int32)), .val (.int k621), .val (.int k622), .val (.int k623), .val (.ref a624), .unset, .unset, .unset, .unset] 35 rfl at_33 rfl rfl ?_
    refine r_iload 37 rfl at_35 rfl ?_
    refine r_if_le 46 40 at_37 (by decide) rfl rfl (fun c628 => ?_) (fun c628 => ?_)
    rotate_left
    · exact absurd c628 (by decide)
    refine r_iload 48 rfl at_46 rfl ?_
    refine r_iconst (1 : Int32) 49 rfl at_48 rfl ?_
    refine r_icmp_le 58 52 at_49 (by decide) rfl rfl (fun c629 => ?_) (fun c629 => ?_)
    rotate_left
    · exact absurd c629 (by decide)
    refine r_iload 60 rfl at_58 rfl ?_
    refine r_iconst (2 : Int32) 61 rfl at_60 rfl ?_
    refine r_icmp_le 70 64 at_61 (by decide) rfl rfl (fun c630 => ?_) (fun c630 => ?_)
    rotate_left
    · exact absurd c630 (by decide)
    refine r_new 73 rfl at_70 (wd hw 1 rfl) (wd hw 2 rfl) (wd hw 3 rfl) (by decide) (by decide) fun a631 h632 ga631 za631 Eh632 Xa631 Da631 => ?_
    have f633 := f627.ext Eh632
    have sh632 := Eh632.1
    have la631 := ltN Xa631.lt
    have f634 : Fld V.Z h632 a631 "java/lang/String" "value" "[B" (.null) := Da631 (Or.inr (wd hw 16 rfl)) (ty := (.array .byte)) (by decide)
    have f635 : Fld V.Z h632 a631 "java/lang/String" "coder" "B" (.int (0 : Int32)) := Da631 (Or.inr (wd hw 17 rfl)) (ty := .byte) (by decide)
    refine r_dup 74 rfl at_73 rfl ?_
    refine r_aload 76 rfl at_74 rfl rfl ?_
    refine Run.old fun OXN => ?_
    have lxN' : a631 < h632.size := by omega
    refine r_special 79 rfl at_76 rfl (wd hw 4 rfl) (wd hw 5 rfl) (wd hw 6 rfl) (by decide) (pay_newE V hw K b_law 1 hm hn a631 a624 _ _ _ h632 _ za631 (by simp) Xa631 f634 f635 f633 (by decide) (by decide)) (W := 1) (argsL := [.ref a624]) (lenOf pd_1 rfl) rfl rfl rfl (Nat.le_of_eq rfl) (Nat.le_of_ble_eq_true rfl) (Nat.le_of_ble_eq_true rfl) fun v639 h640 ps636 q638 z637 => ?_
    obtain ⟨rfl, KN, SN⟩ := q638
    have f641 := Exa.keep Xa631 KN
    show Own.Run V K b_law _ h640 _ 6 12 79 [.val (.int p0), .val (.int p1), .val (.int p2), .val (.int p3), .val (.int (0 : Int32)), .val (.int k621), .val (.int k622), .val (.int k623), .val (.ref a624), .unset, .unset, .unset, .unset] [.ref a631]
    have sh640 := KN.1
    have bbN := SN.lt
    refine r_astore [.val (.int p0), .val (.int p1), .val (.int p2), .val (.int p3), .val (.int (0 : Int32)), .val (.int k621), .val (.int k622), .val (.int k623), .val (.ref a624), .val (.ref a631), .unset, .unset, .unset] 81 rfl at_79 rfl rfl ?_
    refine r_bipush (26 : Int32) 83 rfl at_81 rfl ?_
    refine r_iload 85 rfl at_83 rfl ?_
    refine r_iadd 86 rfl at_85 ?_
    rw [show (26 : Int32) + 0 = 26 from by decide]
    refine r_newarray 26 88 rfl at_86 (wd hw 0 rfl) (by decide) (by decide) (by decide) (by decide) (by decide) fun a642 h643 k644 ga642 za642 Eh643 Aa642 => ?_
    have f645 := Str.ext Eh643 SN
    have sh643 := Eh643.1
    have la642 := ltN Aa642.lt
    have f646 : Arv V.Z h643 a642 k644 .char (26 : Int32) [.int 0, .int 0, .int 0, .int 0, .int 0, .int 0, .int 0, .int 0, .int 0, .int 0, .int 0, .int 0, .int 0, .int 0, .int 0, .int 0, .int 0, .int 0, .int 0, .int 0, .int 0, .int 0, .int 0, .int 0, .int 0, .int 0] (.int 0) := Arv.pad Aa642 (pad_rep [] (.int 0) 26)
    refine r_astore [.val (.int p0), .val (.int p1), .val (.int p2), .val (.int p3), .val (.int (0 : Int32)), .val (.int k621), .val (.int k622), .val (.int k623), .val (.ref a624), .val (.ref a631), .val (.ref a642), .unset, .unset] 90 rfl at_88 rfl rfl ?_
    refine r_aload 92 rfl at_90 rfl rfl ?_
    refine r_static 95 rfl at_92 (wd hw 22 rfl) (wd hw 23 rfl) (wd hw 24 rfl) (wd hw 25 rfl) (by decide) (Pays.con (K := K) (B := b_law) (c_pf0 V hw a642 k644 h643 _ za642 f646) (wd hw 25 rfl) (wd hw 24 rfl) (by decide) (by decide)) (W := 0) (argsL := [.ref a642]) (lenOf pd_1 rfl) rfl rfl rfl (Nat.le_of_eq rfl) (Nat.le_of_ble_eq_true rfl) (Nat.le_of_ble_eq_true rfl) fun v650 h651 ps647 q649 z648 => ?_
    obtain ⟨rfl, KP, AP⟩ := q649
    have f652 : Str V h651 h640.size a631 ([] : List Int32) := by first | exact Str.keep KP (fun w hw' => by cases List.mem_singleton.mp hw'; exact leA (by omega)) f645 | exact Str.keepA KP f646 (by decide) (wd hw 2 rfl) f645
    show Own.Run V K b_law _ h651 _ 7 38 95 [.val (.int p0), .val (.int p1), .val (.int p2), .val (.int p3), .val (.int (0 : Int32)), .val (.int k621), .val (.int k622), .val (.int k623), .val (.ref a624), .val (.ref a631), .val (.ref a642), .unset, .unset] []
    have sh651 := KP.1
    refine r_iload 97 rfl at_95 rfl ?_
    refine r_if_le 107 100 at_97 (by decide) rfl rfl (fun c653 => ?_) (fun c653 => ?_)
    rotate_left
    · exact absurd c653 (by decide)
    refine r_iload 109 rfl at_107 rfl ?_
    refine r_iconst (1 : Int32) 110 rfl at_109 rfl ?_
    refine r_icmp_le 120 113 at_110 (by decide) rfl rfl (fun c654 => ?_) (fun c654 => ?_)
    rotate_left
    · exact absurd c654 (by decide)
    refine r_iload 122 rfl at_120 rfl ?_
    refine r_iconst (2 : Int32) 123 rfl at_122 rfl ?_
    refine r_icmp_le 133 126 at_123 (by decide) rfl rfl (fun c655 => ?_) (fun c655 => ?_)
    rotate_left
    · exact absurd c655 (by decide)
    refine r_aload 135 rfl at_133 rfl rfl ?_
    refine r_bipush (22 : Int32) 137 rfl at_135 rfl ?_
    refine r_iload 139 rfl at_137 rfl ?_
    refine r_iadd 140 rfl at_139 ?_
    rw [show (22 : Int32) + 0 = 22 from by decide]
    refine r_bipush (32 : Int32) 142 rfl at_140 rfl ?_
    refine r_castore 22 143 rfl at_142 AP (by decide) rfl (Nat.le_of_ble_eq_true rfl) za642 (32 : Int32) (by decide) fun h656 Wh656 f657 => ?_
    have sh656 := Wh656.size
    have f658 : Str V h656 h640.size a631 ([] : List Int32) := by first | exact Str.keep (Keep.of_wr Wh656) (fun w hw' => by cases List.mem_singleton.mp hw'; exact leA (by omega)) f652 | exact Str.keepA (Keep.of_wr Wh656) AP (by decide) (wd hw 2 rfl) f652
    replace f657 : Arv V.Z h656 a642 k644 .char (26 : Int32) [.int 76, .int 97, .int 122, .int 111, .int 32, .int 100, .int 111, .int 101, .int 115, .int 32, .int 110, .int 111, .int 116, .int 32, .int 115, .int 117, .int 112, .int 112, .int 111, .int 114, .int 116, .int 32, .int (32 : Int32), .int 0, .int 0, .int 0] (.int 0) := f657
    refine r_aload 145 rfl at_143 rfl rfl ?_
    refine r_bipush (23 : Int32) 147 rfl at_145 rfl ?_
    refine r_iload 149 rfl at_147 rfl ?_
    refine r_iadd 150 rfl at_149 ?_
    rw [show (23 : Int32) + 0 = 23 from by decide]
    refine r_bipush (121 : Int32) 152 rfl at_150 rfl ?_
    refine r_castore 23 153 rfl at_152 f657 (by decide) rfl (Nat.le_of_ble_eq_true rfl) za642 (121 : Int32) (by decide) fun h659 Wh659 f660 => ?_
    have sh659 := Wh659.size
    have f661 : Str V h659 h640.size a631 ([] : List Int32) := by first | exact Str.keep (Keep.of_wr Wh659) (fun w hw' => by cases List.mem_singleton.mp hw'; exact leA (by omega)) f658 | exact Str.keepA (Keep.of_wr Wh659) f657 (by decide) (wd hw 2 rfl) f658
    replace f660 : Arv V.Z h659 a642 k644 .char (26 : Int32) [.int 76, .int 97, .int 122, .int 111, .int 32, .int 100, .int 111, .int 101, .int 115, .int 32, .int 110, .int 111, .int 116, .int 32, .int 115, .int 117, .int 112, .int 112, .int 111, .int 114, .int 116, .int 32, .int (32 : Int32), .int (121 : Int32), .int 0, .int 0] (.int 0) := f660
    refine r_aload 155 rfl at_153 rfl rfl ?_
    refine r_bipush (24 : Int32) 157 rfl at_155 rfl ?_
    refine r_iload 159 rfl at_157 rfl ?_
    refine r_iadd 160 rfl at_159 ?_
    rw [show (24 : Int32) + 0 = 24 from by decide]
    refine r_bipush (101 : Int32) 162 rfl at_160 rfl ?_
    refine r_castore 24 163 rfl at_162 f660 (by decide) rfl (Nat.le_of_ble_eq_true rfl) za642 (101 : Int32) (by decide) fun h662 Wh662 f663 => ?_
    have sh662 := Wh662.size
    have f664 : Str V h662 h640.size a631 ([] : List Int32) := by first | exact Str.keep (Keep.of_wr Wh662) (fun w hw' => by cases List.mem_singleton.mp hw'; exact leA (by omega)) f661 | exact Str.keepA (Keep.of_wr Wh662) f660 (by decide) (wd hw 2 rfl) f661
    replace f663 : Arv V.Z h662 a642 k644 .char (26 : Int32) [.int 76, .int 97, .int 122, .int 111, .int 32, .int 100, .int 111, .int 101, .int 115, .int 32, .int 110, .int 111, .int 116, .int 32, .int 115, .int 117, .int 112, .int 112, .int 111, .int 114, .int 116, .int 32, .int (32 : Int32), .int (121 : Int32), .int (101 : Int32), .int 0] (.int 0) := f663
    refine r_aload 165 rfl at_163 rfl rfl ?_
    refine r_bipush (25 : Int32) 167 rfl at_165 rfl ?_
    refine r_iload 169 rfl at_167 rfl ?_
    refine r_iadd 170 rfl at_169 ?_
    rw [show (25 : Int32) + 0 = 25 from by decide]
    refine r_bipush (116 : Int32) 172 rfl at_170 rfl ?_
    refine r_castore 25 173 rfl at_172 f663 (by decide) rfl (Nat.le_of_ble_eq_true rfl) za642 (116 : Int32) (by decide) fun h665 Wh665 f666 => ?_
    have sh665 := Wh665.size
    have f667 : Str V h665 h640.size a631 ([] : List Int32) := by first | exact Str.keep (Keep.of_wr Wh665) (fun w hw' => by cases List.mem_singleton.mp hw'; exact leA (by omega)) f664 | exact Str.keepA (Keep.of_wr Wh665) f663 (by decide) (wd hw 2 rfl) f664
    replace f666 : Arv V.Z h665 a642 k644 .char (26 : Int32) [.int 76, .int 97, .int 122, .int 111, .int 32, .int 100, .int 111, .int 101, .int 115, .int 32, .int 110, .int 111, .int 116, .int 32, .int 115, .int 117, .int 112, .int 112, .int 111, .int 114, .int 116, .int 32, .int (32 : Int32), .int (121 : Int32), .int (101 : Int32), .int (116 : Int32)] (.int 0) := f666
    refine r_new 176 rfl at_173 (wd hw 1 rfl) (wd hw 2 rfl) (wd hw 3 rfl) (by decide) (by decide) fun a668 h669 ga668 za668 Eh669 Xa668 Da668 => ?_
    have f670 := Str.ext Eh669 f667
    have f671 := f666.ext Eh669
    have sh669 := Eh669.1
    have la668 := ltN Xa668.lt
    have f672 : Fld V.Z h669 a668 "java/lang/String" "value" "[B" (.null) := Da668 (Or.inr (wd hw 16 rfl)) (ty := (.array .byte)) (by decide)
    have f673 : Fld V.Z h669 a668 "java/lang/String" "coder" "B" (.int (0 : Int32)) := Da668 (Or.inr (wd hw 17 rfl)) (ty := .byte) (by decide)
    refine r_dup 177 rfl at_176 rfl ?_
    refine r_aload 179 rfl at_177 rfl rfl ?_
    refine Run.old fun OXE => ?_
    have lxE' : a668 < h669.size := by omega
    refine r_special 182 rfl at_179 rfl (wd hw 4 rfl) (wd hw 5 rfl) (wd hw 6 rfl) (by decide) (pay_newN V hw K b_law 1 a668 a642 _ ([76, 97, 122, 111, 32, 100, 111, 101, 115, 32, 110, 111, 116, 32, 115, 117, 112, 112, 111, 114, 116, 32, 32, 121, 101, 116] : List Int32) _ h669 _ _ _ _ za668 (Nat.le_trans za668 (Nat.le_of_lt lxE')) Xa668 f672 f673 f671 OXE cz hCS hcz rfl (Nat.le_of_ble_eq_true rfl) (Nat.le_of_ble_eq_true rfl) (byS ⟨by decide, by decide⟩ (byS ⟨by decide, by decide⟩ (byS ⟨by decide, by decide⟩ (byS ⟨by decide, by decide⟩ (byS ⟨by decide, by decide⟩ (byS ⟨by decide, by decide⟩ (byS ⟨by decide, by decide⟩ (byS ⟨by decide, by decide⟩ (byS ⟨by decide, by decide⟩ (byS ⟨by decide, by decide⟩ (byS ⟨by decide, by decide⟩ (byS ⟨by decide, by decide⟩ (byS ⟨by decide, by decide⟩ (byS ⟨by decide, by decide⟩ (byS ⟨by decide, by decide⟩ (byS ⟨by decide, by decide⟩ (byS ⟨by decide, by decide⟩ (byS ⟨by decide, by decide⟩ (byS ⟨by decide, by decide⟩ (byS ⟨by decide, by decide⟩ (byS ⟨by decide, by decide⟩ (byS ⟨by decide, by decide⟩ (byS ⟨by decide, by decide⟩ (byS ⟨by decide, by decide⟩ (byS ⟨by decide, by decide⟩ (byS ⟨by decide, by decide⟩ by0)))))))))))))))))))))))))) (by simp) (by decide) (by decide)) (W := 1) (argsL := [.ref a642]) (lenOf pd_1 rfl) rfl rfl rfl (Nat.le_of_eq rfl) (Nat.le_of_ble_eq_true rfl) (Nat.le_of_ble_eq_true rfl) fun v677 h678 ps674 q676 z675 => ?_
    obtain ⟨rfl, KE, SE⟩ := q676
    have f679 : Str V h678 h640.size a631 ([] : List Int32) := by first | exact Str.keep KE (fun w hw' => by cases List.mem_singleton.mp hw'; exact leA (by omega)) f670
    have f680 := Exa.keep Xa668 KE
    show Own.Run V K b_law _ h678 _ 9 68 182 [.val (.int p0), .val (.int p1), .val (.int p2), .val (.int p3), .val (.int (0 : Int32)), .val (.int k621), .val (.int k622), .val (.int k623), .val (.ref a624), .val (.ref a631), .val (.ref a642), .unset, .unset] [.ref a668]
    have sh678 := KE.1
    have bbE := SE.lt
    refine r_astore [.val (.int p0), .val (.int p1), .val (.int p2), .val (.int p3), .val (.int (0 : Int32)), .val (.int k621), .val (.int k622), .val (.int k623), .val (.ref a624), .val (.ref a631), .val (.ref a642), .val (.ref a668), .unset] 184 rfl at_182 rfl rfl ?_
    refine r_aload 186 rfl at_184 rfl rfl ?_
    refine r_static 189 rfl at_186 (wd hw 37 rfl) (wd hw 38 rfl) (wd hw 39 rfl) (wd hw 40 rfl) (by decide) (Pays.conK (K := K) (B := b_law) hk hn (c_op V hw hm hn cz hCS hcz hl12 hl18 u0 sen hU hSe hst a631 _ ([] : List Int32) by0 (Nat.le_of_ble_eq_true rfl) h678 _ f679) (wd hw 40 rfl) (wd hw 39 rfl) (by decide) (by decide)) (W := 0) (argsL := [.ref a631]) (lenOf pd_22 rfl) rfl rfl rfl (Nat.le_of_eq rfl) (Nat.le_of_ble_eq_true rfl) (Nat.le_of_ble_eq_true rfl) fun v684 h685 ps681 q683 z682 => ?_
    obtain ⟨r, y, my, rfl, EO, XO, GO, SO⟩ := q683
    have f686 := Str.ext EO f679
    have f687 := Str.ext EO SE
    have sh685 := EO.1
    show Own.Run V K b_law _ h685 _ 21 3168 189 [.val (.int p0), .val (.int p1), .val (.int p2), .val (.int p3), .val (.int (0 : Int32)), .val (.int k621), .val (.int k622), .val (.int k623), .val (.ref a624), .val (.ref a631), .val (.ref a642), .val (.ref a668), .unset] [.ref r]
    refine r_astore [.val (.int p0), .val (.int p1), .val (.int p2), .val (.int p3), .val (.int (0 : Int32)), .val (.int k621), .val (.int k622), .val (.int k623), .val (.ref a624), .val (.ref a631), .val (.ref a642), .val (.ref a668), .val (.ref r)] 191 rfl at_189 rfl rfl ?_
    refine r_aload 193 rfl at_191 rfl rfl ?_
    refine r_ifnonnull_t 198 at_193 (by decide) rfl ?_
    refine r_aload 200 rfl at_198 rfl rfl ?_
    refine r_aload 202 rfl at_200 rfl rfl ?_
    refine r_virtualUp 205 rfl at_202 hn (wd hw 231 rfl) (wd hw 232 rfl) (wd hw 233 rfl) (wd hw 235 rfl) (wd hw 234 rfl) (by decide) XO (Pays.con (K := K) (B := b_law) (c_gm V hw r y h685 _ GO) (wd hw 236 rfl) (wd hw 192 rfl) (by decide) (by decide)) (W := 1) (argsL := []) (lenOf pd_18 rfl) rfl rfl rfl (Nat.le_of_eq rfl) (Nat.le_of_ble_eq_true rfl) (Nat.le_of_ble_eq_true rfl) fun v691 h692 ps688 q690 z689 => ?_
    obtain ⟨rfl, es693⟩ := q690
    subst h692
    show Own.Run V K b_law _ h685 _ 21 3168 205 [.val (.int p0), .val (.int p1), .val (.int p2), .val (.int p3), .val (.int (0 : Int32)), .val (.int k621), .val (.int k622), .val (.int k623), .val (.ref a624), .val (.ref a631), .val (.ref a642), .val (.ref a668), .val (.ref r)] [.ref y, .ref a668]
    have SO' : Str V h685 my y ([76, 97, 122, 111, 32, 100, 111, 101, 115, 32, 110, 111, 116, 32, 115, 117, 112, 112, 111, 114, 116, 32, 32, 121, 101, 116] : List Int32) := SO
    refine Run.old fun OZ => ?_
    refine r_virtual 208 rfl at_205 (wd hw 237 rfl) (wd hw 238 rfl) (wd hw 240 rfl) (wd hw 239 rfl) (nfS (wd hw 240 rfl)) (by decide) (f687).exa (pay_eq V hw K b_law 0 a668 y _ my ([76, 97, 122, 111, 32, 100, 111, 101, 115, 32, 110, 111, 116, 32, 115, 117, 112, 112, 111, 114, 116, 32, 32, 121, 101, 116] : List Int32) ([76, 97, 122, 111, 32, 100, 111, 101, 115, 32, 110, 111, 116, 32, 115, 117, 112, 112, 111, 114, 116, 32, 32, 121, 101, 116] : List Int32) h685 _ f687 SO' OZ cz hCS hcz (by decide) (by decide)) (W := 0) (argsL := [.ref y]) (lenOf pd_23 rfl) rfl rfl rfl (Nat.le_of_eq rfl) (Nat.le_of_ble_eq_true rfl) (Nat.le_of_ble_eq_true rfl) fun v697 h698 ps694 q696 z695 => ?_
    obtain ⟨ee, rfl, es699, he⟩ := q696
    subst h698
    show Own.Run V K b_law _ h685 _ 21 3168 208 [.val (.int p0), .val (.int p1), .val (.int p2), .val (.int p3), .val (.int (0 : Int32)), .val (.int k621), .val (.int k622), .val (.int k623), .val (.ref a624), .val (.ref a631), .val (.ref a642), .val (.ref a668), .val (.ref r)] [.int ee]
    obtain rfl : ee = 1 := he.elim (fun q => q.1) (fun q => absurd rfl q.2)
    refine r_nret (t := .boolean) (1 : Int32) rfl (by simp) rfl at_208 (by decide) (by decide) [] (fun _ q => nomatch q) ?_
    rfl
  · refine r_iload 31 rfl at_29 rfl ?_
    refine r_newarray 1 33 rfl at_31 (wd hw 0 rfl) (by decide) (by decide) (by decide) (by decide) (by decide) fun a700 h701 k702 ga700 za700 Eh701 Aa700 => ?_
    have sh701 := Eh701.1
    have la700 := ltN Aa700.lt
    have f703 : Arv V.Z h701 a700 k702 .char (1 : Int32) [.int 0] (.int 0) := Arv.pad Aa700 (pad_rep [] (.int 0) 1)
    refine r_astore [.val (.int p0), .val (.int p1), .val (.int p2), .val (.int p3), .val (.int (1 : Int32)), .val (.int k621), .val (.int k622), .val (.int k623), .val (.ref a700), .unset, .unset, .unset, .unset] 35 rfl at_33 rfl rfl ?_
    refine r_iload 37 rfl at_35 rfl ?_
    refine r_if_le 46 40 at_37 (by decide) rfl rfl (fun c704 => ?_) (fun c704 => ?_)
    · exact absurd c704 (by decide)
    refine r_aload 42 rfl at_40 rfl rfl ?_
    refine r_iconst (0 : Int32) 43 rfl at_42 rfl ?_
    refine r_iload 45 rfl at_43 rfl ?_
    refine r_castore 0 46 rfl at_45 f703 (by decide) rfl (Nat.le_of_ble_eq_true rfl) za700 k621 (nby b0) fun h705 Wh705 f706 => ?_
    have sh705 := Wh705.size
    replace f706 : Arv V.Z h705 a700 k702 .char (1 : Int32) [.int k621] (.int 0) := f706
    refine r_iload 48 rfl at_46 rfl ?_
    refine r_iconst (1 : Int32) 49 rfl at_48 rfl ?_
    refine r_icmp_le 58 52 at_49 (by decide) rfl rfl (fun c707 => ?_) (fun c707 => ?_)
    rotate_left
    · exact absurd c707 (by decide)
    refine r_iload 60 rfl at_58 rfl ?_
    refine r_iconst (2 : Int32) 61 rfl at_60 rfl ?_
    refine r_icmp_le 70 64 at_61 (by decide) rfl rfl (fun c708 => ?_) (fun c708 => ?_)
    rotate_left
    · exact absurd c708 (by decide)
    refine r_new 73 rfl at_70 (wd hw 1 rfl) (wd hw 2 rfl) (wd hw 3 rfl) (by decide) (by decide) fun a709 h710 ga709 za709 Eh710 Xa709 Da709 => ?_
    have f711 := f706.ext Eh710
    have sh710 := Eh710.1
    have la709 := ltN Xa709.lt
    have f712 : Fld V.Z h710 a709 "java/lang/String" "value" "[B" (.null) := Da709 (Or.inr (wd hw 16 rfl)) (ty := (.array .byte)) (by decide)
    have f713 : Fld V.Z h710 a709 "java/lang/String" "coder" "B" (.int (0 : Int32)) := Da709 (Or.inr (wd hw 17 rfl)) (ty := .byte) (by decide)
    refine r_dup 74 rfl at_73 rfl ?_
    refine r_aload 76 rfl at_74 rfl rfl ?_
    refine Run.old fun OXN => ?_
    have lxN' : a709 < h710.size := by omega
    refine r_special 79 rfl at_76 rfl (wd hw 4 rfl) (wd hw 5 rfl) (wd hw 6 rfl) (by decide) (pay_newN V hw K b_law 1 a709 a700 _ ([k621] : List Int32) _ h710 _ _ _ _ za709 (Nat.le_trans za709 (Nat.le_of_lt lxN')) Xa709 f712 f713 f711 OXN cz hCS hcz rfl (Nat.le_of_ble_eq_true rfl) (Nat.le_of_ble_eq_true rfl) (byS b0 by0) (by simp) (by decide) (by decide)) (W := 1) (argsL := [.ref a700]) (lenOf pd_1 rfl) rfl rfl rfl (Nat.le_of_eq rfl) (Nat.le_of_ble_eq_true rfl) (Nat.le_of_ble_eq_true rfl) fun v717 h718 ps714 q716 z715 => ?_
    obtain ⟨rfl, KN, SN⟩ := q716
    have f719 := Exa.keep Xa709 KN
    show Own.Run V K b_law _ h718 _ 3 6 79 [.val (.int p0), .val (.int p1), .val (.int p2), .val (.int p3), .val (.int (1 : Int32)), .val (.int k621), .val (.int k622), .val (.int k623), .val (.ref a700), .unset, .unset, .unset, .unset] [.ref a709]
    have sh718 := KN.1
    have bbN := SN.lt
    refine r_astore [.val (.int p0), .val (.int p1), .val (.int p2), .val (.int p3), .val (.int (1 : Int32)), .val (.int k621), .val (.int k622), .val (.int k623), .val (.ref a700), .val (.ref a709), .unset, .unset, .unset] 81 rfl at_79 rfl rfl ?_
    refine r_bipush (26 : Int32) 83 rfl at_81 rfl ?_
    refine r_iload 85 rfl at_83 rfl ?_
    refine r_iadd 86 rfl at_85 ?_
    rw [show (26 : Int32) + 1 = 27 from by decide]
    refine r_newarray 27 88 rfl at_86 (wd hw 0 rfl) (by decide) (by decide) (by decide) (by decide) (by decide) fun a720 h721 k722 ga720 za720 Eh721 Aa720 => ?_
    have f723 := Str.ext Eh721 SN
    have sh721 := Eh721.1
    have la720 := ltN Aa720.lt
    have f724 : Arv V.Z h721 a720 k722 .char (27 : Int32) [.int 0, .int 0, .int 0, .int 0, .int 0, .int 0, .int 0, .int 0, .int 0, .int 0, .int 0, .int 0, .int 0, .int 0, .int 0, .int 0, .int 0, .int 0, .int 0, .int 0, .int 0, .int 0, .int 0, .int 0, .int 0, .int 0, .int 0] (.int 0) := Arv.pad Aa720 (pad_rep [] (.int 0) 27)
    refine r_astore [.val (.int p0), .val (.int p1), .val (.int p2), .val (.int p3), .val (.int (1 : Int32)), .val (.int k621), .val (.int k622), .val (.int k623), .val (.ref a700), .val (.ref a709), .val (.ref a720), .unset, .unset] 90 rfl at_88 rfl rfl ?_
    refine r_aload 92 rfl at_90 rfl rfl ?_
    refine r_static 95 rfl at_92 (wd hw 22 rfl) (wd hw 23 rfl) (wd hw 24 rfl) (wd hw 25 rfl) (by decide) (Pays.con (K := K) (B := b_law) (c_pf1 V hw a720 k722 h721 _ za720 f724) (wd hw 25 rfl) (wd hw 24 rfl) (by decide) (by decide)) (W := 0) (argsL := [.ref a720]) (lenOf pd_1 rfl) rfl rfl rfl (Nat.le_of_eq rfl) (Nat.le_of_ble_eq_true rfl) (Nat.le_of_ble_eq_true rfl) fun v728 h729 ps725 q727 z726 => ?_
    obtain ⟨rfl, KP, AP⟩ := q727
    have f730 : Str V h729 h718.size a709 ([k621] : List Int32) := by first | exact Str.keep KP (fun w hw' => by cases List.mem_singleton.mp hw'; exact leA (by omega)) f723 | exact Str.keepA KP f724 (by decide) (wd hw 2 rfl) f723
    show Own.Run V K b_law _ h729 _ 4 33 95 [.val (.int p0), .val (.int p1), .val (.int p2), .val (.int p3), .val (.int (1 : Int32)), .val (.int k621), .val (.int k622), .val (.int k623), .val (.ref a700), .val (.ref a709), .val (.ref a720), .unset, .unset] []
    have sh729 := KP.1
    refine r_iload 97 rfl at_95 rfl ?_
    refine r_if_le 107 100 at_97 (by decide) rfl rfl (fun c731 => ?_) (fun c731 => ?_)
    · exact absurd c731 (by decide)
    refine r_aload 102 rfl at_100 rfl rfl ?_
    refine r_bipush (22 : Int32) 104 rfl at_102 rfl ?_
    refine r_iload 106 rfl at_104 rfl ?_
    refine r_castore 22 107 rfl at_106 AP (by decide) rfl (Nat.le_of_ble_eq_true rfl) za720 k621 (nby b0) fun h732 Wh732 f733 => ?_
    have sh732 := Wh732.size
    have f734 : Str V h732 h718.size a709 ([k621] : List Int32) := by first | exact Str.keep (Keep.of_wr Wh732) (fun w hw' => by cases List.mem_singleton.mp hw'; exact leA (by omega)) f730 | exact Str.keepA (Keep.of_wr Wh732) AP (by decide) (wd hw 2 rfl) f730
    replace f733 : Arv V.Z h732 a720 k722 .char (27 : Int32) [.int 76, .int 97, .int 122, .int 111, .int 32, .int 100, .int 111, .int 101, .int 115, .int 32, .int 110, .int 111, .int 116, .int 32, .int 115, .int 117, .int 112, .int 112, .int 111, .int 114, .int 116, .int 32, .int k621, .int 0, .int 0, .int 0, .int 0] (.int 0) := f733
    refine r_iload 109 rfl at_107 rfl ?_
    refine r_iconst (1 : Int32) 110 rfl at_109 rfl ?_
    refine r_icmp_le 120 113 at_110 (by decide) rfl rfl (fun c735 => ?_) (fun c735 => ?_)
    rotate_left
    · exact absurd c735 (by decide)
    refine r_iload 122 rfl at_120 rfl ?_
    refine r_iconst (2 : Int32) 123 rfl at_122 rfl ?_
    refine r_icmp_le 133 126 at_123 (by decide) rfl rfl (fun c736 => ?_) (fun c736 => ?_)
    rotate_left
    · exact absurd c736 (by decide)
    refine r_aload 135 rfl at_133 rfl rfl ?_
    refine r_bipush (22 : Int32) 137 rfl at_135 rfl ?_
    refine r_iload 139 rfl at_137 rfl ?_
    refine r_iadd 140 rfl at_139 ?_
    rw [show (22 : Int32) + 1 = 23 from by decide]
    refine r_bipush (32 : Int32) 142 rfl at_140 rfl ?_
    refine r_castore 23 143 rfl at_142 f733 (by decide) rfl (Nat.le_of_ble_eq_true rfl) za720 (32 : Int32) (by decide) fun h737 Wh737 f738 => ?_
    have sh737 := Wh737.size
    have f739 : Str V h737 h718.size a709 ([k621] : List Int32) := by first | exact Str.keep (Keep.of_wr Wh737) (fun w hw' => by cases List.mem_singleton.mp hw'; exact leA (by omega)) f734 | exact Str.keepA (Keep.of_wr Wh737) f733 (by decide) (wd hw 2 rfl) f734
    replace f738 : Arv V.Z h737 a720 k722 .char (27 : Int32) [.int 76, .int 97, .int 122, .int 111, .int 32, .int 100, .int 111, .int 101, .int 115, .int 32, .int 110, .int 111, .int 116, .int 32, .int 115, .int 117, .int 112, .int 112, .int 111, .int 114, .int 116, .int 32, .int k621, .int (32 : Int32), .int 0, .int 0, .int 0] (.int 0) := f738
    refine r_aload 145 rfl at_143 rfl rfl ?_
    refine r_bipush (23 : Int32) 147 rfl at_145 rfl ?_
    refine r_iload 149 rfl at_147 rfl ?_
    refine r_iadd 150 rfl at_149 ?_
    rw [show (23 : Int32) + 1 = 24 from by decide]
    refine r_bipush (121 : Int32) 152 rfl at_150 rfl ?_
    refine r_castore 24 153 rfl at_152 f738 (by decide) rfl (Nat.le_of_ble_eq_true rfl) za720 (121 : Int32) (by decide) fun h740 Wh740 f741 => ?_
    have sh740 := Wh740.size
    have f742 : Str V h740 h718.size a709 ([k621] : List Int32) := by first | exact Str.keep (Keep.of_wr Wh740) (fun w hw' => by cases List.mem_singleton.mp hw'; exact leA (by omega)) f739 | exact Str.keepA (Keep.of_wr Wh740) f738 (by decide) (wd hw 2 rfl) f739
    replace f741 : Arv V.Z h740 a720 k722 .char (27 : Int32) [.int 76, .int 97, .int 122, .int 111, .int 32, .int 100, .int 111, .int 101, .int 115, .int 32, .int 110, .int 111, .int 116, .int 32, .int 115, .int 117, .int 112, .int 112, .int 111, .int 114, .int 116, .int 32, .int k621, .int (32 : Int32), .int (121 : Int32), .int 0, .int 0] (.int 0) := f741
    refine r_aload 155 rfl at_153 rfl rfl ?_
    refine r_bipush (24 : Int32) 157 rfl at_155 rfl ?_
    refine r_iload 159 rfl at_157 rfl ?_
    refine r_iadd 160 rfl at_159 ?_
    rw [show (24 : Int32) + 1 = 25 from by decide]
    refine r_bipush (101 : Int32) 162 rfl at_160 rfl ?_
    refine r_castore 25 163 rfl at_162 f741 (by decide) rfl (Nat.le_of_ble_eq_true rfl) za720 (101 : Int32) (by decide) fun h743 Wh743 f744 => ?_
    have sh743 := Wh743.size
    have f745 : Str V h743 h718.size a709 ([k621] : List Int32) := by first | exact Str.keep (Keep.of_wr Wh743) (fun w hw' => by cases List.mem_singleton.mp hw'; exact leA (by omega)) f742 | exact Str.keepA (Keep.of_wr Wh743) f741 (by decide) (wd hw 2 rfl) f742
    replace f744 : Arv V.Z h743 a720 k722 .char (27 : Int32) [.int 76, .int 97, .int 122, .int 111, .int 32, .int 100, .int 111, .int 101, .int 115, .int 32, .int 110, .int 111, .int 116, .int 32, .int 115, .int 117, .int 112, .int 112, .int 111, .int 114, .int 116, .int 32, .int k621, .int (32 : Int32), .int (121 : Int32), .int (101 : Int32), .int 0] (.int 0) := f744
    refine r_aload 165 rfl at_163 rfl rfl ?_
    refine r_bipush (25 : Int32) 167 rfl at_165 rfl ?_
    refine r_iload 169 rfl at_167 rfl ?_
    refine r_iadd 170 rfl at_169 ?_
    rw [show (25 : Int32) + 1 = 26 from by decide]
    refine r_bipush (116 : Int32) 172 rfl at_170 rfl ?_
    refine r_castore 26 173 rfl at_172 f744 (by decide) rfl (Nat.le_of_ble_eq_true rfl) za720 (116 : Int32) (by decide) fun h746 Wh746 f747 => ?_
    have sh746 := Wh746.size
    have f748 : Str V h746 h718.size a709 ([k621] : List Int32) := by first | exact Str.keep (Keep.of_wr Wh746) (fun w hw' => by cases List.mem_singleton.mp hw'; exact leA (by omega)) f745 | exact Str.keepA (Keep.of_wr Wh746) f744 (by decide) (wd hw 2 rfl) f745
    replace f747 : Arv V.Z h746 a720 k722 .char (27 : Int32) [.int 76, .int 97, .int 122, .int 111, .int 32, .int 100, .int 111, .int 101, .int 115, .int 32, .int 110, .int 111, .int 116, .int 32, .int 115, .int 117, .int 112, .int 112, .int 111, .int 114, .int 116, .int 32, .int k621, .int (32 : Int32), .int (121 : Int32), .int (101 : Int32), .int (116 : Int32)] (.int 0) := f747
    refine r_new 176 rfl at_173 (wd hw 1 rfl) (wd hw 2 rfl) (wd hw 3 rfl) (by decide) (by decide) fun a749 h750 ga749 za749 Eh750 Xa749 Da749 => ?_
    have f751 := Str.ext Eh750 f748
    have f752 := f747.ext Eh750
    have sh750 := Eh750.1
    have la749 := ltN Xa749.lt
    have f753 : Fld V.Z h750 a749 "java/lang/String" "value" "[B" (.null) := Da749 (Or.inr (wd hw 16 rfl)) (ty := (.array .byte)) (by decide)
    have f754 : Fld V.Z h750 a749 "java/lang/String" "coder" "B" (.int (0 : Int32)) := Da749 (Or.inr (wd hw 17 rfl)) (ty := .byte) (by decide)
    refine r_dup 177 rfl at_176 rfl ?_
    refine r_aload 179 rfl at_177 rfl rfl ?_
    refine Run.old fun OXE => ?_
    have lxE' : a749 < h750.size := by omega
    refine r_special 182 rfl at_179 rfl (wd hw 4 rfl) (wd hw 5 rfl) (wd hw 6 rfl) (by decide) (pay_newN V hw K b_law 1 a749 a720 _ ([76, 97, 122, 111, 32, 100, 111, 101, 115, 32, 110, 111, 116, 32, 115, 117, 112, 112, 111, 114, 116, 32, k621, 32, 121, 101, 116] : List Int32) _ h750 _ _ _ _ za749 (Nat.le_trans za749 (Nat.le_of_lt lxE')) Xa749 f753 f754 f752 OXE cz hCS hcz rfl (Nat.le_of_ble_eq_true rfl) (Nat.le_of_ble_eq_true rfl) (byS ⟨by decide, by decide⟩ (byS ⟨by decide, by decide⟩ (byS ⟨by decide, by decide⟩ (byS ⟨by decide, by decide⟩ (byS ⟨by decide, by decide⟩ (byS ⟨by decide, by decide⟩ (byS ⟨by decide, by decide⟩ (byS ⟨by decide, by decide⟩ (byS ⟨by decide, by decide⟩ (byS ⟨by decide, by decide⟩ (byS ⟨by decide, by decide⟩ (byS ⟨by decide, by decide⟩ (byS ⟨by decide, by decide⟩ (byS ⟨by decide, by decide⟩ (byS ⟨by decide, by decide⟩ (byS ⟨by decide, by decide⟩ (byS ⟨by decide, by decide⟩ (byS ⟨by decide, by decide⟩ (byS ⟨by decide, by decide⟩ (byS ⟨by decide, by decide⟩ (byS ⟨by decide, by decide⟩ (byS ⟨by decide, by decide⟩ (byS b0 (byS ⟨by decide, by decide⟩ (byS ⟨by decide, by decide⟩ (byS ⟨by decide, by decide⟩ (byS ⟨by decide, by decide⟩ by0))))))))))))))))))))))))))) (by simp) (by decide) (by decide)) (W := 1) (argsL := [.ref a720]) (lenOf pd_1 rfl) rfl rfl rfl (Nat.le_of_eq rfl) (Nat.le_of_ble_eq_true rfl) (Nat.le_of_ble_eq_true rfl) fun v758 h759 ps755 q757 z756 => ?_
    obtain ⟨rfl, KE, SE⟩ := q757
    have f760 : Str V h759 h718.size a709 ([k621] : List Int32) := by first | exact Str.keep KE (fun w hw' => by cases List.mem_singleton.mp hw'; exact leA (by omega)) f751
    have f761 := Exa.keep Xa749 KE
    show Own.Run V K b_law _ h759 _ 6 64 182 [.val (.int p0), .val (.int p1), .val (.int p2), .val (.int p3), .val (.int (1 : Int32)), .val (.int k621), .val (.int k622), .val (.int k623), .val (.ref a700), .val (.ref a709), .val (.ref a720), .unset, .unset] [.ref a749]
    have sh759 := KE.1
    have bbE := SE.lt
    refine r_astore [.val (.int p0), .val (.int p1), .val (.int p2), .val (.int p3), .val (.int (1 : Int32)), .val (.int k621), .val (.int k622), .val (.int k623), .val (.ref a700), .val (.ref a709), .val (.ref a720), .val (.ref a749), .unset] 184 rfl at_182 rfl rfl ?_
    refine r_aload 186 rfl at_184 rfl rfl ?_
    refine r_static 189 rfl at_186 (wd hw 37 rfl) (wd hw 38 rfl) (wd hw 39 rfl) (wd hw 40 rfl) (by decide) (Pays.conK (K := K) (B := b_law) hk hn (c_op V hw hm hn cz hCS hcz hl12 hl18 u0 sen hU hSe hst a709 _ ([k621] : List Int32) (byS b0 by0) (Nat.le_of_ble_eq_true rfl) h759 _ f760) (wd hw 40 rfl) (wd hw 39 rfl) (by decide) (by decide)) (W := 0) (argsL := [.ref a709]) (lenOf pd_22 rfl) rfl rfl rfl (Nat.le_of_eq rfl) (Nat.le_of_ble_eq_true rfl) (Nat.le_of_ble_eq_true rfl) fun v765 h766 ps762 q764 z763 => ?_
    obtain ⟨r, y, my, rfl, EO, XO, GO, SO⟩ := q764
    have f767 := Str.ext EO f760
    have f768 := Str.ext EO SE
    have sh766 := EO.1
    show Own.Run V K b_law _ h766 _ 18 3164 189 [.val (.int p0), .val (.int p1), .val (.int p2), .val (.int p3), .val (.int (1 : Int32)), .val (.int k621), .val (.int k622), .val (.int k623), .val (.ref a700), .val (.ref a709), .val (.ref a720), .val (.ref a749), .unset] [.ref r]
    refine r_astore [.val (.int p0), .val (.int p1), .val (.int p2), .val (.int p3), .val (.int (1 : Int32)), .val (.int k621), .val (.int k622), .val (.int k623), .val (.ref a700), .val (.ref a709), .val (.ref a720), .val (.ref a749), .val (.ref r)] 191 rfl at_189 rfl rfl ?_
    refine r_aload 193 rfl at_191 rfl rfl ?_
    refine r_ifnonnull_t 198 at_193 (by decide) rfl ?_
    refine r_aload 200 rfl at_198 rfl rfl ?_
    refine r_aload 202 rfl at_200 rfl rfl ?_
    refine r_virtualUp 205 rfl at_202 hn (wd hw 231 rfl) (wd hw 232 rfl) (wd hw 233 rfl) (wd hw 235 rfl) (wd hw 234 rfl) (by decide) XO (Pays.con (K := K) (B := b_law) (c_gm V hw r y h766 _ GO) (wd hw 236 rfl) (wd hw 192 rfl) (by decide) (by decide)) (W := 1) (argsL := []) (lenOf pd_18 rfl) rfl rfl rfl (Nat.le_of_eq rfl) (Nat.le_of_ble_eq_true rfl) (Nat.le_of_ble_eq_true rfl) fun v772 h773 ps769 q771 z770 => ?_
    obtain ⟨rfl, es774⟩ := q771
    subst h773
    show Own.Run V K b_law _ h766 _ 18 3164 205 [.val (.int p0), .val (.int p1), .val (.int p2), .val (.int p3), .val (.int (1 : Int32)), .val (.int k621), .val (.int k622), .val (.int k623), .val (.ref a700), .val (.ref a709), .val (.ref a720), .val (.ref a749), .val (.ref r)] [.ref y, .ref a749]
    have SO' : Str V h766 my y ([76, 97, 122, 111, 32, 100, 111, 101, 115, 32, 110, 111, 116, 32, 115, 117, 112, 112, 111, 114, 116, 32, k621, 32, 121, 101, 116] : List Int32) := SO
    refine Run.old fun OZ => ?_
    refine r_virtual 208 rfl at_205 (wd hw 237 rfl) (wd hw 238 rfl) (wd hw 240 rfl) (wd hw 239 rfl) (nfS (wd hw 240 rfl)) (by decide) (f768).exa (pay_eq V hw K b_law 0 a749 y _ my ([76, 97, 122, 111, 32, 100, 111, 101, 115, 32, 110, 111, 116, 32, 115, 117, 112, 112, 111, 114, 116, 32, k621, 32, 121, 101, 116] : List Int32) ([76, 97, 122, 111, 32, 100, 111, 101, 115, 32, 110, 111, 116, 32, 115, 117, 112, 112, 111, 114, 116, 32, k621, 32, 121, 101, 116] : List Int32) h766 _ f768 SO' OZ cz hCS hcz (by decide) (by decide)) (W := 0) (argsL := [.ref y]) (lenOf pd_23 rfl) rfl rfl rfl (Nat.le_of_eq rfl) (Nat.le_of_ble_eq_true rfl) (Nat.le_of_ble_eq_true rfl) fun v778 h779 ps775 q777 z776 => ?_
    obtain ⟨ee, rfl, es780, he⟩ := q777
    subst h779
    show Own.Run V K b_law _ h766 _ 18 3164 208 [.val (.int p0), .val (.int p1), .val (.int p2), .val (.int p3), .val (.int (1 : Int32)), .val (.int k621), .val (.int k622), .val (.int k623), .val (.ref a700), .val (.ref a709), .val (.ref a720), .val (.ref a749), .val (.ref r)] [.int ee]
    obtain rfl : ee = 1 := he.elim (fun q => q.1) (fun q => absurd rfl q.2)
    refine r_nret (t := .boolean) (1 : Int32) rfl (by simp) rfl at_208 (by decide) (by decide) [] (fun _ q => nomatch q) ?_
    rfl
  · refine r_iload 31 rfl at_29 rfl ?_
    refine r_newarray 2 33 rfl at_31 (wd hw 0 rfl) (by decide) (by decide) (by decide) (by decide) (by decide) fun a781 h782 k783 ga781 za781 Eh782 Aa781 => ?_
    have sh782 := Eh782.1
    have la781 := ltN Aa781.lt
    have f784 : Arv V.Z h782 a781 k783 .char (2 : Int32) [.int 0, .int 0] (.int 0) := Arv.pad Aa781 (pad_rep [] (.int 0) 2)
    refine r_astore [.val (.int p0), .val (.int p1), .val (.int p2), .val (.int p3), .val (.int (2 : Int32)), .val (.int k621), .val (.int k622), .val (.int k623), .val (.ref a781), .unset, .unset, .unset, .unset] 35 rfl at_33 rfl rfl ?_
    refine r_iload 37 rfl at_35 rfl ?_
    refine r_if_le 46 40 at_37 (by decide) rfl rfl (fun c785 => ?_) (fun c785 => ?_)
    · exact absurd c785 (by decide)
    refine r_aload 42 rfl at_40 rfl rfl ?_
    refine r_iconst (0 : Int32) 43 rfl at_42 rfl ?_
    refine r_iload 45 rfl at_43 rfl ?_
    refine r_castore 0 46 rfl at_45 f784 (by decide) rfl (Nat.le_of_ble_eq_true rfl) za781 k621 (nby b0) fun h786 Wh786 f787 => ?_
    have sh786 := Wh786.size
    replace f787 : Arv V.Z h786 a781 k783 .char (2 : Int32) [.int k621, .int 0] (.int 0) := f787
    refine r_iload 48 rfl at_46 rfl ?_
    refine r_iconst (1 : Int32) 49 rfl at_48 rfl ?_
    refine r_icmp_le 58 52 at_49 (by decide) rfl rfl (fun c788 => ?_) (fun c788 => ?_)
    · exact absurd c788 (by decide)
    refine r_aload 54 rfl at_52 rfl rfl ?_
    refine r_iconst (1 : Int32) 55 rfl at_54 rfl ?_
    refine r_iload 57 rfl at_55 rfl ?_
    refine r_castore 1 58 rfl at_57 f787 (by decide) rfl (Nat.le_of_ble_eq_true rfl) za781 k622 (nby b1) fun h789 Wh789 f790 => ?_
    have sh789 := Wh789.size
    replace f790 : Arv V.Z h789 a781 k783 .char (2 : Int32) [.int k621, .int k622] (.int 0) := f790
    refine r_iload 60 rfl at_58 rfl ?_
    refine r_iconst (2 : Int32) 61 rfl at_60 rfl ?_
    refine r_icmp_le 70 64 at_61 (by decide) rfl rfl (fun c791 => ?_) (fun c791 => ?_)
    rotate_left
    · exact absurd c791 (by decide)
    refine r_new 73 rfl at_70 (wd hw 1 rfl) (wd hw 2 rfl) (wd hw 3 rfl) (by decide) (by decide) fun a792 h793 ga792 za792 Eh793 Xa792 Da792 => ?_
    have f794 := f790.ext Eh793
    have sh793 := Eh793.1
    have la792 := ltN Xa792.lt
    have f795 : Fld V.Z h793 a792 "java/lang/String" "value" "[B" (.null) := Da792 (Or.inr (wd hw 16 rfl)) (ty := (.array .byte)) (by decide)
    have f796 : Fld V.Z h793 a792 "java/lang/String" "coder" "B" (.int (0 : Int32)) := Da792 (Or.inr (wd hw 17 rfl)) (ty := .byte) (by decide)
    refine r_dup 74 rfl at_73 rfl ?_
    refine r_aload 76 rfl at_74 rfl rfl ?_
    refine Run.old fun OXN => ?_
    have lxN' : a792 < h793.size := by omega
    refine r_special 79 rfl at_76 rfl (wd hw 4 rfl) (wd hw 5 rfl) (wd hw 6 rfl) (by decide) (pay_newN V hw K b_law 1 a792 a781 _ ([k621, k622] : List Int32) _ h793 _ _ _ _ za792 (Nat.le_trans za792 (Nat.le_of_lt lxN')) Xa792 f795 f796 f794 OXN cz hCS hcz rfl (Nat.le_of_ble_eq_true rfl) (Nat.le_of_ble_eq_true rfl) (byS b0 (byS b1 by0)) (by simp) (by decide) (by decide)) (W := 1) (argsL := [.ref a781]) (lenOf pd_1 rfl) rfl rfl rfl (Nat.le_of_eq rfl) (Nat.le_of_ble_eq_true rfl) (Nat.le_of_ble_eq_true rfl) fun v800 h801 ps797 q799 z798 => ?_
    obtain ⟨rfl, KN, SN⟩ := q799
    have f802 := Exa.keep Xa792 KN
    show Own.Run V K b_law _ h801 _ 3 8 79 [.val (.int p0), .val (.int p1), .val (.int p2), .val (.int p3), .val (.int (2 : Int32)), .val (.int k621), .val (.int k622), .val (.int k623), .val (.ref a781), .unset, .unset, .unset, .unset] [.ref a792]
    have sh801 := KN.1
    have bbN := SN.lt
    refine r_astore [.val (.int p0), .val (.int p1), .val (.int p2), .val (.int p3), .val (.int (2 : Int32)), .val (.int k621), .val (.int k622), .val (.int k623), .val (.ref a781), .val (.ref a792), .unset, .unset, .unset] 81 rfl at_79 rfl rfl ?_
    refine r_bipush (26 : Int32) 83 rfl at_81 rfl ?_
    refine r_iload 85 rfl at_83 rfl ?_
    refine r_iadd 86 rfl at_85 ?_
    rw [show (26 : Int32) + 2 = 28 from by decide]
    refine r_newarray 28 88 rfl at_86 (wd hw 0 rfl) (by decide) (by decide) (by decide) (by decide) (by decide) fun a803 h804 k805 ga803 za803 Eh804 Aa803 => ?_
    have f806 := Str.ext Eh804 SN
    have sh804 := Eh804.1
    have la803 := ltN Aa803.lt
    have f807 : Arv V.Z h804 a803 k805 .char (28 : Int32) [.int 0, .int 0, .int 0, .int 0, .int 0, .int 0, .int 0, .int 0, .int 0, .int 0, .int 0, .int 0, .int 0, .int 0, .int 0, .int 0, .int 0, .int 0, .int 0, .int 0, .int 0, .int 0, .int 0, .int 0, .int 0, .int 0, .int 0, .int 0] (.int 0) := Arv.pad Aa803 (pad_rep [] (.int 0) 28)
    refine r_astore [.val (.int p0), .val (.int p1), .val (.int p2), .val (.int p3), .val (.int (2 : Int32)), .val (.int k621), .val (.int k622), .val (.int k623), .val (.ref a781), .val (.ref a792), .val (.ref a803), .unset, .unset] 90 rfl at_88 rfl rfl ?_
    refine r_aload 92 rfl at_90 rfl rfl ?_
    refine r_static 95 rfl at_92 (wd hw 22 rfl) (wd hw 23 rfl) (wd hw 24 rfl) (wd hw 25 rfl) (by decide) (Pays.con (K := K) (B := b_law) (c_pf2 V hw a803 k805 h804 _ za803 f807) (wd hw 25 rfl) (wd hw 24 rfl) (by decide) (by decide)) (W := 0) (argsL := [.ref a803]) (lenOf pd_1 rfl) rfl rfl rfl (Nat.le_of_eq rfl) (Nat.le_of_ble_eq_true rfl) (Nat.le_of_ble_eq_true rfl) fun v811 h812 ps808 q810 z809 => ?_
    obtain ⟨rfl, KP, AP⟩ := q810
    have f813 : Str V h812 h801.size a792 ([k621, k622] : List Int32) := by first | exact Str.keep KP (fun w hw' => by cases List.mem_singleton.mp hw'; exact leA (by omega)) f806 | exact Str.keepA KP f807 (by decide) (wd hw 2 rfl) f806
    show Own.Run V K b_law _ h812 _ 4 36 95 [.val (.int p0), .val (.int p1), .val (.int p2), .val (.int p3), .val (.int (2 : Int32)), .val (.int k621), .val (.int k622), .val (.int k623), .val (.ref a781), .val (.ref a792), .val (.ref a803), .unset, .unset] []
    have sh812 := KP.1
    refine r_iload 97 rfl at_95 rfl ?_
    refine r_if_le 107 100 at_97 (by decide) rfl rfl (fun c814 => ?_) (fun c814 => ?_)
    · exact absurd c814 (by decide)
    refine r_aload 102 rfl at_100 rfl rfl ?_
    refine r_bipush (22 : Int32) 104 rfl at_102 rfl ?_
    refine r_iload 106 rfl at_104 rfl ?_
    refine r_castore 22 107 rfl at_106 AP (by decide) rfl (Nat.le_of_ble_eq_true rfl) za803 k621 (nby b0) fun h815 Wh815 f816 => ?_
    have sh815 := Wh815.size
    have f817 : Str V h815 h801.size a792 ([k621, k622] : List Int32) := by first | exact Str.keep (Keep.of_wr Wh815) (fun w hw' => by cases List.mem_singleton.mp hw'; exact leA (by omega)) f813 | exact Str.keepA (Keep.of_wr Wh815) AP (by decide) (wd hw 2 rfl) f813
    replace f816 : Arv V.Z h815 a803 k805 .char (28 : Int32) [.int 76, .int 97, .int 122, .int 111, .int 32, .int 100, .int 111, .int 101, .int 115, .int 32, .int 110, .int 111, .int 116, .int 32, .int 115, .int 117, .int 112, .int 112, .int 111, .int 114, .int 116, .int 32, .int k621, .int 0, .int 0, .int 0, .int 0, .int 0] (.int 0) := f816
    refine r_iload 109 rfl at_107 rfl ?_
    refine r_iconst (1 : Int32) 110 rfl at_109 rfl ?_
    refine r_icmp_le 120 113 at_110 (by decide) rfl rfl (fun c818 => ?_) (fun c818 => ?_)
    · exact absurd c818 (by decide)
    refine r_aload 115 rfl at_113 rfl rfl ?_
    refine r_bipush (23 : Int32) 117 rfl at_115 rfl ?_
    refine r_iload 119 rfl at_117 rfl ?_
    refine r_castore 23 120 rfl at_119 f816 (by decide) rfl (Nat.le_of_ble_eq_true rfl) za803 k622 (nby b1) fun h819 Wh819 f820 => ?_
    have sh819 := Wh819.size
    have f821 : Str V h819 h801.size a792 ([k621, k622] : List Int32) := by first | exact Str.keep (Keep.of_wr Wh819) (fun w hw' => by cases List.mem_singleton.mp hw'; exact leA (by omega)) f817 | exact Str.keepA (Keep.of_wr Wh819) f816 (by decide) (wd hw 2 rfl) f817
    replace f820 : Arv V.Z h819 a803 k805 .char (28 : Int32) [.int 76, .int 97, .int 122, .int 111, .int 32, .int 100, .int 111, .int 101, .int 115, .int 32, .int 110, .int 111, .int 116, .int 32, .int 115, .int 117, .int 112, .int 112, .int 111, .int 114, .int 116, .int 32, .int k621, .int k622, .int 0, .int 0, .int 0, .int 0] (.int 0) := f820
    refine r_iload 122 rfl at_120 rfl ?_
    refine r_iconst (2 : Int32) 123 rfl at_122 rfl ?_
    refine r_icmp_le 133 126 at_123 (by decide) rfl rfl (fun c822 => ?_) (fun c822 => ?_)
    rotate_left
    · exact absurd c822 (by decide)
    refine r_aload 135 rfl at_133 rfl rfl ?_
    refine r_bipush (22 : Int32) 137 rfl at_135 rfl ?_
    refine r_iload 139 rfl at_137 rfl ?_
    refine r_iadd 140 rfl at_139 ?_
    rw [show (22 : Int32) + 2 = 24 from by decide]
    refine r_bipush (32 : Int32) 142 rfl at_140 rfl ?_
    refine r_castore 24 143 rfl at_142 f820 (by decide) rfl (Nat.le_of_ble_eq_true rfl) za803 (32 : Int32) (by decide) fun h823 Wh823 f824 => ?_
    have sh823 := Wh823.size
    have f825 : Str V h823 h801.size a792 ([k621, k622] : List Int32) := by first | exact Str.keep (Keep.of_wr Wh823) (fun w hw' => by cases List.mem_singleton.mp hw'; exact leA (by omega)) f821 | exact Str.keepA (Keep.of_wr Wh823) f820 (by decide) (wd hw 2 rfl) f821
    replace f824 : Arv V.Z h823 a803 k805 .char (28 : Int32) [.int 76, .int 97, .int 122, .int 111, .int 32, .int 100, .int 111, .int 101, .int 115, .int 32, .int 110, .int 111, .int 116, .int 32, .int 115, .int 117, .int 112, .int 112, .int 111, .int 114, .int 116, .int 32, .int k621, .int k622, .int (32 : Int32), .int 0, .int 0, .int 0] (.int 0) := f824
    refine r_aload 145 rfl at_143 rfl rfl ?_
    refine r_bipush (23 : Int32) 147 rfl at_145 rfl ?_
    refine r_iload 149 rfl at_147 rfl ?_
    refine r_iadd 150 rfl at_149 ?_
    rw [show (23 : Int32) + 2 = 25 from by decide]
    refine r_bipush (121 : Int32) 152 rfl at_150 rfl ?_
    refine r_castore 25 153 rfl at_152 f824 (by decide) rfl (Nat.le_of_ble_eq_true rfl) za803 (121 : Int32) (by decide) fun h826 Wh826 f827 => ?_
    have sh826 := Wh826.size
    have f828 : Str V h826 h801.size a792 ([k621, k622] : List Int32) := by first | exact Str.keep (Keep.of_wr Wh826) (fun w hw' => by cases List.mem_singleton.mp hw'; exact leA (by omega)) f825 | exact Str.keepA (Keep.of_wr Wh826) f824 (by decide) (wd hw 2 rfl) f825
    replace f827 : Arv V.Z h826 a803 k805 .char (28 : Int32) [.int 76, .int 97, .int 122, .int 111, .int 32, .int 100, .int 111, .int 101, .int 115, .int 32, .int 110, .int 111, .int 116, .int 32, .int 115, .int 117, .int 112, .int 112, .int 111, .int 114, .int 116, .int 32, .int k621, .int k622, .int (32 : Int32), .int (121 : Int32), .int 0, .int 0] (.int 0) := f827
    refine r_aload 155 rfl at_153 rfl rfl ?_
    refine r_bipush (24 : Int32) 157 rfl at_155 rfl ?_
    refine r_iload 159 rfl at_157 rfl ?_
    refine r_iadd 160 rfl at_159 ?_
    rw [show (24 : Int32) + 2 = 26 from by decide]
    refine r_bipush (101 : Int32) 162 rfl at_160 rfl ?_
    refine r_castore 26 163 rfl at_162 f827 (by decide) rfl (Nat.le_of_ble_eq_true rfl) za803 (101 : Int32) (by decide) fun h829 Wh829 f830 => ?_
    have sh829 := Wh829.size
    have f831 : Str V h829 h801.size a792 ([k621, k622] : List Int32) := by first | exact Str.keep (Keep.of_wr Wh829) (fun w hw' => by cases List.mem_singleton.mp hw'; exact leA (by omega)) f828 | exact Str.keepA (Keep.of_wr Wh829) f827 (by decide) (wd hw 2 rfl) f828
    replace f830 : Arv V.Z h829 a803 k805 .char (28 : Int32) [.int 76, .int 97, .int 122, .int 111, .int 32, .int 100, .int 111, .int 101, .int 115, .int 32, .int 110, .int 111, .int 116, .int 32, .int 115, .int 117, .int 112, .int 112, .int 111, .int 114, .int 116, .int 32, .int k621, .int k622, .int (32 : Int32), .int (121 : Int32), .int (101 : Int32), .int 0] (.int 0) := f830
    refine r_aload 165 rfl at_163 rfl rfl ?_
    refine r_bipush (25 : Int32) 167 rfl at_165 rfl ?_
    refine r_iload 169 rfl at_167 rfl ?_
    refine r_iadd 170 rfl at_169 ?_
    rw [show (25 : Int32) + 2 = 27 from by decide]
    refine r_bipush (116 : Int32) 172 rfl at_170 rfl ?_
    refine r_castore 27 173 rfl at_172 f830 (by decide) rfl (Nat.le_of_ble_eq_true rfl) za803 (116 : Int32) (by decide) fun h832 Wh832 f833 => ?_
    have sh832 := Wh832.size
    have f834 : Str V h832 h801.size a792 ([k621, k622] : List Int32) := by first | exact Str.keep (Keep.of_wr Wh832) (fun w hw' => by cases List.mem_singleton.mp hw'; exact leA (by omega)) f831 | exact Str.keepA (Keep.of_wr Wh832) f830 (by decide) (wd hw 2 rfl) f831
    replace f833 : Arv V.Z h832 a803 k805 .char (28 : Int32) [.int 76, .int 97, .int 122, .int 111, .int 32, .int 100, .int 111, .int 101, .int 115, .int 32, .int 110, .int 111, .int 116, .int 32, .int 115, .int 117, .int 112, .int 112, .int 111, .int 114, .int 116, .int 32, .int k621, .int k622, .int (32 : Int32), .int (121 : Int32), .int (101 : Int32), .int (116 : Int32)] (.int 0) := f833
    refine r_new 176 rfl at_173 (wd hw 1 rfl) (wd hw 2 rfl) (wd hw 3 rfl) (by decide) (by decide) fun a835 h836 ga835 za835 Eh836 Xa835 Da835 => ?_
    have f837 := Str.ext Eh836 f834
    have f838 := f833.ext Eh836
    have sh836 := Eh836.1
    have la835 := ltN Xa835.lt
    have f839 : Fld V.Z h836 a835 "java/lang/String" "value" "[B" (.null) := Da835 (Or.inr (wd hw 16 rfl)) (ty := (.array .byte)) (by decide)
    have f840 : Fld V.Z h836 a835 "java/lang/String" "coder" "B" (.int (0 : Int32)) := Da835 (Or.inr (wd hw 17 rfl)) (ty := .byte) (by decide)
    refine r_dup 177 rfl at_176 rfl ?_
    refine r_aload 179 rfl at_177 rfl rfl ?_
    refine Run.old fun OXE => ?_
    have lxE' : a835 < h836.size := by omega
    refine r_special 182 rfl at_179 rfl (wd hw 4 rfl) (wd hw 5 rfl) (wd hw 6 rfl) (by decide) (pay_newN V hw K b_law 1 a835 a803 _ ([76, 97, 122, 111, 32, 100, 111, 101, 115, 32, 110, 111, 116, 32, 115, 117, 112, 112, 111, 114, 116, 32, k621, k622, 32, 121, 101, 116] : List Int32) _ h836 _ _ _ _ za835 (Nat.le_trans za835 (Nat.le_of_lt lxE')) Xa835 f839 f840 f838 OXE cz hCS hcz rfl (Nat.le_of_ble_eq_true rfl) (Nat.le_of_ble_eq_true rfl) (byS ⟨by decide, by decide⟩ (byS ⟨by decide, by decide⟩ (byS ⟨by decide, by decide⟩ (byS ⟨by decide, by decide⟩ (byS ⟨by decide, by decide⟩ (byS ⟨by decide, by decide⟩ (byS ⟨by decide, by decide⟩ (byS ⟨by decide, by decide⟩ (byS ⟨by decide, by decide⟩ (byS ⟨by decide, by decide⟩ (byS ⟨by decide, by decide⟩ (byS ⟨by decide, by decide⟩ (byS ⟨by decide, by decide⟩ (byS ⟨by decide, by decide⟩ (byS ⟨by decide, by decide⟩ (byS ⟨by decide, by decide⟩ (byS ⟨by decide, by decide⟩ (byS ⟨by decide, by decide⟩ (byS ⟨by decide, by decide⟩ (byS ⟨by decide, by decide⟩ (byS ⟨by decide, by decide⟩ (byS ⟨by decide, by decide⟩ (byS b0 (byS b1 (byS ⟨by decide, by decide⟩ (byS ⟨by decide, by decide⟩ (byS ⟨by decide, by decide⟩ (byS ⟨by decide, by decide⟩ by0)))))))))))))))))))))))))))) (by simp) (by decide) (by decide)) (W := 1) (argsL := [.ref a803]) (lenOf pd_1 rfl) rfl rfl rfl (Nat.le_of_eq rfl) (Nat.le_of_ble_eq_true rfl) (Nat.le_of_ble_eq_true rfl) fun v844 h845 ps841 q843 z842 => ?_
    obtain ⟨rfl, KE, SE⟩ := q843
    have f846 : Str V h845 h801.size a792 ([k621, k622] : List Int32) := by first | exact Str.keep KE (fun w hw' => by cases List.mem_singleton.mp hw'; exact leA (by omega)) f837
    have f847 := Exa.keep Xa835 KE
    show Own.Run V K b_law _ h845 _ 6 68 182 [.val (.int p0), .val (.int p1), .val (.int p2), .val (.int p3), .val (.int (2 : Int32)), .val (.int k621), .val (.int k622), .val (.int k623), .val (.ref a781), .val (.ref a792), .val (.ref a803), .unset, .unset] [.ref a835]
    have sh845 := KE.1
    have bbE := SE.lt
    refine r_astore [.val (.int p0), .val (.int p1), .val (.int p2), .val (.int p3), .val (.int (2 : Int32)), .val (.int k621), .val (.int k622), .val (.int k623), .val (.ref a781), .val (.ref a792), .val (.ref a803), .val (.ref a835), .unset] 184 rfl at_182 rfl rfl ?_
    refine r_aload 186 rfl at_184 rfl rfl ?_
    refine r_static 189 rfl at_186 (wd hw 37 rfl) (wd hw 38 rfl) (wd hw 39 rfl) (wd hw 40 rfl) (by decide) (Pays.conK (K := K) (B := b_law) hk hn (c_op V hw hm hn cz hCS hcz hl12 hl18 u0 sen hU hSe hst a792 _ ([k621, k622] : List Int32) (byS b0 (byS b1 by0)) (Nat.le_of_ble_eq_true rfl) h845 _ f846) (wd hw 40 rfl) (wd hw 39 rfl) (by decide) (by decide)) (W := 0) (argsL := [.ref a792]) (lenOf pd_22 rfl) rfl rfl rfl (Nat.le_of_eq rfl) (Nat.le_of_ble_eq_true rfl) (Nat.le_of_ble_eq_true rfl) fun v851 h852 ps848 q850 z849 => ?_
    obtain ⟨r, y, my, rfl, EO, XO, GO, SO⟩ := q850
    have f853 := Str.ext EO f846
    have f854 := Str.ext EO SE
    have sh852 := EO.1
    show Own.Run V K b_law _ h852 _ 18 3168 189 [.val (.int p0), .val (.int p1), .val (.int p2), .val (.int p3), .val (.int (2 : Int32)), .val (.int k621), .val (.int k622), .val (.int k623), .val (.ref a781), .val (.ref a792), .val (.ref a803), .val (.ref a835), .unset] [.ref r]
    refine r_astore [.val (.int p0), .val (.int p1), .val (.int p2), .val (.int p3), .val (.int (2 : Int32)), .val (.int k621), .val (.int k622), .val (.int k623), .val (.ref a781), .val (.ref a792), .val (.ref a803), .val (.ref a835), .val (.ref r)] 191 rfl at_189 rfl rfl ?_
    refine r_aload 193 rfl at_191 rfl rfl ?_
    refine r_ifnonnull_t 198 at_193 (by decide) rfl ?_
    refine r_aload 200 rfl at_198 rfl rfl ?_
    refine r_aload 202 rfl at_200 rfl rfl ?_
    refine r_virtualUp 205 rfl at_202 hn (wd hw 231 rfl) (wd hw 232 rfl) (wd hw 233 rfl) (wd hw 235 rfl) (wd hw 234 rfl) (by decide) XO (Pays.con (K := K) (B := b_law) (c_gm V hw r y h852 _ GO) (wd hw 236 rfl) (wd hw 192 rfl) (by decide) (by decide)) (W := 1) (argsL := []) (lenOf pd_18 rfl) rfl rfl rfl (Nat.le_of_eq rfl) (Nat.le_of_ble_eq_true rfl) (Nat.le_of_ble_eq_true rfl) fun v858 h859 ps855 q857 z856 => ?_
    obtain ⟨rfl, es860⟩ := q857
    subst h859
    show Own.Run V K b_law _ h852 _ 18 3168 205 [.val (.int p0), .val (.int p1), .val (.int p2), .val (.int p3), .val (.int (2 : Int32)), .val (.int k621), .val (.int k622), .val (.int k623), .val (.ref a781), .val (.ref a792), .val (.ref a803), .val (.ref a835), .val (.ref r)] [.ref y, .ref a835]
    have SO' : Str V h852 my y ([76, 97, 122, 111, 32, 100, 111, 101, 115, 32, 110, 111, 116, 32, 115, 117, 112, 112, 111, 114, 116, 32, k621, k622, 32, 121, 101, 116] : List Int32) := SO
    refine Run.old fun OZ => ?_
    refine r_virtual 208 rfl at_205 (wd hw 237 rfl) (wd hw 238 rfl) (wd hw 240 rfl) (wd hw 239 rfl) (nfS (wd hw 240 rfl)) (by decide) (f854).exa (pay_eq V hw K b_law 0 a835 y _ my ([76, 97, 122, 111, 32, 100, 111, 101, 115, 32, 110, 111, 116, 32, 115, 117, 112, 112, 111, 114, 116, 32, k621, k622, 32, 121, 101, 116] : List Int32) ([76, 97, 122, 111, 32, 100, 111, 101, 115, 32, 110, 111, 116, 32, 115, 117, 112, 112, 111, 114, 116, 32, k621, k622, 32, 121, 101, 116] : List Int32) h852 _ f854 SO' OZ cz hCS hcz (by decide) (by decide)) (W := 0) (argsL := [.ref y]) (lenOf pd_23 rfl) rfl rfl rfl (Nat.le_of_eq rfl) (Nat.le_of_ble_eq_true rfl) (Nat.le_of_ble_eq_true rfl) fun v864 h865 ps861 q863 z862 => ?_
    obtain ⟨ee, rfl, es866, he⟩ := q863
    subst h865
    show Own.Run V K b_law _ h852 _ 18 3168 208 [.val (.int p0), .val (.int p1), .val (.int p2), .val (.int p3), .val (.int (2 : Int32)), .val (.int k621), .val (.int k622), .val (.int k623), .val (.ref a781), .val (.ref a792), .val (.ref a803), .val (.ref a835), .val (.ref r)] [.int ee]
    obtain rfl : ee = 1 := he.elim (fun q => q.1) (fun q => absurd rfl q.2)
    refine r_nret (t := .boolean) (1 : Int32) rfl (by simp) rfl at_208 (by decide) (by decide) [] (fun _ q => nomatch q) ?_
    rfl
  · refine r_iload 31 rfl at_29 rfl ?_
    refine r_newarray 3 33 rfl at_31 (wd hw 0 rfl) (by decide) (by decide) (by decide) (by decide) (by decide) fun a867 h868 k869 ga867 za867 Eh868 Aa867 => ?_
    have sh868 := Eh868.1
    have la867 := ltN Aa867.lt
    have f870 : Arv V.Z h868 a867 k869 .char (3 : Int32) [.int 0, .int 0, .int 0] (.int 0) := Arv.pad Aa867 (pad_rep [] (.int 0) 3)
    refine r_astore [.val (.int p0), .val (.int p1), .val (.int p2), .val (.int p3), .val (.int (3 : Int32)), .val (.int k621), .val (.int k622), .val (.int k623), .val (.ref a867), .unset, .unset, .unset, .unset] 35 rfl at_33 rfl rfl ?_
    refine r_iload 37 rfl at_35 rfl ?_
    refine r_if_le 46 40 at_37 (by decide) rfl rfl (fun c871 => ?_) (fun c871 => ?_)
    · exact absurd c871 (by decide)
    refine r_aload 42 rfl at_40 rfl rfl ?_
    refine r_iconst (0 : Int32) 43 rfl at_42 rfl ?_
    refine r_iload 45 rfl at_43 rfl ?_
    refine r_castore 0 46 rfl at_45 f870 (by decide) rfl (Nat.le_of_ble_eq_true rfl) za867 k621 (nby b0) fun h872 Wh872 f873 => ?_
    have sh872 := Wh872.size
    replace f873 : Arv V.Z h872 a867 k869 .char (3 : Int32) [.int k621, .int 0, .int 0] (.int 0) := f873
    refine r_iload 48 rfl at_46 rfl ?_
    refine r_iconst (1 : Int32) 49 rfl at_48 rfl ?_
    refine r_icmp_le 58 52 at_49 (by decide) rfl rfl (fun c874 => ?_) (fun c874 => ?_)
    · exact absurd c874 (by decide)
    refine r_aload 54 rfl at_52 rfl rfl ?_
    refine r_iconst (1 : Int32) 55 rfl at_54 rfl ?_
    refine r_iload 57 rfl at_55 rfl ?_
    refine r_castore 1 58 rfl at_57 f873 (by decide) rfl (Nat.le_of_ble_eq_true rfl) za867 k622 (nby b1) fun h875 Wh875 f876 => ?_
    have sh875 := Wh875.size
    replace f876 : Arv V.Z h875 a867 k869 .char (3 : Int32) [.int k621, .int k622, .int 0] (.int 0) := f876
    refine r_iload 60 rfl at_58 rfl ?_
    refine r_iconst (2 : Int32) 61 rfl at_60 rfl ?_
    refine r_icmp_le 70 64 at_61 (by decide) rfl rfl (fun c877 => ?_) (fun c877 => ?_)
    · exact absurd c877 (by decide)
    refine r_aload 66 rfl at_64 rfl rfl ?_
    refine r_iconst (2 : Int32) 67 rfl at_66 rfl ?_
    refine r_iload 69 rfl at_67 rfl ?_
    refine r_castore 2 70 rfl at_69 f876 (by decide) rfl (Nat.le_of_ble_eq_true rfl) za867 k623 (nby b2) fun h878 Wh878 f879 => ?_
    have sh878 := Wh878.size
    replace f879 : Arv V.Z h878 a867 k869 .char (3 : Int32) [.int k621, .int k622, .int k623] (.int 0) := f879
    refine r_new 73 rfl at_70 (wd hw 1 rfl) (wd hw 2 rfl) (wd hw 3 rfl) (by decide) (by decide) fun a880 h881 ga880 za880 Eh881 Xa880 Da880 => ?_
    have f882 := f879.ext Eh881
    have sh881 := Eh881.1
    have la880 := ltN Xa880.lt
    have f883 : Fld V.Z h881 a880 "java/lang/String" "value" "[B" (.null) := Da880 (Or.inr (wd hw 16 rfl)) (ty := (.array .byte)) (by decide)
    have f884 : Fld V.Z h881 a880 "java/lang/String" "coder" "B" (.int (0 : Int32)) := Da880 (Or.inr (wd hw 17 rfl)) (ty := .byte) (by decide)
    refine r_dup 74 rfl at_73 rfl ?_
    refine r_aload 76 rfl at_74 rfl rfl ?_
    refine Run.old fun OXN => ?_
    have lxN' : a880 < h881.size := by omega
    refine r_special 79 rfl at_76 rfl (wd hw 4 rfl) (wd hw 5 rfl) (wd hw 6 rfl) (by decide) (pay_newN V hw K b_law 1 a880 a867 _ ([k621, k622, k623] : List Int32) _ h881 _ _ _ _ za880 (Nat.le_trans za880 (Nat.le_of_lt lxN')) Xa880 f883 f884 f882 OXN cz hCS hcz rfl (Nat.le_of_ble_eq_true rfl) (Nat.le_of_ble_eq_true rfl) (byS b0 (byS b1 (byS b2 by0))) (by simp) (by decide) (by decide)) (W := 1) (argsL := [.ref a867]) (lenOf pd_1 rfl) rfl rfl rfl (Nat.le_of_eq rfl) (Nat.le_of_ble_eq_true rfl) (Nat.le_of_ble_eq_true rfl) fun v888 h889 ps885 q887 z886 => ?_
    obtain ⟨rfl, KN, SN⟩ := q887
    have f890 := Exa.keep Xa880 KN
    show Own.Run V K b_law _ h889 _ 3 10 79 [.val (.int p0), .val (.int p1), .val (.int p2), .val (.int p3), .val (.int (3 : Int32)), .val (.int k621), .val (.int k622), .val (.int k623), .val (.ref a867), .unset, .unset, .unset, .unset] [.ref a880]
    have sh889 := KN.1
    have bbN := SN.lt
    refine r_astore [.val (.int p0), .val (.int p1), .val (.int p2), .val (.int p3), .val (.int (3 : Int32)), .val (.int k621), .val (.int k622), .val (.int k623), .val (.ref a867), .val (.ref a880), .unset, .unset, .unset] 81 rfl at_79 rfl rfl ?_
    refine r_bipush (26 : Int32) 83 rfl at_81 rfl ?_
    refine r_iload 85 rfl at_83 rfl ?_
    refine r_iadd 86 rfl at_85 ?_
    rw [show (26 : Int32) + 3 = 29 from by decide]
    refine r_newarray 29 88 rfl at_86 (wd hw 0 rfl) (by decide) (by decide) (by decide) (by decide) (by decide) fun a891 h892 k893 ga891 za891 Eh892 Aa891 => ?_
    have f894 := Str.ext Eh892 SN
    have sh892 := Eh892.1
    have la891 := ltN Aa891.lt
    have f895 : Arv V.Z h892 a891 k893 .char (29 : Int32) [.int 0, .int 0, .int 0, .int 0, .int 0, .int 0, .int 0, .int 0, .int 0, .int 0, .int 0, .int 0, .int 0, .int 0, .int 0, .int 0, .int 0, .int 0, .int 0, .int 0, .int 0, .int 0, .int 0, .int 0, .int 0, .int 0, .int 0, .int 0, .int 0] (.int 0) := Arv.pad Aa891 (pad_rep [] (.int 0) 29)
    refine r_astore [.val (.int p0), .val (.int p1), .val (.int p2), .val (.int p3), .val (.int (3 : Int32)), .val (.int k621), .val (.int k622), .val (.int k623), .val (.ref a867), .val (.ref a880), .val (.ref a891), .unset, .unset] 90 rfl at_88 rfl rfl ?_
    refine r_aload 92 rfl at_90 rfl rfl ?_
    refine r_static 95 rfl at_92 (wd hw 22 rfl) (wd hw 23 rfl) (wd hw 24 rfl) (wd hw 25 rfl) (by decide) (Pays.con (K := K) (B := b_law) (c_pf3 V hw a891 k893 h892 _ za891 f895) (wd hw 25 rfl) (wd hw 24 rfl) (by decide) (by decide)) (W := 0) (argsL := [.ref a891]) (lenOf pd_1 rfl) rfl rfl rfl (Nat.le_of_eq rfl) (Nat.le_of_ble_eq_true rfl) (Nat.le_of_ble_eq_true rfl) fun v899 h900 ps896 q898 z897 => ?_
    obtain ⟨rfl, KP, AP⟩ := q898
    have f901 : Str V h900 h889.size a880 ([k621, k622, k623] : List Int32) := by first | exact Str.keep KP (fun w hw' => by cases List.mem_singleton.mp hw'; exact leA (by omega)) f894 | exact Str.keepA KP f895 (by decide) (wd hw 2 rfl) f894
    show Own.Run V K b_law _ h900 _ 4 39 95 [.val (.int p0), .val (.int p1), .val (.int p2), .val (.int p3), .val (.int (3 : Int32)), .val (.int k621), .val (.int k622), .val (.int k623), .val (.ref a867), .val (.ref a880), .val (.ref a891), .unset, .unset] []
    have sh900 := KP.1
    refine r_iload 97 rfl at_95 rfl ?_
    refine r_if_le 107 100 at_97 (by decide) rfl rfl (fun c902 => ?_) (fun c902 => ?_)
    · exact absurd c902 (by decide)
    refine r_aload 102 rfl at_100 rfl rfl ?_
    refine r_bipush (22 : Int32) 104 rfl at_102 rfl ?_
    refine r_iload 106 rfl at_104 rfl ?_
    refine r_castore 22 107 rfl at_106 AP (by decide) rfl (Nat.le_of_ble_eq_true rfl) za891 k621 (nby b0) fun h903 Wh903 f904 => ?_
    have sh903 := Wh903.size
    have f905 : Str V h903 h889.size a880 ([k621, k622, k623] : List Int32) := by first | exact Str.keep (Keep.of_wr Wh903) (fun w hw' => by cases List.mem_singleton.mp hw'; exact leA (by omega)) f901 | exact Str.keepA (Keep.of_wr Wh903) AP (by decide) (wd hw 2 rfl) f901
    replace f904 : Arv V.Z h903 a891 k893 .char (29 : Int32) [.int 76, .int 97, .int 122, .int 111, .int 32, .int 100, .int 111, .int 101, .int 115, .int 32, .int 110, .int 111, .int 116, .int 32, .int 115, .int 117, .int 112, .int 112, .int 111, .int 114, .int 116, .int 32, .int k621, .int 0, .int 0, .int 0, .int 0, .int 0, .int 0] (.int 0) := f904
    refine r_iload 109 rfl at_107 rfl ?_
    refine r_iconst (1 : Int32) 110 rfl at_109 rfl ?_
    refine r_icmp_le 120 113 at_110 (by decide) rfl rfl (fun c906 => ?_) (fun c906 => ?_)
    · exact absurd c906 (by decide)
    refine r_aload 115 rfl at_113 rfl rfl ?_
    refine r_bipush (23 : Int32) 117 rfl at_115 rfl ?_
    refine r_iload 119 rfl at_117 rfl ?_
    refine r_castore 23 120 rfl at_119 f904 (by decide) rfl (Nat.le_of_ble_eq_true rfl) za891 k622 (nby b1) fun h907 Wh907 f908 => ?_
    have sh907 := Wh907.size
    have f909 : Str V h907 h889.size a880 ([k621, k622, k623] : List Int32) := by first | exact Str.keep (Keep.of_wr Wh907) (fun w hw' => by cases List.mem_singleton.mp hw'; exact leA (by omega)) f905 | exact Str.keepA (Keep.of_wr Wh907) f904 (by decide) (wd hw 2 rfl) f905
    replace f908 : Arv V.Z h907 a891 k893 .char (29 : Int32) [.int 76, .int 97, .int 122, .int 111, .int 32, .int 100, .int 111, .int 101, .int 115, .int 32, .int 110, .int 111, .int 116, .int 32, .int 115, .int 117, .int 112, .int 112, .int 111, .int 114, .int 116, .int 32, .int k621, .int k622, .int 0, .int 0, .int 0, .int 0, .int 0] (.int 0) := f908
    refine r_iload 122 rfl at_120 rfl ?_
    refine r_iconst (2 : Int32) 123 rfl at_122 rfl ?_
    refine r_icmp_le 133 126 at_123 (by decide) rfl rfl (fun c910 => ?_) (fun c910 => ?_)
    · exact absurd c910 (by decide)
    refine r_aload 128 rfl at_126 rfl rfl ?_
    refine r_bipush (24 : Int32) 130 rfl at_128 rfl ?_
    refine r_iload 132 rfl at_130 rfl ?_
    refine r_castore 24 133 rfl at_132 f908 (by decide) rfl (Nat.le_of_ble_eq_true rfl) za891 k623 (nby b2) fun h911 Wh911 f912 => ?_
    have sh911 := Wh911.size
    have f913 : Str V h911 h889.size a880 ([k621, k622, k623] : List Int32) := by first | exact Str.keep (Keep.of_wr Wh911) (fun w hw' => by cases List.mem_singleton.mp hw'; exact leA (by omega)) f909 | exact Str.keepA (Keep.of_wr Wh911) f908 (by decide) (wd hw 2 rfl) f909
    replace f912 : Arv V.Z h911 a891 k893 .char (29 : Int32) [.int 76, .int 97, .int 122, .int 111, .int 32, .int 100, .int 111, .int 101, .int 115, .int 32, .int 110, .int 111, .int 116, .int 32, .int 115, .int 117, .int 112, .int 112, .int 111, .int 114, .int 116, .int 32, .int k621, .int k622, .int k623, .int 0, .int 0, .int 0, .int 0] (.int 0) := f912
    refine r_aload 135 rfl at_133 rfl rfl ?_
    refine r_bipush (22 : Int32) 137 rfl at_135 rfl ?_
    refine r_iload 139 rfl at_137 rfl ?_
    refine r_iadd 140 rfl at_139 ?_
    rw [show (22 : Int32) + 3 = 25 from by decide]
    refine r_bipush (32 : Int32) 142 rfl at_140 rfl ?_
    refine r_castore 25 143 rfl at_142 f912 (by decide) rfl (Nat.le_of_ble_eq_true rfl) za891 (32 : Int32) (by decide) fun h914 Wh914 f915 => ?_
    have sh914 := Wh914.size
    have f916 : Str V h914 h889.size a880 ([k621, k622, k623] : List Int32) := by first | exact Str.keep (Keep.of_wr Wh914) (fun w hw' => by cases List.mem_singleton.mp hw'; exact leA (by omega)) f913 | exact Str.keepA (Keep.of_wr Wh914) f912 (by decide) (wd hw 2 rfl) f913
    replace f915 : Arv V.Z h914 a891 k893 .char (29 : Int32) [.int 76, .int 97, .int 122, .int 111, .int 32, .int 100, .int 111, .int 101, .int 115, .int 32, .int 110, .int 111, .int 116, .int 32, .int 115, .int 117, .int 112, .int 112, .int 111, .int 114, .int 116, .int 32, .int k621, .int k622, .int k623, .int (32 : Int32), .int 0, .int 0, .int 0] (.int 0) := f915
    refine r_aload 145 rfl at_143 rfl rfl ?_
    refine r_bipush (23 : Int32) 147 rfl at_145 rfl ?_
    refine r_iload 149 rfl at_147 rfl ?_
    refine r_iadd 150 rfl at_149 ?_
    rw [show (23 : Int32) + 3 = 26 from by decide]
    refine r_bipush (121 : Int32) 152 rfl at_150 rfl ?_
    refine r_castore 26 153 rfl at_152 f915 (by decide) rfl (Nat.le_of_ble_eq_true rfl) za891 (121 : Int32) (by decide) fun h917 Wh917 f918 => ?_
    have sh917 := Wh917.size
    have f919 : Str V h917 h889.size a880 ([k621, k622, k623] : List Int32) := by first | exact Str.keep (Keep.of_wr Wh917) (fun w hw' => by cases List.mem_singleton.mp hw'; exact leA (by omega)) f916 | exact Str.keepA (Keep.of_wr Wh917) f915 (by decide) (wd hw 2 rfl) f916
    replace f918 : Arv V.Z h917 a891 k893 .char (29 : Int32) [.int 76, .int 97, .int 122, .int 111, .int 32, .int 100, .int 111, .int 101, .int 115, .int 32, .int 110, .int 111, .int 116, .int 32, .int 115, .int 117, .int 112, .int 112, .int 111, .int 114, .int 116, .int 32, .int k621, .int k622, .int k623, .int (32 : Int32), .int (121 : Int32), .int 0, .int 0] (.int 0) := f918
    refine r_aload 155 rfl at_153 rfl rfl ?_
    refine r_bipush (24 : Int32) 157 rfl at_155 rfl ?_
    refine r_iload 159 rfl at_157 rfl ?_
    refine r_iadd 160 rfl at_159 ?_
    rw [show (24 : Int32) + 3 = 27 from by decide]
    refine r_bipush (101 : Int32) 162 rfl at_160 rfl ?_
    refine r_castore 27 163 rfl at_162 f918 (by decide) rfl (Nat.le_of_ble_eq_true rfl) za891 (101 : Int32) (by decide) fun h920 Wh920 f921 => ?_
    have sh920 := Wh920.size
    have f922 : Str V h920 h889.size a880 ([k621, k622, k623] : List Int32) := by first | exact Str.keep (Keep.of_wr Wh920) (fun w hw' => by cases List.mem_singleton.mp hw'; exact leA (by omega)) f919 | exact Str.keepA (Keep.of_wr Wh920) f918 (by decide) (wd hw 2 rfl) f919
    replace f921 : Arv V.Z h920 a891 k893 .char (29 : Int32) [.int 76, .int 97, .int 122, .int 111, .int 32, .int 100, .int 111, .int 101, .int 115, .int 32, .int 110, .int 111, .int 116, .int 32, .int 115, .int 117, .int 112, .int 112, .int 111, .int 114, .int 116, .int 32, .int k621, .int k622, .int k623, .int (32 : Int32), .int (121 : Int32), .int (101 : Int32), .int 0] (.int 0) := f921
    refine r_aload 165 rfl at_163 rfl rfl ?_
    refine r_bipush (25 : Int32) 167 rfl at_165 rfl ?_
    refine r_iload 169 rfl at_167 rfl ?_
    refine r_iadd 170 rfl at_169 ?_
    rw [show (25 : Int32) + 3 = 28 from by decide]
    refine r_bipush (116 : Int32) 172 rfl at_170 rfl ?_
    refine r_castore 28 173 rfl at_172 f921 (by decide) rfl (Nat.le_of_ble_eq_true rfl) za891 (116 : Int32) (by decide) fun h923 Wh923 f924 => ?_
    have sh923 := Wh923.size
    have f925 : Str V h923 h889.size a880 ([k621, k622, k623] : List Int32) := by first | exact Str.keep (Keep.of_wr Wh923) (fun w hw' => by cases List.mem_singleton.mp hw'; exact leA (by omega)) f922 | exact Str.keepA (Keep.of_wr Wh923) f921 (by decide) (wd hw 2 rfl) f922
    replace f924 : Arv V.Z h923 a891 k893 .char (29 : Int32) [.int 76, .int 97, .int 122, .int 111, .int 32, .int 100, .int 111, .int 101, .int 115, .int 32, .int 110, .int 111, .int 116, .int 32, .int 115, .int 117, .int 112, .int 112, .int 111, .int 114, .int 116, .int 32, .int k621, .int k622, .int k623, .int (32 : Int32), .int (121 : Int32), .int (101 : Int32), .int (116 : Int32)] (.int 0) := f924
    refine r_new 176 rfl at_173 (wd hw 1 rfl) (wd hw 2 rfl) (wd hw 3 rfl) (by decide) (by decide) fun a926 h927 ga926 za926 Eh927 Xa926 Da926 => ?_
    have f928 := Str.ext Eh927 f925
    have f929 := f924.ext Eh927
    have sh927 := Eh927.1
    have la926 := ltN Xa926.lt
    have f930 : Fld V.Z h927 a926 "java/lang/String" "value" "[B" (.null) := Da926 (Or.inr (wd hw 16 rfl)) (ty := (.array .byte)) (by decide)
    have f931 : Fld V.Z h927 a926 "java/lang/String" "coder" "B" (.int (0 : Int32)) := Da926 (Or.inr (wd hw 17 rfl)) (ty := .byte) (by decide)
    refine r_dup 177 rfl at_176 rfl ?_
    refine r_aload 179 rfl at_177 rfl rfl ?_
    refine Run.old fun OXE => ?_
    have lxE' : a926 < h927.size := by omega
    refine r_special 182 rfl at_179 rfl (wd hw 4 rfl) (wd hw 5 rfl) (wd hw 6 rfl) (by decide) (pay_newN V hw K b_law 1 a926 a891 _ ([76, 97, 122, 111, 32, 100, 111, 101, 115, 32, 110, 111, 116, 32, 115, 117, 112, 112, 111, 114, 116, 32, k621, k622, k623, 32, 121, 101, 116] : List Int32) _ h927 _ _ _ _ za926 (Nat.le_trans za926 (Nat.le_of_lt lxE')) Xa926 f930 f931 f929 OXE cz hCS hcz rfl (Nat.le_of_ble_eq_true rfl) (Nat.le_of_ble_eq_true rfl) (byS ⟨by decide, by decide⟩ (byS ⟨by decide, by decide⟩ (byS ⟨by decide, by decide⟩ (byS ⟨by decide, by decide⟩ (byS ⟨by decide, by decide⟩ (byS ⟨by decide, by decide⟩ (byS ⟨by decide, by decide⟩ (byS ⟨by decide, by decide⟩ (byS ⟨by decide, by decide⟩ (byS ⟨by decide, by decide⟩ (byS ⟨by decide, by decide⟩ (byS ⟨by decide, by decide⟩ (byS ⟨by decide, by decide⟩ (byS ⟨by decide, by decide⟩ (byS ⟨by decide, by decide⟩ (byS ⟨by decide, by decide⟩ (byS ⟨by decide, by decide⟩ (byS ⟨by decide, by decide⟩ (byS ⟨by decide, by decide⟩ (byS ⟨by decide, by decide⟩ (byS ⟨by decide, by decide⟩ (byS ⟨by decide, by decide⟩ (byS b0 (byS b1 (byS b2 (byS ⟨by decide, by decide⟩ (byS ⟨by decide, by decide⟩ (byS ⟨by decide, by decide⟩ (byS ⟨by decide, by decide⟩ by0))))))))))))))))))))))))))))) (by simp) (by decide) (by decide)) (W := 1) (argsL := [.ref a891]) (lenOf pd_1 rfl) rfl rfl rfl (Nat.le_of_eq rfl) (Nat.le_of_ble_eq_true rfl) (Nat.le_of_ble_eq_true rfl) fun v935 h936 ps932 q934 z933 => ?_
    obtain ⟨rfl, KE, SE⟩ := q934
    have f937 : Str V h936 h889.size a880 ([k621, k622, k623] : List Int32) := by first | exact Str.keep KE (fun w hw' => by cases List.mem_singleton.mp hw'; exact leA (by omega)) f928
    have f938 := Exa.keep Xa926 KE
    show Own.Run V K b_law _ h936 _ 6 72 182 [.val (.int p0), .val (.int p1), .val (.int p2), .val (.int p3), .val (.int (3 : Int32)), .val (.int k621), .val (.int k622), .val (.int k623), .val (.ref a867), .val (.ref a880), .val (.ref a891), .unset, .unset] [.ref a926]
    have sh936 := KE.1
    have bbE := SE.lt
    refine r_astore [.val (.int p0), .val (.int p1), .val (.int p2), .val (.int p3), .val (.int (3 : Int32)), .val (.int k621), .val (.int k622), .val (.int k623), .val (.ref a867), .val (.ref a880), .val (.ref a891), .val (.ref a926), .unset] 184 rfl at_182 rfl rfl ?_
    refine r_aload 186 rfl at_184 rfl rfl ?_
    refine r_static 189 rfl at_186 (wd hw 37 rfl) (wd hw 38 rfl) (wd hw 39 rfl) (wd hw 40 rfl) (by decide) (Pays.conK (K := K) (B := b_law) hk hn (c_op V hw hm hn cz hCS hcz hl12 hl18 u0 sen hU hSe hst a880 _ ([k621, k622, k623] : List Int32) (byS b0 (byS b1 (byS b2 by0))) (Nat.le_of_ble_eq_true rfl) h936 _ f937) (wd hw 40 rfl) (wd hw 39 rfl) (by decide) (by decide)) (W := 0) (argsL := [.ref a880]) (lenOf pd_22 rfl) rfl rfl rfl (Nat.le_of_eq rfl) (Nat.le_of_ble_eq_true rfl) (Nat.le_of_ble_eq_true rfl) fun v942 h943 ps939 q941 z940 => ?_
    obtain ⟨r, y, my, rfl, EO, XO, GO, SO⟩ := q941
    have f944 := Str.ext EO f937
    have f945 := Str.ext EO SE
    have sh943 := EO.1
    show Own.Run V K b_law _ h943 _ 18 3172 189 [.val (.int p0), .val (.int p1), .val (.int p2), .val (.int p3), .val (.int (3 : Int32)), .val (.int k621), .val (.int k622), .val (.int k623), .val (.ref a867), .val (.ref a880), .val (.ref a891), .val (.ref a926), .unset] [.ref r]
    refine r_astore [.val (.int p0), .val (.int p1), .val (.int p2), .val (.int p3), .val (.int (3 : Int32)), .val (.int k621), .val (.int k622), .val (.int k623), .val (.ref a867), .val (.ref a880), .val (.ref a891), .val (.ref a926), .val (.ref r)] 191 rfl at_189 rfl rfl ?_
    refine r_aload 193 rfl at_191 rfl rfl ?_
    refine r_ifnonnull_t 198 at_193 (by decide) rfl ?_
    refine r_aload 200 rfl at_198 rfl rfl ?_
    refine r_aload 202 rfl at_200 rfl rfl ?_
    refine r_virtualUp 205 rfl at_202 hn (wd hw 231 rfl) (wd hw 232 rfl) (wd hw 233 rfl) (wd hw 235 rfl) (wd hw 234 rfl) (by decide) XO (Pays.con (K := K) (B := b_law) (c_gm V hw r y h943 _ GO) (wd hw 236 rfl) (wd hw 192 rfl) (by decide) (by decide)) (W := 1) (argsL := []) (lenOf pd_18 rfl) rfl rfl rfl (Nat.le_of_eq rfl) (Nat.le_of_ble_eq_true rfl) (Nat.le_of_ble_eq_true rfl) fun v949 h950 ps946 q948 z947 => ?_
    obtain ⟨rfl, es951⟩ := q948
    subst h950
    show Own.Run V K b_law _ h943 _ 18 3172 205 [.val (.int p0), .val (.int p1), .val (.int p2), .val (.int p3), .val (.int (3 : Int32)), .val (.int k621), .val (.int k622), .val (.int k623), .val (.ref a867), .val (.ref a880), .val (.ref a891), .val (.ref a926), .val (.ref r)] [.ref y, .ref a926]
    have SO' : Str V h943 my y ([76, 97, 122, 111, 32, 100, 111, 101, 115, 32, 110, 111, 116, 32, 115, 117, 112, 112, 111, 114, 116, 32, k621, k622, k623, 32, 121, 101, 116] : List Int32) := SO
    refine Run.old fun OZ => ?_
    refine r_virtual 208 rfl at_205 (wd hw 237 rfl) (wd hw 238 rfl) (wd hw 240 rfl) (wd hw 239 rfl) (nfS (wd hw 240 rfl)) (by decide) (f945).exa (pay_eq V hw K b_law 0 a926 y _ my ([76, 97, 122, 111, 32, 100, 111, 101, 115, 32, 110, 111, 116, 32, 115, 117, 112, 112, 111, 114, 116, 32, k621, k622, k623, 32, 121, 101, 116] : List Int32) ([76, 97, 122, 111, 32, 100, 111, 101, 115, 32, 110, 111, 116, 32, 115, 117, 112, 112, 111, 114, 116, 32, k621, k622, k623, 32, 121, 101, 116] : List Int32) h943 _ f945 SO' OZ cz hCS hcz (by decide) (by decide)) (W := 0) (argsL := [.ref y]) (lenOf pd_23 rfl) rfl rfl rfl (Nat.le_of_eq rfl) (Nat.le_of_ble_eq_true rfl) (Nat.le_of_ble_eq_true rfl) fun v955 h956 ps952 q954 z953 => ?_
    obtain ⟨ee, rfl, es957, he⟩ := q954
    subst h956
    show Own.Run V K b_law _ h943 _ 18 3172 208 [.val (.int p0), .val (.int p1), .val (.int p2), .val (.int p3), .val (.int (3 : Int32)), .val (.int k621), .val (.int k622), .val (.int k623), .val (.ref a867), .val (.ref a880), .val (.ref a891), .val (.ref a926), .val (.ref r)] [.int ee]
    obtain rfl : ee = 1 := he.elim (fun q => q.1) (fun q => absurd rfl q.2)
    refine r_nret (t := .boolean) (1 : Int32) rfl (by simp) rfl at_208 (by decide) (by decide) [] (fun _ q => nomatch q) ?_
    rfl
theorem comes_1 {Post : Tables → Env → Array Value → State → Outcome → State → Prop} (hpost : ∀ tb e args s v u, (limb_1_1.after args s (.returned v) u = true ∧ limb_1_2.after args s (.returned v) u = true ∧ True) → ReturnedEndW s (.returned v) u (Jvm.fieldLocs frame_1_writes args s ++ Jvm.arrayLocs frame_1_arrays args s ++ Jvm.staticLocs frame_1_statics s) 40 9024 → Post tb e args s (.returned v) u) :
    ArmFor flags0 classFile x code maxLocals ret World_1 tables_1 room_1 Calls_1 rest_1 Pre_1 Post := by
  intro l hfl _ _ p e ha hc hk s m args below hf hA hF happ hP
  obtain ⟨hcalls, hrest, hpre⟩ := hP
  obtain ⟨-, -, -, hnamed, -, -, -, hat⟩ := (Spec.applies_iff hf).mp happ
  obtain ⟨hg, hn⟩ := and_e (Cond.before_iff.mp (show (Jvm.Cond.and given_1 narrow_1).before args s = true from hpre))
  obtain ⟨hcount, g0⟩ := and_e hg
  obtain ⟨k0, g1⟩ := and_e g0
  obtain ⟨k1, g2⟩ := and_e g1
  obtain ⟨k2, g3⟩ := and_e g2
  have k3 := g3
  obtain ⟨w0, w1, w2, w3, rfl⟩ : ∃ w0 w1 w2 w3 : Value, args = #[w0, w1, w2, w3] := by
    have hs : args.size = 4 := by simpa [Cond.value, given_1] using hcount
    obtain ⟨L⟩ := args
    match L, hs with
    | [w0, w1, w2, w3], _ => exact ⟨w0, w1, w2, w3, rfl⟩
  have hw := fun d (hd : d ∈ tables_1) => atoms_spec (ws := Jvm.Cond.code x code maxLocals ret :: tables_1) hat d (List.mem_cons_of_mem _ hd)
  obtain ⟨i0, e0⟩ := is_v k0
  obtain rfl : w0 = (.int i0) := Option.some.inj e0
  obtain ⟨i1, e1⟩ := is_v k1
  obtain rfl : w1 = (.int i1) := Option.some.inj e1
  obtain ⟨i2, e2⟩ := is_v k2
  obtain rfl : w2 = (.int i2) := Option.some.inj e2
  obtain ⟨i3, e3⟩ := is_v k3
  obtain rfl : w3 = (.int i3) := Option.some.inj e3
  obtain ⟨hsets, hown0⟩ := atoms_of _ (rest_1_c_eq ▸ (show rest_1_c.before _ s = true from hrest))
  have n5 := not_v (Cond.before_iff.mp (hsets _ (List.mem_of_getElem? (i := 2) rfl)))
  obtain ⟨i11, e11⟩ := is_v (Cond.before_iff.mp (hsets _ (List.mem_of_getElem? (i := 1) rfl)))
  have S12 : Sta s s.heap "java/lang/String" "COMPACT_STRINGS" "Z" (.int i11) := Sta.start e11 (Or.inl (hsets _ (List.mem_of_getElem? (i := 0) rfl)))
  have c17 : ¬ (i11 = (0 : Int32)) := gotF (Cond.eq_ints e11 (Term.int_eval (0))) n5
  have hEW : EW s #[.int i0, .int i1, .int i2, .int i3] consts_1 := (EW.cons (hw _ (List.mem_of_getElem? (i := 62) rfl)) (by decide) (EW.cons (hw _ (List.mem_of_getElem? (i := 133) rfl)) (by decide) (EW.cons (hw _ (List.mem_of_getElem? (i := 14) rfl)) (by decide) EW.nil)))
  have hCH : CHv s consts_1 s.vm s.heap := CHv.start hEW (fun p hp => hcalls.2.2.1 p hp) (hsets _ (List.mem_of_getElem? (i := 2) rfl)) (hw _ (List.mem_of_getElem? (i := 15) rfl)) (hw _ (List.mem_of_getElem? (i := 2) rfl))
  obtain ⟨vu, eu, ru⟩ := isR_v (Cond.before_iff.mp (hsets _ (List.mem_of_getElem? (i := 16) rfl)))
  have hU : Sta s s.heap "java/lang/Throwable" "UNASSIGNED_STACK" "[Ljava/lang/StackTraceElement;" vu := Sta.start eu (Or.inl (hsets _ (List.mem_of_getElem? (i := 15) rfl)))
  obtain ⟨vz, ez, rz⟩ := isR_v (Cond.before_iff.mp (hsets _ (List.mem_of_getElem? (i := 21) rfl)))
  have hSe : Sta s s.heap "java/lang/Throwable" "SUPPRESSED_SENTINEL" "Ljava/util/List;" vz := Sta.start ez (Or.inl (hsets _ (List.mem_of_getElem? (i := 20) rfl)))
  have hst : l.stackTraces = true := by unfold Launch.stackTraces; rw [hfl]; decide
  obtain ⟨n, o, h1, h2, h3, v, L, ps, rfl, N, rfl, -, -, -, hq, -⟩ := c_law (s, #[.int i0, .int i1, .int i2, .int i3], consts_1, false, l) hw (show ("java/lang/String", 7) ∈ consts_1 by decide) rfl i11 S12 c17 (show ("com/example/lazo/lazo/Unsupported", 12) ∈ consts_1 by decide) (show ("com/example/lazo/lazo/Unsupported", 18) ∈ consts_1 by decide) ⟨vu, ru⟩ ⟨vz, rz⟩ hU hSe hst i0 i1 i2 i3 s.heap hEW ⟨Nat.le_refl _, fun _ _ q => q⟩ (fun q => nomatch q) tables_1 p e ha hc hk s m _ below hf ((Spec.applies_iff_loose hf).mp happ).1 ⟨rfl, State.Warmed39.refl s, rfl, hCH, Sf.nil⟩ ⟨MethodsKnown_of_tablesKnown hcalls.2.1, FramesKnown_of_framesKnown hcalls.1 hf⟩
  refine ⟨n, _, h1, h2, h3, hpost _ _ _ _ _ _ ⟨Cond.after_iff.mpr rfl, Cond.after_iff.mpr (eq_i res_at (Term.int_eval (1)) rfl), trivial⟩ ⟨hq.1, hq.2.1, hq.2.2.1, (hq.2.2.2.sift fun y hy => Or.inr (N y hy)).mono (by decide) (by decide)⟩⟩
theorem main_1_1 : Claimed_1_1 := comes_1 fun _ _ _ _ _ _ h hF => ⟨h.1, hF⟩
theorem main_1_2 : Claimed_1_2 := comes_1 fun _ _ _ _ _ _ h hF => ⟨h.2.1, hF⟩
end Jvm.Pilot.@@N@@
namespace Jvm.Pilot.@@N@@
open Jvm Jvm.ClassFile Sem Op Lib Jvm.Free Jvm.Stand Jvm.Pilot.@@N@@.Jvm.D
/-! MADE BY PROGRAM (witnessworld.py) out of the Statement's table words and the real class files: 43 classes; the members and pool entries that the words name. The judged class is class 1, her method 2. -/
namespace start1
open Jvm.ClassFile
def u (s : String) : CpInfo := .utf8 (stringToUtf16 s)
/-- a pool by its gaps: so many unusable entries, then the entry; so many at the end -/
def gap : Nat → List CpInfo → List CpInfo
  | 0, r => r
  | n + 1, r => .unusable :: gap n r
def poolList (es : List (Nat × CpInfo)) (last : Nat) : List CpInfo := es.foldr (fun e r => gap e.1 (e.2 :: r)) (gap last [])
def pool (es : List (Nat × CpInfo)) (last : Nat) : Array CpInfo := ⟨poolList es last⟩
def fileOf (pool : Array CpInfo) (this : Nat) (attrs : Array Attribute := #[]) (ms : Array MethodInfo := #[]) (fl : Nat := 33) (sup : Nat := 0) (ifs : Array Nat := #[]) (fds : Array FieldInfo := #[]) : ClassFile where
  minorVersion := 0
  majorVersion := 65
  constantPool := pool
  accessFlags := fl
  thisClass := this
  superClass := sup
  interfaces := ifs
  fields := fds
  methods := ms
  attributes := attrs
def plain (name : String) (sup : Option ClassId) : Class where
  name := name
  kind := .ordinary
  loader := none
  accessFlags := 33
  super := sup
  interfaces := #[]
  cf := none
  fields := #[]
  methods := #[]
  instanceTypes := #[]
  staticTypes := #[]
  resolved := #[]
  callSites := []
  init := .initialized
  statics := none
  mirror := none

def pool0 : Array CpInfo := pool [(5, u "<init>"), (0, u "()V"), (1, .class_ 10), (1, u "java/lang/Object")] 113

def k0c0 : Code := { maxStack := 0, maxLocals := 1, code := object_method_1_code, exceptionTable := #[], attributes := #[] }
def k0m0 : Method := { name := "<init>", desc := "()V", sig := { parameters := [], returnType := none }, accessFlags := 1, code := some k0c0 }
/-- java/lang/Object -/
def k0 : Class := { plain "java/lang/Object" none with
  accessFlags := 33
  interfaces := #[]
  cf := some (fileOf pool0 8 #[] #[{ accessFlags := 1, nameIndex := 5, descriptorIndex := 6, attributes := #[] }] 33 0 #[] #[])
  fields := #[]
  methods := #[k0m0]
  instanceTypes := #[]
  staticTypes := #[]
  resolved := Array.replicate 124 none
  statics := none }

def pool1 : Array CpInfo := pool [(2, .class_ 4), (1, u "java/lang/Object"), (0, u "<init>"), (0, u "()V"), (0, .class_ 8), (0, u "java/lang/String"), (0, .methodref 7 10), (0, .nameAndType 5 11), (0, u "([C)V"), (0, .methodref 13 14), (0, .class_ 15), (0, .nameAndType 16 11), (0, u "com/example/lazo/lazo/UnsupportedOperationPinLaw"), (0, u "prefix"), (0, .methodref 18 19), (0, .class_ 20), (0, .nameAndType 21 22), (0, u "com/example/lazo/lazo/Unsupported"), (0, u "operation"), (0, u "(Ljava/lang/String;)Ljava/lang/UnsupportedOperationException;"), (0, .methodref 24 25), (0, .class_ 26), (0, .nameAndType 27 28), (0, u "java/lang/UnsupportedOperationException"), (0, u "getMessage"), (0, u "()Ljava/lang/String;"), (0, .methodref 7 30), (0, .nameAndType 31 32), (0, u "equals"), (0, u "(Ljava/lang/Object;)Z"), (2, u "law"), (0, u "(IIII)Z")] 5

def k1m0 : Method := { name := "<init>", desc := "()V", sig := { parameters := [], returnType := none }, accessFlags := 1, code := none }
def k1c1 : Code := { maxStack := 3, maxLocals := 1, code := method_2_code, exceptionTable := #[], attributes := #[] }
def k1m1 : Method := { name := "prefix", desc := "([C)V", sig := { parameters := [(.array .char)], returnType := none }, accessFlags := 10, code := some k1c1 }
def k1c2 : Code := { maxStack := 3, maxLocals := 13, code := code, exceptionTable := #[], attributes := #[] }
def k1m2 : Method := { name := "law", desc := "(IIII)Z", sig := { parameters := [.int, .int, .int, .int], returnType := some .boolean }, accessFlags := 9, code := some k1c2 }
/-- com/example/lazo/lazo/UnsupportedOperationPinLaw -/
def k1 : Class := { plain "com/example/lazo/lazo/UnsupportedOperationPinLaw" (some 0) with
  accessFlags := 49
  interfaces := #[]
  cf := some (fileOf pool1 13 #[] #[{ accessFlags := 1, nameIndex := 5, descriptorIndex := 6, attributes := #[] }, { accessFlags := 10, nameIndex := 16, descriptorIndex := 11, attributes := #[] }, { accessFlags := 9, nameIndex := 35, descriptorIndex := 36, attributes := #[] }] 49 2 #[] #[])
  fields := #[]
  methods := #[k1m0, k1m1, k1m2]
  instanceTypes := #[]
  staticTypes := #[]
  resolved := Array.replicate 42 none
  statics := none }

def pool2 : Array CpInfo := pool [(1, .class_ 2), (0, u "java/io/Serializable"), (0, .class_ 4), (0, u "java/lang/Object")] 2

/-- java/io/Serializable -/
def k2 : Class := { plain "java/io/Serializable" (some 0) with
  accessFlags := 1537
  interfaces := #[]
  cf := some (fileOf pool2 1 #[] #[] 1537 3 #[] #[])
  fields := #[]
  methods := #[]
  instanceTypes := #[]
  staticTypes := #[]
  resolved := Array.replicate 7 none
  statics := none }

def pool3 : Array CpInfo := pool [(1, .class_ 2), (0, u "java/lang/Comparable"), (0, .class_ 4), (0, u "java/lang/Object")] 7

/-- java/lang/Comparable -/
def k3 : Class := { plain "java/lang/Comparable" (some 0) with
  accessFlags := 1537
  interfaces := #[]
  cf := some (fileOf pool3 1 #[] #[] 1537 3 #[] #[])
  fields := #[]
  methods := #[]
  instanceTypes := #[]
  staticTypes := #[]
  resolved := Array.replicate 12 none
  statics := none }

def pool4 : Array CpInfo := pool [(2, .class_ 4), (1, u "java/lang/CharSequence"), (42, .class_ 48), (0, u "java/lang/CharSequence$1CodePointIterator"), (10, .class_ 60), (0, u "java/lang/CharSequence$1CharIterator"), (5, .class_ 67), (0, u "java/lang/Object")] 63

/-- java/lang/CharSequence -/
def k4 : Class := { plain "java/lang/CharSequence" (some 0) with
  accessFlags := 1537
  interfaces := #[]
  cf := some (fileOf pool4 2 #[.nestMembers #[47, 59]] #[] 1537 66 #[] #[])
  fields := #[]
  methods := #[]
  instanceTypes := #[]
  staticTypes := #[]
  resolved := Array.replicate 131 none
  statics := none }

def pool5 : Array CpInfo := pool [(1, .class_ 2), (0, u "java/lang/constant/Constable"), (0, .class_ 4), (0, u "java/lang/Object")] 6

/-- java/lang/constant/Constable -/
def k5 : Class := { plain "java/lang/constant/Constable" (some 0) with
  accessFlags := 1537
  interfaces := #[]
  cf := some (fileOf pool5 1 #[] #[] 1537 3 #[] #[])
  fields := #[]
  methods := #[]
  instanceTypes := #[]
  staticTypes := #[]
  resolved := Array.replicate 11 none
  statics := none }

def pool6 : Array CpInfo := pool [(1, .class_ 2), (0, u "java/lang/constant/ConstantDesc"), (0, .class_ 4), (0, u "java/lang/Object")] 32

/-- java/lang/constant/ConstantDesc -/
def k6 : Class := { plain "java/lang/constant/ConstantDesc" (some 0) with
  accessFlags := 1537
  interfaces := #[]
  cf := some (fileOf pool6 1 #[] #[] 1537 3 #[] #[])
  fields := #[]
  methods := #[]
  instanceTypes := #[]
  staticTypes := #[]
  resolved := Array.replicate 37 none
  statics := none }

def pool7 : Array CpInfo := pool [(1, .methodref 2 3), (0, .class_ 4), (0, .nameAndType 5 6), (0, u "java/lang/Object"), (0, u "<init>"), (0, u "()V"), (0, .string 8), (0, u ""), (0, .fieldref 10 11), (0, .class_ 12), (0, .nameAndType 13 14), (0, u "java/lang/String"), (0, u "value"), (0, u "[B"), (0, .fieldref 10 16), (0, .nameAndType 17 18), (0, u "coder"), (0, u "B"), (2, u "hash"), (0, u "I"), (2, u "hashIsZero"), (0, u "Z"), (0, .methodref 10 28), (0, .nameAndType 5 29), (0, u "([CIILjava/lang/Void;)V"), (8, .fieldref 10 39), (0, .nameAndType 40 26), (0, u "COMPACT_STRINGS"), (1, .class_ 44), (1, u "java/lang/StringUTF16"), (0, u "compress"), (1, .methodref 42 48), (0, .nameAndType 49 50), (0, u "coderFromArrayLen"), (0, u "([BI)B"), (3, .methodref 55 56), (0, .class_ 57), (0, .nameAndType 58 59), (0, u "java/util/Arrays"), (0, u "copyOfRange"), (0, u "([BII)[B"), (47, .class_ 109), (1, u "java/lang/StringLatin1"), (32, u "()Z"), (34, .methodref 42 178), (0, .nameAndType 45 179), (0, u "([CII)[B"), (13, .class_ 195), (1, u "java/lang/System"), (16, .methodref 193 213), (0, .nameAndType 214 215), (0, u "arraycopy"), (0, u "(Ljava/lang/Object;ILjava/lang/Object;II)V"), (118, u "()I"), (0, .methodref 10 336), (0, .nameAndType 17 337), (0, u "()B"), (2, u "()[B"), (148, .methodref 10 490), (0, .nameAndType 5 491), (0, u "(Ljava/lang/AbstractStringBuilder;Ljava/lang/Void;)V"), (1, .nameAndType 494 142), (0, u "isLatin1"), (11, .nameAndType 507 334), (0, u "length"), (24, u "getBytes"), (8, .methodref 107 542), (0, .nameAndType 543 544), (0, u "equals"), (0, u "([B[B)Z"), (4, .methodref 550 506), (0, .class_ 551), (0, u "java/lang/AbstractStringBuilder"), (0, .methodref 550 553), (0, .nameAndType 554 340), (0, u "getValue"), (18, u "(Ljava/lang/Object;)Z"), (1, .class_ 576), (0, u "java/lang/CharSequence"), (22, u "CASE_INSENSITIVE_ORDER"), (0, u "Ljava/util/Comparator;"), (220, u "([BIB)V"), (188, u "([C)V"), (36, .methodref 550 493), (53, u "serialPersistentFields"), (0, u "[Ljava/io/ObjectStreamField;"), (0, .class_ 1104), (0, u "java/lang/String$CaseInsensitiveComparator"), (1, .class_ 1107), (0, u "java/io/Serializable"), (0, .class_ 1109), (0, u "java/lang/Comparable"), (0, .class_ 1111), (0, u "java/lang/constant/Constable"), (0, .class_ 1113), (0, u "java/lang/constant/ConstantDesc"), (2, u "serialVersionUID"), (0, u "J"), (3, u "REPL"), (0, u "C"), (2, u "LATIN1"), (1, u "UTF16"), (105, u "(Ljava/lang/StringBuilder;)V")] 217

def k7m0 : Method := { name := "<init>", desc := "()V", sig := { parameters := [], returnType := none }, accessFlags := 1, code := none }
def k7c1 : Code := { maxStack := 5, maxLocals := 2, code := jdk_42_method_3_code, exceptionTable := #[], attributes := #[] }
def k7m1 : Method := { name := "<init>", desc := "([C)V", sig := { parameters := [(.array .char)], returnType := none }, accessFlags := 1, code := some k7c1 }
def k7c2 : Code := { maxStack := 3, maxLocals := 2, code := jdk_42_method_53_code, exceptionTable := #[], attributes := #[] }
def k7m2 : Method := { name := "<init>", desc := "(Ljava/lang/StringBuilder;)V", sig := { parameters := [(.object "java/lang/StringBuilder")], returnType := none }, accessFlags := 1, code := some k7c2 }
def k7c3 : Code := { maxStack := 2, maxLocals := 1, code := jdk_42_method_54_code, exceptionTable := #[], attributes := #[] }
def k7m3 : Method := { name := "length", desc := "()I", sig := { parameters := [], returnType := some .int }, accessFlags := 1, code := some k7c3 }
def k7c4 : Code := { maxStack := 2, maxLocals := 3, code := jdk_42_method_66_code, exceptionTable := #[], attributes := #[] }
def k7m4 : Method := { name := "equals", desc := "(Ljava/lang/Object;)Z", sig := { parameters := [(.object "java/lang/Object")], returnType := some .boolean }, accessFlags := 1, code := some k7c4 }
def k7c5 : Code := { maxStack := 5, maxLocals := 4, code := jdk_42_method_147_code, exceptionTable := #[], attributes := #[] }
def k7m5 : Method := { name := "getBytes", desc := "([BIB)V", sig := { parameters := [(.array .byte), .int, .byte], returnType := none }, accessFlags := 0, code := some k7c5 }
def k7c6 : Code := { maxStack := 4, maxLocals := 6, code := jdk_42_method_149_code, exceptionTable := #[], attributes := #[] }
def k7m6 : Method := { name := "<init>", desc := "([CIILjava/lang/Void;)V", sig := { parameters := [(.array .char), .int, .int, (.object "java/lang/Void")], returnType := none }, accessFlags := 2, code := some k7c6 }
def k7c7 : Code := { maxStack := 5, maxLocals := 5, code := jdk_42_method_150_code, exceptionTable := #[], attributes := #[] }
def k7m7 : Method := { name := "<init>", desc := "(Ljava/lang/AbstractStringBuilder;Ljava/lang/Void;)V", sig := { parameters := [(.object "java/lang/AbstractStringBuilder"), (.object "java/lang/Void")], returnType := none }, accessFlags := 0, code := some k7c7 }
def k7c8 : Code := { maxStack := 1, maxLocals := 1, code := jdk_42_method_152_code, exceptionTable := #[], attributes := #[] }
def k7m8 : Method := { name := "coder", desc := "()B", sig := { parameters := [], returnType := some .byte }, accessFlags := 0, code := some k7c8 }
/-- java/lang/String -/
def k7 : Class := { plain "java/lang/String" (some 0) with
  accessFlags := 49
  interfaces := #[2, 3, 4, 5, 6]
  cf := some (fileOf pool7 10 #[.nestMembers #[1103]] #[{ accessFlags := 1, nameIndex := 5, descriptorIndex := 6, attributes := #[] }, { accessFlags := 1, nameIndex := 5, descriptorIndex := 1010, attributes := #[] }, { accessFlags := 1, nameIndex := 5, descriptorIndex := 1233, attributes := #[] }, { accessFlags := 1, nameIndex := 507, descriptorIndex := 334, attributes := #[] }, { accessFlags := 1, nameIndex := 543, descriptorIndex := 573, attributes := #[] }, { accessFlags := 0, nameIndex := 532, descriptorIndex := 821, attributes := #[] }, { accessFlags := 2, nameIndex := 5, descriptorIndex := 29, attributes := #[] }, { accessFlags := 0, nameIndex := 5, descriptorIndex := 491, attributes := #[] }, { accessFlags := 0, nameIndex := 17, descriptorIndex := 337, attributes := #[] }] 49 2 #[1106, 1108, 575, 1110, 1112] #[{ accessFlags := 18, nameIndex := 13, descriptorIndex := 14, attributes := #[] }, { accessFlags := 18, nameIndex := 17, descriptorIndex := 18, attributes := #[] }, { accessFlags := 2, nameIndex := 21, descriptorIndex := 22, attributes := #[] }, { accessFlags := 2, nameIndex := 25, descriptorIndex := 26, attributes := #[] }, { accessFlags := 26, nameIndex := 1116, descriptorIndex := 1117, attributes := #[] }, { accessFlags := 24, nameIndex := 40, descriptorIndex := 26, attributes := #[] }, { accessFlags := 26, nameIndex := 1101, descriptorIndex := 1102, attributes := #[] }, { accessFlags := 26, nameIndex := 1121, descriptorIndex := 1122, attributes := #[] }, { accessFlags := 25, nameIndex := 599, descriptorIndex := 600, attributes := #[] }, { accessFlags := 24, nameIndex := 1125, descriptorIndex := 18, attributes := #[] }, { accessFlags := 24, nameIndex := 1127, descriptorIndex := 18, attributes := #[] }])
  fields := #[{ name := "value", type := (.array .byte), accessFlags := 18, slot := 0, constantValue := 0 }, { name := "coder", type := .byte, accessFlags := 18, slot := 1, constantValue := 0 }, { name := "hash", type := .int, accessFlags := 2, slot := 2, constantValue := 0 }, { name := "hashIsZero", type := .boolean, accessFlags := 2, slot := 3, constantValue := 0 }, { name := "serialVersionUID", type := .long, accessFlags := 26, slot := 0, constantValue := 0 }, { name := "COMPACT_STRINGS", type := .boolean, accessFlags := 24, slot := 1, constantValue := 0 }, { name := "serialPersistentFields", type := (.array (.object "java/io/ObjectStreamField")), accessFlags := 26, slot := 2, constantValue := 0 }, { name := "REPL", type := .char, accessFlags := 26, slot := 3, constantValue := 0 }, { name := "CASE_INSENSITIVE_ORDER", type := (.object "java/util/Comparator"), accessFlags := 25, slot := 4, constantValue := 0 }, { name := "LATIN1", type := .byte, accessFlags := 24, slot := 5, constantValue := 0 }, { name := "UTF16", type := .byte, accessFlags := 24, slot := 6, constantValue := 0 }]
  methods := #[k7m0, k7m1, k7m2, k7m3, k7m4, k7m5, k7m6, k7m7, k7m8]
  instanceTypes := #[(.array .byte), .byte, .int, .boolean]
  staticTypes := #[.long, .boolean, (.array (.object "java/io/ObjectStreamField")), .char, (.object "java/util/Comparator"), .byte, .byte]
  resolved := Array.replicate 1451 none
  statics := some 0 }

def pool8 : Array CpInfo := pool [(6, .class_ 8), (1, u "java/lang/Object"), (0, u "<init>"), (0, u "()V"), (1, .class_ 14), (1, u "java/lang/StringUTF16"), (31, u "$assertionsDisabled"), (0, u "Z"), (13, u "HI_BYTE_SHIFT"), (0, u "I"), (2, u "LO_BYTE_SHIFT"), (49, .methodref 12 116), (0, .nameAndType 117 118), (0, u "compress"), (0, u "([CI[BII)I"), (3, u "([CII)[B"), (138, u "coderFromArrayLen"), (0, u "([BI)B"), (106, .class_ 371), (1, u "java/lang/StringUTF16$LinesSpliterator"), (58, u "MAX_LENGTH"), (196, .class_ 628), (0, u "java/lang/StringUTF16$CodePointsSpliterator"), (0, .class_ 630), (0, u "java/lang/StringUTF16$CharsSpliterator")] 4

def k8m0 : Method := { name := "<init>", desc := "()V", sig := { parameters := [], returnType := none }, accessFlags := 0, code := none }
def k8c1 : Code := { maxStack := 2, maxLocals := 2, code := jdk_52_method_15_code, exceptionTable := #[], attributes := #[] }
def k8m1 : Method := { name := "coderFromArrayLen", desc := "([BI)B", sig := { parameters := [(.array .byte), .int], returnType := some .byte }, accessFlags := 8, code := some k8c1 }
def k8c2 : Code := { maxStack := 5, maxLocals := 6, code := jdk_52_method_16_code, exceptionTable := #[], attributes := #[] }
def k8m2 : Method := { name := "compress", desc := "([CII)[B", sig := { parameters := [(.array .char), .int, .int], returnType := some (.array .byte) }, accessFlags := 9, code := some k8c2 }
def k8c3 : Code := { maxStack := 3, maxLocals := 7, code := jdk_52_method_21_code, exceptionTable := #[], attributes := #[] }
def k8m3 : Method := { name := "compress", desc := "([CI[BII)I", sig := { parameters := [(.array .char), .int, (.array .byte), .int, .int], returnType := some .int }, accessFlags := 9, code := some k8c3 }
/-- java/lang/StringUTF16 -/
def k8 : Class := { plain "java/lang/StringUTF16" (some 0) with
  accessFlags := 48
  interfaces := #[]
  cf := some (fileOf pool8 12 #[.nestMembers #[627, 629, 369]] #[{ accessFlags := 0, nameIndex := 9, descriptorIndex := 10, attributes := #[] }, { accessFlags := 8, nameIndex := 261, descriptorIndex := 262, attributes := #[] }, { accessFlags := 9, nameIndex := 117, descriptorIndex := 122, attributes := #[] }, { accessFlags := 9, nameIndex := 117, descriptorIndex := 118, attributes := #[] }] 48 6 #[] #[{ accessFlags := 26, nameIndex := 61, descriptorIndex := 62, attributes := #[] }, { accessFlags := 26, nameIndex := 65, descriptorIndex := 62, attributes := #[] }, { accessFlags := 24, nameIndex := 430, descriptorIndex := 62, attributes := #[] }, { accessFlags := 4120, nameIndex := 46, descriptorIndex := 47, attributes := #[] }])
  fields := #[{ name := "HI_BYTE_SHIFT", type := .int, accessFlags := 26, slot := 0, constantValue := 0 }, { name := "LO_BYTE_SHIFT", type := .int, accessFlags := 26, slot := 1, constantValue := 0 }, { name := "MAX_LENGTH", type := .int, accessFlags := 24, slot := 2, constantValue := 0 }, { name := "$assertionsDisabled", type := .boolean, accessFlags := 4120, slot := 3, constantValue := 0 }]
  methods := #[k8m0, k8m1, k8m2, k8m3]
  instanceTypes := #[]
  staticTypes := #[.int, .int, .int, .boolean]
  resolved := Array.replicate 635 none
  statics := none }

def pool9 : Array CpInfo := pool [(2, .class_ 4), (0, .nameAndType 5 6), (0, u "java/lang/Object"), (0, u "<init>"), (0, u "()V"), (0, .class_ 8), (0, u "java/lang/UnsupportedOperationException"), (0, .class_ 10), (0, u "java/lang/StringBuilder"), (0, .methodref 9 3), (0, .string 13), (0, u "Lazo does not support "), (0, .methodref 9 15), (0, .nameAndType 16 17), (0, u "append"), (0, u "(Ljava/lang/String;)Ljava/lang/StringBuilder;"), (0, .string 19), (0, u " yet"), (0, .methodref 9 21), (0, .nameAndType 22 23), (0, u "toString"), (0, u "()Ljava/lang/String;"), (0, .methodref 7 25), (0, .nameAndType 5 26), (0, u "(Ljava/lang/String;)V"), (0, .class_ 28), (0, u "com/example/lazo/lazo/Unsupported"), (0, u "NAMED_QUERIES"), (0, u "Ljava/lang/String;"), (3, u "NATIVE_QUERIES"), (2, u "RESULT_RANGES"), (2, u "LOCKING"), (2, u "ENTITY_GRAPHS"), (2, u "STORED_PROCEDURES"), (2, u "JTA"), (2, u "REFRESH"), (2, u "METAMODEL"), (2, u "CRITERIA"), (2, u "FLUSH_MODES"), (2, u "CONTAINER_UNITS"), (4, u "operation"), (0, u "(Ljava/lang/String;)Ljava/lang/UnsupportedOperationException;")] 2

def k9m0 : Method := { name := "<init>", desc := "()V", sig := { parameters := [], returnType := none }, accessFlags := 2, code := none }
def k9c1 : Code := { maxStack := 4, maxLocals := 1, code := prog_2_method_2_code, exceptionTable := #[], attributes := #[] }
def k9m1 : Method := { name := "operation", desc := "(Ljava/lang/String;)Ljava/lang/UnsupportedOperationException;", sig := { parameters := [(.object "java/lang/String")], returnType := some (.object "java/lang/UnsupportedOperationException") }, accessFlags := 8, code := some k9c1 }
/-- com/example/lazo/lazo/Unsupported -/
def k9 : Class := { plain "com/example/lazo/lazo/Unsupported" (some 0) with
  accessFlags := 32
  interfaces := #[]
  cf := some (fileOf pool9 27 #[] #[{ accessFlags := 2, nameIndex := 5, descriptorIndex := 6, attributes := #[] }, { accessFlags := 8, nameIndex := 69, descriptorIndex := 70, attributes := #[] }] 32 2 #[] #[{ accessFlags := 24, nameIndex := 29, descriptorIndex := 30, attributes := #[] }, { accessFlags := 24, nameIndex := 34, descriptorIndex := 30, attributes := #[] }, { accessFlags := 24, nameIndex := 37, descriptorIndex := 30, attributes := #[] }, { accessFlags := 24, nameIndex := 40, descriptorIndex := 30, attributes := #[] }, { accessFlags := 24, nameIndex := 43, descriptorIndex := 30, attributes := #[] }, { accessFlags := 24, nameIndex := 46, descriptorIndex := 30, attributes := #[] }, { accessFlags := 24, nameIndex := 49, descriptorIndex := 30, attributes := #[] }, { accessFlags := 24, nameIndex := 52, descriptorIndex := 30, attributes := #[] }, { accessFlags := 24, nameIndex := 55, descriptorIndex := 30, attributes := #[] }, { accessFlags := 24, nameIndex := 58, descriptorIndex := 30, attributes := #[] }, { accessFlags := 24, nameIndex := 61, descriptorIndex := 30, attributes := #[] }, { accessFlags := 24, nameIndex := 64, descriptorIndex := 30, attributes := #[] }])
  fields := #[{ name := "NAMED_QUERIES", type := (.object "java/lang/String"), accessFlags := 24, slot := 0, constantValue := 0 }, { name := "NATIVE_QUERIES", type := (.object "java/lang/String"), accessFlags := 24, slot := 1, constantValue := 0 }, { name := "RESULT_RANGES", type := (.object "java/lang/String"), accessFlags := 24, slot := 2, constantValue := 0 }, { name := "LOCKING", type := (.object "java/lang/String"), accessFlags := 24, slot := 3, constantValue := 0 }, { name := "ENTITY_GRAPHS", type := (.object "java/lang/String"), accessFlags := 24, slot := 4, constantValue := 0 }, { name := "STORED_PROCEDURES", type := (.object "java/lang/String"), accessFlags := 24, slot := 5, constantValue := 0 }, { name := "JTA", type := (.object "java/lang/String"), accessFlags := 24, slot := 6, constantValue := 0 }, { name := "REFRESH", type := (.object "java/lang/String"), accessFlags := 24, slot := 7, constantValue := 0 }, { name := "METAMODEL", type := (.object "java/lang/String"), accessFlags := 24, slot := 8, constantValue := 0 }, { name := "CRITERIA", type := (.object "java/lang/String"), accessFlags := 24, slot := 9, constantValue := 0 }, { name := "FLUSH_MODES", type := (.object "java/lang/String"), accessFlags := 24, slot := 10, constantValue := 0 }, { name := "CONTAINER_UNITS", type := (.object "java/lang/String"), accessFlags := 24, slot := 11, constantValue := 0 }]
  methods := #[k9m0, k9m1]
  instanceTypes := #[]
  staticTypes := #[(.object "java/lang/String"), (.object "java/lang/String"), (.object "java/lang/String"), (.object "java/lang/String"), (.object "java/lang/String"), (.object "java/lang/String"), (.object "java/lang/String"), (.object "java/lang/String"), (.object "java/lang/String"), (.object "java/lang/String"), (.object "java/lang/String"), (.object "java/lang/String")]
  resolved := Array.replicate 73 none
  statics := none }

def pool10 : Array CpInfo := pool [(1, .methodref 2 3), (0, .class_ 4), (0, .nameAndType 5 6), (0, u "java/lang/Object"), (0, u "<init>"), (0, u "()V"), (0, .fieldref 8 9), (0, .class_ 10), (0, .nameAndType 11 12), (0, u "java/lang/Throwable"), (0, u "cause"), (0, u "Ljava/lang/Throwable;"), (0, .fieldref 8 14), (0, .nameAndType 15 16), (0, u "UNASSIGNED_STACK"), (0, u "[Ljava/lang/StackTraceElement;"), (0, .fieldref 8 18), (0, .nameAndType 19 16), (0, u "stackTrace"), (0, .fieldref 8 21), (0, .nameAndType 22 23), (0, u "SUPPRESSED_SENTINEL"), (0, u "Ljava/util/List;"), (0, .fieldref 8 25), (0, .nameAndType 26 23), (0, u "suppressedExceptions"), (0, .methodref 8 28), (0, .nameAndType 29 30), (0, u "fillInStackTrace"), (0, u "()Ljava/lang/Throwable;"), (0, .fieldref 8 32), (0, .nameAndType 33 34), (0, u "detailMessage"), (0, u "Ljava/lang/String;"), (3, u "()Ljava/lang/String;"), (2, u "getMessage"), (51, .class_ 94), (0, u "java/lang/Throwable$WrappedPrintStream"), (6, .class_ 103), (1, u "java/lang/Throwable$PrintStreamOrWriter"), (61, u "$assertionsDisabled"), (0, u "Z"), (26, .class_ 194), (0, u "java/lang/Throwable$WrappedPrintWriter"), (3, .fieldref 8 199), (0, .nameAndType 200 201), (0, u "backtrace"), (0, u "Ljava/lang/Object;"), (0, .methodref 8 203), (0, .nameAndType 29 204), (0, u "(I)Ljava/lang/Throwable;"), (6, u "depth"), (0, u "I"), (10, u "(Ljava/lang/String;)V"), (45, .class_ 271), (1, u "java/lang/Throwable$SentinelHolder"), (32, u "EMPTY_THROWABLE_ARRAY"), (0, u "[Ljava/lang/Throwable;"), (12, .class_ 319), (0, u "java/io/Serializable"), (0, u "serialVersionUID"), (0, u "J"), (5, u "NULL_CAUSE_MESSAGE"), (0, u "SELF_SUPPRESSION_MESSAGE"), (0, u "CAUSE_CAPTION"), (0, u "SUPPRESSED_CAPTION")] 73

def k10c0 : Code := { maxStack := 2, maxLocals := 1, code := jdk_78_method_1_code, exceptionTable := #[], attributes := #[] }
def k10m0 : Method := { name := "<init>", desc := "()V", sig := { parameters := [], returnType := none }, accessFlags := 1, code := some k10c0 }
def k10c1 : Code := { maxStack := 2, maxLocals := 2, code := jdk_78_method_2_code, exceptionTable := #[], attributes := #[] }
def k10m1 : Method := { name := "<init>", desc := "(Ljava/lang/String;)V", sig := { parameters := [(.object "java/lang/String")], returnType := none }, accessFlags := 1, code := some k10c1 }
def k10c2 : Code := { maxStack := 1, maxLocals := 1, code := jdk_78_method_6_code, exceptionTable := #[], attributes := #[] }
def k10m2 : Method := { name := "getMessage", desc := "()Ljava/lang/String;", sig := { parameters := [], returnType := some (.object "java/lang/String") }, accessFlags := 1, code := some k10c2 }
def k10c3 : Code := { maxStack := 2, maxLocals := 1, code := ⟨#[0x2a, 0xb4, 0x00, 0x11, 0xc7, 0x00, 0x0a, 0x2a, 0xb4, 0x00, 0xc6, 0xc6, 0x00, 0x10, 0x2a, 0x03, 0xb6, 0x00, 0xca, 0x57, 0x2a, 0xb2, 0x00, 0x0d, 0xb5, 0x00, 0x11, 0x2a, 0xb0]⟩, exceptionTable := #[], attributes := #[] }
def k10m3 : Method := { name := "fillInStackTrace", desc := "()Ljava/lang/Throwable;", sig := { parameters := [], returnType := some (.object "java/lang/Throwable") }, accessFlags := 33, code := some k10c3 }
def k10m4 : Method := { name := "fillInStackTrace", desc := "(I)Ljava/lang/Throwable;", sig := { parameters := [.int], returnType := some (.object "java/lang/Throwable") }, accessFlags := 258, code := none }
/-- java/lang/Throwable -/
def k10 : Class := { plain "java/lang/Throwable" (some 0) with
  accessFlags := 33
  interfaces := #[2]
  cf := some (fileOf pool10 8 #[.nestMembers #[193, 93, 101, 269]] #[{ accessFlags := 1, nameIndex := 5, descriptorIndex := 6, attributes := #[] }, { accessFlags := 1, nameIndex := 5, descriptorIndex := 223, attributes := #[] }, { accessFlags := 1, nameIndex := 41, descriptorIndex := 38, attributes := #[] }, { accessFlags := 33, nameIndex := 29, descriptorIndex := 30, attributes := #[] }, { accessFlags := 258, nameIndex := 29, descriptorIndex := 204, attributes := #[] }] 33 2 #[318] #[{ accessFlags := 26, nameIndex := 320, descriptorIndex := 321, attributes := #[] }, { accessFlags := 130, nameIndex := 200, descriptorIndex := 201, attributes := #[] }, { accessFlags := 2, nameIndex := 33, descriptorIndex := 34, attributes := #[] }, { accessFlags := 26, nameIndex := 15, descriptorIndex := 16, attributes := #[] }, { accessFlags := 2, nameIndex := 11, descriptorIndex := 12, attributes := #[] }, { accessFlags := 2, nameIndex := 19, descriptorIndex := 16, attributes := #[] }, { accessFlags := 130, nameIndex := 211, descriptorIndex := 212, attributes := #[] }, { accessFlags := 26, nameIndex := 22, descriptorIndex := 23, attributes := #[] }, { accessFlags := 2, nameIndex := 26, descriptorIndex := 23, attributes := #[] }, { accessFlags := 26, nameIndex := 327, descriptorIndex := 34, attributes := #[] }, { accessFlags := 26, nameIndex := 328, descriptorIndex := 34, attributes := #[] }, { accessFlags := 26, nameIndex := 329, descriptorIndex := 34, attributes := #[] }, { accessFlags := 26, nameIndex := 330, descriptorIndex := 34, attributes := #[] }, { accessFlags := 26, nameIndex := 304, descriptorIndex := 305, attributes := #[] }, { accessFlags := 4120, nameIndex := 165, descriptorIndex := 166, attributes := #[] }])
  fields := #[{ name := "serialVersionUID", type := .long, accessFlags := 26, slot := 0, constantValue := 0 }, { name := "backtrace", type := (.object "java/lang/Object"), accessFlags := 130, slot := 0, constantValue := 0 }, { name := "detailMessage", type := (.object "java/lang/String"), accessFlags := 2, slot := 1, constantValue := 0 }, { name := "UNASSIGNED_STACK", type := (.array (.object "java/lang/StackTraceElement")), accessFlags := 26, slot := 1, constantValue := 0 }, { name := "cause", type := (.object "java/lang/Throwable"), accessFlags := 2, slot := 2, constantValue := 0 }, { name := "stackTrace", type := (.array (.object "java/lang/StackTraceElement")), accessFlags := 2, slot := 3, constantValue := 0 }, { name := "depth", type := .int, accessFlags := 130, slot := 4, constantValue := 0 }, { name := "SUPPRESSED_SENTINEL", type := (.object "java/util/List"), accessFlags := 26, slot := 2, constantValue := 0 }, { name := "suppressedExceptions", type := (.object "java/util/List"), accessFlags := 2, slot := 5, constantValue := 0 }, { name := "NULL_CAUSE_MESSAGE", type := (.object "java/lang/String"), accessFlags := 26, slot := 3, constantValue := 0 }, { name := "SELF_SUPPRESSION_MESSAGE", type := (.object "java/lang/String"), accessFlags := 26, slot := 4, constantValue := 0 }, { name := "CAUSE_CAPTION", type := (.object "java/lang/String"), accessFlags := 26, slot := 5, constantValue := 0 }, { name := "SUPPRESSED_CAPTION", type := (.object "java/lang/String"), accessFlags := 26, slot := 6, constantValue := 0 }, { name := "EMPTY_THROWABLE_ARRAY", type := (.array (.object "java/lang/Throwable")), accessFlags := 26, slot := 7, constantValue := 0 }, { name := "$assertionsDisabled", type := .boolean, accessFlags := 4120, slot := 8, constantValue := 0 }]
  methods := #[k10m0, k10m1, k10m2, k10m3, k10m4]
  instanceTypes := #[(.object "java/lang/Object"), (.object "java/lang/String"), (.object "java/lang/Throwable"), (.array (.object "java/lang/StackTraceElement")), .int, (.object "java/util/List")]
  staticTypes := #[.long, (.array (.object "java/lang/StackTraceElement")), (.object "java/util/List"), (.object "java/lang/String"), (.object "java/lang/String"), (.object "java/lang/String"), (.object "java/lang/String"), (.array (.object "java/lang/Throwable")), .boolean]
  resolved := Array.replicate 404 none
  statics := some 1 }

def pool11 : Array CpInfo := pool [(2, .class_ 4), (1, u "java/lang/Throwable"), (0, u "<init>"), (0, u "()V"), (0, .methodref 2 8), (0, .nameAndType 5 9), (0, u "(Ljava/lang/String;)V"), (9, .class_ 20), (0, u "java/lang/Exception"), (0, u "serialVersionUID"), (0, u "J")] 17

def k11m0 : Method := { name := "<init>", desc := "()V", sig := { parameters := [], returnType := none }, accessFlags := 1, code := none }
def k11c1 : Code := { maxStack := 2, maxLocals := 2, code := jdk_59_method_2_code, exceptionTable := #[], attributes := #[] }
def k11m1 : Method := { name := "<init>", desc := "(Ljava/lang/String;)V", sig := { parameters := [(.object "java/lang/String")], returnType := none }, accessFlags := 1, code := some k11c1 }
/-- java/lang/Exception -/
def k11 : Class := { plain "java/lang/Exception" (some 10) with
  accessFlags := 33
  interfaces := #[]
  cf := some (fileOf pool11 19 #[] #[{ accessFlags := 1, nameIndex := 5, descriptorIndex := 6, attributes := #[] }, { accessFlags := 1, nameIndex := 5, descriptorIndex := 9, attributes := #[] }] 33 2 #[] #[{ accessFlags := 24, nameIndex := 21, descriptorIndex := 22, attributes := #[] }])
  fields := #[{ name := "serialVersionUID", type := .long, accessFlags := 24, slot := 0, constantValue := 0 }]
  methods := #[k11m0, k11m1]
  instanceTypes := #[(.object "java/lang/Object"), (.object "java/lang/String"), (.object "java/lang/Throwable"), (.array (.object "java/lang/StackTraceElement")), .int, (.object "java/util/List")]
  staticTypes := #[.long]
  resolved := Array.replicate 40 none
  statics := none }

def pool12 : Array CpInfo := pool [(2, .class_ 4), (1, u "java/lang/Exception"), (0, u "<init>"), (0, u "()V"), (0, .methodref 2 8), (0, .nameAndType 5 9), (0, u "(Ljava/lang/String;)V"), (9, .class_ 20), (0, u "java/lang/RuntimeException"), (0, u "serialVersionUID"), (0, u "J")] 17

def k12m0 : Method := { name := "<init>", desc := "()V", sig := { parameters := [], returnType := none }, accessFlags := 1, code := none }
def k12c1 : Code := { maxStack := 2, maxLocals := 2, code := jdk_58_method_2_code, exceptionTable := #[], attributes := #[] }
def k12m1 : Method := { name := "<init>", desc := "(Ljava/lang/String;)V", sig := { parameters := [(.object "java/lang/String")], returnType := none }, accessFlags := 1, code := some k12c1 }
/-- java/lang/RuntimeException -/
def k12 : Class := { plain "java/lang/RuntimeException" (some 11) with
  accessFlags := 33
  interfaces := #[]
  cf := some (fileOf pool12 19 #[] #[{ accessFlags := 1, nameIndex := 5, descriptorIndex := 6, attributes := #[] }, { accessFlags := 1, nameIndex := 5, descriptorIndex := 9, attributes := #[] }] 33 2 #[] #[{ accessFlags := 24, nameIndex := 21, descriptorIndex := 22, attributes := #[] }])
  fields := #[{ name := "serialVersionUID", type := .long, accessFlags := 24, slot := 0, constantValue := 0 }]
  methods := #[k12m0, k12m1]
  instanceTypes := #[(.object "java/lang/Object"), (.object "java/lang/String"), (.object "java/lang/Throwable"), (.array (.object "java/lang/StackTraceElement")), .int, (.object "java/util/List")]
  staticTypes := #[.long]
  resolved := Array.replicate 40 none
  statics := none }

def pool13 : Array CpInfo := pool [(2, .class_ 4), (1, u "java/lang/RuntimeException"), (0, u "<init>"), (0, u "()V"), (0, .methodref 2 8), (0, .nameAndType 5 9), (0, u "(Ljava/lang/String;)V"), (6, .class_ 17), (0, u "java/lang/UnsupportedOperationException"), (0, u "serialVersionUID"), (0, u "J")] 14

def k13m0 : Method := { name := "<init>", desc := "()V", sig := { parameters := [], returnType := none }, accessFlags := 1, code := none }
def k13c1 : Code := { maxStack := 2, maxLocals := 2, code := jdk_102_method_2_code, exceptionTable := #[], attributes := #[] }
def k13m1 : Method := { name := "<init>", desc := "(Ljava/lang/String;)V", sig := { parameters := [(.object "java/lang/String")], returnType := none }, accessFlags := 1, code := some k13c1 }
/-- java/lang/UnsupportedOperationException -/
def k13 : Class := { plain "java/lang/UnsupportedOperationException" (some 12) with
  accessFlags := 33
  interfaces := #[]
  cf := some (fileOf pool13 16 #[] #[{ accessFlags := 1, nameIndex := 5, descriptorIndex := 6, attributes := #[] }, { accessFlags := 1, nameIndex := 5, descriptorIndex := 9, attributes := #[] }] 33 2 #[] #[{ accessFlags := 24, nameIndex := 18, descriptorIndex := 19, attributes := #[] }])
  fields := #[{ name := "serialVersionUID", type := .long, accessFlags := 24, slot := 0, constantValue := 0 }]
  methods := #[k13m0, k13m1]
  instanceTypes := #[(.object "java/lang/Object"), (.object "java/lang/String"), (.object "java/lang/Throwable"), (.array (.object "java/lang/StackTraceElement")), .int, (.object "java/util/List")]
  staticTypes := #[.long]
  resolved := Array.replicate 34 none
  statics := none }

def pool14 : Array CpInfo := pool [(1, .class_ 2), (0, u "java/lang/Appendable"), (0, .class_ 4), (0, u "java/lang/Object")] 9

/-- java/lang/Appendable -/
def k14 : Class := { plain "java/lang/Appendable" (some 0) with
  accessFlags := 1537
  interfaces := #[]
  cf := some (fileOf pool14 1 #[] #[] 1537 3 #[] #[])
  fields := #[]
  methods := #[]
  instanceTypes := #[]
  staticTypes := #[]
  resolved := Array.replicate 14 none
  statics := none }

def pool15 : Array CpInfo := pool [(1, .class_ 2), (0, u "java/lang/String"), (0, .methodref 4 5), (0, .class_ 6), (0, .nameAndType 7 8), (0, u "java/lang/Object"), (0, u "<init>"), (0, u "()V"), (1, .class_ 12), (1, u "java/lang/AbstractStringBuilder"), (0, u "EMPTYVALUE"), (0, u "[B"), (0, .fieldref 10 16), (0, .nameAndType 17 14), (0, u "value"), (0, .fieldref 1 19), (0, .nameAndType 20 21), (0, u "COMPACT_STRINGS"), (0, u "Z"), (0, .fieldref 10 23), (0, .nameAndType 24 25), (0, u "coder"), (0, u "B"), (6, .methodref 1 33), (0, .nameAndType 34 35), (0, u "length"), (0, u "()I"), (3, .integer 2147483647), (0, .methodref 1 41), (0, .nameAndType 24 42), (0, u "()B"), (2, u "append"), (0, u "(Ljava/lang/String;)Ljava/lang/AbstractStringBuilder;"), (1, .class_ 49), (0, u "java/lang/CharSequence"), (19, u "(Ljava/lang/String;)V"), (5, u "maybeLatin1"), (3, .fieldref 10 80), (0, .nameAndType 81 82), (0, u "count"), (0, u "I"), (2, u "isLatin1"), (0, u "()Z"), (13, .methodref 10 101), (0, .nameAndType 102 103), (0, u "ensureCapacityInternal"), (0, u "(I)V"), (0, .methodref 10 105), (0, .nameAndType 106 107), (0, u "newCapacity"), (0, u "(I)I"), (0, .methodref 109 110), (0, .class_ 111), (0, .nameAndType 112 113), (0, u "java/util/Arrays"), (0, u "copyOf"), (0, u "([BI)[B"), (0, .methodref 115 116), (0, .class_ 117), (0, .nameAndType 118 119), (0, u "jdk/internal/util/ArraysSupport"), (0, u "newLength"), (0, u "(III)I"), (88, .methodref 10 209), (0, .nameAndType 210 211), (0, u "putStringAt"), (0, u "(ILjava/lang/String;)V"), (5, u "inflateIfNeededFor"), (2, .nameAndType 221 222), (0, u "getBytes"), (0, u "([BIB)V"), (174, .methodref 10 398), (0, .nameAndType 217 69), (0, .methodref 1 220), (3, u "()[B"), (40, .class_ 445), (0, u "java/lang/Appendable"), (106, u "getValue")] 56

def k15m0 : Method := { name := "<init>", desc := "()V", sig := { parameters := [], returnType := none }, accessFlags := 0, code := none }
def k15c1 : Code := { maxStack := 2, maxLocals := 2, code := jdk_68_method_2_code, exceptionTable := #[], attributes := #[] }
def k15m1 : Method := { name := "<init>", desc := "(I)V", sig := { parameters := [.int], returnType := none }, accessFlags := 0, code := some k15c1 }
def k15c2 : Code := { maxStack := 1, maxLocals := 1, code := jdk_68_method_6_code, exceptionTable := #[], attributes := #[] }
def k15m2 : Method := { name := "length", desc := "()I", sig := { parameters := [], returnType := some .int }, accessFlags := 1, code := some k15c2 }
def k15c3 : Code := { maxStack := 4, maxLocals := 3, code := jdk_68_method_9_code, exceptionTable := #[], attributes := #[] }
def k15m3 : Method := { name := "ensureCapacityInternal", desc := "(I)V", sig := { parameters := [.int], returnType := none }, accessFlags := 2, code := some k15c3 }
def k15c4 : Code := { maxStack := 5, maxLocals := 6, code := jdk_68_method_10_code, exceptionTable := #[], attributes := #[] }
def k15m4 : Method := { name := "newCapacity", desc := "(I)I", sig := { parameters := [.int], returnType := some .int }, accessFlags := 2, code := some k15c4 }
def k15c5 : Code := { maxStack := 3, maxLocals := 3, code := jdk_68_method_22_code, exceptionTable := #[], attributes := #[] }
def k15m5 : Method := { name := "append", desc := "(Ljava/lang/String;)Ljava/lang/AbstractStringBuilder;", sig := { parameters := [(.object "java/lang/String")], returnType := some (.object "java/lang/AbstractStringBuilder") }, accessFlags := 1, code := some k15c5 }
def k15c6 : Code := { maxStack := 1, maxLocals := 1, code := jdk_68_method_64_code, exceptionTable := #[], attributes := #[] }
def k15m6 : Method := { name := "getValue", desc := "()[B", sig := { parameters := [], returnType := some (.array .byte) }, accessFlags := 16, code := some k15c6 }
def k15c7 : Code := { maxStack := 1, maxLocals := 1, code := jdk_68_method_68_code, exceptionTable := #[], attributes := #[] }
def k15m7 : Method := { name := "isLatin1", desc := "()Z", sig := { parameters := [], returnType := some .boolean }, accessFlags := 16, code := some k15c7 }
def k15c8 : Code := { maxStack := 2, maxLocals := 2, code := jdk_68_method_71_code, exceptionTable := #[], attributes := #[] }
def k15m8 : Method := { name := "inflateIfNeededFor", desc := "(Ljava/lang/String;)V", sig := { parameters := [(.object "java/lang/String")], returnType := none }, accessFlags := 2, code := some k15c8 }
def k15c9 : Code := { maxStack := 4, maxLocals := 3, code := jdk_68_method_73_code, exceptionTable := #[], attributes := #[] }
def k15m9 : Method := { name := "putStringAt", desc := "(ILjava/lang/String;)V", sig := { parameters := [.int, (.object "java/lang/String")], returnType := none }, accessFlags := 2, code := some k15c9 }
/-- java/lang/AbstractStringBuilder -/
def k15 : Class := { plain "java/lang/AbstractStringBuilder" (some 0) with
  accessFlags := 1056
  interfaces := #[14, 4]
  cf := some (fileOf pool15 10 #[] #[{ accessFlags := 0, nameIndex := 7, descriptorIndex := 8, attributes := #[] }, { accessFlags := 0, nameIndex := 7, descriptorIndex := 103, attributes := #[] }, { accessFlags := 1, nameIndex := 34, descriptorIndex := 35, attributes := #[] }, { accessFlags := 2, nameIndex := 102, descriptorIndex := 103, attributes := #[] }, { accessFlags := 2, nameIndex := 106, descriptorIndex := 107, attributes := #[] }, { accessFlags := 1, nameIndex := 45, descriptorIndex := 46, attributes := #[] }, { accessFlags := 16, nameIndex := 552, descriptorIndex := 403, attributes := #[] }, { accessFlags := 16, nameIndex := 85, descriptorIndex := 86, attributes := #[] }, { accessFlags := 2, nameIndex := 217, descriptorIndex := 69, attributes := #[] }, { accessFlags := 2, nameIndex := 210, descriptorIndex := 211, attributes := #[] }] 1056 4 #[444, 48] #[{ accessFlags := 0, nameIndex := 17, descriptorIndex := 14, attributes := #[] }, { accessFlags := 0, nameIndex := 24, descriptorIndex := 25, attributes := #[] }, { accessFlags := 0, nameIndex := 75, descriptorIndex := 21, attributes := #[] }, { accessFlags := 0, nameIndex := 81, descriptorIndex := 82, attributes := #[] }, { accessFlags := 26, nameIndex := 13, descriptorIndex := 14, attributes := #[] }])
  fields := #[{ name := "value", type := (.array .byte), accessFlags := 0, slot := 0, constantValue := 0 }, { name := "coder", type := .byte, accessFlags := 0, slot := 1, constantValue := 0 }, { name := "maybeLatin1", type := .boolean, accessFlags := 0, slot := 2, constantValue := 0 }, { name := "count", type := .int, accessFlags := 0, slot := 3, constantValue := 0 }, { name := "EMPTYVALUE", type := (.array .byte), accessFlags := 26, slot := 0, constantValue := 0 }]
  methods := #[k15m0, k15m1, k15m2, k15m3, k15m4, k15m5, k15m6, k15m7, k15m8, k15m9]
  instanceTypes := #[(.array .byte), .byte, .boolean, .int]
  staticTypes := #[(.array .byte)]
  resolved := Array.replicate 609 none
  statics := none }

def pool16 : Array CpInfo := pool [(1, .methodref 2 3), (0, .class_ 4), (0, .nameAndType 5 6), (0, u "java/lang/AbstractStringBuilder"), (0, u "<init>"), (0, u "(I)V"), (11, .class_ 20), (1, u "java/lang/String"), (3, .class_ 26), (1, u "java/lang/StringBuilder"), (0, u "append"), (0, u "(Ljava/lang/String;)Ljava/lang/StringBuilder;"), (0, .methodref 2 30), (0, .nameAndType 27 31), (0, u "(Ljava/lang/String;)Ljava/lang/AbstractStringBuilder;"), (105, .methodref 18 138), (0, .nameAndType 5 139), (0, u "(Ljava/lang/StringBuilder;)V"), (5, u "()V"), (10, u "()I"), (186, .methodref 2 344), (0, .nameAndType 345 156), (0, u "length"), (3, .class_ 350), (0, u "java/lang/Appendable"), (0, .class_ 352), (0, u "java/io/Serializable"), (0, .class_ 354), (0, u "java/lang/Comparable"), (0, .class_ 356), (0, u "java/lang/CharSequence"), (0, u "serialVersionUID"), (0, u "J"), (40, u "toString"), (0, u "()Ljava/lang/String;")] 21

def k16c0 : Code := { maxStack := 2, maxLocals := 1, code := jdk_67_method_1_code, exceptionTable := #[], attributes := #[] }
def k16m0 : Method := { name := "<init>", desc := "()V", sig := { parameters := [], returnType := none }, accessFlags := 1, code := some k16c0 }
def k16c1 : Code := { maxStack := 2, maxLocals := 2, code := jdk_67_method_7_code, exceptionTable := #[], attributes := #[] }
def k16m1 : Method := { name := "append", desc := "(Ljava/lang/String;)Ljava/lang/StringBuilder;", sig := { parameters := [(.object "java/lang/String")], returnType := some (.object "java/lang/StringBuilder") }, accessFlags := 1, code := some k16c1 }
def k16c2 : Code := { maxStack := 3, maxLocals := 1, code := jdk_67_method_42_code, exceptionTable := #[], attributes := #[] }
def k16m2 : Method := { name := "toString", desc := "()Ljava/lang/String;", sig := { parameters := [], returnType := some (.object "java/lang/String") }, accessFlags := 1, code := some k16c2 }
def k16c3 : Code := { maxStack := 1, maxLocals := 1, code := jdk_67_method_93_code, exceptionTable := #[], attributes := #[] }
def k16m3 : Method := { name := "length", desc := "()I", sig := { parameters := [], returnType := some .int }, accessFlags := 4161, code := some k16c3 }
/-- java/lang/StringBuilder -/
def k16 : Class := { plain "java/lang/StringBuilder" (some 15) with
  accessFlags := 49
  interfaces := #[14, 2, 3, 4]
  cf := some (fileOf pool16 24 #[] #[{ accessFlags := 1, nameIndex := 5, descriptorIndex := 145, attributes := #[] }, { accessFlags := 1, nameIndex := 27, descriptorIndex := 28, attributes := #[] }, { accessFlags := 1, nameIndex := 399, descriptorIndex := 400, attributes := #[] }, { accessFlags := 4161, nameIndex := 345, descriptorIndex := 156, attributes := #[] }] 49 2 #[349, 351, 353, 355] #[{ accessFlags := 24, nameIndex := 357, descriptorIndex := 358, attributes := #[] }])
  fields := #[{ name := "serialVersionUID", type := .long, accessFlags := 24, slot := 0, constantValue := 0 }]
  methods := #[k16m0, k16m1, k16m2, k16m3]
  instanceTypes := #[(.array .byte), .byte, .boolean, .int]
  staticTypes := #[.long]
  resolved := Array.replicate 422 none
  statics := none }

def pool17 : Array CpInfo := pool [(9, u "<init>"), (6, .class_ 18), (1, u "java/lang/Object"), (0, u "()V"), (1, .class_ 23), (1, u "jdk/internal/util/ArraysSupport"), (0, u "LOG2_ARRAY_LONG_INDEX_SCALE"), (0, u "I"), (2, u "U"), (0, u "Ljdk/internal/misc/Unsafe;"), (8, u "BIG_ENDIAN"), (0, u "Z"), (8, u "LOG2_BYTE_BIT_SIZE"), (4, u "LOG2_ARRAY_INT_INDEX_SCALE"), (54, u "JLA"), (0, u "Ljdk/internal/access/JavaLangAccess;"), (11, u "LOG2_ARRAY_BOOLEAN_INDEX_SCALE"), (9, u "LOG2_ARRAY_BYTE_INDEX_SCALE"), (5, u "LOG2_ARRAY_CHAR_INDEX_SCALE"), (5, u "LOG2_ARRAY_SHORT_INDEX_SCALE"), (18, u "LOG2_ARRAY_FLOAT_INDEX_SCALE"), (24, u "LOG2_ARRAY_DOUBLE_INDEX_SCALE"), (6, .methodref 195 196), (0, .class_ 197), (0, .nameAndType 198 199), (0, u "java/lang/Math"), (0, u "max"), (0, u "(II)I"), (0, .integer 2147483639), (76, u "T_BOOLEAN"), (2, u "T_CHAR"), (1, u "T_FLOAT"), (1, u "T_DOUBLE"), (1, u "T_BYTE"), (1, u "T_SHORT"), (1, u "T_INT"), (1, u "T_LONG"), (1, u "SOFT_MAX_ARRAY_LENGTH"), (56, u "newLength"), (0, u "(III)I")] 25

def k17m0 : Method := { name := "<init>", desc := "()V", sig := { parameters := [], returnType := none }, accessFlags := 2, code := none }
def k17c1 : Code := { maxStack := 3, maxLocals := 4, code := jdk_48_method_27_code, exceptionTable := #[], attributes := #[] }
def k17m1 : Method := { name := "newLength", desc := "(III)I", sig := { parameters := [.int, .int, .int], returnType := some .int }, accessFlags := 9, code := some k17c1 }
/-- jdk/internal/util/ArraysSupport -/
def k17 : Class := { plain "jdk/internal/util/ArraysSupport" (some 0) with
  accessFlags := 33
  interfaces := #[]
  cf := some (fileOf pool17 21 #[] #[{ accessFlags := 2, nameIndex := 9, descriptorIndex := 19, attributes := #[] }, { accessFlags := 9, nameIndex := 351, descriptorIndex := 352, attributes := #[] }] 33 16 #[] #[{ accessFlags := 24, nameIndex := 28, descriptorIndex := 29, attributes := #[] }, { accessFlags := 26, nameIndex := 38, descriptorIndex := 39, attributes := #[] }, { accessFlags := 25, nameIndex := 121, descriptorIndex := 25, attributes := #[] }, { accessFlags := 25, nameIndex := 131, descriptorIndex := 25, attributes := #[] }, { accessFlags := 25, nameIndex := 137, descriptorIndex := 25, attributes := #[] }, { accessFlags := 25, nameIndex := 143, descriptorIndex := 25, attributes := #[] }, { accessFlags := 25, nameIndex := 53, descriptorIndex := 25, attributes := #[] }, { accessFlags := 25, nameIndex := 24, descriptorIndex := 25, attributes := #[] }, { accessFlags := 25, nameIndex := 162, descriptorIndex := 25, attributes := #[] }, { accessFlags := 25, nameIndex := 187, descriptorIndex := 25, attributes := #[] }, { accessFlags := 26, nameIndex := 48, descriptorIndex := 25, attributes := #[] }, { accessFlags := 25, nameIndex := 277, descriptorIndex := 25, attributes := #[] }, { accessFlags := 25, nameIndex := 280, descriptorIndex := 25, attributes := #[] }, { accessFlags := 25, nameIndex := 282, descriptorIndex := 25, attributes := #[] }, { accessFlags := 25, nameIndex := 284, descriptorIndex := 25, attributes := #[] }, { accessFlags := 25, nameIndex := 286, descriptorIndex := 25, attributes := #[] }, { accessFlags := 25, nameIndex := 288, descriptorIndex := 25, attributes := #[] }, { accessFlags := 25, nameIndex := 290, descriptorIndex := 25, attributes := #[] }, { accessFlags := 25, nameIndex := 292, descriptorIndex := 25, attributes := #[] }, { accessFlags := 26, nameIndex := 108, descriptorIndex := 109, attributes := #[] }, { accessFlags := 25, nameIndex := 294, descriptorIndex := 25, attributes := #[] }])
  fields := #[{ name := "U", type := (.object "jdk/internal/misc/Unsafe"), accessFlags := 24, slot := 0, constantValue := 0 }, { name := "BIG_ENDIAN", type := .boolean, accessFlags := 26, slot := 1, constantValue := 0 }, { name := "LOG2_ARRAY_BOOLEAN_INDEX_SCALE", type := .int, accessFlags := 25, slot := 2, constantValue := 0 }, { name := "LOG2_ARRAY_BYTE_INDEX_SCALE", type := .int, accessFlags := 25, slot := 3, constantValue := 0 }, { name := "LOG2_ARRAY_CHAR_INDEX_SCALE", type := .int, accessFlags := 25, slot := 4, constantValue := 0 }, { name := "LOG2_ARRAY_SHORT_INDEX_SCALE", type := .int, accessFlags := 25, slot := 5, constantValue := 0 }, { name := "LOG2_ARRAY_INT_INDEX_SCALE", type := .int, accessFlags := 25, slot := 6, constantValue := 0 }, { name := "LOG2_ARRAY_LONG_INDEX_SCALE", type := .int, accessFlags := 25, slot := 7, constantValue := 0 }, { name := "LOG2_ARRAY_FLOAT_INDEX_SCALE", type := .int, accessFlags := 25, slot := 8, constantValue := 0 }, { name := "LOG2_ARRAY_DOUBLE_INDEX_SCALE", type := .int, accessFlags := 25, slot := 9, constantValue := 0 }, { name := "LOG2_BYTE_BIT_SIZE", type := .int, accessFlags := 26, slot := 10, constantValue := 0 }, { name := "T_BOOLEAN", type := .int, accessFlags := 25, slot := 11, constantValue := 0 }, { name := "T_CHAR", type := .int, accessFlags := 25, slot := 12, constantValue := 0 }, { name := "T_FLOAT", type := .int, accessFlags := 25, slot := 13, constantValue := 0 }, { name := "T_DOUBLE", type := .int, accessFlags := 25, slot := 14, constantValue := 0 }, { name := "T_BYTE", type := .int, accessFlags := 25, slot := 15, constantValue := 0 }, { name := "T_SHORT", type := .int, accessFlags := 25, slot := 16, constantValue := 0 }, { name := "T_INT", type := .int, accessFlags := 25, slot := 17, constantValue := 0 }, { name := "T_LONG", type := .int, accessFlags := 25, slot := 18, constantValue := 0 }, { name := "JLA", type := (.object "jdk/internal/access/JavaLangAccess"), accessFlags := 26, slot := 19, constantValue := 0 }, { name := "SOFT_MAX_ARRAY_LENGTH", type := .int, accessFlags := 25, slot := 20, constantValue := 0 }]
  methods := #[k17m0, k17m1]
  instanceTypes := #[]
  staticTypes := #[(.object "jdk/internal/misc/Unsafe"), .boolean, .int, .int, .int, .int, .int, .int, .int, .int, .int, .int, .int, .int, .int, .int, .int, .int, .int, (.object "jdk/internal/access/JavaLangAccess"), .int]
  resolved := Array.replicate 378 none
  statics := none }

def pool18 : Array CpInfo := pool [(1, .class_ 2), (0, u "java/lang/Math"), (1, .class_ 6), (1, u "java/lang/Object"), (0, u "<init>"), (0, u "()V"), (89, .class_ 100), (1, u "java/lang/Math$RandomNumberGeneratorHolder"), (71, u "negativeZeroFloatBits"), (0, u "J"), (2, u "negativeZeroDoubleBits"), (21, u "max"), (2, u "min"), (43, u "$assertionsDisabled"), (0, u "Z"), (88, u "(II)I"), (2, u "twoToTheDoubleScaleDown"), (0, u "D"), (4, u "twoToTheDoubleScaleUp"), (9, u "E"), (3, u "PI"), (2, u "TAU"), (2, u "DEGREES_TO_RADIANS"), (0, u "RADIANS_TO_DEGREES")] 94

def k18m0 : Method := { name := "<init>", desc := "()V", sig := { parameters := [], returnType := none }, accessFlags := 2, code := none }
def k18c1 : Code := { maxStack := 2, maxLocals := 2, code := jdk_29_method_65_code, exceptionTable := #[], attributes := #[] }
def k18m1 : Method := { name := "max", desc := "(II)I", sig := { parameters := [.int, .int], returnType := some .int }, accessFlags := 9, code := some k18c1 }
def k18c2 : Code := { maxStack := 2, maxLocals := 2, code := jdk_29_method_69_code, exceptionTable := #[], attributes := #[] }
def k18m2 : Method := { name := "min", desc := "(II)I", sig := { parameters := [.int, .int], returnType := some .int }, accessFlags := 9, code := some k18c2 }
/-- java/lang/Math -/
def k18 : Class := { plain "java/lang/Math" (some 0) with
  accessFlags := 49
  interfaces := #[]
  cf := some (fileOf pool18 1 #[.nestMembers #[98]] #[{ accessFlags := 2, nameIndex := 7, descriptorIndex := 8, attributes := #[] }, { accessFlags := 9, nameIndex := 198, descriptorIndex := 335, attributes := #[] }, { accessFlags := 9, nameIndex := 201, descriptorIndex := 335, attributes := #[] }] 49 4 #[] #[{ accessFlags := 25, nameIndex := 354, descriptorIndex := 339, attributes := #[] }, { accessFlags := 25, nameIndex := 358, descriptorIndex := 339, attributes := #[] }, { accessFlags := 25, nameIndex := 361, descriptorIndex := 339, attributes := #[] }, { accessFlags := 26, nameIndex := 364, descriptorIndex := 339, attributes := #[] }, { accessFlags := 26, nameIndex := 365, descriptorIndex := 339, attributes := #[] }, { accessFlags := 26, nameIndex := 172, descriptorIndex := 173, attributes := #[] }, { accessFlags := 26, nameIndex := 176, descriptorIndex := 173, attributes := #[] }, { accessFlags := 8, nameIndex := 344, descriptorIndex := 339, attributes := #[] }, { accessFlags := 8, nameIndex := 338, descriptorIndex := 339, attributes := #[] }, { accessFlags := 4120, nameIndex := 245, descriptorIndex := 246, attributes := #[] }])
  fields := #[{ name := "E", type := .double, accessFlags := 25, slot := 0, constantValue := 0 }, { name := "PI", type := .double, accessFlags := 25, slot := 1, constantValue := 0 }, { name := "TAU", type := .double, accessFlags := 25, slot := 2, constantValue := 0 }, { name := "DEGREES_TO_RADIANS", type := .double, accessFlags := 26, slot := 3, constantValue := 0 }, { name := "RADIANS_TO_DEGREES", type := .double, accessFlags := 26, slot := 4, constantValue := 0 }, { name := "negativeZeroFloatBits", type := .long, accessFlags := 26, slot := 5, constantValue := 0 }, { name := "negativeZeroDoubleBits", type := .long, accessFlags := 26, slot := 6, constantValue := 0 }, { name := "twoToTheDoubleScaleUp", type := .double, accessFlags := 8, slot := 7, constantValue := 0 }, { name := "twoToTheDoubleScaleDown", type := .double, accessFlags := 8, slot := 8, constantValue := 0 }, { name := "$assertionsDisabled", type := .boolean, accessFlags := 4120, slot := 9, constantValue := 0 }]
  methods := #[k18m0, k18m1, k18m2]
  instanceTypes := #[]
  staticTypes := #[.double, .double, .double, .double, .double, .long, .long, .double, .double, .boolean]
  resolved := Array.replicate 460 none
  statics := none }

def pool19 : Array CpInfo := pool [(2, .class_ 4), (1, u "java/lang/Object"), (0, u "<init>"), (0, u "()V"), (7, .class_ 16), (1, u "java/util/Arrays"), (57, .class_ 76), (1, u "java/util/Arrays$NaturalOrder"), (36, .class_ 115), (1, u "java/util/Arrays$LegacyMergeSort"), (1, u "Z"), (21, u "copyOfRange"), (10, .methodref 151 152), (0, .class_ 153), (0, .nameAndType 154 155), (0, u "java/lang/System"), (0, u "arraycopy"), (0, u "(Ljava/lang/Object;ILjava/lang/Object;II)V"), (146, u "copyOf"), (1, .methodref 305 306), (0, .class_ 307), (0, .nameAndType 308 309), (0, u "java/lang/Math"), (0, u "min"), (0, u "(II)I"), (29, .methodref 14 340), (0, .nameAndType 341 342), (0, u "copyOfRangeByte"), (0, u "([BII)[B"), (0, .methodref 14 344), (0, .nameAndType 345 346), (0, u "checkLength"), (0, u "(II)V"), (28, .class_ 376), (0, u "java/util/Arrays$ArrayList"), (68, u "$assertionsDisabled"), (269, u "MIN_ARRAY_SORT_GRAN"), (0, u "I"), (2, u "INSERTIONSORT_THRESHOLD"), (149, u "([BI)[B"), (105, .class_ 976), (0, u "java/util/Arrays$ArrayItr")] 52

def k19m0 : Method := { name := "<init>", desc := "()V", sig := { parameters := [], returnType := none }, accessFlags := 2, code := none }
def k19c1 : Code := { maxStack := 6, maxLocals := 3, code := jdk_65_method_121_code, exceptionTable := #[], attributes := #[] }
def k19m1 : Method := { name := "copyOf", desc := "([BI)[B", sig := { parameters := [(.array .byte), .int], returnType := some (.array .byte) }, accessFlags := 9, code := some k19c1 }
def k19c2 : Code := { maxStack := 4, maxLocals := 2, code := jdk_65_method_131_code, exceptionTable := #[], attributes := #[] }
def k19m2 : Method := { name := "checkLength", desc := "(II)V", sig := { parameters := [.int, .int], returnType := none }, accessFlags := 10, code := some k19c2 }
def k19c3 : Code := { maxStack := 3, maxLocals := 3, code := jdk_65_method_132_code, exceptionTable := #[], attributes := #[] }
def k19m3 : Method := { name := "copyOfRange", desc := "([BII)[B", sig := { parameters := [(.array .byte), .int, .int], returnType := some (.array .byte) }, accessFlags := 9, code := some k19c3 }
def k19c4 : Code := { maxStack := 6, maxLocals := 5, code := jdk_65_method_133_code, exceptionTable := #[], attributes := #[] }
def k19m4 : Method := { name := "copyOfRangeByte", desc := "([BII)[B", sig := { parameters := [(.array .byte), .int, .int], returnType := some (.array .byte) }, accessFlags := 10, code := some k19c4 }
/-- java/util/Arrays -/
def k19 : Class := { plain "java/util/Arrays" (some 0) with
  accessFlags := 49
  interfaces := #[]
  cf := some (fileOf pool19 14 #[.nestMembers #[975, 375, 113, 74]] #[{ accessFlags := 2, nameIndex := 5, descriptorIndex := 6, attributes := #[] }, { accessFlags := 9, nameIndex := 302, descriptorIndex := 869, attributes := #[] }, { accessFlags := 10, nameIndex := 345, descriptorIndex := 346, attributes := #[] }, { accessFlags := 9, nameIndex := 139, descriptorIndex := 342, attributes := #[] }, { accessFlags := 10, nameIndex := 341, descriptorIndex := 342, attributes := #[] }] 49 2 #[] #[{ accessFlags := 26, nameIndex := 715, descriptorIndex := 716, attributes := #[] }, { accessFlags := 26, nameIndex := 719, descriptorIndex := 716, attributes := #[] }, { accessFlags := 4120, nameIndex := 445, descriptorIndex := 117, attributes := #[] }])
  fields := #[{ name := "MIN_ARRAY_SORT_GRAN", type := .int, accessFlags := 26, slot := 0, constantValue := 0 }, { name := "INSERTIONSORT_THRESHOLD", type := .int, accessFlags := 26, slot := 1, constantValue := 0 }, { name := "$assertionsDisabled", type := .boolean, accessFlags := 4120, slot := 2, constantValue := 0 }]
  methods := #[k19m0, k19m1, k19m2, k19m3, k19m4]
  instanceTypes := #[]
  staticTypes := #[.int, .int, .boolean]
  resolved := Array.replicate 1029 none
  statics := none }

def pool20 : Array CpInfo := pool [(2, .class_ 4), (1, u "java/lang/Object"), (0, u "<init>"), (0, u "()V"), (1, .class_ 10), (1, u "java/lang/System"), (0, u "allowSecurityManager"), (0, u "I"), (16, u "cons"), (0, u "Ljava/io/Console;"), (77, .class_ 110), (1, u "java/lang/System$CallersHolder"), (43, u "initialErrStream"), (0, u "Ljava/io/PrintStream;"), (19, u "security"), (0, u "Ljava/lang/SecurityManager;"), (31, .class_ 209), (0, u "java/lang/System$1"), (7, u "props"), (0, u "Ljava/util/Properties;"), (2, u "lineSeparator"), (0, u "Ljava/lang/String;"), (96, .class_ 321), (1, u "java/lang/System$LoggerFinder"), (5, .class_ 328), (0, u "java/lang/System$Logger"), (67, u "err"), (2, u "out"), (91, u "notSupportedJnuEncoding"), (15, u "in"), (17, u "initialIn"), (0, u "Ljava/io/InputStream;"), (35, u "bootLayer"), (0, u "Ljava/lang/ModuleLayer;"), (99, .class_ 664), (0, u "java/lang/System$2"), (9, u "NEVER"), (2, u "MAYBE"), (49, u "arraycopy"), (0, u "(Ljava/lang/Object;ILjava/lang/Object;II)V"), (72, .class_ 802), (0, u "java/lang/System$Logger$Level")] 31

def k20m0 : Method := { name := "<init>", desc := "()V", sig := { parameters := [], returnType := none }, accessFlags := 2, code := none }
def k20m1 : Method := { name := "arraycopy", desc := "(Ljava/lang/Object;ILjava/lang/Object;II)V", sig := { parameters := [(.object "java/lang/Object"), .int, (.object "java/lang/Object"), .int, .int], returnType := none }, accessFlags := 265, code := none }
/-- java/lang/System -/
def k20 : Class := { plain "java/lang/System" (some 0) with
  accessFlags := 49
  interfaces := #[]
  cf := some (fileOf pool20 8 #[.nestMembers #[319, 327, 801, 108, 663, 208]] #[{ accessFlags := 2, nameIndex := 5, descriptorIndex := 6, attributes := #[] }, { accessFlags := 265, nameIndex := 727, descriptorIndex := 728, attributes := #[] }] 49 2 #[] #[{ accessFlags := 25, nameIndex := 507, descriptorIndex := 526, attributes := #[] }, { accessFlags := 25, nameIndex := 399, descriptorIndex := 155, attributes := #[] }, { accessFlags := 25, nameIndex := 396, descriptorIndex := 155, attributes := #[] }, { accessFlags := 10, nameIndex := 525, descriptorIndex := 526, attributes := #[] }, { accessFlags := 26, nameIndex := 674, descriptorIndex := 12, attributes := #[] }, { accessFlags := 26, nameIndex := 677, descriptorIndex := 12, attributes := #[] }, { accessFlags := 10, nameIndex := 11, descriptorIndex := 12, attributes := #[] }, { accessFlags := 74, nameIndex := 175, descriptorIndex := 176, attributes := #[] }, { accessFlags := 10, nameIndex := 491, descriptorIndex := 222, attributes := #[] }, { accessFlags := 74, nameIndex := 29, descriptorIndex := 30, attributes := #[] }, { accessFlags := 74, nameIndex := 154, descriptorIndex := 155, attributes := #[] }, { accessFlags := 10, nameIndex := 217, descriptorIndex := 218, attributes := #[] }, { accessFlags := 10, nameIndex := 221, descriptorIndex := 222, attributes := #[] }, { accessFlags := 8, nameIndex := 562, descriptorIndex := 563, attributes := #[] }])
  fields := #[{ name := "in", type := (.object "java/io/InputStream"), accessFlags := 25, slot := 0, constantValue := 0 }, { name := "out", type := (.object "java/io/PrintStream"), accessFlags := 25, slot := 1, constantValue := 0 }, { name := "err", type := (.object "java/io/PrintStream"), accessFlags := 25, slot := 2, constantValue := 0 }, { name := "initialIn", type := (.object "java/io/InputStream"), accessFlags := 10, slot := 3, constantValue := 0 }, { name := "NEVER", type := .int, accessFlags := 26, slot := 4, constantValue := 0 }, { name := "MAYBE", type := .int, accessFlags := 26, slot := 5, constantValue := 0 }, { name := "allowSecurityManager", type := .int, accessFlags := 10, slot := 6, constantValue := 0 }, { name := "security", type := (.object "java/lang/SecurityManager"), accessFlags := 74, slot := 7, constantValue := 0 }, { name := "notSupportedJnuEncoding", type := (.object "java/lang/String"), accessFlags := 10, slot := 8, constantValue := 0 }, { name := "cons", type := (.object "java/io/Console"), accessFlags := 74, slot := 9, constantValue := 0 }, { name := "initialErrStream", type := (.object "java/io/PrintStream"), accessFlags := 74, slot := 10, constantValue := 0 }, { name := "props", type := (.object "java/util/Properties"), accessFlags := 10, slot := 11, constantValue := 0 }, { name := "lineSeparator", type := (.object "java/lang/String"), accessFlags := 10, slot := 12, constantValue := 0 }, { name := "bootLayer", type := (.object "java/lang/ModuleLayer"), accessFlags := 8, slot := 13, constantValue := 0 }]
  methods := #[k20m0, k20m1]
  instanceTypes := #[]
  staticTypes := #[(.object "java/io/InputStream"), (.object "java/io/PrintStream"), (.object "java/io/PrintStream"), (.object "java/io/InputStream"), .int, .int, .int, (.object "java/lang/SecurityManager"), (.object "java/lang/String"), (.object "java/io/Console"), (.object "java/io/PrintStream"), (.object "java/util/Properties"), (.object "java/lang/String"), (.object "java/lang/ModuleLayer")]
  resolved := Array.replicate 834 none
  statics := none }

def pool21 : Array CpInfo := pool [(4, .class_ 6), (1, u "java/lang/Object"), (0, u "<init>"), (0, u "()V"), (5, .class_ 16), (1, u "java/lang/StringLatin1"), (104, u "$assertionsDisabled"), (0, u "Z"), (98, .class_ 223), (1, u "java/lang/StringLatin1$LinesSpliterator"), (57, u "equals"), (0, u "([B[B)Z"), (107, .class_ 391), (0, u "java/lang/StringLatin1$CharsSpliterator")] 3

def k21m0 : Method := { name := "<init>", desc := "()V", sig := { parameters := [], returnType := none }, accessFlags := 0, code := none }
def k21c1 : Code := { maxStack := 3, maxLocals := 3, code := jdk_43_method_13_code, exceptionTable := #[], attributes := #[] }
def k21m1 : Method := { name := "equals", desc := "([B[B)Z", sig := { parameters := [(.array .byte), (.array .byte)], returnType := some .boolean }, accessFlags := 9, code := some k21c1 }
/-- java/lang/StringLatin1 -/
def k21 : Class := { plain "java/lang/StringLatin1" (some 0) with
  accessFlags := 48
  interfaces := #[]
  cf := some (fileOf pool21 14 #[.nestMembers #[390, 221]] #[{ accessFlags := 0, nameIndex := 7, descriptorIndex := 8, attributes := #[] }, { accessFlags := 9, nameIndex := 281, descriptorIndex := 282, attributes := #[] }] 48 4 #[] #[{ accessFlags := 4120, nameIndex := 121, descriptorIndex := 122, attributes := #[] }])
  fields := #[{ name := "$assertionsDisabled", type := .boolean, accessFlags := 4120, slot := 0, constantValue := 0 }]
  methods := #[k21m0, k21m1]
  instanceTypes := #[]
  staticTypes := #[.boolean]
  resolved := Array.replicate 395 none
  statics := none }

def pool22 : Array CpInfo := pool [(2, .class_ 4), (1, u "java/lang/Object"), (0, u "<init>"), (0, u "()V"), (17, .class_ 26), (1, u "jdk/internal/util/Preconditions"), (28, .class_ 56), (0, u "jdk/internal/util/Preconditions$4"), (57, .class_ 115), (0, u "jdk/internal/util/Preconditions$1"), (7, u "SIOOBE_FORMATTER"), (0, u "Ljava/util/function/BiFunction;"), (0, .class_ 126), (0, u "jdk/internal/util/Preconditions$2"), (3, u "AIOOBE_FORMATTER"), (0, .class_ 132), (0, u "jdk/internal/util/Preconditions$3"), (3, u "IOOBE_FORMATTER")] 57

def k22m0 : Method := { name := "<init>", desc := "()V", sig := { parameters := [], returnType := none }, accessFlags := 1, code := none }
/-- jdk/internal/util/Preconditions -/
def k22 : Class := { plain "jdk/internal/util/Preconditions" (some 0) with
  accessFlags := 33
  interfaces := #[]
  cf := some (fileOf pool22 24 #[.nestMembers #[55, 131, 125, 114]] #[{ accessFlags := 1, nameIndex := 5, descriptorIndex := 6, attributes := #[] }] 33 2 #[] #[{ accessFlags := 25, nameIndex := 123, descriptorIndex := 124, attributes := #[] }, { accessFlags := 25, nameIndex := 130, descriptorIndex := 124, attributes := #[] }, { accessFlags := 25, nameIndex := 136, descriptorIndex := 124, attributes := #[] }])
  fields := #[{ name := "SIOOBE_FORMATTER", type := (.object "java/util/function/BiFunction"), accessFlags := 25, slot := 0, constantValue := 0 }, { name := "AIOOBE_FORMATTER", type := (.object "java/util/function/BiFunction"), accessFlags := 25, slot := 1, constantValue := 0 }, { name := "IOOBE_FORMATTER", type := (.object "java/util/function/BiFunction"), accessFlags := 25, slot := 2, constantValue := 0 }]
  methods := #[k22m0]
  instanceTypes := #[]
  staticTypes := #[(.object "java/util/function/BiFunction"), (.object "java/util/function/BiFunction"), (.object "java/util/function/BiFunction")]
  resolved := Array.replicate 194 none
  statics := some 2 }

def pool23 : Array CpInfo := pool [(2, .class_ 4), (1, u "java/lang/Object"), (0, u "<init>"), (0, u "()V"), (12, .class_ 20), (0, u "java/util/Collections"), (63, u "r"), (0, u "Ljava/util/Random;"), (80, .class_ 167), (0, u "java/util/Collections$UnmodifiableCollection"), (6, .class_ 175), (0, u "java/util/Collections$UnmodifiableSequencedCollection"), (6, .class_ 183), (0, u "java/util/Collections$UnmodifiableSet"), (6, .class_ 191), (0, u "java/util/Collections$UnmodifiableSequencedSet"), (6, .class_ 199), (0, u "java/util/Collections$UnmodifiableSortedSet"), (6, .class_ 207), (0, u "java/util/Collections$UnmodifiableNavigableSet"), (4, .class_ 213), (0, u "java/util/Collections$UnmodifiableList"), (1, .class_ 216), (0, u "java/util/Collections$UnmodifiableRandomAccessList"), (6, .class_ 224), (0, u "java/util/Collections$UnmodifiableMap"), (6, .class_ 232), (0, u "java/util/Collections$UnmodifiableSequencedMap"), (4, .class_ 238), (0, u "java/util/Collections$UnmodifiableSortedMap"), (6, .class_ 246), (0, u "java/util/Collections$UnmodifiableNavigableMap"), (3, .class_ 251), (0, u "java/util/Collections$SynchronizedCollection"), (4, .class_ 257), (0, u "java/util/Collections$SynchronizedSet"), (4, .class_ 263), (0, u "java/util/Collections$SynchronizedSortedSet"), (1, .class_ 266), (0, u "java/util/Collections$SynchronizedNavigableSet"), (1, .class_ 269), (0, u "java/util/Collections$SynchronizedRandomAccessList"), (1, .class_ 272), (0, u "java/util/Collections$SynchronizedList"), (5, .class_ 279), (0, u "java/util/Collections$SynchronizedMap"), (1, .class_ 282), (0, u "java/util/Collections$SynchronizedSortedMap"), (1, .class_ 285), (0, u "java/util/Collections$SynchronizedNavigableMap"), (1, .class_ 288), (0, u "java/util/Collections$CheckedCollection"), (11, .class_ 301), (0, u "java/util/Collections$CheckedQueue"), (3, .class_ 306), (0, u "java/util/Collections$CheckedSet"), (3, .class_ 311), (0, u "java/util/Collections$CheckedSortedSet"), (3, .class_ 316), (0, u "java/util/Collections$CheckedNavigableSet"), (3, .class_ 321), (0, u "java/util/Collections$CheckedRandomAccessList"), (3, .class_ 326), (0, u "java/util/Collections$CheckedList"), (1, .class_ 329), (0, u "java/util/Collections$CheckedMap"), (3, .class_ 334), (0, u "java/util/Collections$CheckedSortedMap"), (3, .class_ 339), (0, u "java/util/Collections$CheckedNavigableMap"), (4, .class_ 346), (1, u "java/util/Collections$EmptyIterator"), (3, .class_ 352), (1, u "java/util/Collections$EmptyListIterator"), (2, .class_ 357), (1, u "java/util/Collections$EmptyEnumeration"), (4, u "EMPTY_SET"), (0, u "Ljava/util/Set;"), (6, u "EMPTY_LIST"), (0, u "Ljava/util/List;"), (2, u "EMPTY_MAP"), (0, u "Ljava/util/Map;"), (4, .class_ 381), (0, u "java/util/Collections$SingletonSet"), (2, .class_ 385), (0, u "java/util/Collections$1"), (1, .class_ 388), (0, u "java/util/Collections$2"), (1, .class_ 391), (0, u "java/util/Collections$SingletonList"), (1, .class_ 394), (0, u "java/util/Collections$SingletonMap"), (22, .class_ 418), (0, u "java/util/Collections$CopiesList"), (4, .class_ 425), (1, u "java/util/Collections$ReverseComparator"), (8, .class_ 435), (0, u "java/util/Collections$ReverseComparator2"), (6, .class_ 443), (0, u "java/util/Collections$3"), (25, .class_ 470), (0, u "java/util/Collections$SetFromMap"), (2, .class_ 474), (0, u "java/util/Collections$SequencedSetFromMap"), (3, .class_ 479), (0, u "java/util/Collections$AsLIFOQueue"), (11, .class_ 492), (0, u "java/util/Collections$EmptySet"), (1, .class_ 495), (0, u "java/util/Collections$EmptyList"), (1, .class_ 498), (0, u "java/util/Collections$EmptyMap"), (1, u "BINARYSEARCH_THRESHOLD"), (0, u "I"), (2, u "REVERSE_THRESHOLD"), (1, u "SHUFFLE_THRESHOLD"), (1, u "FILL_THRESHOLD"), (1, u "ROTATE_THRESHOLD"), (1, u "COPY_THRESHOLD"), (1, u "REPLACEALL_THRESHOLD"), (1, u "INDEXOFSUBLIST_THRESHOLD"), (333, .class_ 851), (0, u "java/util/Collections$CheckedMap$CheckedEntrySet"), (0, .class_ 853), (0, u "java/util/Collections$CheckedMap$CheckedEntrySet$CheckedEntry"), (0, .class_ 855), (0, u "java/util/Collections$CheckedMap$CheckedEntrySet$1"), (0, .class_ 857), (0, u "java/util/Collections$CheckedList$1"), (0, .class_ 859), (0, u "java/util/Collections$CheckedCollection$1"), (0, .class_ 861), (0, u "java/util/Collections$UnmodifiableNavigableMap$EmptyNavigableMap"), (0, .class_ 863), (0, u "java/util/Collections$UnmodifiableMap$UnmodifiableEntrySet"), (0, .class_ 865), (0, u "java/util/Collections$UnmodifiableMap$UnmodifiableEntrySet$UnmodifiableEntry"), (0, .class_ 867), (0, u "java/util/Collections$UnmodifiableMap$UnmodifiableEntrySet$UnmodifiableEntrySetSpliterator"), (0, .class_ 869), (0, u "java/util/Collections$UnmodifiableMap$UnmodifiableEntrySet$1"), (0, .class_ 871), (0, u "java/util/Collections$UnmodifiableList$1"), (0, .class_ 873), (0, u "java/util/Collections$UnmodifiableNavigableSet$EmptyNavigableSet"), (0, .class_ 875), (0, u "java/util/Collections$UnmodifiableCollection$1")] 57

def k23m0 : Method := { name := "<init>", desc := "()V", sig := { parameters := [], returnType := none }, accessFlags := 2, code := none }
/-- java/util/Collections -/
def k23 : Class := { plain "java/util/Collections" (some 0) with
  accessFlags := 33
  interfaces := #[]
  cf := some (fileOf pool23 19 #[.nestMembers #[478, 473, 469, 434, 423, 417, 393, 390, 380, 497, 494, 491, 355, 350, 344, 338, 333, 328, 850, 852, 854, 320, 325, 856, 315, 310, 305, 300, 287, 858, 284, 281, 278, 268, 271, 265, 262, 256, 250, 245, 860, 237, 231, 223, 862, 864, 866, 868, 215, 212, 870, 206, 872, 198, 190, 182, 174, 166, 874, 442, 387, 384]] #[{ accessFlags := 2, nameIndex := 5, descriptorIndex := 6, attributes := #[] }] 33 2 #[] #[{ accessFlags := 26, nameIndex := 500, descriptorIndex := 501, attributes := #[] }, { accessFlags := 26, nameIndex := 504, descriptorIndex := 501, attributes := #[] }, { accessFlags := 26, nameIndex := 506, descriptorIndex := 501, attributes := #[] }, { accessFlags := 26, nameIndex := 508, descriptorIndex := 501, attributes := #[] }, { accessFlags := 26, nameIndex := 510, descriptorIndex := 501, attributes := #[] }, { accessFlags := 26, nameIndex := 512, descriptorIndex := 501, attributes := #[] }, { accessFlags := 26, nameIndex := 514, descriptorIndex := 501, attributes := #[] }, { accessFlags := 26, nameIndex := 516, descriptorIndex := 501, attributes := #[] }, { accessFlags := 10, nameIndex := 84, descriptorIndex := 85, attributes := #[] }, { accessFlags := 25, nameIndex := 362, descriptorIndex := 363, attributes := #[] }, { accessFlags := 25, nameIndex := 370, descriptorIndex := 371, attributes := #[] }, { accessFlags := 25, nameIndex := 374, descriptorIndex := 375, attributes := #[] }])
  fields := #[{ name := "BINARYSEARCH_THRESHOLD", type := .int, accessFlags := 26, slot := 0, constantValue := 0 }, { name := "REVERSE_THRESHOLD", type := .int, accessFlags := 26, slot := 1, constantValue := 0 }, { name := "SHUFFLE_THRESHOLD", type := .int, accessFlags := 26, slot := 2, constantValue := 0 }, { name := "FILL_THRESHOLD", type := .int, accessFlags := 26, slot := 3, constantValue := 0 }, { name := "ROTATE_THRESHOLD", type := .int, accessFlags := 26, slot := 4, constantValue := 0 }, { name := "COPY_THRESHOLD", type := .int, accessFlags := 26, slot := 5, constantValue := 0 }, { name := "REPLACEALL_THRESHOLD", type := .int, accessFlags := 26, slot := 6, constantValue := 0 }, { name := "INDEXOFSUBLIST_THRESHOLD", type := .int, accessFlags := 26, slot := 7, constantValue := 0 }, { name := "r", type := (.object "java/util/Random"), accessFlags := 10, slot := 8, constantValue := 0 }, { name := "EMPTY_SET", type := (.object "java/util/Set"), accessFlags := 25, slot := 9, constantValue := 0 }, { name := "EMPTY_LIST", type := (.object "java/util/List"), accessFlags := 25, slot := 10, constantValue := 0 }, { name := "EMPTY_MAP", type := (.object "java/util/Map"), accessFlags := 25, slot := 11, constantValue := 0 }]
  methods := #[k23m0]
  instanceTypes := #[]
  staticTypes := #[.int, .int, .int, .int, .int, .int, .int, .int, (.object "java/util/Random"), (.object "java/util/Set"), (.object "java/util/List"), (.object "java/util/Map")]
  resolved := Array.replicate 933 none
  statics := some 3 }

def pool24 : Array CpInfo := pool [(8, .class_ 10), (1, u "java/lang/Iterable"), (24, .class_ 36), (0, u "java/lang/Object")] 25

/-- java/lang/Iterable -/
def k24 : Class := { plain "java/lang/Iterable" (some 0) with
  accessFlags := 1537
  interfaces := #[]
  cf := some (fileOf pool24 8 #[] #[] 1537 35 #[] #[])
  fields := #[]
  methods := #[]
  instanceTypes := #[]
  staticTypes := #[]
  resolved := Array.replicate 62 none
  statics := none }

def pool25 : Array CpInfo := pool [(10, .class_ 12), (1, u "java/util/Collection"), (47, .class_ 61), (0, u "java/lang/Object"), (0, .class_ 63), (0, u "java/lang/Iterable")] 51

/-- java/util/Collection -/
def k25 : Class := { plain "java/util/Collection" (some 0) with
  accessFlags := 1537
  interfaces := #[24]
  cf := some (fileOf pool25 10 #[] #[] 1537 60 #[62] #[])
  fields := #[]
  methods := #[]
  instanceTypes := #[]
  staticTypes := #[]
  resolved := Array.replicate 115 none
  statics := none }

def pool26 : Array CpInfo := pool [(2, .class_ 4), (1, u "java/lang/Object"), (0, u "<init>"), (0, u "()V"), (1, .class_ 10), (1, u "java/util/AbstractCollection"), (66, .class_ 78), (0, u "java/util/Collection")] 81

def k26m0 : Method := { name := "<init>", desc := "()V", sig := { parameters := [], returnType := none }, accessFlags := 4, code := none }
/-- java/util/AbstractCollection -/
def k26 : Class := { plain "java/util/AbstractCollection" (some 0) with
  accessFlags := 1057
  interfaces := #[25]
  cf := some (fileOf pool26 8 #[] #[{ accessFlags := 4, nameIndex := 5, descriptorIndex := 6, attributes := #[] }] 1057 2 #[77] #[])
  fields := #[]
  methods := #[k26m0]
  instanceTypes := #[]
  staticTypes := #[]
  resolved := Array.replicate 160 none
  statics := none }

def pool27 : Array CpInfo := pool [(8, .class_ 10), (1, u "java/util/SequencedCollection"), (15, .class_ 27), (0, u "java/lang/Object"), (0, .class_ 29), (0, u "java/util/Collection")] 27

/-- java/util/SequencedCollection -/
def k27 : Class := { plain "java/util/SequencedCollection" (some 0) with
  accessFlags := 1537
  interfaces := #[25]
  cf := some (fileOf pool27 8 #[] #[] 1537 26 #[28] #[])
  fields := #[]
  methods := #[]
  instanceTypes := #[]
  staticTypes := #[]
  resolved := Array.replicate 57 none
  statics := none }

def pool28 : Array CpInfo := pool [(8, .class_ 10), (1, u "java/util/List"), (92, .class_ 104), (0, u "java/lang/Object"), (15, .class_ 121), (0, u "java/util/SequencedCollection")] 129

/-- java/util/List -/
def k28 : Class := { plain "java/util/List" (some 0) with
  accessFlags := 1537
  interfaces := #[27]
  cf := some (fileOf pool28 8 #[] #[] 1537 103 #[120] #[])
  fields := #[]
  methods := #[]
  instanceTypes := #[]
  staticTypes := #[]
  resolved := Array.replicate 251 none
  statics := none }

def pool29 : Array CpInfo := pool [(2, .class_ 4), (1, u "java/util/AbstractCollection"), (0, u "<init>"), (0, u "()V"), (1, .class_ 10), (1, u "java/util/AbstractList"), (0, u "modCount"), (0, u "I"), (64, .class_ 78), (0, u "java/util/AbstractList$Itr"), (3, .class_ 83), (0, u "java/util/AbstractList$ListItr"), (9, .class_ 94), (0, u "java/util/AbstractList$RandomAccessSubList"), (3, .class_ 99), (0, u "java/util/AbstractList$SubList"), (33, .class_ 134), (0, u "java/util/List"), (73, .class_ 209), (0, u "java/util/AbstractList$SubList$1"), (0, .class_ 211), (0, u "java/util/AbstractList$RandomAccessSpliterator")] 6

def k29m0 : Method := { name := "<init>", desc := "()V", sig := { parameters := [], returnType := none }, accessFlags := 4, code := none }
/-- java/util/AbstractList -/
def k29 : Class := { plain "java/util/AbstractList" (some 26) with
  accessFlags := 1057
  interfaces := #[28]
  cf := some (fileOf pool29 8 #[.nestMembers #[93, 98, 208, 210, 82, 77]] #[{ accessFlags := 4, nameIndex := 5, descriptorIndex := 6, attributes := #[] }] 1057 2 #[133] #[{ accessFlags := 132, nameIndex := 11, descriptorIndex := 12, attributes := #[] }])
  fields := #[{ name := "modCount", type := .int, accessFlags := 132, slot := 0, constantValue := 0 }]
  methods := #[k29m0]
  instanceTypes := #[.int]
  staticTypes := #[]
  resolved := Array.replicate 218 none
  statics := none }

def pool30 : Array CpInfo := pool [(1, .class_ 2), (0, u "java/util/RandomAccess"), (0, .class_ 4), (0, u "java/lang/Object")] 2

/-- java/util/RandomAccess -/
def k30 : Class := { plain "java/util/RandomAccess" (some 0) with
  accessFlags := 1537
  interfaces := #[]
  cf := some (fileOf pool30 1 #[] #[] 1537 3 #[] #[])
  fields := #[]
  methods := #[]
  instanceTypes := #[]
  staticTypes := #[]
  resolved := Array.replicate 7 none
  statics := none }

def pool31 : Array CpInfo := pool [(2, .class_ 4), (1, u "java/util/AbstractList"), (0, u "<init>"), (0, u "()V"), (1, .class_ 10), (1, u "java/util/Collections"), (54, .class_ 66), (0, u "java/util/Collections$EmptyList"), (0, .class_ 68), (0, u "java/util/RandomAccess"), (0, .class_ 70), (0, u "java/io/Serializable"), (0, u "serialVersionUID"), (0, u "J")] 77

def k31m0 : Method := { name := "<init>", desc := "()V", sig := { parameters := [], returnType := none }, accessFlags := 2, code := none }
/-- java/util/Collections$EmptyList -/
def k31 : Class := { plain "java/util/Collections$EmptyList" (some 29) with
  accessFlags := 32
  interfaces := #[30, 2]
  cf := some (fileOf pool31 65 #[.nestHost 8] #[{ accessFlags := 2, nameIndex := 5, descriptorIndex := 6, attributes := #[] }] 32 2 #[67, 69] #[{ accessFlags := 26, nameIndex := 71, descriptorIndex := 72, attributes := #[] }])
  fields := #[{ name := "serialVersionUID", type := .long, accessFlags := 26, slot := 0, constantValue := 0 }]
  methods := #[k31m0]
  instanceTypes := #[.int]
  staticTypes := #[.long]
  resolved := Array.replicate 150 none
  statics := none }

def pool32 : Array CpInfo := pool [(2, .class_ 4), (1, u "java/lang/StackTraceElement"), (0, u "<init>"), (2, .class_ 10), (1, u "java/lang/Object"), (0, u "()V"), (2, u "format"), (0, u "B"), (2, u "classLoaderName"), (0, u "Ljava/lang/String;"), (2, u "moduleName"), (2, u "moduleVersion"), (12, u "declaringClass"), (4, u "methodName"), (2, u "fileName"), (2, u "lineNumber"), (0, u "I"), (65, u "declaringClassObject"), (0, u "Ljava/lang/Class;"), (33, .class_ 153), (1, u "java/lang/StackTraceElement$HashedModules"), (17, .class_ 172), (0, u "java/io/Serializable"), (0, u "NATIVE_METHOD"), (1, u "UNKNOWN_SOURCE"), (2, u "BUILTIN_CLASS_LOADER"), (1, u "JDK_NON_UPGRADEABLE_MODULE"), (1, u "serialVersionUID"), (0, u "J")] 51

def k32m0 : Method := { name := "<init>", desc := "()V", sig := { parameters := [], returnType := none }, accessFlags := 2, code := none }
/-- java/lang/StackTraceElement -/
def k32 : Class := { plain "java/lang/StackTraceElement" (some 0) with
  accessFlags := 49
  interfaces := #[2]
  cf := some (fileOf pool32 2 #[.nestMembers #[151]] #[{ accessFlags := 2, nameIndex := 5, descriptorIndex := 11, attributes := #[] }] 49 8 #[171] #[{ accessFlags := 26, nameIndex := 173, descriptorIndex := 19, attributes := #[] }, { accessFlags := 26, nameIndex := 175, descriptorIndex := 19, attributes := #[] }, { accessFlags := 130, nameIndex := 116, descriptorIndex := 117, attributes := #[] }, { accessFlags := 2, nameIndex := 18, descriptorIndex := 19, attributes := #[] }, { accessFlags := 2, nameIndex := 22, descriptorIndex := 19, attributes := #[] }, { accessFlags := 2, nameIndex := 25, descriptorIndex := 19, attributes := #[] }, { accessFlags := 2, nameIndex := 38, descriptorIndex := 19, attributes := #[] }, { accessFlags := 2, nameIndex := 43, descriptorIndex := 19, attributes := #[] }, { accessFlags := 2, nameIndex := 46, descriptorIndex := 19, attributes := #[] }, { accessFlags := 2, nameIndex := 49, descriptorIndex := 50, attributes := #[] }, { accessFlags := 2, nameIndex := 14, descriptorIndex := 15, attributes := #[] }, { accessFlags := 26, nameIndex := 178, descriptorIndex := 15, attributes := #[] }, { accessFlags := 26, nameIndex := 180, descriptorIndex := 15, attributes := #[] }, { accessFlags := 26, nameIndex := 182, descriptorIndex := 183, attributes := #[] }])
  fields := #[{ name := "NATIVE_METHOD", type := (.object "java/lang/String"), accessFlags := 26, slot := 0, constantValue := 0 }, { name := "UNKNOWN_SOURCE", type := (.object "java/lang/String"), accessFlags := 26, slot := 1, constantValue := 0 }, { name := "declaringClassObject", type := (.object "java/lang/Class"), accessFlags := 130, slot := 0, constantValue := 0 }, { name := "classLoaderName", type := (.object "java/lang/String"), accessFlags := 2, slot := 1, constantValue := 0 }, { name := "moduleName", type := (.object "java/lang/String"), accessFlags := 2, slot := 2, constantValue := 0 }, { name := "moduleVersion", type := (.object "java/lang/String"), accessFlags := 2, slot := 3, constantValue := 0 }, { name := "declaringClass", type := (.object "java/lang/String"), accessFlags := 2, slot := 4, constantValue := 0 }, { name := "methodName", type := (.object "java/lang/String"), accessFlags := 2, slot := 5, constantValue := 0 }, { name := "fileName", type := (.object "java/lang/String"), accessFlags := 2, slot := 6, constantValue := 0 }, { name := "lineNumber", type := .int, accessFlags := 2, slot := 7, constantValue := 0 }, { name := "format", type := .byte, accessFlags := 2, slot := 8, constantValue := 0 }, { name := "BUILTIN_CLASS_LOADER", type := .byte, accessFlags := 26, slot := 2, constantValue := 0 }, { name := "JDK_NON_UPGRADEABLE_MODULE", type := .byte, accessFlags := 26, slot := 3, constantValue := 0 }, { name := "serialVersionUID", type := .long, accessFlags := 26, slot := 4, constantValue := 0 }]
  methods := #[k32m0]
  instanceTypes := #[(.object "java/lang/Class"), (.object "java/lang/String"), (.object "java/lang/String"), (.object "java/lang/String"), (.object "java/lang/String"), (.object "java/lang/String"), (.object "java/lang/String"), .int, .byte]
  staticTypes := #[(.object "java/lang/String"), (.object "java/lang/String"), .byte, .byte, .long]
  resolved := Array.replicate 235 none
  statics := none }

def pool33 : Array CpInfo := pool [(1, u "java/lang/Cloneable"), (0, .class_ 1), (0, u "java/lang/Object"), (0, .class_ 3)] 3

/-- java/lang/Cloneable -/
def k33 : Class := { plain "java/lang/Cloneable" (some 0) with
  accessFlags := 1537
  interfaces := #[]
  cf := some (fileOf pool33 2 #[] #[] 1537 4 #[] #[])
  fields := #[]
  methods := #[]
  instanceTypes := #[]
  staticTypes := #[]
  resolved := Array.replicate 8 none
  statics := none }

/-- the primitive byte -/
def k34 : Class := { plain "byte" none with kind := .primitive 'B', accessFlags := 0x411 }
/-- [B -/
def k35 : Class := { plain "[B" (some 0) with kind := .array 34 .byte, interfaces := #[33, 2], accessFlags := 1041 }

/-- the primitive char -/
def k36 : Class := { plain "char" none with kind := .primitive 'C', accessFlags := 0x411 }
/-- [C -/
def k37 : Class := { plain "[C" (some 0) with kind := .array 36 .char, interfaces := #[33, 2], accessFlags := 1041 }

/-- the primitive int -/
def k38 : Class := { plain "int" none with kind := .primitive 'I', accessFlags := 0x411 }
/-- [I -/
def k39 : Class := { plain "[I" (some 0) with kind := .array 38 .int, interfaces := #[33, 2], accessFlags := 1041 }

/-- [Ljava/lang/Object; -/
def k40 : Class := { plain "[Ljava/lang/Object;" (some 0) with kind := .array 0 (.object "java/lang/Object"), interfaces := #[33, 2], accessFlags := 1041 }

/-- [Ljava/lang/StackTraceElement; -/
def k41 : Class := { plain "[Ljava/lang/StackTraceElement;" (some 0) with kind := .array 32 (.object "java/lang/StackTraceElement"), interfaces := #[33, 2], accessFlags := 1041 }

/-- [Ljava/lang/Throwable; -/
def k42 : Class := { plain "[Ljava/lang/Throwable;" (some 0) with kind := .array 10 (.object "java/lang/Throwable"), interfaces := #[33, 2], accessFlags := 1041 }

def heap : Heap := #[{ cls := 7, slots := #[.long 0, .int 1, .null, .int 0, .null, .int 0, .int 0], vm := .statics 7 },
  { cls := 10, slots := #[.long 0, .ref 4, .ref 5, .null, .null, .null, .null, .ref 6, .int 1], vm := .statics 10 },
  { cls := 22, slots := #[.null, .null, .null], vm := .statics 22 },
  { cls := 23, slots := #[.int 0, .int 0, .int 0, .int 0, .int 0, .int 0, .int 0, .int 0, .null, .null, .ref 5, .null], vm := .statics 23 },
  { cls := 41, slots := #[], vm := .none },
  { cls := 31, slots := #[.int 0], vm := .none },
  { cls := 42, slots := #[], vm := .none }]
def classes : Array Class := #[k0, k1, k2, k3, k4, k5, k6, k7, k8, k9, k10, k11, k12, k13, k14, k15, k16, k17, k18, k19, k20, k21, k22, k23, k24, k25, k26, k27, k28, k29, k30, k31, k32, k33, k34, k35, k36, k37, k38, k39, k40, k41, k42]
def interned : List (Array UInt16 × Addr) := []
def slotsUsed : Nat := 32
def theMethod : MethodId := ⟨1, 2⟩
def args0 : Array Value := #[.int 1, .int 66, .int 67, .int 68]
def aboutOver (below : List Frame) : State where
  vm := { classes := classes, interned := interned.toArray }
  heap := heap
  slotsUsed := slotsUsed
  threads := #[{ frames := .invoking theMethod args0 :: below }]
def below0 : List Frame := [.native { method := ⟨0, 0⟩, args := #[] }]
def about1 : State := aboutOver below0
def p0 : Program := .bare "" "" ""
def e0 : Env := launch0.env 0 0 0
theorem w_frames : about1.frames = Frame.invoking theMethod args0 :: below0 := rfl
set_option maxRecDepth 65536 in
theorem w_args : argsFit about1.vm theMethod args0 = true := by decide +kernel
set_option maxRecDepth 65536 in
theorem w_heap : heapFits about1 = true := by decide +kernel
set_option maxRecDepth 65536 in
theorem w_runnable : about1.curStatus? = some .runnable := by decide +kernel
set_option maxRecDepth 65536 in
theorem w_alone : about1.alone = true := by decide +kernel
set_option maxRecDepth 65536 in
theorem w_named : about1.methodNamed? x = some theMethod := by decide +kernel
set_option maxRecDepth 65536 in
theorem w_hears : about1.hears theMethod below0 = true := by decide +kernel
set_option maxRecDepth 65536 in
theorem w_ripe : about1.ripe theMethod args0 below0 = true := by decide +kernel
theorem w_running : about1.status = .running := rfl
set_option maxRecDepth 65536 in
theorem w_room : about1.hasRoom e0.platform room_1 = true :=
  launch0.hasRoom_least _ room_1 (by decide +kernel) (by decide +kernel) (by decide +kernel) (by decide +kernel) (by decide +kernel) (by decide +kernel)
theorem allAtoms_all (ts : List Jvm.Cond) (a : Array Jvm.Value) (st : Jvm.State) : (allAtoms ts).before a st = ts.all (fun c => c.before a st) := by
  induction ts with
  | nil => rfl
  | cons c t ih =>
    show (Jvm.Cond.and c (allAtoms t)).before a st = _
    rw [Jvm.Cond.before_and, ih, List.all_cons]
def words1 : List Jvm.Cond := Jvm.Cond.code x code maxLocals ret :: tables_1
/-- a 'code' word, met by the world's own term for the bytes: nothing is compared byte by byte -/
theorem code_word {y : MethodName} {bytes : ByteArray} {mx : Nat} {rt : Option FieldType} {a : Array Value} {s : State} {m : MethodId} {meth : Method} {c : Code} (h1 : s.methodNamed? y = some m) (h2 : s.vm.method? m = some meth) (h3 : meth.code = some c) (h4 : c.code = bytes)
    (h5 : (c.maxLocals == mx && c.exceptionTable.isEmpty && decide (c.maxStack ≤ mostOperands) && decide (meth.sig.returnType = rt) && !meth.locks && decide (parseMethodDescriptor y.desc = some meth.sig)) = true) : (Jvm.Cond.code y bytes mx rt).before a s = true := by
  simp only [Bool.and_eq_true, beq_iff_eq, Bool.not_eq_true', decide_eq_true_eq] at h5
  obtain ⟨⟨⟨⟨⟨g1, g2⟩, g3⟩, g4⟩, g5⟩, g6⟩ := h5
  simp [Cond.before, Cond.holds, Cond.value, h1, h2, h3, h4, g1, g2, g3, g4, g5, g6]
def isCode : Jvm.Cond → Bool
  | .code _ _ _ _ => true
  | _ => false
theorem all_split {L : List Jvm.Cond} {P : Jvm.Cond → Bool} (h1 : L.all (fun c => isCode c || P c) = true) (h2 : ∀ c ∈ L.filter isCode, P c = true) : L.all P = true := by
  refine List.all_eq_true.mpr fun c hc => ?_
  have h := List.all_eq_true.mp h1 c hc
  rcases Bool.eq_false_or_eq_true (isCode c) with hi | hi
  · exact h2 c (List.mem_filter.mpr ⟨hc, hi⟩)
  · simpa [hi] using h
set_option maxRecDepth 65536 in
theorem w_c0 : (Jvm.Cond.code x code maxLocals ret).before args0 about1 = true := code_word (m := ⟨1, 2⟩) (meth := k1m2) (c := k1c2) (by decide +kernel) rfl rfl rfl (by decide +kernel)
set_option maxRecDepth 65536 in
theorem w_c1 : (Jvm.Cond.code ({ cls := "java/lang/String", name := "<init>", desc := "([C)V" } : Jvm.MethodName) jdk_42_method_3_code (2 : Nat) (Option.none : Option Jvm.ClassFile.FieldType)).before args0 about1 = true := code_word (m := ⟨7, 1⟩) (meth := k7m1) (c := k7c1) (by decide +kernel) rfl rfl rfl (by decide +kernel)
set_option maxRecDepth 65536 in
theorem w_c2 : (Jvm.Cond.code ({ cls := "java/lang/String", name := "<init>", desc := "([CIILjava/lang/Void;)V" } : Jvm.MethodName) jdk_42_method_149_code (6 : Nat) (Option.none : Option Jvm.ClassFile.FieldType)).before args0 about1 = true := code_word (m := ⟨7, 6⟩) (meth := k7m6) (c := k7c6) (by decide +kernel) rfl rfl rfl (by decide +kernel)
set_option maxRecDepth 65536 in
theorem w_c3 : (Jvm.Cond.code ({ cls := "java/lang/Object", name := "<init>", desc := "()V" } : Jvm.MethodName) object_method_1_code (1 : Nat) (Option.none : Option Jvm.ClassFile.FieldType)).before args0 about1 = true := code_word (m := ⟨0, 0⟩) (meth := k0m0) (c := k0c0) (by decide +kernel) rfl rfl rfl (by decide +kernel)
set_option maxRecDepth 65536 in
theorem w_c4 : (Jvm.Cond.code ({ cls := "com/example/lazo/lazo/UnsupportedOperationPinLaw", name := "prefix", desc := "([C)V" } : Jvm.MethodName) method_2_code (1 : Nat) (Option.none : Option Jvm.ClassFile.FieldType)).before args0 about1 = true := code_word (m := ⟨1, 1⟩) (meth := k1m1) (c := k1c1) (by decide +kernel) rfl rfl rfl (by decide +kernel)
set_option maxRecDepth 65536 in
theorem w_c5 : (Jvm.Cond.code ({ cls := "java/lang/StringUTF16", name := "compress", desc := "([CII)[B" } : Jvm.MethodName) jdk_52_method_16_code (6 : Nat) (Option.some (Jvm.ClassFile.FieldType.array Jvm.ClassFile.FieldType.byte))).before args0 about1 = true := code_word (m := ⟨8, 2⟩) (meth := k8m2) (c := k8c2) (by decide +kernel) rfl rfl rfl (by decide +kernel)
set_option maxRecDepth 65536 in
theorem w_c6 : (Jvm.Cond.code ({ cls := "java/lang/StringUTF16", name := "compress", desc := "([CI[BII)I" } : Jvm.MethodName) jdk_52_method_21_code (7 : Nat) (Option.some Jvm.ClassFile.FieldType.int)).before args0 about1 = true := code_word (m := ⟨8, 3⟩) (meth := k8m3) (c := k8c3) (by decide +kernel) rfl rfl rfl (by decide +kernel)
set_option maxRecDepth 65536 in
theorem w_c7 : (Jvm.Cond.code ({ cls := "java/lang/StringUTF16", name := "coderFromArrayLen", desc := "([BI)B" } : Jvm.MethodName) jdk_52_method_15_code (2 : Nat) (Option.some Jvm.ClassFile.FieldType.byte)).before args0 about1 = true := code_word (m := ⟨8, 1⟩) (meth := k8m1) (c := k8c1) (by decide +kernel) rfl rfl rfl (by decide +kernel)
set_option maxRecDepth 65536 in
theorem w_c8 : (Jvm.Cond.code ({ cls := "com/example/lazo/lazo/Unsupported", name := "operation", desc := "(Ljava/lang/String;)Ljava/lang/UnsupportedOperationException;" } : Jvm.MethodName) prog_2_method_2_code (1 : Nat) (Option.some (Jvm.ClassFile.FieldType.object "java/lang/UnsupportedOperationException"))).before args0 about1 = true := code_word (m := ⟨9, 1⟩) (meth := k9m1) (c := k9c1) (by decide +kernel) rfl rfl rfl (by decide +kernel)
set_option maxRecDepth 65536 in
theorem w_c9 : (Jvm.Cond.code ({ cls := "java/lang/StringBuilder", name := "<init>", desc := "()V" } : Jvm.MethodName) jdk_67_method_1_code (1 : Nat) (Option.none : Option Jvm.ClassFile.FieldType)).before args0 about1 = true := code_word (m := ⟨16, 0⟩) (meth := k16m0) (c := k16c0) (by decide +kernel) rfl rfl rfl (by decide +kernel)
set_option maxRecDepth 65536 in
theorem w_c10 : (Jvm.Cond.code ({ cls := "java/lang/AbstractStringBuilder", name := "<init>", desc := "(I)V" } : Jvm.MethodName) jdk_68_method_2_code (2 : Nat) (Option.none : Option Jvm.ClassFile.FieldType)).before args0 about1 = true := code_word (m := ⟨15, 1⟩) (meth := k15m1) (c := k15c1) (by decide +kernel) rfl rfl rfl (by decide +kernel)
set_option maxRecDepth 65536 in
theorem w_c11 : (Jvm.Cond.code ({ cls := "java/lang/StringBuilder", name := "append", desc := "(Ljava/lang/String;)Ljava/lang/StringBuilder;" } : Jvm.MethodName) jdk_67_method_7_code (2 : Nat) (Option.some (Jvm.ClassFile.FieldType.object "java/lang/StringBuilder"))).before args0 about1 = true := code_word (m := ⟨16, 1⟩) (meth := k16m1) (c := k16c1) (by decide +kernel) rfl rfl rfl (by decide +kernel)
set_option maxRecDepth 65536 in
theorem w_c12 : (Jvm.Cond.code ({ cls := "java/lang/AbstractStringBuilder", name := "append", desc := "(Ljava/lang/String;)Ljava/lang/AbstractStringBuilder;" } : Jvm.MethodName) jdk_68_method_22_code (3 : Nat) (Option.some (Jvm.ClassFile.FieldType.object "java/lang/AbstractStringBuilder"))).before args0 about1 = true := code_word (m := ⟨15, 5⟩) (meth := k15m5) (c := k15c5) (by decide +kernel) rfl rfl rfl (by decide +kernel)
set_option maxRecDepth 65536 in
theorem w_c13 : (Jvm.Cond.code ({ cls := "java/lang/String", name := "length", desc := "()I" } : Jvm.MethodName) jdk_42_method_54_code (1 : Nat) (Option.some Jvm.ClassFile.FieldType.int)).before args0 about1 = true := code_word (m := ⟨7, 3⟩) (meth := k7m3) (c := k7c3) (by decide +kernel) rfl rfl rfl (by decide +kernel)
set_option maxRecDepth 65536 in
theorem w_c14 : (Jvm.Cond.code ({ cls := "java/lang/String", name := "coder", desc := "()B" } : Jvm.MethodName) jdk_42_method_152_code (1 : Nat) (Option.some Jvm.ClassFile.FieldType.byte)).before args0 about1 = true := code_word (m := ⟨7, 8⟩) (meth := k7m8) (c := k7c8) (by decide +kernel) rfl rfl rfl (by decide +kernel)
set_option maxRecDepth 65536 in
theorem w_c15 : (Jvm.Cond.code ({ cls := "java/lang/AbstractStringBuilder", name := "ensureCapacityInternal", desc := "(I)V" } : Jvm.MethodName) jdk_68_method_9_code (3 : Nat) (Option.none : Option Jvm.ClassFile.FieldType)).before args0 about1 = true := code_word (m := ⟨15, 3⟩) (meth := k15m3) (c := k15c3) (by decide +kernel) rfl rfl rfl (by decide +kernel)
set_option maxRecDepth 65536 in
theorem w_c16 : (Jvm.Cond.code ({ cls := "java/lang/AbstractStringBuilder", name := "newCapacity", desc := "(I)I" } : Jvm.MethodName) jdk_68_method_10_code (6 : Nat) (Option.some Jvm.ClassFile.FieldType.int)).before args0 about1 = true := code_word (m := ⟨15, 4⟩) (meth := k15m4) (c := k15c4) (by decide +kernel) rfl rfl rfl (by decide +kernel)
set_option maxRecDepth 65536 in
theorem w_c17 : (Jvm.Cond.code ({ cls := "jdk/internal/util/ArraysSupport", name := "newLength", desc := "(III)I" } : Jvm.MethodName) jdk_48_method_27_code (4 : Nat) (Option.some Jvm.ClassFile.FieldType.int)).before args0 about1 = true := code_word (m := ⟨17, 1⟩) (meth := k17m1) (c := k17c1) (by decide +kernel) rfl rfl rfl (by decide +kernel)
set_option maxRecDepth 65536 in
theorem w_c18 : (Jvm.Cond.code ({ cls := "java/lang/Math", name := "max", desc := "(II)I" } : Jvm.MethodName) jdk_29_method_65_code (2 : Nat) (Option.some Jvm.ClassFile.FieldType.int)).before args0 about1 = true := code_word (m := ⟨18, 1⟩) (meth := k18m1) (c := k18c1) (by decide +kernel) rfl rfl rfl (by decide +kernel)
set_option maxRecDepth 65536 in
theorem w_c19 : (Jvm.Cond.code ({ cls := "java/util/Arrays", name := "copyOf", desc := "([BI)[B" } : Jvm.MethodName) jdk_65_method_121_code (3 : Nat) (Option.some (Jvm.ClassFile.FieldType.array Jvm.ClassFile.FieldType.byte))).before args0 about1 = true := code_word (m := ⟨19, 1⟩) (meth := k19m1) (c := k19c1) (by decide +kernel) rfl rfl rfl (by decide +kernel)
set_option maxRecDepth 65536 in
theorem w_c20 : (Jvm.Cond.code ({ cls := "java/lang/Math", name := "min", desc := "(II)I" } : Jvm.MethodName) jdk_29_method_69_code (2 : Nat) (Option.some Jvm.ClassFile.FieldType.int)).before args0 about1 = true := code_word (m := ⟨18, 2⟩) (meth := k18m2) (c := k18c2) (by decide +kernel) rfl rfl rfl (by decide +kernel)
set_option maxRecDepth 65536 in
theorem w_c21 : (Jvm.Cond.code ({ cls := "java/lang/AbstractStringBuilder", name := "putStringAt", desc := "(ILjava/lang/String;)V" } : Jvm.MethodName) jdk_68_method_73_code (3 : Nat) (Option.none : Option Jvm.ClassFile.FieldType)).before args0 about1 = true := code_word (m := ⟨15, 9⟩) (meth := k15m9) (c := k15c9) (by decide +kernel) rfl rfl rfl (by decide +kernel)
set_option maxRecDepth 65536 in
theorem w_c22 : (Jvm.Cond.code ({ cls := "java/lang/AbstractStringBuilder", name := "inflateIfNeededFor", desc := "(Ljava/lang/String;)V" } : Jvm.MethodName) jdk_68_method_71_code (2 : Nat) (Option.none : Option Jvm.ClassFile.FieldType)).before args0 about1 = true := code_word (m := ⟨15, 8⟩) (meth := k15m8) (c := k15c8) (by decide +kernel) rfl rfl rfl (by decide +kernel)
set_option maxRecDepth 65536 in
theorem w_c23 : (Jvm.Cond.code ({ cls := "java/lang/String", name := "getBytes", desc := "([BIB)V" } : Jvm.MethodName) jdk_42_method_147_code (4 : Nat) (Option.none : Option Jvm.ClassFile.FieldType)).before args0 about1 = true := code_word (m := ⟨7, 5⟩) (meth := k7m5) (c := k7c5) (by decide +kernel) rfl rfl rfl (by decide +kernel)
set_option maxRecDepth 65536 in
theorem w_c24 : (Jvm.Cond.code ({ cls := "java/lang/StringBuilder", name := "toString", desc := "()Ljava/lang/String;" } : Jvm.MethodName) jdk_67_method_42_code (1 : Nat) (Option.some (Jvm.ClassFile.FieldType.object "java/lang/String"))).before args0 about1 = true := code_word (m := ⟨16, 2⟩) (meth := k16m2) (c := k16c2) (by decide +kernel) rfl rfl rfl (by decide +kernel)
set_option maxRecDepth 65536 in
theorem w_c25 : (Jvm.Cond.code ({ cls := "java/lang/String", name := "<init>", desc := "(Ljava/lang/StringBuilder;)V" } : Jvm.MethodName) jdk_42_method_53_code (2 : Nat) (Option.none : Option Jvm.ClassFile.FieldType)).before args0 about1 = true := code_word (m := ⟨7, 2⟩) (meth := k7m2) (c := k7c2) (by decide +kernel) rfl rfl rfl (by decide +kernel)
set_option maxRecDepth 65536 in
theorem w_c26 : (Jvm.Cond.code ({ cls := "java/lang/String", name := "<init>", desc := "(Ljava/lang/AbstractStringBuilder;Ljava/lang/Void;)V" } : Jvm.MethodName) jdk_42_method_150_code (5 : Nat) (Option.none : Option Jvm.ClassFile.FieldType)).before args0 about1 = true := code_word (m := ⟨7, 7⟩) (meth := k7m7) (c := k7c7) (by decide +kernel) rfl rfl rfl (by decide +kernel)
set_option maxRecDepth 65536 in
theorem w_c27 : (Jvm.Cond.code ({ cls := "java/lang/AbstractStringBuilder", name := "getValue", desc := "()[B" } : Jvm.MethodName) jdk_68_method_64_code (1 : Nat) (Option.some (Jvm.ClassFile.FieldType.array Jvm.ClassFile.FieldType.byte))).before args0 about1 = true := code_word (m := ⟨15, 6⟩) (meth := k15m6) (c := k15c6) (by decide +kernel) rfl rfl rfl (by decide +kernel)
set_option maxRecDepth 65536 in
theorem w_c28 : (Jvm.Cond.code ({ cls := "java/lang/StringBuilder", name := "length", desc := "()I" } : Jvm.MethodName) jdk_67_method_93_code (1 : Nat) (Option.some Jvm.ClassFile.FieldType.int)).before args0 about1 = true := code_word (m := ⟨16, 3⟩) (meth := k16m3) (c := k16c3) (by decide +kernel) rfl rfl rfl (by decide +kernel)
set_option maxRecDepth 65536 in
theorem w_c29 : (Jvm.Cond.code ({ cls := "java/lang/AbstractStringBuilder", name := "length", desc := "()I" } : Jvm.MethodName) jdk_68_method_6_code (1 : Nat) (Option.some Jvm.ClassFile.FieldType.int)).before args0 about1 = true := code_word (m := ⟨15, 2⟩) (meth := k15m2) (c := k15c2) (by decide +kernel) rfl rfl rfl (by decide +kernel)
set_option maxRecDepth 65536 in
theorem w_c30 : (Jvm.Cond.code ({ cls := "java/lang/AbstractStringBuilder", name := "isLatin1", desc := "()Z" } : Jvm.MethodName) jdk_68_method_68_code (1 : Nat) (Option.some Jvm.ClassFile.FieldType.boolean)).before args0 about1 = true := code_word (m := ⟨15, 7⟩) (meth := k15m7) (c := k15c7) (by decide +kernel) rfl rfl rfl (by decide +kernel)
set_option maxRecDepth 65536 in
theorem w_c31 : (Jvm.Cond.code ({ cls := "java/util/Arrays", name := "copyOfRange", desc := "([BII)[B" } : Jvm.MethodName) jdk_65_method_132_code (3 : Nat) (Option.some (Jvm.ClassFile.FieldType.array Jvm.ClassFile.FieldType.byte))).before args0 about1 = true := code_word (m := ⟨19, 3⟩) (meth := k19m3) (c := k19c3) (by decide +kernel) rfl rfl rfl (by decide +kernel)
set_option maxRecDepth 65536 in
theorem w_c32 : (Jvm.Cond.code ({ cls := "java/util/Arrays", name := "copyOfRangeByte", desc := "([BII)[B" } : Jvm.MethodName) jdk_65_method_133_code (5 : Nat) (Option.some (Jvm.ClassFile.FieldType.array Jvm.ClassFile.FieldType.byte))).before args0 about1 = true := code_word (m := ⟨19, 4⟩) (meth := k19m4) (c := k19c4) (by decide +kernel) rfl rfl rfl (by decide +kernel)
set_option maxRecDepth 65536 in
theorem w_c33 : (Jvm.Cond.code ({ cls := "java/util/Arrays", name := "checkLength", desc := "(II)V" } : Jvm.MethodName) jdk_65_method_131_code (2 : Nat) (Option.none : Option Jvm.ClassFile.FieldType)).before args0 about1 = true := code_word (m := ⟨19, 2⟩) (meth := k19m2) (c := k19c2) (by decide +kernel) rfl rfl rfl (by decide +kernel)
set_option maxRecDepth 65536 in
theorem w_c34 : (Jvm.Cond.code ({ cls := "java/lang/UnsupportedOperationException", name := "<init>", desc := "(Ljava/lang/String;)V" } : Jvm.MethodName) jdk_102_method_2_code (2 : Nat) (Option.none : Option Jvm.ClassFile.FieldType)).before args0 about1 = true := code_word (m := ⟨13, 1⟩) (meth := k13m1) (c := k13c1) (by decide +kernel) rfl rfl rfl (by decide +kernel)
set_option maxRecDepth 65536 in
theorem w_c35 : (Jvm.Cond.code ({ cls := "java/lang/RuntimeException", name := "<init>", desc := "(Ljava/lang/String;)V" } : Jvm.MethodName) jdk_58_method_2_code (2 : Nat) (Option.none : Option Jvm.ClassFile.FieldType)).before args0 about1 = true := code_word (m := ⟨12, 1⟩) (meth := k12m1) (c := k12c1) (by decide +kernel) rfl rfl rfl (by decide +kernel)
set_option maxRecDepth 65536 in
theorem w_c36 : (Jvm.Cond.code ({ cls := "java/lang/Exception", name := "<init>", desc := "(Ljava/lang/String;)V" } : Jvm.MethodName) jdk_59_method_2_code (2 : Nat) (Option.none : Option Jvm.ClassFile.FieldType)).before args0 about1 = true := code_word (m := ⟨11, 1⟩) (meth := k11m1) (c := k11c1) (by decide +kernel) rfl rfl rfl (by decide +kernel)
set_option maxRecDepth 65536 in
theorem w_c37 : (Jvm.Cond.code ({ cls := "java/lang/Throwable", name := "<init>", desc := "(Ljava/lang/String;)V" } : Jvm.MethodName) jdk_78_method_2_code (2 : Nat) (Option.none : Option Jvm.ClassFile.FieldType)).before args0 about1 = true := code_word (m := ⟨10, 1⟩) (meth := k10m1) (c := k10c1) (by decide +kernel) rfl rfl rfl (by decide +kernel)
set_option maxRecDepth 65536 in
theorem w_c38 : (Jvm.Cond.code ({ cls := "java/lang/Throwable", name := "<init>", desc := "()V" } : Jvm.MethodName) jdk_78_method_1_code (1 : Nat) (Option.none : Option Jvm.ClassFile.FieldType)).before args0 about1 = true := code_word (m := ⟨10, 0⟩) (meth := k10m0) (c := k10c0) (by decide +kernel) rfl rfl rfl (by decide +kernel)
set_option maxRecDepth 65536 in
theorem w_c39 : (Jvm.Cond.code ({ cls := "java/lang/Throwable", name := "getMessage", desc := "()Ljava/lang/String;" } : Jvm.MethodName) jdk_78_method_6_code (1 : Nat) (Option.some (Jvm.ClassFile.FieldType.object "java/lang/String"))).before args0 about1 = true := code_word (m := ⟨10, 2⟩) (meth := k10m2) (c := k10c2) (by decide +kernel) rfl rfl rfl (by decide +kernel)
set_option maxRecDepth 65536 in
theorem w_c40 : (Jvm.Cond.code ({ cls := "java/lang/String", name := "equals", desc := "(Ljava/lang/Object;)Z" } : Jvm.MethodName) jdk_42_method_66_code (3 : Nat) (Option.some Jvm.ClassFile.FieldType.boolean)).before args0 about1 = true := code_word (m := ⟨7, 4⟩) (meth := k7m4) (c := k7c4) (by decide +kernel) rfl rfl rfl (by decide +kernel)
set_option maxRecDepth 65536 in
theorem w_c41 : (Jvm.Cond.code ({ cls := "java/lang/StringLatin1", name := "equals", desc := "([B[B)Z" } : Jvm.MethodName) jdk_43_method_13_code (3 : Nat) (Option.some Jvm.ClassFile.FieldType.boolean)).before args0 about1 = true := code_word (m := ⟨21, 1⟩) (meth := k21m1) (c := k21c1) (by decide +kernel) rfl rfl rfl (by decide +kernel)
def codes1 : List Jvm.Cond := [Jvm.Cond.code x code maxLocals ret, Jvm.Cond.code ({ cls := "java/lang/String", name := "<init>", desc := "([C)V" } : Jvm.MethodName) jdk_42_method_3_code (2 : Nat) (Option.none : Option Jvm.ClassFile.FieldType), Jvm.Cond.code ({ cls := "java/lang/String", name := "<init>", desc := "([CIILjava/lang/Void;)V" } : Jvm.MethodName) jdk_42_method_149_code (6 : Nat) (Option.none : Option Jvm.ClassFile.FieldType), Jvm.Cond.code ({ cls := "java/lang/Object", name := "<init>", desc := "()V" } : Jvm.MethodName) object_method_1_code (1 : Nat) (Option.none : Option Jvm.ClassFile.FieldType), Jvm.Cond.code ({ cls := "com/example/lazo/lazo/UnsupportedOperationPinLaw", name := "prefix", desc := "([C)V" } : Jvm.MethodName) method_2_code (1 : Nat) (Option.none : Option Jvm.ClassFile.FieldType), Jvm.Cond.code ({ cls := "java/lang/StringUTF16", name := "compress", desc := "([CII)[B" } : Jvm.MethodName) jdk_52_method_16_code (6 : Nat) (Option.some (Jvm.ClassFile.FieldType.array Jvm.ClassFile.FieldType.byte)), Jvm.Cond.code ({ cls := "java/lang/StringUTF16", name := "compress", desc := "([CI[BII)I" } : Jvm.MethodName) jdk_52_method_21_code (7 : Nat) (Option.some Jvm.ClassFile.FieldType.int), Jvm.Cond.code ({ cls := "java/lang/StringUTF16", name := "coderFromArrayLen", desc := "([BI)B" } : Jvm.MethodName) jdk_52_method_15_code (2 : Nat) (Option.some Jvm.ClassFile.FieldType.byte), Jvm.Cond.code ({ cls := "com/example/lazo/lazo/Unsupported", name := "operation", desc := "(Ljava/lang/String;)Ljava/lang/UnsupportedOperationException;" } : Jvm.MethodName) prog_2_method_2_code (1 : Nat) (Option.some (Jvm.ClassFile.FieldType.object "java/lang/UnsupportedOperationException")), Jvm.Cond.code ({ cls := "java/lang/StringBuilder", name := "<init>", desc := "()V" } : Jvm.MethodName) jdk_67_method_1_code (1 : Nat) (Option.none : Option Jvm.ClassFile.FieldType), Jvm.Cond.code ({ cls := "java/lang/AbstractStringBuilder", name := "<init>", desc := "(I)V" } : Jvm.MethodName) jdk_68_method_2_code (2 : Nat) (Option.none : Option Jvm.ClassFile.FieldType), Jvm.Cond.code ({ cls := "java/lang/StringBuilder", name := "append", desc := "(Ljava/lang/String;)Ljava/lang/StringBuilder;" } : Jvm.MethodName) jdk_67_method_7_code (2 : Nat) (Option.some (Jvm.ClassFile.FieldType.object "java/lang/StringBuilder")), Jvm.Cond.code ({ cls := "java/lang/AbstractStringBuilder", name := "append", desc := "(Ljava/lang/String;)Ljava/lang/AbstractStringBuilder;" } : Jvm.MethodName) jdk_68_method_22_code (3 : Nat) (Option.some (Jvm.ClassFile.FieldType.object "java/lang/AbstractStringBuilder")), Jvm.Cond.code ({ cls := "java/lang/String", name := "length", desc := "()I" } : Jvm.MethodName) jdk_42_method_54_code (1 : Nat) (Option.some Jvm.ClassFile.FieldType.int), Jvm.Cond.code ({ cls := "java/lang/String", name := "coder", desc := "()B" } : Jvm.MethodName) jdk_42_method_152_code (1 : Nat) (Option.some Jvm.ClassFile.FieldType.byte), Jvm.Cond.code ({ cls := "java/lang/AbstractStringBuilder", name := "ensureCapacityInternal", desc := "(I)V" } : Jvm.MethodName) jdk_68_method_9_code (3 : Nat) (Option.none : Option Jvm.ClassFile.FieldType), Jvm.Cond.code ({ cls := "java/lang/AbstractStringBuilder", name := "newCapacity", desc := "(I)I" } : Jvm.MethodName) jdk_68_method_10_code (6 : Nat) (Option.some Jvm.ClassFile.FieldType.int), Jvm.Cond.code ({ cls := "jdk/internal/util/ArraysSupport", name := "newLength", desc := "(III)I" } : Jvm.MethodName) jdk_48_method_27_code (4 : Nat) (Option.some Jvm.ClassFile.FieldType.int), Jvm.Cond.code ({ cls := "java/lang/Math", name := "max", desc := "(II)I" } : Jvm.MethodName) jdk_29_method_65_code (2 : Nat) (Option.some Jvm.ClassFile.FieldType.int), Jvm.Cond.code ({ cls := "java/util/Arrays", name := "copyOf", desc := "([BI)[B" } : Jvm.MethodName) jdk_65_method_121_code (3 : Nat) (Option.some (Jvm.ClassFile.FieldType.array Jvm.ClassFile.FieldType.byte)), Jvm.Cond.code ({ cls := "java/lang/Math", name := "min", desc := "(II)I" } : Jvm.MethodName) jdk_29_method_69_code (2 : Nat) (Option.some Jvm.ClassFile.FieldType.int), Jvm.Cond.code ({ cls := "java/lang/AbstractStringBuilder", name := "putStringAt", desc := "(ILjava/lang/String;)V" } : Jvm.MethodName) jdk_68_method_73_code (3 : Nat) (Option.none : Option Jvm.ClassFile.FieldType), Jvm.Cond.code ({ cls := "java/lang/AbstractStringBuilder", name := "inflateIfNeededFor", desc := "(Ljava/lang/String;)V" } : Jvm.MethodName) jdk_68_method_71_code (2 : Nat) (Option.none : Option Jvm.ClassFile.FieldType), Jvm.Cond.code ({ cls := "java/lang/String", name := "getBytes", desc := "([BIB)V" } : Jvm.MethodName) jdk_42_method_147_code (4 : Nat) (Option.none : Option Jvm.ClassFile.FieldType), Jvm.Cond.code ({ cls := "java/lang/StringBuilder", name := "toString", desc := "()Ljava/lang/String;" } : Jvm.MethodName) jdk_67_method_42_code (1 : Nat) (Option.some (Jvm.ClassFile.FieldType.object "java/lang/String")), Jvm.Cond.code ({ cls := "java/lang/String", name := "<init>", desc := "(Ljava/lang/StringBuilder;)V" } : Jvm.MethodName) jdk_42_method_53_code (2 : Nat) (Option.none : Option Jvm.ClassFile.FieldType), Jvm.Cond.code ({ cls := "java/lang/String", name := "<init>", desc := "(Ljava/lang/AbstractStringBuilder;Ljava/lang/Void;)V" } : Jvm.MethodName) jdk_42_method_150_code (5 : Nat) (Option.none : Option Jvm.ClassFile.FieldType), Jvm.Cond.code ({ cls := "java/lang/AbstractStringBuilder", name := "getValue", desc := "()[B" } : Jvm.MethodName) jdk_68_method_64_code (1 : Nat) (Option.some (Jvm.ClassFile.FieldType.array Jvm.ClassFile.FieldType.byte)), Jvm.Cond.code ({ cls := "java/lang/StringBuilder", name := "length", desc := "()I" } : Jvm.MethodName) jdk_67_method_93_code (1 : Nat) (Option.some Jvm.ClassFile.FieldType.int), Jvm.Cond.code ({ cls := "java/lang/AbstractStringBuilder", name := "length", desc := "()I" } : Jvm.MethodName) jdk_68_method_6_code (1 : Nat) (Option.some Jvm.ClassFile.FieldType.int), Jvm.Cond.code ({ cls := "java/lang/AbstractStringBuilder", name := "isLatin1", desc := "()Z" } : Jvm.MethodName) jdk_68_method_68_code (1 : Nat) (Option.some Jvm.ClassFile.FieldType.boolean), Jvm.Cond.code ({ cls := "java/util/Arrays", name := "copyOfRange", desc := "([BII)[B" } : Jvm.MethodName) jdk_65_method_132_code (3 : Nat) (Option.some (Jvm.ClassFile.FieldType.array Jvm.ClassFile.FieldType.byte)), Jvm.Cond.code ({ cls := "java/util/Arrays", name := "copyOfRangeByte", desc := "([BII)[B" } : Jvm.MethodName) jdk_65_method_133_code (5 : Nat) (Option.some (Jvm.ClassFile.FieldType.array Jvm.ClassFile.FieldType.byte)), Jvm.Cond.code ({ cls := "java/util/Arrays", name := "checkLength", desc := "(II)V" } : Jvm.MethodName) jdk_65_method_131_code (2 : Nat) (Option.none : Option Jvm.ClassFile.FieldType), Jvm.Cond.code ({ cls := "java/lang/UnsupportedOperationException", name := "<init>", desc := "(Ljava/lang/String;)V" } : Jvm.MethodName) jdk_102_method_2_code (2 : Nat) (Option.none : Option Jvm.ClassFile.FieldType), Jvm.Cond.code ({ cls := "java/lang/RuntimeException", name := "<init>", desc := "(Ljava/lang/String;)V" } : Jvm.MethodName) jdk_58_method_2_code (2 : Nat) (Option.none : Option Jvm.ClassFile.FieldType), Jvm.Cond.code ({ cls := "java/lang/Exception", name := "<init>", desc := "(Ljava/lang/String;)V" } : Jvm.MethodName) jdk_59_method_2_code (2 : Nat) (Option.none : Option Jvm.ClassFile.FieldType), Jvm.Cond.code ({ cls := "java/lang/Throwable", name := "<init>", desc := "(Ljava/lang/String;)V" } : Jvm.MethodName) jdk_78_method_2_code (2 : Nat) (Option.none : Option Jvm.ClassFile.FieldType), Jvm.Cond.code ({ cls := "java/lang/Throwable", name := "<init>", desc := "()V" } : Jvm.MethodName) jdk_78_method_1_code (1 : Nat) (Option.none : Option Jvm.ClassFile.FieldType), Jvm.Cond.code ({ cls := "java/lang/Throwable", name := "getMessage", desc := "()Ljava/lang/String;" } : Jvm.MethodName) jdk_78_method_6_code (1 : Nat) (Option.some (Jvm.ClassFile.FieldType.object "java/lang/String")), Jvm.Cond.code ({ cls := "java/lang/String", name := "equals", desc := "(Ljava/lang/Object;)Z" } : Jvm.MethodName) jdk_42_method_66_code (3 : Nat) (Option.some Jvm.ClassFile.FieldType.boolean), Jvm.Cond.code ({ cls := "java/lang/StringLatin1", name := "equals", desc := "([B[B)Z" } : Jvm.MethodName) jdk_43_method_13_code (3 : Nat) (Option.some Jvm.ClassFile.FieldType.boolean)]
set_option maxRecDepth 65536 in
theorem codes_eq : words1.filter isCode = codes1 := rfl
theorem w_codes : ∀ c ∈ words1.filter isCode, c.before args0 about1 = true := by
  rw [codes_eq]
  intro c hc
  simp only [codes1, List.mem_cons, List.not_mem_nil, or_false] at hc
  rcases hc with rfl | rfl | rfl | rfl | rfl | rfl | rfl | rfl | rfl | rfl | rfl | rfl | rfl | rfl | rfl | rfl | rfl | rfl | rfl | rfl | rfl | rfl | rfl | rfl | rfl | rfl | rfl | rfl | rfl | rfl | rfl | rfl | rfl | rfl | rfl | rfl | rfl | rfl | rfl | rfl | rfl | rfl
  · exact w_c0
  · exact w_c1
  · exact w_c2
  · exact w_c3
  · exact w_c4
  · exact w_c5
  · exact w_c6
  · exact w_c7
  · exact w_c8
  · exact w_c9
  · exact w_c10
  · exact w_c11
  · exact w_c12
  · exact w_c13
  · exact w_c14
  · exact w_c15
  · exact w_c16
  · exact w_c17
  · exact w_c18
  · exact w_c19
  · exact w_c20
  · exact w_c21
  · exact w_c22
  · exact w_c23
  · exact w_c24
  · exact w_c25
  · exact w_c26
  · exact w_c27
  · exact w_c28
  · exact w_c29
  · exact w_c30
  · exact w_c31
  · exact w_c32
  · exact w_c33
  · exact w_c34
  · exact w_c35
  · exact w_c36
  · exact w_c37
  · exact w_c38
  · exact w_c39
  · exact w_c40
  · exact w_c41
set_option maxRecDepth 65536 in
theorem w_t1 : (words1.take 24).all (fun c => isCode c || c.before args0 about1) = true := by decide +kernel
set_option maxRecDepth 65536 in
theorem w_t2 : ((words1.drop 24).take 24).all (fun c => isCode c || c.before args0 about1) = true := by decide +kernel
set_option maxRecDepth 65536 in
theorem w_t3 : (((words1.drop 24).drop 24).take 24).all (fun c => isCode c || c.before args0 about1) = true := by decide +kernel
set_option maxRecDepth 65536 in
theorem w_t4 : ((((words1.drop 24).drop 24).drop 24).take 24).all (fun c => isCode c || c.before args0 about1) = true := by decide +kernel
set_option maxRecDepth 65536 in
theorem w_t5 : (((((words1.drop 24).drop 24).drop 24).drop 24).take 24).all (fun c => isCode c || c.before args0 about1) = true := by decide +kernel
set_option maxRecDepth 65536 in
theorem w_t6 : ((((((words1.drop 24).drop 24).drop 24).drop 24).drop 24).take 24).all (fun c => isCode c || c.before args0 about1) = true := by decide +kernel
set_option maxRecDepth 65536 in
theorem w_t7 : (((((((words1.drop 24).drop 24).drop 24).drop 24).drop 24).drop 24).take 24).all (fun c => isCode c || c.before args0 about1) = true := by decide +kernel
set_option maxRecDepth 65536 in
theorem w_t8 : ((((((((words1.drop 24).drop 24).drop 24).drop 24).drop 24).drop 24).drop 24).take 24).all (fun c => isCode c || c.before args0 about1) = true := by decide +kernel
set_option maxRecDepth 65536 in
theorem w_t9 : (((((((((words1.drop 24).drop 24).drop 24).drop 24).drop 24).drop 24).drop 24).drop 24).take 24).all (fun c => isCode c || c.before args0 about1) = true := by decide +kernel
set_option maxRecDepth 65536 in
theorem w_t10 : ((((((((((words1.drop 24).drop 24).drop 24).drop 24).drop 24).drop 24).drop 24).drop 24).drop 24).take 24).all (fun c => isCode c || c.before args0 about1) = true := by decide +kernel
set_option maxRecDepth 65536 in
theorem w_t11 : ((((((((((words1.drop 24).drop 24).drop 24).drop 24).drop 24).drop 24).drop 24).drop 24).drop 24).drop 24).all (fun c => isCode c || c.before args0 about1) = true := by decide +kernel
theorem w_tables : (allAtoms (Jvm.Cond.code x code maxLocals ret :: tables_1)).before args0 about1 = true := by
  rw [allAtoms_all]
  show words1.all (fun c => c.before args0 about1) = true
  refine all_split ?_ w_codes
  rw [← List.take_append_drop 24 words1, List.all_append, w_t1, ← List.take_append_drop 24 (words1.drop 24), List.all_append, w_t2, ← List.take_append_drop 24 ((words1.drop 24).drop 24), List.all_append, w_t3, ← List.take_append_drop 24 (((words1.drop 24).drop 24).drop 24), List.all_append, w_t4, ← List.take_append_drop 24 ((((words1.drop 24).drop 24).drop 24).drop 24), List.all_append, w_t5, ← List.take_append_drop 24 (((((words1.drop 24).drop 24).drop 24).drop 24).drop 24), List.all_append, w_t6, ← List.take_append_drop 24 ((((((words1.drop 24).drop 24).drop 24).drop 24).drop 24).drop 24), List.all_append, w_t7, ← List.take_append_drop 24 (((((((words1.drop 24).drop 24).drop 24).drop 24).drop 24).drop 24).drop 24), List.all_append, w_t8, ← List.take_append_drop 24 ((((((((words1.drop 24).drop 24).drop 24).drop 24).drop 24).drop 24).drop 24).drop 24), List.all_append, w_t9, ← List.take_append_drop 24 (((((((((words1.drop 24).drop 24).drop 24).drop 24).drop 24).drop 24).drop 24).drop 24).drop 24), List.all_append, w_t10, w_t11]
  rfl
set_option maxRecDepth 65536 in
theorem w_rest : rest_1_c.before args0 about1 = true := by decide +kernel
set_option maxRecDepth 65536 in
theorem w_case : (Jvm.Cond.and given_1 narrow_1).before args0 about1 = true := by decide +kernel
set_option maxRecDepth 65536 in
theorem w_consts : constsHeld consts_1 about1 := Jvm.Lit.constsHeldB_iff.mp (by decide +kernel)
theorem w_applies : (headSpec (Jvm.Cond.code x code maxLocals ret :: tables_1) room_1).applies x e0.platform about1 = true :=
  (Spec.applies_iff w_frames).mpr ⟨w_running, w_runnable, w_alone, w_named, w_hears, w_ripe, w_room, w_tables⟩
theorem atStart : AtStart classFile x code maxLocals ret World_1 tables_1 room_1 Calls_1 rest_1 Pre_1 launch0 p0 e0 about1 theMethod args0 below0 :=
  ⟨lists_1, trivial, launch0.admits_env _ _ _, launch0.least_env, fairChoices_fair.cas, fairChoices_fair.clock, w_frames, w_args, w_heap, w_applies, ⟨(by decide +kernel : framesKnown about1 = true), ⟨(by decide +kernel : tablesKnown about1 = true), ⟨w_consts, trivial⟩⟩⟩, w_rest, w_case⟩
end start1
theorem witness_1 : WitnessClaimed_1 := ⟨start1.p0, start1.e0, start1.about1, start1.theMethod, start1.args0, start1.below0, start1.atStart⟩
end Jvm.Pilot.@@N@@
