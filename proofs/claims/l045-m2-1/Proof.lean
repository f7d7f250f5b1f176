import JvmDerived
import JvmDerived.Pilot.@@N@@Statement
import JvmDerived.Pilot.@@N@@Code
set_option linter.unusedVariables false
set_option linter.unusedSimpArgs false
namespace Jvm.Own
open Jvm Jvm.ClassFile Sem Op Lib Jvm.Free Jvm.Stand Jvm.LawKit Jvm.RoadKit Bundle
/-! OWN LAYER: a wp-style reading of RoadKit's laws. V: the case's view (start state, start arguments, the literals that are held, narrow or wide, the launch). B: a body (name, bytes, max locals, return type, room). K: one invocation. -/
abbrev Vw : Type := State × Array Value × List (String × Nat) × Bool × Launch
abbrev Vw.Z (V : Vw) : State := V.1
abbrev Vw.a0 (V : Vw) : Array Value := V.2.1
abbrev Vw.EL (V : Vw) : List (String × Nat) := V.2.2.1
abbrev Vw.nar (V : Vw) : Bool := V.2.2.2.1
abbrev Vw.l (V : Vw) : Launch := V.2.2.2.2
abbrev Bx : Type := MethodName × ByteArray × Nat × Option FieldType × Room
abbrev Bx.y (B : Bx) : MethodName := B.1
abbrev Bx.code (B : Bx) : ByteArray := B.2.1
abbrev Bx.ml (B : Bx) : Nat := B.2.2.1
abbrev Bx.ret (B : Bx) : Option FieldType := B.2.2.2.1
abbrev Bx.R (B : Bx) : Room := B.2.2.2.2
abbrev Cx : Type := Program × Env × State × MethodId × Array Value × List Frame × Method × Code
abbrev Cx.p (K : Cx) : Program := K.1
abbrev Cx.e (K : Cx) : Env := K.2.1
abbrev Cx.s (K : Cx) : State := K.2.2.1
abbrev Cx.m (K : Cx) : MethodId := K.2.2.2.1
abbrev Cx.args (K : Cx) : Array Value := K.2.2.2.2.1
abbrev Cx.below (K : Cx) : List Frame := K.2.2.2.2.2.1
abbrev Cx.meth (K : Cx) : Method := K.2.2.2.2.2.2.1
abbrev Cx.c (K : Cx) : Code := K.2.2.2.2.2.2.2
abbrev Qt : Type := Option Value → Heap → List Addr → Prop
def ushr (x y : Int32) : Int32 := (x.toUInt32 >>> (y &&& 31).toUInt32).toInt32
def ushrL (x : Int64) (y : Int32) : Int64 := (x.toUInt64 >>> (y &&& 0x3f).toInt64.toUInt64).toInt64
def Fx (K : Cx) (B : Bx) : Prop := K.p.tables.exec = Jvm.exec ∧ K.c.code = B.code ∧ K.c.maxLocals = B.ml ∧ K.meth.sig.returnType = B.ret ∧ K.meth.locks = false ∧ K.meth.name = B.y.name
def Sf (V : Vw) (vm : Vm) (h : Heap) (ps : List Addr) : Prop := ∀ x ∈ ps, x < h.size ∧ Safe V.Z V.EL vm h x
def Std (V : Vw) (K : Cx) (B : Bx) (T : State) (h : Heap) (ps : List Addr) (cs sl : Nat) : Prop :=
  ∃ (locs : List Loc) (vm0 : Vm) (k0 : Nat), Stand K.p V.l K.e B.R (K.s.setVm vm0) K.m K.args K.below K.meth K.c T locs cs sl ∧ T.heap = h ∧ V.Z.Warmed39 vm0 ∧ vm0.findClass B.y.cls = some K.m.cls ∧ K.s.Since vm0 k0 ∧ k0 ≤ h.size ∧
    Fr V.Z.heap.size locs ∧ Ext V.Z.heap h ∧ CHr V.Z V.EL K.s.vm K.s.heap vm0 h ∧ Sf V vm0 h ps ∧ EW V.Z V.a0 V.EL ∧ (V.nar = true → vm0 = K.s.vm ∧ V.EL = []) ∧ Fx K B
def Fnl (V : Vw) (K : Cx) (B : Bx) (Q : Qt) (o : Outcome) (t : State) : Prop :=
  ∃ (v : Option Value) (L : List Loc) (ps : List Addr), o = .returned v ∧ Fr V.Z.heap.size L ∧ Q v t.heap ps ∧ Ext V.Z.heap t.heap ∧ Sf V t.vm t.heap ps ∧ CHr V.Z V.EL K.s.vm K.s.heap t.vm t.heap ∧
    ReturnedEndW K.s o t L B.R.cells B.R.slots ∧ (V.nar = true → FrameEnd K.s o t L B.R.cells B.R.slots)
def Run (V : Vw) (K : Cx) (B : Bx) (Q : Qt) (h : Heap) (ps : List Addr) (cs sl pc : Nat) (L : List Slot) (S : List Value) : Prop :=
  ∀ T, Std V K B T h ps cs sl → ∃ t o, Steps K.p.tables K.e K.below (T.setTop (mkF K.m pc L.toArray S)) t ∧ t.status = .running ∧ Ended t K.below o ∧ Fnl V K B Q o t
/-- the contract of a body, at one heap and for one row of arguments -/
def Con (V : Vw) (B : Bx) (as' : Array Value) (h0 : Heap) (ps : List Addr) (Q : Qt) : Prop :=
  EW V.Z V.a0 V.EL → Ext V.Z.heap h0 → (V.nar = true → V.EL = []) → ∀ ws, MetFree V.l B.y (head1 (Jvm.Cond.code B.y B.code B.ml B.ret :: ws) B.R)
    (fun a U => a = as' ∧ V.Z.Warmed39 U.vm ∧ U.heap = h0 ∧ CHv V.Z V.EL U.vm h0 ∧ Sf V U.vm h0 ps) (fun _ _ _ _ _ => True)
    (fun _ U o U' => ∃ (v : Option Value) (L : List Loc) (ps' : List Addr), o = .returned v ∧ Fr V.Z.heap.size L ∧ Q v U'.heap ps' ∧ Ext V.Z.heap U'.heap ∧ Sf V U'.vm U'.heap ps' ∧ CHr V.Z V.EL U.vm U.heap U'.vm U'.heap ∧
      ReturnedEndW U o U' L B.R.cells B.R.slots ∧ (V.nar = true → FrameEnd U o U' L B.R.cells B.R.slots))
/-- what a call of y gives in the invocation K of B -/
def PreP (B : Bx) (as' : Array Value) (h : Heap) (nc ns : Nat) : Pt → Array Value → Prop := fun A a => a = as' ∧ A.U.heap = h ∧ A.cells + nc ≤ B.R.cells ∧ A.slots + ns ≤ B.R.slots
def PostP (V : Vw) (vm0 : Vm) (h : Heap) (nc ns : Nat) (Q : Qt) : Pt → Array Value → Option Value → Pt → Prop := fun A _ v C =>
  ∃ (L : List Loc) (ps : List Addr), Fr V.Z.heap.size L ∧ Q v C.U.heap ps ∧ Ext V.Z.heap C.U.heap ∧ h.size ≤ C.U.heap.size ∧ Sf V C.U.vm C.U.heap ps ∧ C.locs = A.locs ++ L ∧ C.cells = A.cells + nc ∧ C.slots = A.slots + ns ∧ CHr V.Z V.EL vm0 h C.U.vm C.U.heap
def Pays (V : Vw) (K : Cx) (B : Bx) (y : MethodName) (len W : Nat) (as' : Array Value) (h : Heap) (ps : List Addr) (nc ns : Nat) (Q : Qt) : Prop :=
  ∀ vm0, V.Z.Warmed39 vm0 → CHv V.Z V.EL vm0 h → Sf V vm0 h ps → EW V.Z V.a0 V.EL → Ext V.Z.heap h → (V.nar = true → V.EL = []) →
    (V.nar = true → Back V.l B.R K.p K.e K.below (K.s.setVm vm0) K.args y len W (PreP B as' h nc ns) (PostP V vm0 h nc ns Q)) ∧
    (V.nar = false → BackS V.l B.R K.p K.e K.below (K.s.setVm vm0) K.args y len W (PreP B as' h nc ns) (PostP V vm0 h nc ns Q))
theorem ltN {a n : Nat} (h : a < n) : a < n := h
theorem leN {a n : Nat} (h : a ≤ n) : a ≤ n := h
theorem neN {a b : Nat} (h : a ≠ b) : a < b ∨ b < a := Nat.lt_or_gt_of_ne h
theorem neA {a b : Nat} (h : a < b ∨ b < a) : a ≠ b := fun e => by omega
theorem leA {a b : Nat} (h : a ≤ b) : a ≤ b := h
theorem wd {V : Vw} {Ls : List Jvm.Cond} (hw : ∀ d ∈ Ls, d.before V.a0 V.Z = true) (i : Nat) {d : Jvm.Cond} (h : Ls[i]? = some d) : d.before V.a0 V.Z = true := hw d (List.mem_of_getElem? h)
section Basics
variable {V : Vw} {K : Cx} {B : Bx} {Q : Qt} {T : State} {h h' : Heap} {ps ps' : List Addr} {cs sl pc : Nat} {L : List Slot} {S : List Value}
theorem Sf.nil {vm : Vm} : Sf V vm h [] := fun _ q => nomatch q
theorem Sf.cons {vm : Vm} {x : Addr} (a : x < h.size) (b : Safe V.Z V.EL vm h x) (c : Sf V vm h ps) : Sf V vm h (x :: ps) := fun y q => by
  rcases List.mem_cons.mp q with rfl | q
  · exact ⟨a, b⟩
  · exact c y q
theorem Sf.app {vm : Vm} (c : Sf V vm h ps) (d : Sf V vm h ps') : Sf V vm h (ps ++ ps') := fun y q => (List.mem_append.mp q).elim (c y) (d y)
theorem Sf.sub {vm : Vm} (c : Sf V vm h ps) (d : ∀ x ∈ ps', x ∈ ps) : Sf V vm h ps' := fun y q => c y (d y q)
theorem Sf.go {vm vm1 : Vm} (c : Sf V vm h ps) (A : CHr V.Z V.EL vm h vm1 h') : Sf V vm1 h' ps := fun y q => ⟨Nat.lt_of_lt_of_le (c y q).1 A.2.1, A.safe (c y q).1 (c y q).2⟩
theorem chr0 {Z : State} {vm vm1 : Vm} (q : h.size ≤ h'.size) : CHr Z [] vm h vm1 h' := ⟨(fun _ hp => nomatch hp), q, (fun _ z => by obtain ⟨_, hp, _⟩ := z; exact nomatch hp)⟩
theorem oldWr {Z : State} {a : Addr} {j : Nat} {v : Value} (O : Ext Z.heap h) (W : Wr h h' a j v) (q : Z.heap.size ≤ a) : Ext Z.heap h' := (Old.wr (show Old Z Z.heap.size h from ⟨rfl, O⟩) W q).2
theorem oldKeep {Z : State} {ws : List Addr} (O : Ext Z.heap h) (W : Keep h h' ws) (q : ∀ x ∈ ws, Z.heap.size ≤ x) : Ext Z.heap h' := (Old.keep (show Old Z Z.heap.size h from ⟨rfl, O⟩) W q).2
theorem Ext.trans' {h1 h2 h3 : Heap} (A : Ext h1 h2) (C : Ext h2 h3) : Ext h1 h3 := ⟨Nat.le_trans A.1 C.1, fun a c q => C.2 a c (A.2 a c q)⟩
/-- a step that moves nothing of the heap -/
theorem Run.plain {pc' : Nat} {L' : List Slot} {S' : List Value} (r : Run V K B Q h ps cs sl pc' L' S')
    (st : ∀ T t, At T K.m K.c K.below → K.p.tables.exec = Jvm.exec → K.c.code = B.code → Steps K.p.tables K.e K.below (T.setTop (mkF K.m pc' L'.toArray S')) t → Steps K.p.tables K.e K.below (T.setTop (mkF K.m pc L.toArray S)) t) :
    Run V K B Q h ps cs sl pc L S := fun T hT => by
  obtain ⟨t, o, h1, h2⟩ := r T hT
  obtain ⟨locs, vm0, k0, X, -, -, -, -, -, -, -, -, -, -, -, G⟩ := hT
  exact ⟨t, o, st T t X.here G.1 G.2.1 h1, h2⟩
theorem Run.more {cs' sl' : Nat} (hc : cs ≤ cs') (hs : sl ≤ sl') (r : Run V K B Q h ps cs' sl' pc L S) : Run V K B Q h ps cs sl pc L S := fun T hT => by
  obtain ⟨locs, vm0, k0, X, rest⟩ := hT
  exact r T ⟨locs, vm0, k0, X.more hc hs, rest⟩
theorem Run.less (hs : ∀ x ∈ ps', x ∈ ps) (r : Run V K B Q h ps' cs sl pc L S) : Run V K B Q h ps cs sl pc L S := fun T hT => by
  obtain ⟨locs, vm0, k0, X, e1, e2, e3, e4, e5, e6, e7, e8, e9, e10⟩ := hT
  exact r T ⟨locs, vm0, k0, X, e1, e2, e3, e4, e5, e6, e7, e8, e9.sub hs, e10⟩
/-- what the walk knows at any time: all that stood at the case's start stands -/
theorem Run.old (r : Ext V.Z.heap h → Run V K B Q h ps cs sl pc L S) : Run V K B Q h ps cs sl pc L S := fun T hT => by
  have O : Ext V.Z.heap h := by obtain ⟨locs, vm0, k0, X, e1, e2, e3, e4, e5, e6, e7, e8, e9, e10⟩ := hT; exact e7
  exact r O T hT
/-- a step that moves the state but not the heap -/
theorem Run.still {pc' : Nat} {L' : List Slot} {S' : List Value} (r : Run V K B Q h ps cs sl pc' L' S')
    (st : ∀ T locs vm0, Stand K.p V.l K.e B.R (K.s.setVm vm0) K.m K.args K.below K.meth K.c T locs cs sl → T.heap = h → V.Z.Warmed39 (K.s.setVm vm0).vm → (K.s.setVm vm0).vm.findClass B.y.cls = some K.m.cls → Ext V.Z.heap h → Fx K B →
      ∃ T', Stand K.p V.l K.e B.R (K.s.setVm vm0) K.m K.args K.below K.meth K.c T' locs cs sl ∧ T'.heap = h ∧ ∀ t, Steps K.p.tables K.e K.below (T'.setTop (mkF K.m pc' L'.toArray S')) t → Steps K.p.tables K.e K.below (T.setTop (mkF K.m pc L.toArray S)) t) :
    Run V K B Q h ps cs sl pc L S := fun T hT => by
  obtain ⟨locs, vm0, k0, X, e1, e2, e3, e4, e5, e6, e7, e8, e9, e10, e11, e12⟩ := hT
  obtain ⟨T', X', e', st'⟩ := st T locs vm0 X e1 e2 e3 e7 e12
  obtain ⟨t, o, h1, h2⟩ := r T' ⟨locs, vm0, k0, X', e', e2, e3, e4, e5, e6, e7, e8, e9, e10, e11, e12⟩
  exact ⟨t, o, st' _ h1, h2⟩
/-- a step that writes one slot of a cell that the case has made -/
theorem Run.write {pc' : Nat} {L' : List Slot} {S' : List Value} {a : Addr} {v : Value} {j : Nat} (ha : V.Z.heap.size ≤ a) (hs : ∀ vm, V.Z.vm.Alike vm → Sf V vm h ps → Safe V.Z V.EL vm h a) (r : ∀ h', Wr h h' a j v → Run V K B Q h' ps cs sl pc' L' S')
    (st : ∀ T locs vm0, Stand K.p V.l K.e B.R (K.s.setVm vm0) K.m K.args K.below K.meth K.c T locs cs sl → T.heap = h → V.Z.Warmed39 (K.s.setVm vm0).vm → (K.s.setVm vm0).vm.findClass B.y.cls = some K.m.cls → Fx K B →
      ∃ T' h', Stand K.p V.l K.e B.R (K.s.setVm vm0) K.m K.args K.below K.meth K.c T' (locs ++ [⟨a, j⟩]) cs sl ∧ T'.heap = h' ∧ Wr h h' a j v ∧ ∀ t, Steps K.p.tables K.e K.below (T'.setTop (mkF K.m pc' L'.toArray S')) t → Steps K.p.tables K.e K.below (T.setTop (mkF K.m pc L.toArray S)) t) :
    Run V K B Q h ps cs sl pc L S := fun T hT => by
  obtain ⟨locs, vm0, k0, X, e1, e2, e3, e4, e5, e6, e7, e8, e9, e10, e11, e12⟩ := hT
  obtain ⟨T', h', X', e', W, st'⟩ := st T locs vm0 X e1 e2 e3 e12
  have C := CHr.wr W (hs vm0 e2.alike e9) e8.1
  obtain ⟨t, o, h1, h2⟩ := r h' W T' ⟨_, vm0, k0, X', e', e2, e3, e4, by rw [W.size]; exact e5, Fr.snoc X' e6 ha, oldWr e7 W ha, e8.trans C, e9.go C, e10, e11, e12⟩
  exact ⟨t, o, st' _ h1, h2⟩
/-- a step that makes one cell -/
theorem Run.make {pc' nn : Nat} {L' : List Slot} {S' : Addr → List Value} {P : Heap → Prop} (r : ∀ h', Ext h h' → V.Z.heap.size ≤ h.size → P h' → Run V K B Q h' (h.size :: ps) (cs + 1) (sl + nn) pc' L' (S' h.size))
    (st : ∀ T locs vm0, Stand K.p V.l K.e B.R (K.s.setVm vm0) K.m K.args K.below K.meth K.c T locs cs sl → T.heap = h → V.Z.Warmed39 (K.s.setVm vm0).vm → (K.s.setVm vm0).vm.findClass B.y.cls = some K.m.cls → Fx K B →
      ∃ T' h', Stand K.p V.l K.e B.R (K.s.setVm vm0) K.m K.args K.below K.meth K.c T' locs (cs + 1) (sl + nn) ∧ T'.heap = h' ∧ Ext h h' ∧ h.size < h'.size ∧ P h' ∧ ∀ t, Steps K.p.tables K.e K.below (T'.setTop (mkF K.m pc' L'.toArray (S' h.size))) t → Steps K.p.tables K.e K.below (T.setTop (mkF K.m pc L.toArray S)) t) :
    Run V K B Q h ps cs sl pc L S := fun T hT => by
  obtain ⟨locs, vm0, k0, X, e1, e2, e3, e4, e5, e6, e7, e8, e9, e10, e11, e12⟩ := hT
  obtain ⟨T', h', X', e', E, hlt, hP, st'⟩ := st T locs vm0 X e1 e2 e3 e12
  have C := CHr.ext E e8.1
  obtain ⟨t, o, h1, h2⟩ := r h' E e7.1 hP T' ⟨_, vm0, k0, X', e', e2, e3, e4, Nat.le_trans e5 E.1, e6, Ext.trans' e7 E, e8.trans C, Sf.cons hlt ((Safe.new (Nat.le_refl _)).ext E e8.1) (e9.go C), e10, e11, e12⟩
  exact ⟨t, o, st' _ h1, h2⟩
/-- the way into a body -/
theorem Con.of {as' : Array Value} (hp : plainFor B.y = true) (hl : argsToLocals as' B.ml = L.toArray) (body : ∀ K : Cx, Run V K B Q h ps 0 0 0 L []) : Con V B as' h ps Q := fun hE hO hN ws => by
  refine MetFree.of_bodySF hp hisR ?_
  intro p e s m args below meth c s₁ Bd hml0 hP hK
  obtain ⟨rfl, hZ, hh, hC, hS⟩ := hP
  have X0 : Stand p V.l e B.R s m args below meth c s₁ [] 0 0 := Stand.of_body Bd
  have e0 : s₁.heap = h := by rw [← hh, Bd.state]; rfl
  have hn := (name_of_methodNamed Bd.named Bd.method).1
  obtain ⟨t, o, h1, h2, h3, h4⟩ := body (p, e, s, m, args, below, meth, c) s₁
    ⟨[], s.vm, h.size, X0, e0, hZ, findClass_of_methodNamed Bd.named, (State.WarmedH.refl s).since _, Nat.le_refl _, Fr.nil _, hO, (by show CHr V.Z V.EL s.vm s.heap s.vm h; rw [hh]; exact CHr.refl hC), hS, hE, fun q => ⟨rfl, hN q⟩, Bd.exec, Bd.bytes, hml0, Bd.returns, BodyLoose.notSynchronized Bd, hn⟩
  refine ⟨t, o, ?_, h2, h3, h4⟩
  have q : entryFrame m args B.ml = mkF m 0 L.toArray [] := by simp only [entryFrame, mkF, hl]
  rw [q]; exact h1
/-- a contract pays a call -/
theorem Pays.con {B' : Bx} {as' : Array Value} {len W : Nat} (C : Con V B' as' h ps Q) (wc : (Jvm.Cond.code B'.y B'.code B'.ml B'.ret).before V.a0 V.Z = true) (wz : (Jvm.Cond.initialized B'.y.cls).before V.a0 V.Z = true)
    (hf : B'.R.frames + 1 ≤ B.R.frames) (hl : W + (B'.ml + 11) + B'.R.locals ≤ B.R.locals) : Pays V K B B'.y len W as' h ps B'.R.cells B'.R.slots Q := fun vm0 hZ hC hS hE hO hN => by
  have hM := C hE hO hN []
  refine ⟨fun hn => ?_, fun hn => ?_⟩
  · refine Back.of_free (bytes := B'.code) (maxL := B'.ml) (ret := B'.ret) (E := fun _ first o t L k n => k = B'.R.cells ∧ n = B'.R.slots ∧ ∃ v ps', o = .returned v ∧ Fr V.Z.heap.size L ∧ Q v t.heap ps' ∧ Ext V.Z.heap t.heap ∧ first.heap.size ≤ t.heap.size ∧ Sf V t.vm t.heap ps') hM hf hl
      (fun m meth c A a Y hp => have hU : V.Z.Warmed39 A.U.vm := wtrans (s := K.s.setVm vm0) hZ Y.warmed
        ⟨by show (Cond.and _ .tt).before a A.U = true; rw [Cond.before_and, mv hU wc]; rfl, mv hU wc, mv hU wz, hp.2.2.1, hp.2.2.2⟩)
      (fun m meth c A a g mk Y hp => ?_) (fun _ _ _ _ _ _ _ _ _ => trivial)
      (fun _ _ _ _ ⟨v, L, ps', h1, h2, h3, h4, h5, h6, h7, h8⟩ => ⟨L, _, _, h8 hn, rfl, rfl, v, ps', h1, h2, h3, h4, h6.2.1, h5⟩)
      (fun m meth c A a g mk v t L k n Y hp _ _ ⟨e1, e2, v', ps', e3, e4, e5, e6, e7, e8⟩ => ?_)
    · have A' := CHv.at Y hZ hE hC
      exact ⟨hp.1, wtrans (s := K.s.setVm vm0) hZ Y.warmed, hp.2.1, A'.1, hS.go A'⟩
    · cases e3; subst e1 e2
      have q : h.size ≤ t.heap.size := by rw [← hp.2.1]; exact e7
      exact ⟨L, ps', e4, e5, e6, q, e8, rfl, rfl, rfl, by rw [hN hn]; exact chr0 q⟩
  · refine BackS.of_freeW (bytes := B'.code) (maxL := B'.ml) (ret := B'.ret) (E := fun _ first o t L k n => k = B'.R.cells ∧ n = B'.R.slots ∧ (∃ v ps', o = .returned v ∧ Fr V.Z.heap.size L ∧ Q v t.heap ps' ∧ Ext V.Z.heap t.heap ∧ Sf V t.vm t.heap ps') ∧ CHr V.Z V.EL first.vm first.heap t.vm t.heap) hM hf hl
      (fun m meth c A a Y hp => have hU : V.Z.Warmed39 A.U.vm := wtrans (s := K.s.setVm vm0) hZ Y.warmed
        ⟨by show (Cond.and _ .tt).before a A.U = true; rw [Cond.before_and, mv hU wc]; rfl, mv hU wc, mv hU wz, hp.2.2.1, hp.2.2.2⟩)
      (fun m meth c A a g mk Y hp => ?_) (fun _ _ _ _ _ _ _ _ _ => trivial)
      (fun _ _ _ _ ⟨v, L, ps', h1, h2, h3, h4, h5, h6, h7, h8⟩ => ⟨L, _, _, h7, rfl, rfl, ⟨v, ps', h1, h2, h3, h4, h5⟩, h6⟩)
      (fun m meth c A a g mk v t L k n Y hp _ _ ⟨e1, e2, ⟨v', ps', e3, e4, e5, e6, e8⟩, e7⟩ => ?_)
    · have A' := CHv.at Y hZ hE hC
      exact ⟨hp.1, wtrans (s := K.s.setVm vm0) hZ Y.warmed, hp.2.1, A'.1, hS.go A'⟩
    · cases e3; subst e1 e2
      have q : CHr V.Z V.EL A.U.vm h t.vm t.heap := by rw [← hp.2.1]; exact e7
      exact ⟨L, ps', e4, e5, e6, q.2.1, e8, rfl, rfl, rfl, (CHv.at Y hZ hE hC).trans q⟩
/-- a law that says what it keeps (the pasted laws of the JDK) pays a call -/
theorem Pays.back {y : MethodName} {as' : Array Value} {len W nc ns : Nat} {ws : List Addr} {Q0 : Option Value → Heap → List Loc → Prop}
    (hB : ∀ s : State, V.Z.Warmed39 s.vm → Back V.l B.R K.p K.e K.below s K.args y len W (fun A a => a = as' ∧ A.U.heap = h ∧ A.cells + nc ≤ B.R.cells ∧ A.slots + ns ≤ B.R.slots) (fun A _ v C => ∃ L, Q0 v C.U.heap L ∧ C.locs = A.locs ++ L ∧ C.cells = A.cells + nc ∧ C.slots = A.slots + ns))
    (hQ : ∀ v h' L, Q0 v h' L → Fr V.Z.heap.size L ∧ Keep h h' ws ∧ Q v h' []) (hws : ∀ x ∈ ws, V.Z.heap.size ≤ x) (hsafe : ∀ vm, V.Z.vm.Alike vm → Sf V vm h ps → ∀ x ∈ ws, Safe V.Z V.EL vm h x) :
    Pays V K B y len W as' h ps nc ns Q := fun vm0 hZ hC hS hE hO hN => by
  have hb0 := hB (K.s.setVm vm0) hZ
  have post : ∀ m meth c A a v C, Stand K.p V.l K.e B.R (K.s.setVm vm0) m K.args K.below meth c (Pt.U C) (Pt.locs C) (Pt.cells C) (Pt.slots C) → (∃ L, Q0 v C.U.heap L ∧ C.locs = (Pt.locs A) ++ L ∧ C.cells = (Pt.cells A) + nc ∧ C.slots = (Pt.slots A) + ns) → PostP V vm0 h nc ns Q A a v C := fun m meth c A a v C Y ⟨L, q, r1, r2, r3⟩ => by
    obtain ⟨q1, q2, q3⟩ := hQ _ _ _ q
    have C1 := CHr.keep q2 (hsafe vm0 hZ.alike hS) hC
    exact ⟨L, [], q1, q3, oldKeep hO q2 hws, q2.1, Sf.nil, r1, r2, r3, C1.trans (CHv.at Y hZ hE C1.1)⟩
  refine ⟨fun hn => ?_, fun hn => ?_⟩
  · intro m meth c A g ig mk a X hg hsize hdg hW hn' hp
    obtain ⟨v, C, X', hpost, hst⟩ := hb0 m meth c A g ig mk a X hg hsize hdg hW hn' hp
    exact ⟨v, C, X', post m meth c A a v C X' hpost, hst⟩
  · intro m meth c A g ig mk a X hg hsize hdg hW hn' hp
    obtain ⟨v, C, X', hpost, hst⟩ := hb0 m meth c A g ig mk a X hg hsize hdg hW hn' hp
    have hpo := post m meth c A a v C X' hpost
    refine ⟨v, C, X'.retabled X'.warmed.wide, X'.warmed.since _, ?_, hpo, hst⟩
    rw [hp.2.1]; obtain ⟨L, ps1, -, -, -, q, -⟩ := hpo; exact q
/-- behind a call: the invocation stands again -/
theorem Run.behind {vm0 : Vm} {k0 : Nat} {locs : List Loc} {nc ns : Nat} {Q' : Qt} {v : Option Value} {vm₁ : Vm} {C : Pt} {pc' : Nat} {L' : List Slot} {S' : List Value} {a : Array Value}
    (e2 : V.Z.Warmed39 vm0) (e3 : vm0.findClass B.y.cls = some K.m.cls) (e4 : K.s.Since vm0 k0) (e5 : k0 ≤ h.size) (e6 : Fr V.Z.heap.size locs) (e8 : CHr V.Z V.EL K.s.vm K.s.heap vm0 h) (e9 : Sf V vm0 h ps) (e10 : EW V.Z V.a0 V.EL) (e11 : V.nar = true → vm0 = K.s.vm ∧ V.EL = []) (e12 : Fx K B)
    (X : (V.nar = true ∧ Stand K.p V.l K.e B.R (K.s.setVm vm0) K.m K.args K.below K.meth K.c C.U C.locs C.cells C.slots) ∨ (V.nar = false ∧ Stand K.p V.l K.e B.R ((K.s.setVm vm0).setVm C.U.vm) K.m K.args K.below K.meth K.c C.U C.locs C.cells C.slots ∧ (K.s.setVm vm0).Since C.U.vm C.U.heap.size))
    (hp : PostP V vm0 h nc ns Q' ⟨T.setVm vm₁, locs, cs, sl⟩ a v C) (r : ∀ v h' ps', Q' v h' ps' → h.size ≤ h'.size → Run V K B Q h' (ps' ++ ps) (cs + nc) (sl + ns) pc' L' (v.toList ++ S')) :
    ∃ t o, Steps K.p.tables K.e K.below (C.U.setTop (mkF K.m pc' L'.toArray (v.toList ++ S'))) t ∧ t.status = .running ∧ Ended t K.below o ∧ Fnl V K B Q o t := by
  obtain ⟨Lc, ps', q1, q2, q3, q4, q5, q6, q7, q8, q9⟩ := hp
  rcases X with ⟨hn, X⟩ | ⟨hn, X, hS⟩
  · refine r v _ ps' q2 q4 C.U ⟨_, vm0, k0, by rw [← q7, ← q8]; exact X, rfl, e2, e3, e4, Nat.le_trans e5 q4, by rw [q6]; exact e6.app q1, q3, ?_, ?_, e10, e11, e12⟩
    · rw [(e11 hn).2]; exact chr0 (Nat.le_trans e8.2.1 q4)
    · intro x hx
      refine ⟨?_, by rw [(e11 hn).2]; exact fun ⟨_, hp, _⟩ => nomatch hp⟩
      rcases List.mem_append.mp hx with hx | hx
      · exact (q5 x hx).1
      · exact Nat.lt_of_lt_of_le (e9 x hx).1 q4
  · obtain ⟨X1, S1, W1, F1⟩ := rebS (Z := V.Z) (own := B.y.cls) e4 e5 X hS q4 e2 e3
    exact r v _ ps' q2 q4 C.U ⟨_, C.U.vm, _, by rw [← q7, ← q8]; exact X1, rfl, W1, F1, S1, Nat.le_refl _, by rw [q6]; exact e6.app q1, q3, e8.trans q9, q5.app (e9.go q9), e10, fun q => absurd (hn.symm.trans q) (by decide), e12⟩
end Basics
end Jvm.Own
namespace Jvm.Own
open Jvm Jvm.ClassFile Sem Op Lib Jvm.Free Jvm.Stand Jvm.LawKit Jvm.RoadKit Bundle
section Rules
variable {V : Vw} {K : Cx} {B : Bx} {Q : Qt} {T : State} {h h' : Heap} {ps ps' : List Addr} {cs sl pc : Nat} {L : List Slot} {S : List Value}
theorem r_iload {k : Nat} {v : Int32} (pc' : Nat) (hp : pc + 2 = pc') (hd : decode B.code pc = .ok (.iload k, 2)) (hl : L[k]? = some (.val (.int v))) (r : Run V K B Q h ps cs sl pc' L (.int v :: S)) : Run V K B Q h ps cs sl pc L (S) := by
  subst hp; exact r.plain fun T t hA hx hc st => XS.iload hA hx rfl (hb hc hd) (by show L.toArray[_]? = _; rw [List.getElem?_toArray]; exact hl) st
theorem r_iloadN {k : Fin 4} {v : Int32} (pc' : Nat) (hp : pc + 1 = pc') (hd : decode B.code pc = .ok (.iload_n k, 1)) (hl : L[k.val]? = some (.val (.int v))) (r : Run V K B Q h ps cs sl pc' L (.int v :: S)) : Run V K B Q h ps cs sl pc L (S) := by
  subst hp; exact r.plain fun T t hA hx hc st => XS.iloadN hA hx rfl (hb hc hd) (by show L.toArray[_]? = _; rw [List.getElem?_toArray]; exact hl) st
theorem r_istore {k : Nat} {x : Int32} (L' : List Slot) (pc' : Nat) (hp : pc + 2 = pc') (hd : decode B.code pc = .ok (.istore k, 2)) (hl : storeLocals L.toArray k (.int x) = some L'.toArray) (r : Run V K B Q h ps cs sl pc' L' (S)) : Run V K B Q h ps cs sl pc L (.int x :: S) := by
  subst hp; exact r.plain fun T t hA hx hc st => XS.istore hA hx rfl (hb hc hd) rfl hl st
theorem r_istoreN {k : Fin 4} {x : Int32} (L' : List Slot) (pc' : Nat) (hp : pc + 1 = pc') (hd : decode B.code pc = .ok (.istore_n k, 1)) (hl : storeLocals L.toArray k.val (.int x) = some L'.toArray) (r : Run V K B Q h ps cs sl pc' L' (S)) : Run V K B Q h ps cs sl pc L (.int x :: S) := by
  subst hp; exact r.plain fun T t hA hx hc st => XS.istoreN hA hx rfl (hb hc hd) rfl hl st
theorem r_lload {k : Nat} {v : Int64} (pc' : Nat) (hp : pc + 2 = pc') (hd : decode B.code pc = .ok (.lload k, 2)) (hl : L[k]? = some (.val (.long v))) (r : Run V K B Q h ps cs sl pc' L (.long v :: S)) : Run V K B Q h ps cs sl pc L (S) := by
  subst hp; exact r.plain fun T t hA hx hc st => XS.lload hA hx rfl (hb hc hd) (by show L.toArray[_]? = _; rw [List.getElem?_toArray]; exact hl) st
theorem r_lloadN {k : Fin 4} {v : Int64} (pc' : Nat) (hp : pc + 1 = pc') (hd : decode B.code pc = .ok (.lload_n k, 1)) (hl : L[k.val]? = some (.val (.long v))) (r : Run V K B Q h ps cs sl pc' L (.long v :: S)) : Run V K B Q h ps cs sl pc L (S) := by
  subst hp; exact r.plain fun T t hA hx hc st => XS.lloadN hA hx rfl (hb hc hd) (by show L.toArray[_]? = _; rw [List.getElem?_toArray]; exact hl) st
theorem r_lstore {k : Nat} {x : Int64} (L' : List Slot) (pc' : Nat) (hp : pc + 2 = pc') (hd : decode B.code pc = .ok (.lstore k, 2)) (hl : storeLocals L.toArray k (.long x) = some L'.toArray) (r : Run V K B Q h ps cs sl pc' L' (S)) : Run V K B Q h ps cs sl pc L (.long x :: S) := by
  subst hp; exact r.plain fun T t hA hx hc st => XS.lstore hA hx rfl (hb hc hd) rfl hl st
theorem r_lstoreN {k : Fin 4} {x : Int64} (L' : List Slot) (pc' : Nat) (hp : pc + 1 = pc') (hd : decode B.code pc = .ok (.lstore_n k, 1)) (hl : storeLocals L.toArray k.val (.long x) = some L'.toArray) (r : Run V K B Q h ps cs sl pc' L' (S)) : Run V K B Q h ps cs sl pc L (.long x :: S) := by
  subst hp; exact r.plain fun T t hA hx hc st => XS.lstoreN hA hx rfl (hb hc hd) rfl hl st
theorem r_aload {k : Nat} {v : Value} (pc' : Nat) (hp : pc + 2 = pc') (hd : decode B.code pc = .ok (.aload k, 2)) (hl : L[k]? = some (.val v)) (hv : v.isRef = true) (r : Run V K B Q h ps cs sl pc' L (v :: S)) : Run V K B Q h ps cs sl pc L (S) := by
  subst hp; exact r.plain fun T t hA hx hc st => XS.aload hA hx rfl (hb hc hd) (by show L.toArray[_]? = _; rw [List.getElem?_toArray]; exact hl) hv st
theorem r_aloadN {k : Fin 4} {v : Value} (pc' : Nat) (hp : pc + 1 = pc') (hd : decode B.code pc = .ok (.aload_n k, 1)) (hl : L[k.val]? = some (.val v)) (hv : v.isRef = true) (r : Run V K B Q h ps cs sl pc' L (v :: S)) : Run V K B Q h ps cs sl pc L (S) := by
  subst hp; exact r.plain fun T t hA hx hc st => XS.aloadN hA hx rfl (hb hc hd) (by show L.toArray[_]? = _; rw [List.getElem?_toArray]; exact hl) hv st
theorem r_astore {k : Nat} {x : Value} (L' : List Slot) (pc' : Nat) (hp : pc + 2 = pc') (hd : decode B.code pc = .ok (.astore k, 2)) (hv : x.isRef = true) (hl : storeLocals L.toArray k x = some L'.toArray) (r : Run V K B Q h ps cs sl pc' L' (S)) : Run V K B Q h ps cs sl pc L (x :: S) := by
  subst hp; exact r.plain fun T t hA hx hc st => XS.astore hA hx rfl (hb hc hd) rfl hv hl st
theorem r_astoreN {k : Fin 4} {x : Value} (L' : List Slot) (pc' : Nat) (hp : pc + 1 = pc') (hd : decode B.code pc = .ok (.astore_n k, 1)) (hv : x.isRef = true) (hl : storeLocals L.toArray k.val x = some L'.toArray) (r : Run V K B Q h ps cs sl pc' L' (S)) : Run V K B Q h ps cs sl pc L (x :: S) := by
  subst hp; exact r.plain fun T t hA hx hc st => XS.astoreN hA hx rfl (hb hc hd) rfl hv hl st
theorem r_iconst {i : Int} (v : Int32) (pc' : Nat) (hp : pc + 1 = pc') (hd : decode B.code pc = .ok (.iconst i, 1)) (hv : Int32.ofInt i = v) (r : Run V K B Q h ps cs sl pc' L (.int v :: S)) : Run V K B Q h ps cs sl pc L (S) := by
  subst hp; exact r.plain fun T t hA hx hc st => XT.iconstV hA hx rfl v (hb hc hd) hv st
theorem r_bipush {i : Int} (v : Int32) (pc' : Nat) (hp : pc + 2 = pc') (hd : decode B.code pc = .ok (.bipush i, 2)) (hv : (Int8.ofInt i).toInt32 = v) (r : Run V K B Q h ps cs sl pc' L (.int v :: S)) : Run V K B Q h ps cs sl pc L (S) := by
  subst hp; exact r.plain fun T t hA hx hc st => XT.bipushV hA hx rfl v (hb hc hd) hv st
theorem r_sipush {i : Int} (v : Int32) (pc' : Nat) (hp : pc + 3 = pc') (hd : decode B.code pc = .ok (.sipush i, 3)) (hv : (Int16.ofInt i).toInt32 = v) (r : Run V K B Q h ps cs sl pc' L (.int v :: S)) : Run V K B Q h ps cs sl pc L (S) := by
  subst hp; exact r.plain fun T t hA hx hc st => XT.sipushV hA hx rfl v (hb hc hd) hv st
theorem r_lconst {k : Fin 2} (v : Int64) (pc' : Nat) (hp : pc + 1 = pc') (hd : decode B.code pc = .ok (.lconst k, 1)) (hv : Int64.ofNat k = v) (r : Run V K B Q h ps cs sl pc' L (.long v :: S)) : Run V K B Q h ps cs sl pc L (S) := by
  subst hp; exact r.plain fun T t hA hx hc st => XT.lconstV hA hx rfl v (hb hc hd) hv st
theorem r_null  (pc' : Nat) (hp : pc + 1 = pc') (hd : decode B.code pc = .ok (.aconst_null, 1)) (r : Run V K B Q h ps cs sl pc' L (.null :: S)) : Run V K B Q h ps cs sl pc L (S) := by
  subst hp; exact r.plain fun T t hA hx hc st => XS.aconstNull hA hx rfl (hb hc hd) st
theorem r_iadd {x y : Int32} (pc' : Nat) (hp : pc + 1 = pc') (hd : decode B.code pc = .ok (.iadd, 1)) (r : Run V K B Q h ps cs sl pc' L (.int (x + y) :: S)) : Run V K B Q h ps cs sl pc L (.int y :: .int x :: S) := by
  subst hp; exact r.plain fun T t hA hx hc st => XS.iadd hA hx rfl (hb hc hd) rfl st
theorem r_isub {x y : Int32} (pc' : Nat) (hp : pc + 1 = pc') (hd : decode B.code pc = .ok (.isub, 1)) (r : Run V K B Q h ps cs sl pc' L (.int (x - y) :: S)) : Run V K B Q h ps cs sl pc L (.int y :: .int x :: S) := by
  subst hp; exact r.plain fun T t hA hx hc st => XS.isub hA hx rfl (hb hc hd) rfl st
theorem r_imul {x y : Int32} (pc' : Nat) (hp : pc + 1 = pc') (hd : decode B.code pc = .ok (.imul, 1)) (r : Run V K B Q h ps cs sl pc' L (.int (x * y) :: S)) : Run V K B Q h ps cs sl pc L (.int y :: .int x :: S) := by
  subst hp; exact r.plain fun T t hA hx hc st => XS.imul hA hx rfl (hb hc hd) rfl st
theorem r_iand {x y : Int32} (pc' : Nat) (hp : pc + 1 = pc') (hd : decode B.code pc = .ok (.iand, 1)) (r : Run V K B Q h ps cs sl pc' L (.int (x &&& y) :: S)) : Run V K B Q h ps cs sl pc L (.int y :: .int x :: S) := by
  subst hp; exact r.plain fun T t hA hx hc st => XS.iand hA hx rfl (hb hc hd) rfl st
theorem r_ior {x y : Int32} (pc' : Nat) (hp : pc + 1 = pc') (hd : decode B.code pc = .ok (.ior, 1)) (r : Run V K B Q h ps cs sl pc' L (.int (x ||| y) :: S)) : Run V K B Q h ps cs sl pc L (.int y :: .int x :: S) := by
  subst hp; exact r.plain fun T t hA hx hc st => XS.ior hA hx rfl (hb hc hd) rfl st
theorem r_ixor {x y : Int32} (pc' : Nat) (hp : pc + 1 = pc') (hd : decode B.code pc = .ok (.ixor, 1)) (r : Run V K B Q h ps cs sl pc' L (.int (x ^^^ y) :: S)) : Run V K B Q h ps cs sl pc L (.int y :: .int x :: S) := by
  subst hp; exact r.plain fun T t hA hx hc st => XS.ixor hA hx rfl (hb hc hd) rfl st
theorem r_ishl {x y : Int32} (pc' : Nat) (hp : pc + 1 = pc') (hd : decode B.code pc = .ok (.ishl, 1)) (r : Run V K B Q h ps cs sl pc' L (.int (x <<< (y &&& 31)) :: S)) : Run V K B Q h ps cs sl pc L (.int y :: .int x :: S) := by
  subst hp; exact r.plain fun T t hA hx hc st => XS.ishl hA hx rfl (hb hc hd) rfl st
theorem r_ishr {x y : Int32} (pc' : Nat) (hp : pc + 1 = pc') (hd : decode B.code pc = .ok (.ishr, 1)) (r : Run V K B Q h ps cs sl pc' L (.int (x >>> (y &&& 31)) :: S)) : Run V K B Q h ps cs sl pc L (.int y :: .int x :: S) := by
  subst hp; exact r.plain fun T t hA hx hc st => XS.ishr hA hx rfl (hb hc hd) rfl st
theorem r_iushr {x y : Int32} (pc' : Nat) (hp : pc + 1 = pc') (hd : decode B.code pc = .ok (.iushr, 1)) (r : Run V K B Q h ps cs sl pc' L (.int (ushr x y) :: S)) : Run V K B Q h ps cs sl pc L (.int y :: .int x :: S) := by
  subst hp; exact r.plain fun T t hA hx hc st => XS.iushr hA hx rfl (hb hc hd) rfl st
theorem r_ladd {x y : Int64} (pc' : Nat) (hp : pc + 1 = pc') (hd : decode B.code pc = .ok (.ladd, 1)) (r : Run V K B Q h ps cs sl pc' L (.long (x + y) :: S)) : Run V K B Q h ps cs sl pc L (.long y :: .long x :: S) := by
  subst hp; exact r.plain fun T t hA hx hc st => XS.ladd hA hx rfl (hb hc hd) rfl st
theorem r_lsub {x y : Int64} (pc' : Nat) (hp : pc + 1 = pc') (hd : decode B.code pc = .ok (.lsub, 1)) (r : Run V K B Q h ps cs sl pc' L (.long (x - y) :: S)) : Run V K B Q h ps cs sl pc L (.long y :: .long x :: S) := by
  subst hp; exact r.plain fun T t hA hx hc st => XS.lsub hA hx rfl (hb hc hd) rfl st
theorem r_lmul {x y : Int64} (pc' : Nat) (hp : pc + 1 = pc') (hd : decode B.code pc = .ok (.lmul, 1)) (r : Run V K B Q h ps cs sl pc' L (.long (x * y) :: S)) : Run V K B Q h ps cs sl pc L (.long y :: .long x :: S) := by
  subst hp; exact r.plain fun T t hA hx hc st => XS.lmul hA hx rfl (hb hc hd) rfl st
theorem r_land {x y : Int64} (pc' : Nat) (hp : pc + 1 = pc') (hd : decode B.code pc = .ok (.land, 1)) (r : Run V K B Q h ps cs sl pc' L (.long (x &&& y) :: S)) : Run V K B Q h ps cs sl pc L (.long y :: .long x :: S) := by
  subst hp; exact r.plain fun T t hA hx hc st => XS.land hA hx rfl (hb hc hd) rfl st
theorem r_lor {x y : Int64} (pc' : Nat) (hp : pc + 1 = pc') (hd : decode B.code pc = .ok (.lor, 1)) (r : Run V K B Q h ps cs sl pc' L (.long (x ||| y) :: S)) : Run V K B Q h ps cs sl pc L (.long y :: .long x :: S) := by
  subst hp; exact r.plain fun T t hA hx hc st => XS.lor hA hx rfl (hb hc hd) rfl st
theorem r_lxor {x y : Int64} (pc' : Nat) (hp : pc + 1 = pc') (hd : decode B.code pc = .ok (.lxor, 1)) (r : Run V K B Q h ps cs sl pc' L (.long (x ^^^ y) :: S)) : Run V K B Q h ps cs sl pc L (.long y :: .long x :: S) := by
  subst hp; exact r.plain fun T t hA hx hc st => XS.lxor hA hx rfl (hb hc hd) rfl st
theorem r_lshl {x : Int64} {y : Int32} (pc' : Nat) (hp : pc + 1 = pc') (hd : decode B.code pc = .ok (.lshl, 1)) (r : Run V K B Q h ps cs sl pc' L (.long (x <<< (y &&& 0x3f).toInt64) :: S)) : Run V K B Q h ps cs sl pc L (.int y :: .long x :: S) := by
  subst hp; exact r.plain fun T t hA hx hc st => XS.lshl hA hx rfl (hb hc hd) rfl st
theorem r_lshr {x : Int64} {y : Int32} (pc' : Nat) (hp : pc + 1 = pc') (hd : decode B.code pc = .ok (.lshr, 1)) (r : Run V K B Q h ps cs sl pc' L (.long (x >>> (y &&& 0x3f).toInt64) :: S)) : Run V K B Q h ps cs sl pc L (.int y :: .long x :: S) := by
  subst hp; exact r.plain fun T t hA hx hc st => XS.lshr hA hx rfl (hb hc hd) rfl st
theorem r_lushr {x : Int64} {y : Int32} (pc' : Nat) (hp : pc + 1 = pc') (hd : decode B.code pc = .ok (.lushr, 1)) (r : Run V K B Q h ps cs sl pc' L (.long (ushrL x y) :: S)) : Run V K B Q h ps cs sl pc L (.int y :: .long x :: S) := by
  subst hp; exact r.plain fun T t hA hx hc st => XS.lushr hA hx rfl (hb hc hd) rfl st
theorem r_idiv {x y : Int32} (pc' : Nat) (hp : pc + 1 = pc') (hd : decode B.code pc = .ok (.idiv, 1)) (hy : y ≠ 0) (r : Run V K B Q h ps cs sl pc' L (.int (x / y) :: S)) : Run V K B Q h ps cs sl pc L (.int y :: .int x :: S) := by
  subst hp; exact r.plain fun T t hA hx hc st => XS.idiv hA hx rfl (hb hc hd) rfl hy st
theorem r_irem {x y : Int32} (pc' : Nat) (hp : pc + 1 = pc') (hd : decode B.code pc = .ok (.irem, 1)) (hy : y ≠ 0) (r : Run V K B Q h ps cs sl pc' L (.int (x % y) :: S)) : Run V K B Q h ps cs sl pc L (.int y :: .int x :: S) := by
  subst hp; exact r.plain fun T t hA hx hc st => XS.irem hA hx rfl (hb hc hd) rfl hy (by rw [irem_eq_mod]; exact st)
theorem r_ineg {x : Int32} (pc' : Nat) (hp : pc + 1 = pc') (hd : decode B.code pc = .ok (.ineg, 1)) (r : Run V K B Q h ps cs sl pc' L (.int (-x) :: S)) : Run V K B Q h ps cs sl pc L (.int x :: S) := by
  subst hp; exact r.plain fun T t hA hx hc st => XS.ineg hA hx rfl (hb hc hd) rfl st
theorem r_lneg {x : Int64} (pc' : Nat) (hp : pc + 1 = pc') (hd : decode B.code pc = .ok (.lneg, 1)) (r : Run V K B Q h ps cs sl pc' L (.long (-x) :: S)) : Run V K B Q h ps cs sl pc L (.long x :: S) := by
  subst hp; exact r.plain fun T t hA hx hc st => XS.lneg hA hx rfl (hb hc hd) rfl st
theorem r_lcmp {x y : Int64} (pc' : Nat) (hp : pc + 1 = pc') (hd : decode B.code pc = .ok (.lcmp, 1)) (r : Run V K B Q h ps cs sl pc' L (.int (XT.cmpL x y) :: S)) : Run V K B Q h ps cs sl pc L (.long y :: .long x :: S) := by
  subst hp; exact r.plain fun T t hA hx hc st => XT.lcmp hA hx rfl (hb hc hd) rfl st
theorem r_i2l {x : Int32} (pc' : Nat) (hp : pc + 1 = pc') (hd : decode B.code pc = .ok (.i2l, 1)) (r : Run V K B Q h ps cs sl pc' L (.long x.toInt64 :: S)) : Run V K B Q h ps cs sl pc L (.int x :: S) := by
  subst hp; exact r.plain fun T t hA hx hc st => XS.i2l hA hx rfl (hb hc hd) rfl st
theorem r_i2b {x : Int32} (pc' : Nat) (hp : pc + 1 = pc') (hd : decode B.code pc = .ok (.i2b, 1)) (r : Run V K B Q h ps cs sl pc' L (.int x.toInt8.toInt32 :: S)) : Run V K B Q h ps cs sl pc L (.int x :: S) := by
  subst hp; exact r.plain fun T t hA hx hc st => XS.i2b hA hx rfl (hb hc hd) rfl st
theorem r_i2c {x : Int32} (pc' : Nat) (hp : pc + 1 = pc') (hd : decode B.code pc = .ok (.i2c, 1)) (r : Run V K B Q h ps cs sl pc' L (.int x.toUInt32.toUInt16.toUInt32.toInt32 :: S)) : Run V K B Q h ps cs sl pc L (.int x :: S) := by
  subst hp; exact r.plain fun T t hA hx hc st => XS.i2c hA hx rfl (hb hc hd) rfl st
theorem r_i2s {x : Int32} (pc' : Nat) (hp : pc + 1 = pc') (hd : decode B.code pc = .ok (.i2s, 1)) (r : Run V K B Q h ps cs sl pc' L (.int x.toInt16.toInt32 :: S)) : Run V K B Q h ps cs sl pc L (.int x :: S) := by
  subst hp; exact r.plain fun T t hA hx hc st => XS.i2s hA hx rfl (hb hc hd) rfl st
theorem r_l2i {x : Int64} (pc' : Nat) (hp : pc + 1 = pc') (hd : decode B.code pc = .ok (.l2i, 1)) (r : Run V K B Q h ps cs sl pc' L (.int x.toInt32 :: S)) : Run V K B Q h ps cs sl pc L (.long x :: S) := by
  subst hp; exact r.plain fun T t hA hx hc st => XS.l2i hA hx rfl (hb hc hd) rfl st
theorem r_dup {x : Value} (pc' : Nat) (hp : pc + 1 = pc') (hd : decode B.code pc = .ok (.dup, 1)) (hv : x.category = 1) (r : Run V K B Q h ps cs sl pc' L (x :: x :: S)) : Run V K B Q h ps cs sl pc L (x :: S) := by
  subst hp; exact r.plain fun T t hA hx hc st => XS.dup hA hx rfl (hb hc hd) rfl hv st
theorem r_pop {x : Value} (pc' : Nat) (hp : pc + 1 = pc') (hd : decode B.code pc = .ok (.pop, 1)) (hv : x.category = 1) (r : Run V K B Q h ps cs sl pc' L (S)) : Run V K B Q h ps cs sl pc L (x :: S) := by
  subst hp; exact r.plain fun T t hA hx hc st => XS.pop hA hx rfl (hb hc hd) rfl hv st
theorem r_dup2 {x y : Value} (pc' : Nat) (hp : pc + 1 = pc') (hd : decode B.code pc = .ok (.dup2, 1)) (hv : x.category = 1) (hv' : y.category = 1) (r : Run V K B Q h ps cs sl pc' L (x :: y :: x :: y :: S)) : Run V K B Q h ps cs sl pc L (x :: y :: S) := by
  subst hp; exact r.plain fun T t hA hx hc st => XT.dup2 hA hx rfl (hb hc hd) rfl hv hv' st
theorem r_dup2L {x : Int64} (pc' : Nat) (hp : pc + 1 = pc') (hd : decode B.code pc = .ok (.dup2, 1)) (r : Run V K B Q h ps cs sl pc' L (.long x :: .long x :: S)) : Run V K B Q h ps cs sl pc L (.long x :: S) := by
  subst hp; exact r.plain fun T t hA hx hc st => XT.dup2L hA hx rfl (hb hc hd) rfl st
theorem r_dupX1 {x y : Value} (pc' : Nat) (hp : pc + 1 = pc') (hd : decode B.code pc = .ok (.dup_x1, 1)) (hv : x.category = 1) (hv' : y.category = 1) (r : Run V K B Q h ps cs sl pc' L (x :: y :: x :: S)) : Run V K B Q h ps cs sl pc L (x :: y :: S) := by
  subst hp; exact r.plain fun T t hA hx hc st => XT.dupX1 hA hx rfl (hb hc hd) rfl hv hv' st
theorem r_iinc {k : Nat} {cst : Int} {x : Int32} (v : Int32) (L' : List Slot) (pc' : Nat) (hp : pc + 3 = pc') (hd : decode B.code pc = .ok (.iinc k cst, 3)) (hv : Int32.ofInt cst = v) (hl : L[k]? = some (.val (.int x))) (hl' : storeLocals L.toArray k (.int (x + v)) = some L'.toArray) (r : Run V K B Q h ps cs sl pc' L' (S)) : Run V K B Q h ps cs sl pc L (S) := by
  subst hp; exact r.plain fun T t hA hx hc st => XT.iincV hA hx rfl v (hb hc hd) hv (by show L.toArray[_]? = _; rw [List.getElem?_toArray]; exact hl) hl' st
theorem r_goto {o : Int} (pc' : Nat) (hd : decode B.code pc = .ok (.goto o, 3)) (ho : 0 ≤ (pc : Int) + o) (hp : ((pc : Int) + o).toNat = pc') (r : Run V K B Q h ps cs sl pc' L S) : Run V K B Q h ps cs sl pc L S :=
  r.plain fun T t hA hx hc st => XS.goto hA hx rfl rfl (hb hc hd) ho hp st
theorem r_icmp_eq {o : Int} {x y : Int32} (pc' pc'' : Nat) (hd : decode B.code pc = .ok (.if_icmp .eq o, 3)) (ho : 0 ≤ (pc : Int) + o) (hp : ((pc : Int) + o).toNat = pc') (hp' : pc + 3 = pc'') (t : x = y → Run V K B Q h ps cs sl pc' L S) (f : ¬ x = y → Run V K B Q h ps cs sl pc'' L S) : Run V K B Q h ps cs sl pc L (.int y :: .int x :: S) := by
  subst hp'
  by_cases q : x = y
  · exact (t q).plain fun T t hA hx hc st => XS.icmpYes hA hx rfl rfl (hb hc hd) rfl (XT.ii_eq_t q) ho hp st
  · exact (f q).plain fun T t hA hx hc st => XS.icmpNo hA hx rfl (hb hc hd) rfl (XT.ii_eq_f q) st
theorem r_if_eq {o : Int} {x : Int32} (pc' pc'' : Nat) (hd : decode B.code pc = .ok (.ifCond .eq o, 3)) (ho : 0 ≤ (pc : Int) + o) (hp : ((pc : Int) + o).toNat = pc') (hp' : pc + 3 = pc'') (t : x = 0 → Run V K B Q h ps cs sl pc' L S) (f : ¬ x = 0 → Run V K B Q h ps cs sl pc'' L S) : Run V K B Q h ps cs sl pc L (.int x :: S) := by
  subst hp'
  by_cases q : x = 0
  · exact (t q).plain fun T t hA hx hc st => XS.ifYes hA hx rfl rfl (hb hc hd) rfl (XT.i0_eq_t q) ho hp st
  · exact (f q).plain fun T t hA hx hc st => XS.ifNo hA hx rfl (hb hc hd) rfl (XT.i0_eq_f q) st
theorem r_lcmp_eq {o : Int} {x y : Int64} (pc1 pc' pc'' : Nat) (hd0 : decode B.code pc = .ok (.lcmp, 1)) (h1 : pc + 1 = pc1) (hd : decode B.code pc1 = .ok (.ifCond .eq o, 3)) (ho : 0 ≤ (pc1 : Int) + o) (hp : ((pc1 : Int) + o).toNat = pc') (hp' : pc1 + 3 = pc'') (t : x = y → Run V K B Q h ps cs sl pc' L S) (f : ¬ x = y → Run V K B Q h ps cs sl pc'' L S) : Run V K B Q h ps cs sl pc L (.long y :: .long x :: S) := by
  refine r_lcmp _ h1 hd0 ?_
  subst hp'
  by_cases q : x = y
  · exact (t q).plain fun T t hA hx hc st => XS.ifYes hA hx rfl rfl (hb hc hd) rfl (XT.ll_eq_t q) ho hp st
  · exact (f q).plain fun T t hA hx hc st => XS.ifNo hA hx rfl (hb hc hd) rfl (XT.ll_eq_f q) st
theorem r_icmp_ne {o : Int} {x y : Int32} (pc' pc'' : Nat) (hd : decode B.code pc = .ok (.if_icmp .ne o, 3)) (ho : 0 ≤ (pc : Int) + o) (hp : ((pc : Int) + o).toNat = pc') (hp' : pc + 3 = pc'') (t : ¬ x = y → Run V K B Q h ps cs sl pc' L S) (f : x = y → Run V K B Q h ps cs sl pc'' L S) : Run V K B Q h ps cs sl pc L (.int y :: .int x :: S) := by
  subst hp'
  by_cases q : ¬ x = y
  · exact (t q).plain fun T t hA hx hc st => XS.icmpYes hA hx rfl rfl (hb hc hd) rfl (XT.ii_ne_t q) ho hp st
  · exact (f (Decidable.not_not.mp q)).plain fun T t hA hx hc st => XS.icmpNo hA hx rfl (hb hc hd) rfl (XT.ii_ne_f (Decidable.not_not.mp q)) st
theorem r_if_ne {o : Int} {x : Int32} (pc' pc'' : Nat) (hd : decode B.code pc = .ok (.ifCond .ne o, 3)) (ho : 0 ≤ (pc : Int) + o) (hp : ((pc : Int) + o).toNat = pc') (hp' : pc + 3 = pc'') (t : ¬ x = 0 → Run V K B Q h ps cs sl pc' L S) (f : x = 0 → Run V K B Q h ps cs sl pc'' L S) : Run V K B Q h ps cs sl pc L (.int x :: S) := by
  subst hp'
  by_cases q : ¬ x = 0
  · exact (t q).plain fun T t hA hx hc st => XS.ifYes hA hx rfl rfl (hb hc hd) rfl (XT.i0_ne_t q) ho hp st
  · exact (f (Decidable.not_not.mp q)).plain fun T t hA hx hc st => XS.ifNo hA hx rfl (hb hc hd) rfl (XT.i0_ne_f (Decidable.not_not.mp q)) st
theorem r_lcmp_ne {o : Int} {x y : Int64} (pc1 pc' pc'' : Nat) (hd0 : decode B.code pc = .ok (.lcmp, 1)) (h1 : pc + 1 = pc1) (hd : decode B.code pc1 = .ok (.ifCond .ne o, 3)) (ho : 0 ≤ (pc1 : Int) + o) (hp : ((pc1 : Int) + o).toNat = pc') (hp' : pc1 + 3 = pc'') (t : ¬ x = y → Run V K B Q h ps cs sl pc' L S) (f : x = y → Run V K B Q h ps cs sl pc'' L S) : Run V K B Q h ps cs sl pc L (.long y :: .long x :: S) := by
  refine r_lcmp _ h1 hd0 ?_
  subst hp'
  by_cases q : ¬ x = y
  · exact (t q).plain fun T t hA hx hc st => XS.ifYes hA hx rfl rfl (hb hc hd) rfl (XT.ll_ne_t q) ho hp st
  · exact (f (Decidable.not_not.mp q)).plain fun T t hA hx hc st => XS.ifNo hA hx rfl (hb hc hd) rfl (XT.ll_ne_f (Decidable.not_not.mp q)) st
theorem r_icmp_lt {o : Int} {x y : Int32} (pc' pc'' : Nat) (hd : decode B.code pc = .ok (.if_icmp .lt o, 3)) (ho : 0 ≤ (pc : Int) + o) (hp : ((pc : Int) + o).toNat = pc') (hp' : pc + 3 = pc'') (t : x < y → Run V K B Q h ps cs sl pc' L S) (f : ¬ x < y → Run V K B Q h ps cs sl pc'' L S) : Run V K B Q h ps cs sl pc L (.int y :: .int x :: S) := by
  subst hp'
  by_cases q : x < y
  · exact (t q).plain fun T t hA hx hc st => XS.icmpYes hA hx rfl rfl (hb hc hd) rfl (XT.ii_lt_t q) ho hp st
  · exact (f q).plain fun T t hA hx hc st => XS.icmpNo hA hx rfl (hb hc hd) rfl (XT.ii_lt_f q) st
theorem r_if_lt {o : Int} {x : Int32} (pc' pc'' : Nat) (hd : decode B.code pc = .ok (.ifCond .lt o, 3)) (ho : 0 ≤ (pc : Int) + o) (hp : ((pc : Int) + o).toNat = pc') (hp' : pc + 3 = pc'') (t : x < 0 → Run V K B Q h ps cs sl pc' L S) (f : ¬ x < 0 → Run V K B Q h ps cs sl pc'' L S) : Run V K B Q h ps cs sl pc L (.int x :: S) := by
  subst hp'
  by_cases q : x < 0
  · exact (t q).plain fun T t hA hx hc st => XS.ifYes hA hx rfl rfl (hb hc hd) rfl (XT.i0_lt_t q) ho hp st
  · exact (f q).plain fun T t hA hx hc st => XS.ifNo hA hx rfl (hb hc hd) rfl (XT.i0_lt_f q) st
theorem r_lcmp_lt {o : Int} {x y : Int64} (pc1 pc' pc'' : Nat) (hd0 : decode B.code pc = .ok (.lcmp, 1)) (h1 : pc + 1 = pc1) (hd : decode B.code pc1 = .ok (.ifCond .lt o, 3)) (ho : 0 ≤ (pc1 : Int) + o) (hp : ((pc1 : Int) + o).toNat = pc') (hp' : pc1 + 3 = pc'') (t : x < y → Run V K B Q h ps cs sl pc' L S) (f : ¬ x < y → Run V K B Q h ps cs sl pc'' L S) : Run V K B Q h ps cs sl pc L (.long y :: .long x :: S) := by
  refine r_lcmp _ h1 hd0 ?_
  subst hp'
  by_cases q : x < y
  · exact (t q).plain fun T t hA hx hc st => XS.ifYes hA hx rfl rfl (hb hc hd) rfl (XT.ll_lt_t q) ho hp st
  · exact (f q).plain fun T t hA hx hc st => XS.ifNo hA hx rfl (hb hc hd) rfl (XT.ll_lt_f q) st
theorem r_icmp_ge {o : Int} {x y : Int32} (pc' pc'' : Nat) (hd : decode B.code pc = .ok (.if_icmp .ge o, 3)) (ho : 0 ≤ (pc : Int) + o) (hp : ((pc : Int) + o).toNat = pc') (hp' : pc + 3 = pc'') (t : ¬ x < y → Run V K B Q h ps cs sl pc' L S) (f : x < y → Run V K B Q h ps cs sl pc'' L S) : Run V K B Q h ps cs sl pc L (.int y :: .int x :: S) := by
  subst hp'
  by_cases q : ¬ x < y
  · exact (t q).plain fun T t hA hx hc st => XS.icmpYes hA hx rfl rfl (hb hc hd) rfl (XT.ii_ge_t q) ho hp st
  · exact (f (Decidable.not_not.mp q)).plain fun T t hA hx hc st => XS.icmpNo hA hx rfl (hb hc hd) rfl (XT.ii_ge_f (Decidable.not_not.mp q)) st
theorem r_if_ge {o : Int} {x : Int32} (pc' pc'' : Nat) (hd : decode B.code pc = .ok (.ifCond .ge o, 3)) (ho : 0 ≤ (pc : Int) + o) (hp : ((pc : Int) + o).toNat = pc') (hp' : pc + 3 = pc'') (t : ¬ x < 0 → Run V K B Q h ps cs sl pc' L S) (f : x < 0 → Run V K B Q h ps cs sl pc'' L S) : Run V K B Q h ps cs sl pc L (.int x :: S) := by
  subst hp'
  by_cases q : ¬ x < 0
  · exact (t q).plain fun T t hA hx hc st => XS.ifYes hA hx rfl rfl (hb hc hd) rfl (XT.i0_ge_t q) ho hp st
  · exact (f (Decidable.not_not.mp q)).plain fun T t hA hx hc st => XS.ifNo hA hx rfl (hb hc hd) rfl (XT.i0_ge_f (Decidable.not_not.mp q)) st
theorem r_lcmp_ge {o : Int} {x y : Int64} (pc1 pc' pc'' : Nat) (hd0 : decode B.code pc = .ok (.lcmp, 1)) (h1 : pc + 1 = pc1) (hd : decode B.code pc1 = .ok (.ifCond .ge o, 3)) (ho : 0 ≤ (pc1 : Int) + o) (hp : ((pc1 : Int) + o).toNat = pc') (hp' : pc1 + 3 = pc'') (t : ¬ x < y → Run V K B Q h ps cs sl pc' L S) (f : x < y → Run V K B Q h ps cs sl pc'' L S) : Run V K B Q h ps cs sl pc L (.long y :: .long x :: S) := by
  refine r_lcmp _ h1 hd0 ?_
  subst hp'
  by_cases q : ¬ x < y
  · exact (t q).plain fun T t hA hx hc st => XS.ifYes hA hx rfl rfl (hb hc hd) rfl (XT.ll_ge_t q) ho hp st
  · exact (f (Decidable.not_not.mp q)).plain fun T t hA hx hc st => XS.ifNo hA hx rfl (hb hc hd) rfl (XT.ll_ge_f (Decidable.not_not.mp q)) st
theorem r_icmp_gt {o : Int} {x y : Int32} (pc' pc'' : Nat) (hd : decode B.code pc = .ok (.if_icmp .gt o, 3)) (ho : 0 ≤ (pc : Int) + o) (hp : ((pc : Int) + o).toNat = pc') (hp' : pc + 3 = pc'') (t : y < x → Run V K B Q h ps cs sl pc' L S) (f : ¬ y < x → Run V K B Q h ps cs sl pc'' L S) : Run V K B Q h ps cs sl pc L (.int y :: .int x :: S) := by
  subst hp'
  by_cases q : y < x
  · exact (t q).plain fun T t hA hx hc st => XS.icmpYes hA hx rfl rfl (hb hc hd) rfl (XT.ii_gt_t q) ho hp st
  · exact (f q).plain fun T t hA hx hc st => XS.icmpNo hA hx rfl (hb hc hd) rfl (XT.ii_gt_f q) st
theorem r_if_gt {o : Int} {x : Int32} (pc' pc'' : Nat) (hd : decode B.code pc = .ok (.ifCond .gt o, 3)) (ho : 0 ≤ (pc : Int) + o) (hp : ((pc : Int) + o).toNat = pc') (hp' : pc + 3 = pc'') (t : 0 < x → Run V K B Q h ps cs sl pc' L S) (f : ¬ 0 < x → Run V K B Q h ps cs sl pc'' L S) : Run V K B Q h ps cs sl pc L (.int x :: S) := by
  subst hp'
  by_cases q : 0 < x
  · exact (t q).plain fun T t hA hx hc st => XS.ifYes hA hx rfl rfl (hb hc hd) rfl (XT.i0_gt_t q) ho hp st
  · exact (f q).plain fun T t hA hx hc st => XS.ifNo hA hx rfl (hb hc hd) rfl (XT.i0_gt_f q) st
theorem r_lcmp_gt {o : Int} {x y : Int64} (pc1 pc' pc'' : Nat) (hd0 : decode B.code pc = .ok (.lcmp, 1)) (h1 : pc + 1 = pc1) (hd : decode B.code pc1 = .ok (.ifCond .gt o, 3)) (ho : 0 ≤ (pc1 : Int) + o) (hp : ((pc1 : Int) + o).toNat = pc') (hp' : pc1 + 3 = pc'') (t : y < x → Run V K B Q h ps cs sl pc' L S) (f : ¬ y < x → Run V K B Q h ps cs sl pc'' L S) : Run V K B Q h ps cs sl pc L (.long y :: .long x :: S) := by
  refine r_lcmp _ h1 hd0 ?_
  subst hp'
  by_cases q : y < x
  · exact (t q).plain fun T t hA hx hc st => XS.ifYes hA hx rfl rfl (hb hc hd) rfl (XT.ll_gt_t q) ho hp st
  · exact (f q).plain fun T t hA hx hc st => XS.ifNo hA hx rfl (hb hc hd) rfl (XT.ll_gt_f q) st
theorem r_icmp_le {o : Int} {x y : Int32} (pc' pc'' : Nat) (hd : decode B.code pc = .ok (.if_icmp .le o, 3)) (ho : 0 ≤ (pc : Int) + o) (hp : ((pc : Int) + o).toNat = pc') (hp' : pc + 3 = pc'') (t : ¬ y < x → Run V K B Q h ps cs sl pc' L S) (f : y < x → Run V K B Q h ps cs sl pc'' L S) : Run V K B Q h ps cs sl pc L (.int y :: .int x :: S) := by
  subst hp'
  by_cases q : ¬ y < x
  · exact (t q).plain fun T t hA hx hc st => XS.icmpYes hA hx rfl rfl (hb hc hd) rfl (XT.ii_le_t q) ho hp st
  · exact (f (Decidable.not_not.mp q)).plain fun T t hA hx hc st => XS.icmpNo hA hx rfl (hb hc hd) rfl (XT.ii_le_f (Decidable.not_not.mp q)) st
theorem r_if_le {o : Int} {x : Int32} (pc' pc'' : Nat) (hd : decode B.code pc = .ok (.ifCond .le o, 3)) (ho : 0 ≤ (pc : Int) + o) (hp : ((pc : Int) + o).toNat = pc') (hp' : pc + 3 = pc'') (t : ¬ 0 < x → Run V K B Q h ps cs sl pc' L S) (f : 0 < x → Run V K B Q h ps cs sl pc'' L S) : Run V K B Q h ps cs sl pc L (.int x :: S) := by
  subst hp'
  by_cases q : ¬ 0 < x
  · exact (t q).plain fun T t hA hx hc st => XS.ifYes hA hx rfl rfl (hb hc hd) rfl (XT.i0_le_t q) ho hp st
  · exact (f (Decidable.not_not.mp q)).plain fun T t hA hx hc st => XS.ifNo hA hx rfl (hb hc hd) rfl (XT.i0_le_f (Decidable.not_not.mp q)) st
theorem r_lcmp_le {o : Int} {x y : Int64} (pc1 pc' pc'' : Nat) (hd0 : decode B.code pc = .ok (.lcmp, 1)) (h1 : pc + 1 = pc1) (hd : decode B.code pc1 = .ok (.ifCond .le o, 3)) (ho : 0 ≤ (pc1 : Int) + o) (hp : ((pc1 : Int) + o).toNat = pc') (hp' : pc1 + 3 = pc'') (t : ¬ y < x → Run V K B Q h ps cs sl pc' L S) (f : y < x → Run V K B Q h ps cs sl pc'' L S) : Run V K B Q h ps cs sl pc L (.long y :: .long x :: S) := by
  refine r_lcmp _ h1 hd0 ?_
  subst hp'
  by_cases q : ¬ y < x
  · exact (t q).plain fun T t hA hx hc st => XS.ifYes hA hx rfl rfl (hb hc hd) rfl (XT.ll_le_t q) ho hp st
  · exact (f (Decidable.not_not.mp q)).plain fun T t hA hx hc st => XS.ifNo hA hx rfl (hb hc hd) rfl (XT.ll_le_f (Decidable.not_not.mp q)) st
theorem r_ifnull_t {o : Int} (pc' : Nat) (hd : decode B.code pc = .ok (.ifnull o, 3)) (ho : 0 ≤ (pc : Int) + o) (hp : ((pc : Int) + o).toNat = pc') (r : Run V K B Q h ps cs sl pc' L S) : Run V K B Q h ps cs sl pc L (.null :: S) :=
  r.plain fun T t hA hx hc st => XS.ifnullYes hA hx rfl rfl (hb hc hd) rfl ho hp st
theorem r_ifnull_f {o : Int} {b : Nat} (pc' : Nat) (hp : pc + 3 = pc') (hd : decode B.code pc = .ok (.ifnull o, 3)) (r : Run V K B Q h ps cs sl pc' L S) : Run V K B Q h ps cs sl pc L (.ref b :: S) := by
  subst hp; exact r.plain fun T t hA hx hc st => XS.ifnullNo hA hx rfl (hb hc hd) rfl st
theorem r_ifnonnull_t {o : Int} {b : Nat} (pc' : Nat) (hd : decode B.code pc = .ok (.ifnonnull o, 3)) (ho : 0 ≤ (pc : Int) + o) (hp : ((pc : Int) + o).toNat = pc') (r : Run V K B Q h ps cs sl pc' L S) : Run V K B Q h ps cs sl pc L (.ref b :: S) :=
  r.plain fun T t hA hx hc st => XS.ifnonnullYes hA hx rfl rfl (hb hc hd) rfl ho hp st
theorem r_ifnonnull_f {o : Int} (pc' : Nat) (hp : pc + 3 = pc') (hd : decode B.code pc = .ok (.ifnonnull o, 3)) (r : Run V K B Q h ps cs sl pc' L S) : Run V K B Q h ps cs sl pc L (.null :: S) := by
  subst hp; exact r.plain fun T t hA hx hc st => XS.ifnonnullNo hA hx rfl (hb hc hd) rfl st
theorem r_acmp_eq {o : Int} {x y : Value} (pc' pc'' : Nat) (hd : decode B.code pc = .ok (.if_acmp .eq o, 3)) (hx1 : x.isRef = true) (hy1 : y.isRef = true) (ho : 0 ≤ (pc : Int) + o) (hp : ((pc : Int) + o).toNat = pc') (hp' : pc + 3 = pc'') (t : x = y → Run V K B Q h ps cs sl pc' L S) (f : ¬ x = y → Run V K B Q h ps cs sl pc'' L S) : Run V K B Q h ps cs sl pc L (y :: x :: S) := by
  subst hp'
  by_cases q : x = y
  · exact (t q).plain fun T t hA hx hc st => XT.acmpYes hA hx rfl rfl (hb hc hd) rfl hx1 hy1 (XT.aa_eq_t q) ho hp st
  · exact (f q).plain fun T t hA hx hc st => XT.acmpNo hA hx rfl (hb hc hd) rfl hx1 hy1 (XT.aa_eq_f q) st
theorem r_acmp_ne {o : Int} {x y : Value} (pc' pc'' : Nat) (hd : decode B.code pc = .ok (.if_acmp .ne o, 3)) (hx1 : x.isRef = true) (hy1 : y.isRef = true) (ho : 0 ≤ (pc : Int) + o) (hp : ((pc : Int) + o).toNat = pc') (hp' : pc + 3 = pc'') (t : ¬ x = y → Run V K B Q h ps cs sl pc' L S) (f : x = y → Run V K B Q h ps cs sl pc'' L S) : Run V K B Q h ps cs sl pc L (y :: x :: S) := by
  subst hp'
  by_cases q : ¬ x = y
  · exact (t q).plain fun T t hA hx hc st => XT.acmpYes hA hx rfl rfl (hb hc hd) rfl hx1 hy1 (XT.aa_ne_t q) ho hp st
  · exact (f (Decidable.not_not.mp q)).plain fun T t hA hx hc st => XT.acmpNo hA hx rfl (hb hc hd) rfl hx1 hy1 (XT.aa_ne_f (Decidable.not_not.mp q)) st
theorem r_ldcI {i : Nat} {v : Int32} (pc' : Nat) (hp : pc + 2 = pc') (hd : decode B.code pc = .ok (.ldc i, 2)) (w : (Jvm.Cond.constant B.y.cls i v).before V.a0 V.Z = true) (r : Run V K B Q h ps cs sl pc' L (.int v :: S)) : Run V K B Q h ps cs sl pc L S := by
  subst hp; exact r.still fun T locs vm0 X eT hZ ho O G => ⟨T, X, eT, fun t st => Jvm.Stand.ldcI X G.1 ho (mv hZ w) rfl (hb G.2.1 hd) st⟩
theorem r_ldcWI {i : Nat} {v : Int32} (pc' : Nat) (hp : pc + 3 = pc') (hd : decode B.code pc = .ok (.ldc_w i, 3)) (w : (Jvm.Cond.constant B.y.cls i v).before V.a0 V.Z = true) (r : Run V K B Q h ps cs sl pc' L (.int v :: S)) : Run V K B Q h ps cs sl pc L S := by
  subst hp; exact r.still fun T locs vm0 X eT hZ ho O G => ⟨T, X, eT, fun t st => Jvm.Stand.ldcWI X G.1 ho (mv hZ w) rfl (hb G.2.1 hd) st⟩
theorem r_ldc2J {i : Nat} {v : Int64} (pc' : Nat) (hp : pc + 3 = pc') (hd : decode B.code pc = .ok (.ldc2_w i, 3)) (w : (Jvm.Cond.constantLong B.y.cls i v).before V.a0 V.Z = true) (r : Run V K B Q h ps cs sl pc' L (.long v :: S)) : Run V K B Q h ps cs sl pc L S := by
  subst hp; exact r.still fun T locs vm0 X eT hZ ho O G => ⟨T, X, eT, fun t st => Jvm.Stand.ldc2J X G.1 ho (mv hZ w) rfl (hb G.2.1 hd) st⟩
theorem r_getfield {i : Nat} {O n d : String} {a : Nat} {v : Value} (pc' : Nat) (hp : pc + 3 = pc') (hd : decode B.code pc = .ok (.getfield i, 3)) (w : (Jvm.Cond.fieldLink B.y.cls i O n d).before V.a0 V.Z = true) (F : Fld V.Z h a O n d v) (r : Run V K B Q h ps cs sl pc' L (v :: S)) : Run V K B Q h ps cs sl pc L (.ref a :: S) := by
  subst hp; exact r.still fun T locs vm0 X eT hZ ho O G => getF X G.1 hZ ho (host := "") (Or.inl w) Via.refl eT F (g := mkF K.m pc L.toArray (.ref a :: S)) rfl rfl (hb G.2.1 hd)
theorem r_getstatic {i : Nat} {O n d : String} {v : Value} (pc' : Nat) (hp : pc + 3 = pc') (hd : decode B.code pc = .ok (.getstatic i, 3)) (w : (Jvm.Cond.fieldLink B.y.cls i O n d).before V.a0 V.Z = true) (F : Sta V.Z V.Z.heap O n d v) (r : Run V K B Q h ps cs sl pc' L (v :: S)) : Run V K B Q h ps cs sl pc L S := by
  subst hp; exact r.still fun T locs vm0 X eT hZ ho O G => getS X G.1 hZ ho (host := "") w Via.refl eT (F.ext O) (g := mkF K.m pc L.toArray S) rfl (hb G.2.1 hd)
theorem r_putfield {i kk : Nat} {O n d C : String} {a : Nat} {v old : Value} {ty : FieldType} (pc' : Nat) (hp : pc + 3 = pc') (hd : decode B.code pc = .ok (.putfield i, 3)) (w : (Jvm.Cond.fieldLink B.y.cls i O n d).before V.a0 V.Z = true) (F : Fld V.Z h a O n d old) (E : Exa V.Z h a C)
    (Lw : (Jvm.Cond.lays C O n d).before V.a0 V.Z = true ∨ ((Jvm.Cond.laysFinal C O n d).before V.a0 V.Z = true ∧ B.y.cls = O ∧ B.y.name = "<init>")) (wi : (Jvm.Cond.instantiable C kk).before V.a0 V.Z = true) (hty : parseFieldDescriptor d = some ty) (hn : narrow ty v = v) (hf : fits ty v = true)
    (ha : V.Z.heap.size ≤ a) (hs : C ≠ "java/lang/String" ∧ C ≠ "[B" ∨ a ∈ ps) (r : ∀ h', Wr h h' a (RoadKit.slotOf V.Z O n d) v → Run V K B Q h' ps cs sl pc' L S) : Run V K B Q h ps cs sl pc L (v :: .ref a :: S) := by
  subst hp; exact Run.write ha (fun vm al P => hs.elim (fun q => Safe.exa al E q.1 q.2) (fun q => (P a q).2)) r fun T locs vm0 X eT hZ ho G => putF X G.1 hZ ho (host := "") (Or.inl w) Via.refl eT F E (Lw.imp id fun q => ⟨q.1, q.2.1, G.2.2.2.2.2.trans q.2.2⟩) wi hty hn hf (g := mkF K.m pc L.toArray (v :: .ref a :: S)) rfl rfl (hb G.2.1 hd)
theorem r_new {i n : Nat} {C : String} (pc' : Nat) (hp : pc + 3 = pc') (hd : decode B.code pc = .ok (.new i, 3)) (w : (Jvm.Cond.classLink B.y.cls i C).before V.a0 V.Z = true) (wi : (Jvm.Cond.instantiable C n).before V.a0 V.Z = true) (wz : (Jvm.Cond.initialized C).before V.a0 V.Z = true) (hc : cs + 1 ≤ B.R.cells) (hl : sl + n ≤ B.R.slots)
    (r : ∀ (a : Nat) h', a = h.size → V.Z.heap.size ≤ a → Ext h h' → Exa V.Z h' a C → (∀ {O nm d : String} {ty : FieldType}, RoadKit.Laid V.Z V.a0 C O nm d → parseFieldDescriptor d = some ty → Fld V.Z h' a O nm d (defaultValue ty)) → Run V K B Q h' (a :: ps) (cs + 1) (sl + n) pc' L (.ref a :: S)) : Run V K B Q h ps cs sl pc L S := by
  subst hp; refine Run.make (S' := fun a => .ref a :: S) (P := fun h' => Exa V.Z h' h.size C ∧ ∀ {O nm d : String} {ty : FieldType}, RoadKit.Laid V.Z V.a0 C O nm d → parseFieldDescriptor d = some ty → Fld V.Z h' h.size O nm d (defaultValue ty)) (fun h' E hz q => r _ h' rfl hz E q.1 q.2) fun T locs vm0 X eT hZ ho G => ?_
  obtain ⟨T', h', X', e', E, A, D, -, st⟩ := newO X G.1 hZ ho w wi wz eT (g := mkF K.m pc L.toArray S) rfl (hb G.2.1 hd) hc hl
  exact ⟨T', h', X', e', E, A.lt, ⟨A, D⟩, st⟩
theorem r_newarray {aty : ArrayType} {n : Int32} (cap : Nat) (pc' : Nat) (hp : pc + 2 = pc') (hd : decode B.code pc = .ok (.newarray aty, 2)) (w : (Jvm.Cond.arrayClass (newarray.typeOf aty)).before V.a0 V.Z = true) (hn : ¬ n < 0) (hcap : n.toNatClampNeg ≤ cap) (hbig : cap * 8 ≤ 536870912) (hc : cs + 1 ≤ B.R.cells) (hl : sl + cap ≤ B.R.slots)
    (r : ∀ (a : Nat) h' k, a = h.size → V.Z.heap.size ≤ a → Ext h h' → Arv V.Z h' a k (newarray.typeOf aty) n [] (defaultValue (newarray.typeOf aty)) → Run V K B Q h' (a :: ps) (cs + 1) (sl + cap) pc' L (.ref a :: S)) : Run V K B Q h ps cs sl pc L (.int n :: S) := by
  subst hp; refine Run.make (S' := fun a => .ref a :: S) (P := fun h' => ∃ k, Arv V.Z h' h.size k (newarray.typeOf aty) n [] (defaultValue (newarray.typeOf aty))) (fun h' E hz ⟨k, q⟩ => r _ h' k rfl hz E q) fun T locs vm0 X eT hZ ho G => ?_
  obtain ⟨T', h', cA, X', e', E, A, st⟩ := newP X G.1 hZ w eT (g := mkF K.m pc L.toArray (.int n :: S)) rfl (hb G.2.1 hd) rfl hn hcap hbig hc hl
  exact ⟨T', h', X', e', E, A.lt, ⟨cA, Arv.new A hn⟩, st⟩
theorem r_anewarray {i : Nat} {C : String} {n : Int32} (cap : Nat) (pc' : Nat) (hp : pc + 3 = pc') (hd : decode B.code pc = .ok (.anewarray i, 3)) (w1 : (Jvm.Cond.classLink B.y.cls i C).before V.a0 V.Z = true) (w2 : (Jvm.Cond.arrayOver (.object C)).before V.a0 V.Z = true) (hn : ¬ n < 0) (hcap : n.toNatClampNeg ≤ cap) (hbig : cap * 8 ≤ 536870912) (hc : cs + 1 ≤ B.R.cells) (hl : sl + cap ≤ B.R.slots)
    (r : ∀ (a : Nat) h' k, a = h.size → V.Z.heap.size ≤ a → Ext h h' → Arv V.Z h' a k (.object C) n [] .null → Ovr V.Z k C → Run V K B Q h' (a :: ps) (cs + 1) (sl + cap) pc' L (.ref a :: S)) : Run V K B Q h ps cs sl pc L (.int n :: S) := by
  subst hp; refine Run.make (S' := fun a => .ref a :: S) (P := fun h' => ∃ k, Arv V.Z h' h.size k (.object C) n [] .null ∧ Ovr V.Z k C) (fun h' E hz ⟨k, q, q'⟩ => r _ h' k rfl hz E q q') fun T locs vm0 X eT hZ ho G => ?_
  obtain ⟨T', h', cA, X', e', E, A, O, st⟩ := newR X G.1 hZ ho w1 w2 eT (g := mkF K.m pc L.toArray (.int n :: S)) rfl (hb G.2.1 hd) rfl hn hcap hbig hc hl
  exact ⟨T', h', X', e', E, A.lt, ⟨cA, Arv.new A hn, O⟩, st⟩
theorem r_iaload {a : Nat} {k : ClassId} {z j : Int32} {vs : List Value} {dv v : Value} (pc' : Nat) (hp : pc + 1 = pc') (hd : decode B.code pc = .ok (.iaload, 1)) (A : Arv V.Z h a k .int z vs dv) (hj : ¬ j < 0 ∧ j < z) (hv : vs.getD j.toNatClampNeg dv = v) (r : Run V K B Q h ps cs sl pc' L (v :: S)) : Run V K B Q h ps cs sl pc L (.int j :: .ref a :: S) := by
  subst hp; refine r.still fun T locs vm0 X eT hZ ho O G => ⟨T, X, eT, fun t st => ?_⟩
  obtain ⟨c, A1, q1, S1, N1, H1, G1⟩ := A
  exact X.iaload G.1 (by rw [eT]; exact A1.1) (State.isArrayOf_alike hZ.alike A1.2.1) A1.2.2 (inb_of S1 hj) (H1.at (inb_of S1 hj) hv) (g := mkF K.m pc L.toArray (.int j :: .ref a :: S)) rfl rfl (hb G.2.1 hd) _ st
theorem r_caload {a : Nat} {k : ClassId} {z j : Int32} {vs : List Value} {dv v : Value} (pc' : Nat) (hp : pc + 1 = pc') (hd : decode B.code pc = .ok (.caload, 1)) (A : Arv V.Z h a k .char z vs dv) (hj : ¬ j < 0 ∧ j < z) (hv : vs.getD j.toNatClampNeg dv = v) (r : Run V K B Q h ps cs sl pc' L (v :: S)) : Run V K B Q h ps cs sl pc L (.int j :: .ref a :: S) := by
  subst hp; refine r.still fun T locs vm0 X eT hZ ho O G => ⟨T, X, eT, fun t st => ?_⟩
  obtain ⟨c, A1, q1, S1, N1, H1, G1⟩ := A
  exact X.caload G.1 (by rw [eT]; exact A1.1) (State.isArrayOf_alike hZ.alike A1.2.1) A1.2.2 (inb_of S1 hj) (H1.at (inb_of S1 hj) hv) (g := mkF K.m pc L.toArray (.int j :: .ref a :: S)) rfl rfl (hb G.2.1 hd) _ st
theorem r_baload {a : Nat} {k : ClassId} {z j : Int32} {vs : List Value} {dv v : Value} (pc' : Nat) (hp : pc + 1 = pc') (hd : decode B.code pc = .ok (.baload, 1)) (A : Arv V.Z h a k .byte z vs dv) (hj : ¬ j < 0 ∧ j < z) (hv : vs.getD j.toNatClampNeg dv = v) (r : Run V K B Q h ps cs sl pc' L (v :: S)) : Run V K B Q h ps cs sl pc L (.int j :: .ref a :: S) := by
  subst hp; refine r.still fun T locs vm0 X eT hZ ho O G => ⟨T, X, eT, fun t st => ?_⟩
  obtain ⟨c, A1, q1, S1, N1, H1, G1⟩ := A
  exact X.baloadBytes G.1 (by rw [eT]; exact A1.1) (State.isArrayOf_alike hZ.alike A1.2.1) A1.2.2 (inb_of S1 hj) (H1.at (inb_of S1 hj) hv) (g := mkF K.m pc L.toArray (.int j :: .ref a :: S)) rfl rfl (hb G.2.1 hd) _ st
theorem r_saload {a : Nat} {k : ClassId} {z j : Int32} {vs : List Value} {dv v : Value} (pc' : Nat) (hp : pc + 1 = pc') (hd : decode B.code pc = .ok (.saload, 1)) (A : Arv V.Z h a k .short z vs dv) (hj : ¬ j < 0 ∧ j < z) (hv : vs.getD j.toNatClampNeg dv = v) (r : Run V K B Q h ps cs sl pc' L (v :: S)) : Run V K B Q h ps cs sl pc L (.int j :: .ref a :: S) := by
  subst hp; refine r.still fun T locs vm0 X eT hZ ho O G => ⟨T, X, eT, fun t st => ?_⟩
  obtain ⟨c, A1, q1, S1, N1, H1, G1⟩ := A
  exact X.saload G.1 (by rw [eT]; exact A1.1) (State.isArrayOf_alike hZ.alike A1.2.1) A1.2.2 (inb_of S1 hj) (H1.at (inb_of S1 hj) hv) (g := mkF K.m pc L.toArray (.int j :: .ref a :: S)) rfl rfl (hb G.2.1 hd) _ st
theorem r_laload {a : Nat} {k : ClassId} {z j : Int32} {vs : List Value} {dv v : Value} (pc' : Nat) (hp : pc + 1 = pc') (hd : decode B.code pc = .ok (.laload, 1)) (A : Arv V.Z h a k .long z vs dv) (hj : ¬ j < 0 ∧ j < z) (hv : vs.getD j.toNatClampNeg dv = v) (r : Run V K B Q h ps cs sl pc' L (v :: S)) : Run V K B Q h ps cs sl pc L (.int j :: .ref a :: S) := by
  subst hp; refine r.still fun T locs vm0 X eT hZ ho O G => ⟨T, X, eT, fun t st => ?_⟩
  obtain ⟨c, A1, q1, S1, N1, H1, G1⟩ := A
  exact X.laload G.1 (by rw [eT]; exact A1.1) (State.isArrayOf_alike hZ.alike A1.2.1) A1.2.2 (inb_of S1 hj) (H1.at (inb_of S1 hj) hv) (g := mkF K.m pc L.toArray (.int j :: .ref a :: S)) rfl rfl (hb G.2.1 hd) _ st
theorem r_aaload {a : Nat} {k : ClassId} {ty : FieldType} {z j : Int32} {vs : List Value} {dv v : Value} (pc' : Nat) (hp : pc + 1 = pc') (hd : decode B.code pc = .ok (.aaload, 1)) (A : Arv V.Z h a k ty z vs dv) (hty : ty.isReference = true) (hj : ¬ j < 0 ∧ j < z) (hv : vs.getD j.toNatClampNeg dv = v) (r : Run V K B Q h ps cs sl pc' L (v :: S)) : Run V K B Q h ps cs sl pc L (.int j :: .ref a :: S) := by
  subst hp; refine r.still fun T locs vm0 X eT hZ ho O G => ⟨T, X, eT, fun t st => ?_⟩
  obtain ⟨c, A1, q1, S1, N1, H1, G1⟩ := A
  exact X.aaload G.1 (by rw [eT]; exact A1.1) (State.isArrayOf_alike hZ.alike A1.2.1) hty A1.2.2 (inb_of S1 hj) (H1.at (inb_of S1 hj) hv) (g := mkF K.m pc L.toArray (.int j :: .ref a :: S)) rfl rfl (hb G.2.1 hd) _ st
theorem r_arraylength {a : Nat} {k : ClassId} {ty : FieldType} {z : Int32} {vs : List Value} {dv : Value} (pc' : Nat) (hp : pc + 1 = pc') (hd : decode B.code pc = .ok (.arraylength, 1)) (A : Arv V.Z h a k ty z vs dv) (r : Run V K B Q h ps cs sl pc' L (.int z :: S)) : Run V K B Q h ps cs sl pc L (.ref a :: S) := by
  subst hp; refine r.still fun T locs vm0 X eT hZ ho O G => ⟨T, X, eT, fun t st => ?_⟩
  obtain ⟨c, A1, q1, S1, N1, H1, G1⟩ := A
  exact X.arraylength G.1 (by rw [eT]; exact A1.1) (State.isArrayOf_alike hZ.alike A1.2.1) (g := mkF K.m pc L.toArray (.ref a :: S)) rfl rfl (hb G.2.1 hd) _ (by rw [len_of S1 N1]; exact st)
theorem r_castore {a : Nat} {k : ClassId} {z j x : Int32} {vs : List Value} {dv : Value} (i : Nat) (pc' : Nat) (hp : pc + 1 = pc') (hd : decode B.code pc = .ok (.castore, 1)) (A : Arv V.Z h a k .char z vs dv) (hj : ¬ j < 0 ∧ j < z) (ji : j.toNatClampNeg = i) (hi : i < vs.length) (ha : V.Z.heap.size ≤ a) (x' : Int32) (hx' : nar .char x = x')
    (r : ∀ h', Wr h h' a i (.int x') → Arv V.Z h' a k .char z (vs.set i (.int x')) dv → Run V K B Q h' ps cs sl pc' L S) : Run V K B Q h ps cs sl pc L (.int x :: .int j :: .ref a :: S) := by
  subst hp hx' ji; refine Run.write ha (fun vm al P => Safe.arr al A.choose_spec.1 (by decide)) (fun h' W => r h' W ?_) fun T locs vm0 X eT hZ ho G => ?_
  · obtain ⟨c, A1, q1, S1, N1, H1, G1⟩ := A
    exact Arv.set A1 q1 S1 N1 H1 G1 (fits_nar_char x) W _ rfl hi
  · obtain ⟨c, A1, q1, S1, N1, H1, G1⟩ := A
    exact stC X G.1 hZ eT A1 (inb_of S1 hj) (g := mkF K.m pc L.toArray (.int x :: .int j :: .ref a :: S)) rfl rfl (hb G.2.1 hd)
theorem r_bastore {a : Nat} {k : ClassId} {z j x : Int32} {vs : List Value} {dv : Value} (i : Nat) (pc' : Nat) (hp : pc + 1 = pc') (hd : decode B.code pc = .ok (.bastore, 1)) (A : Arv V.Z h a k .byte z vs dv) (hj : ¬ j < 0 ∧ j < z) (ji : j.toNatClampNeg = i) (hi : i < vs.length) (ha : V.Z.heap.size ≤ a) (hs : a ∈ ps) (x' : Int32) (hx' : x.toInt8.toInt32 = x')
    (r : ∀ h', Wr h h' a i (.int x') → Arv V.Z h' a k .byte z (vs.set i (.int x')) dv → Run V K B Q h' ps cs sl pc' L S) : Run V K B Q h ps cs sl pc L (.int x :: .int j :: .ref a :: S) := by
  subst hp hx' ji; refine Run.write ha (fun vm al P => (P a hs).2) (fun h' W => r h' W ?_) fun T locs vm0 X eT hZ ho G => ?_
  · obtain ⟨c, A1, q1, S1, N1, H1, G1⟩ := A
    exact Arv.set A1 q1 S1 N1 H1 G1 (fits_nar_byte x) W _ rfl hi
  · obtain ⟨c, A1, q1, S1, N1, H1, G1⟩ := A
    exact stB X G.1 hZ eT A1 (inb_of S1 hj) (g := mkF K.m pc L.toArray (.int x :: .int j :: .ref a :: S)) rfl rfl (hb G.2.1 hd)
theorem r_iastore {a : Nat} {k : ClassId} {z j x : Int32} {vs : List Value} {dv : Value} (i : Nat) (pc' : Nat) (hp : pc + 1 = pc') (hd : decode B.code pc = .ok (.iastore, 1)) (A : Arv V.Z h a k .int z vs dv) (hj : ¬ j < 0 ∧ j < z) (ji : j.toNatClampNeg = i) (hi : i < vs.length) (ha : V.Z.heap.size ≤ a) (x' : Int32) (hx' : x = x')
    (r : ∀ h', Wr h h' a i (.int x') → Arv V.Z h' a k .int z (vs.set i (.int x')) dv → Run V K B Q h' ps cs sl pc' L S) : Run V K B Q h ps cs sl pc L (.int x :: .int j :: .ref a :: S) := by
  subst hp hx' ji; refine Run.write ha (fun vm al P => Safe.arr al A.choose_spec.1 (by decide)) (fun h' W => r h' W ?_) fun T locs vm0 X eT hZ ho G => ?_
  · obtain ⟨c, A1, q1, S1, N1, H1, G1⟩ := A
    exact Arv.set A1 q1 S1 N1 H1 G1 (rfl) W _ rfl hi
  · obtain ⟨c, A1, q1, S1, N1, H1, G1⟩ := A
    exact stI X G.1 hZ eT A1 (inb_of S1 hj) (g := mkF K.m pc L.toArray (.int x :: .int j :: .ref a :: S)) rfl rfl (hb G.2.1 hd)
theorem r_aastore {a : Nat} {k : ClassId} {C : String} {z j : Int32} {x : Value} {vs : List Value} {dv : Value} (i : Nat) (pc' : Nat) (hp : pc + 1 = pc') (hd : decode B.code pc = .ok (.aastore, 1)) (A : Arv V.Z h a k (.object C) z vs dv) (F : ∀ c, Arr V.Z h a c (.object C) → c.cls = k → Sto V.Z h a x) (hj : ¬ j < 0 ∧ j < z) (ji : j.toNatClampNeg = i) (hi : i < vs.length) (ha : V.Z.heap.size ≤ a) (hfx : fits (.object C) x = true)
    (r : ∀ h', Wr h h' a i x → Arv V.Z h' a k (.object C) z (vs.set i x) dv → Run V K B Q h' ps cs sl pc' L S) : Run V K B Q h ps cs sl pc L (x :: .int j :: .ref a :: S) := by
  subst hp ji; refine Run.write ha (fun vm al P => Safe.arr al A.choose_spec.1 (by simp)) (fun h' W => r h' W ?_) fun T locs vm0 X eT hZ ho G => ?_
  · obtain ⟨c, A1, q1, S1, N1, H1, G1⟩ := A
    exact Arv.set A1 q1 S1 N1 H1 G1 hfx W _ rfl hi
  · obtain ⟨c, A1, q1, S1, N1, H1, G1⟩ := A
    exact stR X G.1 hZ eT A1 (inb_of S1 hj) rfl (F c A1 q1) (g := mkF K.m pc L.toArray (x :: .int j :: .ref a :: S)) rfl rfl (hb G.2.1 hd)
theorem r_instY {i : Nat} {C : String} {a : Nat} (pc' : Nat) (hp : pc + 3 = pc') (hd : decode B.code pc = .ok (.instanceof i, 3)) (w : (Jvm.Cond.classLink B.y.cls i C).before V.a0 V.Z = true) (F : Ins V.Z h a C true) (r : Run V K B Q h ps cs sl pc' L (.int 1 :: S)) : Run V K B Q h ps cs sl pc L (.ref a :: S) := by
  subst hp; exact r.still fun T locs vm0 X eT hZ ho O G => instY X G.1 hZ ho w eT F (g := mkF K.m pc L.toArray (.ref a :: S)) rfl rfl (hb G.2.1 hd)
theorem r_instNo {i : Nat} {C D : String} {a : Nat} (pc' : Nat) (hp : pc + 3 = pc') (hd : decode B.code pc = .ok (.instanceof i, 3)) (w : (Jvm.Cond.classLink B.y.cls i D).before V.a0 V.Z = true) (E : Exa V.Z h a C) (F : ∃ c t, V.Z.vm.findClass C = some c ∧ V.Z.vm.findClass D = some t ∧ V.Z.vm.assignable c t = false) (r : Run V K B Q h ps cs sl pc' L (.int 0 :: S)) : Run V K B Q h ps cs sl pc L (.ref a :: S) := by
  subst hp; exact r.still fun T locs vm0 X eT hZ ho O G => instNo X G.1 hZ ho w eT E F (g := mkF K.m pc L.toArray (.ref a :: S)) rfl rfl (hb G.2.1 hd)
theorem r_cast {i : Nat} {C : String} {a : Nat} (pc' : Nat) (hp : pc + 3 = pc') (hd : decode B.code pc = .ok (.checkcast i, 3)) (w : (Jvm.Cond.classLink B.y.cls i C).before V.a0 V.Z = true) (F : Ins V.Z h a C true) (r : Run V K B Q h ps cs sl pc' L (.ref a :: S)) : Run V K B Q h ps cs sl pc L (.ref a :: S) := by
  subst hp; exact r.still fun T locs vm0 X eT hZ ho O G => castY X G.1 hZ ho w eT F (g := mkF K.m pc L.toArray (.ref a :: S)) rfl rfl (hb G.2.1 hd)
theorem r_initO {i : Nat} {a : Nat} (W : Nat) (pc' : Nat) (hp : pc + 3 = pc') (hd : decode B.code pc = .ok (.invokespecial i, 3)) (w1 : (Jvm.Cond.methodLink B.y.cls i Lib.objectInit).before V.a0 V.Z = true) (w2 : (Jvm.Cond.instanceMethod Lib.objectInit).before V.a0 V.Z = true) (w3 : (Jvm.Cond.code Lib.objectInit ⟨#[0xb1]⟩ 1 none).before V.a0 V.Z = true) (hsz : L.length = B.ml) (hf : 1 ≤ B.R.frames) (hW : (S.map fun v => v.category).sum ≤ W) (hl : W + 12 ≤ B.R.locals) (r : Run V K B Q h ps cs sl pc' L S) : Run V K B Q h ps cs sl pc L (.ref a :: S) := by
  subst hp; exact r.still fun T locs vm0 X eT hZ ho O G => initO X G.1 hZ ho w1 w2 w3 eT (g := mkF K.m pc L.toArray (.ref a :: S)) rfl (by rw [G.2.2.1]; simpa using hsz) rfl (hb G.2.1 hd) hf (W := W) (by simpa using hW) hl
theorem Run.ret {v : Option Value} (hv : K.meth.sig.returnType = none → v = none) (hc : cs ≤ B.R.cells) (hs : sl ≤ B.R.slots) (qps : List Addr) (hq : ∀ x ∈ qps, x ∈ ps) (q : Q v h qps)
    (st : ∀ T locs vm0 fs, Stand K.p V.l K.e B.R (K.s.setVm vm0) K.m K.args K.below K.meth K.c T locs cs sl → Fx K B → (∀ (f : JFrame) (acts : List Action), f.method = K.m → f.locked = none → f.entered = [] → (doReturn K.e (T.setTop f) acts v).1 = T.setFrames fs) → Steps K.p.tables K.e K.below (T.setTop (mkF K.m pc L.toArray S)) (T.setFrames fs)) :
    Run V K B Q h ps cs sl pc L S := fun T hT => by
  obtain ⟨locs, vm0, k0, X, e1, e2, e3, e4, e5, e6, e7, e8, e9, e10, e11, e12⟩ := hT
  have hl : K.meth.locks = false := e12.2.2.2.2.1
  have C := e8.trans (CHv.at X e2 e10 e8.1)
  have A := CHv.at X e2 e10 e8.1
  cases hn : V.nar
  · obtain ⟨fs, hr, hrun, hend, w1, w2, w3, w4⟩ := X.leaveW e4 (by rw [e1]; exact e5) hv hl
    refine ⟨_, _, st T locs vm0 fs X e12 hr, hrun, hend, v, locs, qps, rfl, e6, by show Q v T.heap qps; rw [e1]; exact q, by show Ext V.Z.heap T.heap; rw [e1]; exact e7, by show Sf V T.vm T.heap qps; rw [e1]; exact (e9.sub hq).go A, by show CHr V.Z V.EL K.s.vm K.s.heap T.vm T.heap; rw [e1]; exact C, ⟨w1, w2, w3, w4.mono hc hs⟩, fun z => absurd (hn.symm.trans z) (by decide)⟩
  · obtain ⟨rfl, -⟩ := e11 hn
    obtain ⟨fs, hr, hrun, hend, w1, w2⟩ := X.leave hv hl
    refine ⟨_, _, st T locs _ fs X e12 hr, hrun, hend, v, locs, qps, rfl, e6, by show Q v T.heap qps; rw [e1]; exact q, by show Ext V.Z.heap T.heap; rw [e1]; exact e7, by show Sf V T.vm T.heap qps; rw [e1]; exact (e9.sub hq).go A, by show CHr V.Z V.EL K.s.vm K.s.heap T.vm T.heap; rw [e1]; exact C, ReturnedEndW.of_narrow ⟨v, rfl⟩ w1 (w2.mono hc hs), fun z => ⟨⟨v, rfl⟩, w1, w2.mono hc hs⟩⟩
theorem r_ret (hr : B.ret = none) (hd : decode B.code pc = .ok (.return_, 1)) (hc : cs ≤ B.R.cells) (hs : sl ≤ B.R.slots) (qps : List Addr) (hq : ∀ x ∈ qps, x ∈ ps) (q : Q none h qps) : Run V K B Q h ps cs sl pc L [] :=
  Run.ret (fun _ => rfl) hc hs qps hq q fun T locs vm0 fs X G hl => X.returnOut G.1 (G.2.2.2.1.trans hr) (hb G.2.1 hd) hl
theorem r_iret {z : Int32} (hr : B.ret = some .int) (hd : decode B.code pc = .ok (.ireturn, 1)) (hc : cs ≤ B.R.cells) (hs : sl ≤ B.R.slots) (qps : List Addr) (hq : ∀ x ∈ qps, x ∈ ps) (q : Q (some (.int z)) h qps) : Run V K B Q h ps cs sl pc L (.int z :: S) := by
  intro T hT; have G : Fx K B := by obtain ⟨locs, vm0, k0, X, e1, e2, e3, e4, e5, e6, e7, e8, e9, e10, e11, e12⟩ := hT; exact e12
  exact Run.ret (fun z => by rw [G.2.2.2.1.trans hr] at z; cases z) hc hs qps hq q (fun T locs vm0 fs X G hl => retOut X G.1 (G.2.2.2.1.trans hr) rfl (Or.inl ⟨rfl, Or.inl rfl, _, rfl⟩) (hb G.2.1 hd) hl) T hT
theorem r_nret {z : Int32} {t : FieldType} (z' : Int32) (hr : B.ret = some t) (ht : t = .boolean ∨ t = .byte ∨ t = .char ∨ t = .short) (hz : RoadKit.nar t z = z') (hd : decode B.code pc = .ok (.ireturn, 1)) (hc : cs ≤ B.R.cells) (hs : sl ≤ B.R.slots) (qps : List Addr) (hq : ∀ x ∈ qps, x ∈ ps) (q : Q (some (.int z')) h qps) : Run V K B Q h ps cs sl pc L (.int z :: S) := by
  subst hz; intro T hT; have G : Fx K B := by obtain ⟨locs, vm0, k0, X, e1, e2, e3, e4, e5, e6, e7, e8, e9, e10, e11, e12⟩ := hT; exact e12
  exact Run.ret (fun z => by rw [G.2.2.2.1.trans hr] at z; cases z) hc hs qps hq q (fun T locs vm0 fs X G hl => retN X G.1 (G.2.2.2.1.trans hr) ht (hb G.2.1 hd) hl) T hT
theorem r_lret {z : Int64} (hr : B.ret = some .long) (hd : decode B.code pc = .ok (.lreturn, 1)) (hc : cs ≤ B.R.cells) (hs : sl ≤ B.R.slots) (qps : List Addr) (hq : ∀ x ∈ qps, x ∈ ps) (q : Q (some (.long z)) h qps) : Run V K B Q h ps cs sl pc L (.long z :: S) := by
  intro T hT; have G : Fx K B := by obtain ⟨locs, vm0, k0, X, e1, e2, e3, e4, e5, e6, e7, e8, e9, e10, e11, e12⟩ := hT; exact e12
  exact Run.ret (fun z => by rw [G.2.2.2.1.trans hr] at z; cases z) hc hs qps hq q (fun T locs vm0 fs X G hl => retOut X G.1 (G.2.2.2.1.trans hr) rfl (Or.inr (Or.inl ⟨rfl, rfl, _, rfl⟩)) (hb G.2.1 hd) hl) T hT
theorem r_aret {x : Value} {t : FieldType} (hr : B.ret = some t) (ht : t.isReference = true) (hx : x.isRef = true) (hd : decode B.code pc = .ok (.areturn, 1)) (hc : cs ≤ B.R.cells) (hs : sl ≤ B.R.slots) (qps : List Addr) (hq : ∀ x ∈ qps, x ∈ ps) (q : Q (some x) h qps) : Run V K B Q h ps cs sl pc L (x :: S) := by
  intro T hT; have G : Fx K B := by obtain ⟨locs, vm0, k0, X, e1, e2, e3, e4, e5, e6, e7, e8, e9, e10, e11, e12⟩ := hT; exact e12
  have hn : narrow t x = x := by rcases ref_cases hx with rfl | ⟨a, rfl⟩ <;> cases t <;> first | rfl | cases ht
  exact Run.ret (fun z => by rw [G.2.2.2.1.trans hr] at z; cases z) hc hs qps hq q (fun T locs vm0 fs X G hl => retOut X G.1 (G.2.2.2.1.trans hr) hn (Or.inr (Or.inr (Or.inr (Or.inr ⟨rfl, ht, hx⟩)))) (hb G.2.1 hd) hl) T hT
theorem r_static {i W nc ns : Nat} {y : MethodName} {Q' : Qt} {bytes : ByteArray} {ml : Nat} {ret : Option FieldType} {argsL S0 : List Value} {as' : Array Value} (pc' : Nat) (hp : pc + 3 = pc') (hd : decode B.code pc = .ok (.invokestatic i, 3)) (w1 : (Jvm.Cond.methodLink B.y.cls i y).before V.a0 V.Z = true) (w2 : (Jvm.Cond.static y).before V.a0 V.Z = true) (w3 : (Jvm.Cond.initialized y.cls).before V.a0 V.Z = true) (w4 : (Jvm.Cond.code y bytes ml ret).before V.a0 V.Z = true)
    (hy : y.cls ≠ "java/lang/invoke/MethodHandle" ∧ y.cls ≠ "java/lang/invoke/VarHandle") (P : Pays V K B y 3 W as' h ps nc ns Q') (hlen : ∀ sig, parseMethodDescriptor y.desc = some sig → argsL.length = sig.parameters.length) (hS : S0 = argsL.reverse ++ S) (ha : argsL.toArray = as') (hsz : L.length = B.ml) (hW : (S.map fun v => v.category).sum ≤ W) (hc : cs + nc ≤ B.R.cells) (hs : sl + ns ≤ B.R.slots) (r : ∀ v h' ps', Q' v h' ps' → h.size ≤ h'.size → Run V K B Q h' (ps' ++ ps) (cs + nc) (sl + ns) pc' L (v.toList ++ S)) : Run V K B Q h ps cs sl pc L S0 := fun T hT => by
  subst hp hS ha
  obtain ⟨locs, vm0, k0, X, e1, e2, e3, e4, e5, e6, e7, e8, e9, e10, e11, e12⟩ := hT
  have P1 := P vm0 e2 e8.1 e9 e10 e7 fun q => (e11 q).2
  have hsize : (mkF K.m pc L.toArray (argsL.reverse ++ S)).locals.size = K.c.maxLocals := by rw [e12.2.2.1]; simpa using hsz
  have hZ : V.Z.Warmed39 (K.s.setVm vm0).vm := e2
  cases hn : V.nar
  · obtain ⟨v, vm₁, C, -, X', hS', -, hpo, st⟩ := callSS X e12.1 e3 (mvT hZ w1) (mvT hZ w2) (mvT hZ w3) (mvT hZ w4) hy (P1.2 hn) (g := mkF K.m pc L.toArray (argsL.reverse ++ S)) rfl hsize hlen rfl (by simpa using hW) (hb e12.2.1 hd) (fun vm₁ _ => ⟨rfl, e1, hc, hs⟩)
    obtain ⟨t, o, s1, s2⟩ := Run.behind e2 e3 e4 e5 e6 e8 e9 e10 e11 e12 (Or.inr ⟨hn, X', hS'⟩) hpo r
    exact ⟨t, o, st.trans s1, s2⟩
  · obtain ⟨v, vm₁, C, -, X', hpo, st⟩ := Jvm.LawKit.callS X e12.1 e3 (mvT hZ w1) (mvT hZ w2) (mvT hZ w3) (mvT hZ w4) hy (P1.1 hn) (g := mkF K.m pc L.toArray (argsL.reverse ++ S)) rfl hsize hlen rfl (by simpa using hW) (hb e12.2.1 hd) (fun vm₁ _ => ⟨rfl, e1, hc, hs⟩)
    obtain ⟨t, o, s1, s2⟩ := Run.behind e2 e3 e4 e5 e6 e8 e9 e10 e11 e12 (Or.inl ⟨hn, X'⟩) hpo r
    exact ⟨t, o, st _ s1, s2⟩
theorem r_special {i W nc ns : Nat} {y : MethodName} {Q' : Qt} {bytes : ByteArray} {ml : Nat} {argsL S0 : List Value} {a : Nat} {as' : Array Value} (pc' : Nat) (hp : pc + 3 = pc') (hd : decode B.code pc = .ok (.invokespecial i, 3)) (hy1 : y.name = "<init>") (w1 : (Jvm.Cond.methodLink B.y.cls i y).before V.a0 V.Z = true) (w2 : (Jvm.Cond.instanceMethod y).before V.a0 V.Z = true) (w4 : (Jvm.Cond.code y bytes ml none).before V.a0 V.Z = true)
    (hy : y.cls ≠ "java/lang/invoke/MethodHandle" ∧ y.cls ≠ "java/lang/invoke/VarHandle") (P : Pays V K B y 3 W as' h ps nc ns Q') (hlen : ∀ sig, parseMethodDescriptor y.desc = some sig → argsL.length = sig.parameters.length) (hS : S0 = argsL.reverse ++ .ref a :: S) (ha : (.ref a :: argsL).toArray = as') (hsz : L.length = B.ml) (hW : (S.map fun v => v.category).sum ≤ W) (hc : cs + nc ≤ B.R.cells) (hs : sl + ns ≤ B.R.slots) (r : ∀ v h' ps', Q' v h' ps' → h.size ≤ h'.size → Run V K B Q h' (ps' ++ ps) (cs + nc) (sl + ns) pc' L (v.toList ++ S)) : Run V K B Q h ps cs sl pc L S0 := fun T hT => by
  subst hp hS ha
  obtain ⟨locs, vm0, k0, X, e1, e2, e3, e4, e5, e6, e7, e8, e9, e10, e11, e12⟩ := hT
  have P1 := P vm0 e2 e8.1 e9 e10 e7 fun q => (e11 q).2
  have hsize : (mkF K.m pc L.toArray (argsL.reverse ++ .ref a :: S)).locals.size = K.c.maxLocals := by rw [e12.2.2.1]; simpa using hsz
  have hZ : V.Z.Warmed39 (K.s.setVm vm0).vm := e2
  cases hn : V.nar
  · obtain ⟨v, vm₁, C, -, X', hS', -, hpo, st⟩ := X.specialBackS e12.1 hy1 e3 (mvT hZ w1) (mvT hZ w2) (mvT hZ w4) hy (P1.2 hn) (g := mkF K.m pc L.toArray (argsL.reverse ++ .ref a :: S)) rfl hsize (Steps.refl _) hlen rfl (by simpa using hW) (hb e12.2.1 hd) (fun vm₁ _ => ⟨rfl, e1, hc, hs⟩)
    obtain ⟨t, o, s1, s2⟩ := Run.behind e2 e3 e4 e5 e6 e8 e9 e10 e11 e12 (Or.inr ⟨hn, X', hS'⟩) hpo r
    exact ⟨t, o, st.trans s1, s2⟩
  · obtain ⟨v, vm₁, C, -, X', hpo, st⟩ := X.specialBack e12.1 hy1 e3 (mvT hZ w1) (mvT hZ w2) (mvT hZ w4) hy (P1.1 hn) (g := mkF K.m pc L.toArray (argsL.reverse ++ .ref a :: S)) rfl hsize (Steps.refl _) hlen rfl (by simpa using hW) (hb e12.2.1 hd) (fun vm₁ _ => ⟨rfl, e1, hc, hs⟩)
    obtain ⟨t, o, s1, s2⟩ := Run.behind e2 e3 e4 e5 e6 e8 e9 e10 e11 e12 (Or.inl ⟨hn, X'⟩) hpo r
    exact ⟨t, o, st.trans s1, s2⟩
theorem nfS {C0 : String} {y : MethodName} (w : (Jvm.Cond.selects C0 y y).before V.a0 V.Z = true) : ∀ s : State, V.Z.Warmed39 s.vm → NotFace s y := fun s hZ => notFace_of_selects (args := #[]) (mvT hZ w)
theorem r_virtual {i W nc ns : Nat} {y : MethodName} {Q' : Qt} {z : MethodName} {C0 : String} {argsL S0 : List Value} {a : Nat} {as' : Array Value} (pc' : Nat) (hp : pc + 3 = pc') (hd : decode B.code pc = .ok (.invokevirtual i, 3)) (w1 : (Jvm.Cond.methodLink B.y.cls i y).before V.a0 V.Z = true) (w2 : (Jvm.Cond.declares y).before V.a0 V.Z = true) (w3 : (Jvm.Cond.selects C0 y z).before V.a0 V.Z = true) (w4 : (Jvm.Cond.instanceMethod z).before V.a0 V.Z = true)
    (hnf : ∀ s : State, V.Z.Warmed39 s.vm → NotFace s y) (hy : y.cls ≠ "java/lang/invoke/MethodHandle" ∧ y.cls ≠ "java/lang/invoke/VarHandle") (E : Exa V.Z h a C0) (P : Pays V K B z 3 W as' h ps nc ns Q') (hlen : ∀ sig, parseMethodDescriptor y.desc = some sig → argsL.length = sig.parameters.length) (hS : S0 = argsL.reverse ++ .ref a :: S) (ha : (.ref a :: argsL).toArray = as') (hsz : L.length = B.ml) (hW : (S.map fun v => v.category).sum ≤ W) (hc : cs + nc ≤ B.R.cells) (hs : sl + ns ≤ B.R.slots) (r : ∀ v h' ps', Q' v h' ps' → h.size ≤ h'.size → Run V K B Q h' (ps' ++ ps) (cs + nc) (sl + ns) pc' L (v.toList ++ S)) : Run V K B Q h ps cs sl pc L S0 := fun T hT => by
  subst hp hS ha
  obtain ⟨locs, vm0, k0, X, e1, e2, e3, e4, e5, e6, e7, e8, e9, e10, e11, e12⟩ := hT
  have P1 := P vm0 e2 e8.1 e9 e10 e7 fun q => (e11 q).2
  have hsize : (mkF K.m pc L.toArray (argsL.reverse ++ .ref a :: S)).locals.size = K.c.maxLocals := by rw [e12.2.2.1]; simpa using hsz
  have hZ : V.Z.Warmed39 (K.s.setVm vm0).vm := e2
  obtain ⟨cq, kq, q1, q2, q3⟩ := isOf (s := K.s.setVm vm0) hZ e1 E
  cases hn : V.nar
  · obtain ⟨v, vm₁, C, -, X', hS', -, hpo, st⟩ := X.virtualBackS e12.1 e3 (mvT hZ w1) (mvT hZ w2) (hnf _ hZ) (mvT hZ w3) (mvT hZ w4) hy (P1.2 hn) q1 q3 (g := mkF K.m pc L.toArray (argsL.reverse ++ .ref a :: S)) rfl hsize (Steps.refl _) hlen rfl (by simpa using hW) (hb e12.2.1 hd) (fun vm₁ _ => ⟨rfl, e1, hc, hs⟩)
    obtain ⟨t, o, s1, s2⟩ := Run.behind e2 e3 e4 e5 e6 e8 e9 e10 e11 e12 (Or.inr ⟨hn, X', hS'⟩) hpo r
    exact ⟨t, o, st.trans s1, s2⟩
  · obtain ⟨v, vm₁, C, -, X', hpo, st⟩ := X.virtualBack e12.1 e3 (mvT hZ w1) (mvT hZ w2) (hnf _ hZ) (mvT hZ w3) (mvT hZ w4) hy (P1.1 hn) q1 q3 (g := mkF K.m pc L.toArray (argsL.reverse ++ .ref a :: S)) rfl hsize (Steps.refl _) hlen rfl (by simpa using hW) (hb e12.2.1 hd) (fun vm₁ _ => ⟨rfl, e1, hc, hs⟩)
    obtain ⟨t, o, s1, s2⟩ := Run.behind e2 e3 e4 e5 e6 e8 e9 e10 e11 e12 (Or.inl ⟨hn, X'⟩) hpo r
    exact ⟨t, o, st.trans s1, s2⟩
theorem r_ldcS {i : Nat} {text : String} (vs : List Value) (z : Int32) (n : Nat) (pc' : Nat) (hp : pc + 2 = pc') (hd : decode B.code pc = .ok (.ldc i, 2)) (w : (Jvm.Cond.stringLink B.y.cls i text).before V.a0 V.Z = true) (wS : ∀ a ∈ Bundle.stringAtoms, a.before V.a0 V.Z = true) (hmem : (B.y.cls, i) ∈ V.EL) (hnar : V.nar = false)
    (ht : (∀ c ∈ text.toList, c.toNat < 256) ∧ text.toList.map (fun c => Value.int (Jvm.Lit.byteI c.toNat.toUInt16)) = vs) (hz : ¬ z < 0) (hl : z.toNatClampNeg = vs.length) (hn : 4 * text.toList.length ≤ n) (hbig : n ≤ 536870912) (hc : cs + 2 ≤ B.R.cells) (hl' : sl + (n + 4) ≤ B.R.slots)
    (r : ∀ (a b : Nat) k h', Ext h h' → Exa V.Z h' a "java/lang/String" → Fld V.Z h' a "java/lang/String" "coder" "B" (.int 0) → Fld V.Z h' a "java/lang/String" "value" "[B" (.ref b) → Arv V.Z h' b k .byte z vs (.int 0) → (∀ x ∈ ps, x ≠ a ∧ x ≠ b) → Run V K B Q h' ps (cs + 2) (sl + (n + 4)) pc' L (.ref a :: S)) : Run V K B Q h ps cs sl pc L S := fun T hT => by
  subst hp
  obtain ⟨locs, vm0, k0, X, e1, e2, e3, e4, e5, e6, e7, e8, e9, e10, e11, e12⟩ := hT
  obtain ⟨a, T', h', k1, b, k, X', q1, q2, q3, q4, q5, q6, q7, q8, q9, q10, q11, q12, q13, q14, q15, st⟩ := ldcCH X e12.1 e2 e3 w wS e1 e4 e5 e10 hmem e8.1 ht hz hl (g := mkF K.m pc L.toArray S) rfl (hb e12.2.1 hd) hn hbig hc hl'
  have S' : Sf V T'.vm h' ps := e9.go q13
  obtain ⟨t, o, s1, s2⟩ := r a b k h' q2 q7 q8 q9 q10 (fun x hx => q15 x (S' x hx).2) T' ⟨_, _, k1, X', q1, q5, q6, q3, q4, e6, Ext.trans' e7 q2, e8.trans q13, S', e10, fun q => absurd (hnar.symm.trans q) (by decide), e12⟩
  exact ⟨t, o, st _ s1, s2⟩
end Rules
end Jvm.Own
namespace Jvm.Own
open Jvm Jvm.ClassFile Sem Op Lib Jvm.Free Jvm.Stand Jvm.LawKit Jvm.RoadKit Bundle
section More
variable {V : Vw} {K : Cx} {B : Bx} {Q : Qt} {T : State} {h h' : Heap} {ps ps' : List Addr} {cs sl pc : Nat} {L : List Slot} {S : List Value}
theorem r_gen {x : Int32} (r : ∀ z, z = x → Run V K B Q h ps cs sl pc L (.int z :: S)) : Run V K B Q h ps cs sl pc L (.int x :: S) := r x rfl
theorem r_genL {x : Int64} (r : ∀ z, z = x → Run V K B Q h ps cs sl pc L (.long z :: S)) : Run V K B Q h ps cs sl pc L (.long x :: S) := r x rfl
theorem nc16 (x : Int32) : RoadKit.nar .char x.toUInt32.toUInt16.toUInt32.toInt32 = x.toUInt32.toUInt16.toUInt32.toInt32 := by
  show x.toUInt32.toUInt16.toUInt32.toInt32.toUInt32.toUInt16.toUInt32.toInt32 = _
  simp only [UInt32.toUInt32_toInt32, UInt16.toUInt16_toUInt32]
theorem nc8 (x : Int32) : RoadKit.nar .char (x &&& 255).toUInt32.toUInt16.toUInt32.toInt32 = x &&& 255 := by rw [nc16, i2c_mask]
theorem ncm (x : Int32) : RoadKit.nar .char (x &&& 255) = x &&& 255 := i2c_mask x
/-- 0 to 255 -/
def By (x : Int32) : Prop := ¬ x < 0 ∧ ¬ 255 < x
theorem By.mask (x : Int32) : By (x &&& 255) := by
  have h := c_and x 255 (by decide)
  refine ⟨fun q => ?_, fun q => ?_⟩
  · rw [Int32.lt_iff_toInt_lt] at q; have : (0 : Int32).toInt = 0 := rfl; omega
  · rw [Int32.lt_iff_toInt_lt] at q; have : (255 : Int32).toInt = 255 := rfl; omega
end More
end Jvm.Own
namespace Jvm.Own
open Jvm Jvm.ClassFile Sem Op Lib Jvm.Free Jvm.Stand Jvm.LawKit Jvm.RoadKit Bundle
section More2
variable {V : Vw} {K : Cx} {B : Bx} {Q : Qt} {T : State} {h h' : Heap} {ps ps' : List Addr} {cs sl pc : Nat} {L : List Slot} {S : List Value}
theorem r_instNull {i : Nat} (pc' : Nat) (hp : pc + 3 = pc') (hd : decode B.code pc = .ok (.instanceof i, 3)) (r : Run V K B Q h ps cs sl pc' L (.int 0 :: S)) : Run V K B Q h ps cs sl pc L (.null :: S) := by
  subst hp; exact r.still fun T locs vm0 X eT hZ ho O G => ⟨T, X, eT, fun t st => X.instanceofNull G.1 (g := mkF K.m pc L.toArray (.null :: S)) rfl rfl (hb G.2.1 hd) _ st⟩
theorem noCast {Z : State} {a0 : Array Value} {C S K : String} {n : Nat} (w : (Jvm.Cond.superclass C S).before a0 Z = true) (w0 : (Jvm.Cond.noSuperclass S).before a0 Z = true) (wi : (Jvm.Cond.instantiable K n).before a0 Z = true) (h1 : C ≠ K) (h2 : S ≠ K) : ∃ c t, Z.vm.findClass C = some c ∧ Z.vm.findClass K = some t ∧ Z.vm.assignable c t = false := by
  obtain ⟨t, kt, i1, i2, i3, i4, -⟩ := Cond.instantiable_spec wi
  obtain ⟨cS, kS, s1, s2, s3, -, -⟩ := Cond.noSuperclass_spec w0
  have neS := ids_ne s1 i1 h2
  obtain ⟨c, h0⟩ := found_sup w
  obtain ⟨p, k, kp, q1, q2, q3, q4, q5, -, q7⟩ := Cond.superclass_spec h0 w
  cases q1.symm.trans s1
  have neC := ids_ne h0 i1 h1
  have nS : ∀ f, Z.vm.isSubclassAux f cS t = false := fun f => by
    cases f with
    | zero => rfl
    | succ f => simp [Vm.isSubclassAux, neS, s2, s3]
  have nC : ∀ f, Z.vm.isSubclassAux f c t = false := fun f => by
    cases f with
    | zero => rfl
    | succ f => simp [Vm.isSubclassAux, neC, q2, q4, nS]
  have i5 : kt.isInterface = false := by simp only [Bool.or_eq_false_iff] at i4; exact i4.1
  refine ⟨c, t, h0, i1, ?_⟩
  show Z.vm.assignableAux (255 + 1) c t = false
  simp [Vm.assignableAux, neC, q2, i2, q5, i3, i5, Vm.isSubclass, nC]
end More2
end Jvm.Own
namespace Jvm.Own
open Jvm Jvm.ClassFile Sem Op Lib Jvm.Free Jvm.Stand Jvm.LawKit Jvm.RoadKit Bundle
section More3
variable {V : Vw} {K : Cx} {B : Bx} {Q : Qt} {T : State} {h h' : Heap} {ps ps' : List Addr} {cs sl pc : Nat} {L : List Slot} {S : List Value}
/-- ldc of a String constant, opaque -/
theorem r_ldcO {i : Nat} {text : String} (n : Nat) (pc' : Nat) (hp : pc + 2 = pc') (hd : decode B.code pc = .ok (.ldc i, 2)) (w : (Jvm.Cond.stringLink B.y.cls i text).before V.a0 V.Z = true) (wS : ∀ a ∈ Bundle.stringAtoms, a.before V.a0 V.Z = true) (hnar : V.nar = false)
    (hn : 4 * text.toList.length ≤ n) (hbig : n ≤ 536870912) (hc : cs + 2 ≤ B.R.cells) (hl' : sl + (n + 4) ≤ B.R.slots) (r : ∀ (a : Nat) h', Ext h h' → Run V K B Q h' ps (cs + 2) (sl + (n + 4)) pc' L (.ref a :: S)) : Run V K B Q h ps cs sl pc L S := fun T hT => by
  subst hp
  obtain ⟨locs, vm0, k0, X, e1, e2, e3, e4, e5, e6, e7, e8, e9, e10, e11, e12⟩ := hT
  obtain ⟨a, T', h', k1, X', q1, q2, q3, q4, q5, q6, q13, q14, st⟩ := ldcOH X e12.1 e2 e3 w wS e1 e4 e5 e10 e8.1 (g := mkF K.m pc L.toArray S) rfl (hb e12.2.1 hd) hn hbig hc hl'
  obtain ⟨t, o, s1, s2⟩ := r a h' q2 T' ⟨_, _, k1, X', q1, q5, q6, q3, q4, e6, Ext.trans' e7 q2, e8.trans q13, e9.go q13, e10, fun q => absurd (hnar.symm.trans q) (by decide), e12⟩
  exact ⟨t, o, st _ s1, s2⟩
end More3
end Jvm.Own
/- laws to paste: Road.backV, Road.eqW, Road.codOf (cut by pick.py; bodies as the Statement names them) -/
namespace Jvm.Pilot.@@N@@
namespace StrChars
open Jvm Sem ClassFile Op Lib Jvm.Stand Jvm.Free.XT Jvm.Free.ALB Jvm.Free.JM Jvm.Free
open Jvm.Lib.Cold (StaticIs)
/-- a char array whose places are chars -/
def Ch (a : Addr) (A : Cell) (U : State) : Prop := Arr .char a A U ∧ Typed .char A
theorem Ch.mv {a : Addr} {A : Cell} {U U' : State} (h : Ch a A U) (hal : U.vm.Alike U'.vm) (hh : U'.heap = U.heap) : Ch a A U' := ⟨h.1.mv hal hh, h.2⟩
theorem Ch.keep {a : Addr} {A : Cell} {U U' : State} (h : Ch a A U) (hal : U.vm.Alike U'.vm) (hk : U'.heap[a]? = some A) : Ch a A U' := ⟨h.1.keep hal hk, h.2⟩
/-- what place i of a char[]'s cell holds -/
def cv (A : Cell) (i : Nat) : Int32 := match A.slots[i]? with | some (.int x) => x | _ => 0
theorem Ch.get {a : Addr} {A : Cell} {U : State} (h : Ch a A U) {i : Nat} (hi : i < A.slots.size) : A.slots[i]? = some (.int (cv A i)) := by
  have e := Array.getElem?_eq_getElem hi
  have f := h.2 i _ e
  unfold cv; rw [e]
  generalize A.slots[i] = v at f
  cases v <;> simp [fits] at f ⊢
/-- the byte that i2b leaves of a char -/
def lo8 (x : Int32) : Int32 := x.toInt8.toInt32
theorem fits_lo8 (y : Int32) : fits .byte (.int (lo8 y)) = true := by
  have h1 := y.toInt8.le_toInt
  have h2 := y.toInt8.toInt_lt
  simp only [lo8, fits, Bool.and_eq_true, decide_eq_true_eq, Int32.le_iff_toInt_le, Int8.toInt_toInt32, show (-128 : Int32).toInt = -128 from by decide, show (127 : Int32).toInt = 127 from by decide]
  omega
/-- A' is A but that each place j of lo .. hi - 1 holds f j -/
def Laid (A A' : Cell) (lo hi : Nat) (f : Nat → Value) : Prop := A'.cls = A.cls ∧ A'.vm = A.vm ∧ A'.slots.size = A.slots.size ∧ ∀ i, A'.slots[i]? = if lo ≤ i ∧ i < hi then some (f i) else A.slots[i]?
theorem Laid.zero (A : Cell) (lo : Nat) (f : Nat → Value) : Laid A A lo (lo + 0) f := ⟨rfl, rfl, rfl, fun i => by rw [if_neg (by omega)]⟩
theorem Laid.step {A Ak : Cell} {lo k : Nat} {f : Nat → Value} {v : Value} (h : Laid A Ak lo k f) (hlo : lo ≤ k) (hk : k < Ak.slots.size) (hv : v = f k) : Laid A (Ak.setSlot k v) lo (k + 1) f := by
  refine ⟨h.1, h.2.1, by simpa [Cell.setSlot] using h.2.2.1, fun i => ?_⟩
  by_cases e : k = i
  · subst e; rw [Cell.slots_setSlot_self v hk, if_pos (by omega), hv]
  · rw [Cell.slots_setSlot_ne v e, h.2.2.2 i]
    by_cases q : lo ≤ i ∧ i < k
    · rw [if_pos q, if_pos (by omega)]
    · rw [if_neg q, if_neg (by omega)]
def U16 : String := "java/lang/StringUTF16"
namespace Cmp5
def yN : MethodName := ⟨"java/lang/StringUTF16", "compress", "([CI[BII)I"⟩
abbrev yB : ByteArray := jdk_52_method_21_code
theorem d0 : decode yB 0 = .ok (.iconst 0, 1) := by decide +kernel
theorem d1 : decode yB 1 = .ok (.istore 5, 2) := by decide +kernel
theorem d3 : decode yB 3 = .ok (.iload 5, 2) := by decide +kernel
theorem d5 : decode yB 5 = .ok (.iload 4, 2) := by decide +kernel
theorem d7 : decode yB 7 = .ok (.if_icmp (.ge) 37, 3) := by decide +kernel
theorem d10 : decode yB 10 = .ok (.aload_n 0, 1) := by decide +kernel
theorem d11 : decode yB 11 = .ok (.iload_n 1, 1) := by decide +kernel
theorem d12 : decode yB 12 = .ok (.caload, 1) := by decide +kernel
theorem d13 : decode yB 13 = .ok (.istore 6, 2) := by decide +kernel
theorem d15 : decode yB 15 = .ok (.iload 6, 2) := by decide +kernel
theorem d17 : decode yB 17 = .ok (.sipush 255, 3) := by decide +kernel
theorem d20 : decode yB 20 = .ok (.if_icmp (.le) 6, 3) := by decide +kernel
theorem d26 : decode yB 26 = .ok (.aload_n 2, 1) := by decide +kernel
theorem d27 : decode yB 27 = .ok (.iload_n 3, 1) := by decide +kernel
theorem d28 : decode yB 28 = .ok (.iload 6, 2) := by decide +kernel
theorem d30 : decode yB 30 = .ok (.i2b, 1) := by decide +kernel
theorem d31 : decode yB 31 = .ok (.bastore, 1) := by decide +kernel
theorem d32 : decode yB 32 = .ok (.iinc 1 1, 3) := by decide +kernel
theorem d35 : decode yB 35 = .ok (.iinc 3 1, 3) := by decide +kernel
theorem d38 : decode yB 38 = .ok (.iinc 5 1, 3) := by decide +kernel
theorem d41 : decode yB 41 = .ok (.goto (-38), 3) := by decide +kernel
theorem d44 : decode yB 44 = .ok (.iload 4, 2) := by decide +kernel
theorem d46 : decode yB 46 = .ok (.ireturn, 1) := by decide +kernel
def site : List Cond := []
def tab : Cond := tabOf yN yB 7 (some .int) site
def P (b : Addr) (A : Cell) (d : Addr) (B : Cell) (o q len : Nat) (args : Array Value) (s : State) : Prop := args = #[.ref b, .int (Int32.ofNat o), .ref d, .int (Int32.ofNat q), .int (Int32.ofNat len)] ∧ Ch b A s ∧ Arr .byte d B s ∧ b ≠ d ∧ o + len ≤ A.slots.size ∧ q + len ≤ B.slots.size ∧ ∀ i, i < len → ¬ 255 < cv A (o + i)
def E (b : Addr) (A : Cell) (d : Addr) (B : Cell) (o q len : Nat) (r : Option Value) (s u : State) : Prop := r = some (.int (Int32.ofNat len)) ∧ ∃ B', Put d B' s u ∧ Laid B B' q (q + len) (fun j => Value.int (lo8 (cv A (o + (j - q)))))
/-- no char of the range above 255: len; the places written hold each char's low byte -/
theorem law (l : Launch) (b : Addr) (A : Cell) (d : Addr) (B : Cell) (o q len : Nat) : Law l yN 5 5 0 0 yB 7 (some .int) site (P b A d B o q len) (E b A d B o q len) (copyLocs d q len) 0 0 := by
  refine Law.of_walk (plainFor_of_name (by decide +kernel)) (by decide +kernel) (by decide +kernel) (by decide) (fun _ _ h => by rw [h.1]; rfl) (fun _ U U' hal hh h => ⟨h.1, h.2.1.mv hal hh, h.2.2.1.mv hal hh, h.2.2.2⟩) (fun r U U' V V' h1 hal h2 h => ⟨h.1, h.2.elim fun B' q => ⟨B', q.1.mv h1 h2, q.2⟩⟩) ?_
  intro p e s m args below meth c s₁ X0 hexec hbytes hml hret hlk hnm hown hh0 W hP
  obtain ⟨rfl, hA, hB, hne, l1, l2, hp⟩ := hP
  have c1 : Steps p.tables e below (s₁.setTop (entryFrame m #[.ref b, .int (Int32.ofNat o), .ref d, .int (Int32.ofNat q), .int (Int32.ofNat len)] 7)) (s₁.setTop (mkF m 0 #[.val (.ref b), .val (.int (Int32.ofNat o)), .val (.ref d), .val (.int (Int32.ofNat q)), .val (.int (Int32.ofNat len)), .unset, .unset] [])) := entry rfl
  have hA0 := hA.1.mv X0.warmed.alike hh0
  have hB0 := hB.mv X0.warmed.alike hh0
  have a31 := hA.1.2.2.2
  have c2 : Steps p.tables e below (s₁.setTop (entryFrame m #[.ref b, .int (Int32.ofNat o), .ref d, .int (Int32.ofNat q), .int (Int32.ofNat len)] 7)) (s₁.setTop (mkF m 3 #[.val (.ref b), .val (.int (Int32.ofNat o)), .val (.ref d), .val (.int (Int32.ofNat q)), .val (.int (Int32.ofNat len)), .val (.int 0), .unset] [])) := c1.trans (by
    refine iconstV X0.here hexec rfl 0 (hb hbytes d0) (by decide) ?_
    refine XS.istore X0.here hexec rfl (hb hbytes d1) rfl rfl ?_
    exact Steps.refl _)
  have loop : ∀ (r i : Nat), i + r = len → ∀ (z : Slot), (z = .unset ∨ ∃ w, z = .val w ∧ w.category = 1) → ∀ (Tl : State) (Bk : Cell), Stand p l e { frames := 0, locals := 0, cells := 0, slots := 0 } s m #[.ref b, .int (Int32.ofNat o), .ref d, .int (Int32.ofNat q), .int (Int32.ofNat len)] below meth c Tl ([] ++ copyLocs d q i) 0 0 → Put d Bk s₁ Tl → Laid B Bk q (q + i) (fun j => Value.int (lo8 (cv A (o + (j - q))))) →
      Steps p.tables e below (s₁.setTop (entryFrame m #[.ref b, .int (Int32.ofNat o), .ref d, .int (Int32.ofNat q), .int (Int32.ofNat len)] 7)) (Tl.setTop (mkF m 3 #[.val (.ref b), .val (.int (Int32.ofNat (o + i))), .val (.ref d), .val (.int (Int32.ofNat (q + i))), .val (.int (Int32.ofNat len)), .val (.int (Int32.ofNat i)), z] [])) → ∃ (T' : State) (B' : Cell) (z' : Slot), Stand p l e { frames := 0, locals := 0, cells := 0, slots := 0 } s m #[.ref b, .int (Int32.ofNat o), .ref d, .int (Int32.ofNat q), .int (Int32.ofNat len)] below meth c T' ([] ++ copyLocs d q len) 0 0 ∧ Put d B' s₁ T' ∧ Laid B B' q (q + len) (fun j => Value.int (lo8 (cv A (o + (j - q))))) ∧
      Steps p.tables e below (s₁.setTop (entryFrame m #[.ref b, .int (Int32.ofNat o), .ref d, .int (Int32.ofNat q), .int (Int32.ofNat len)] 7)) (T'.setTop (mkF m 3 #[.val (.ref b), .val (.int (Int32.ofNat (o + len))), .val (.ref d), .val (.int (Int32.ofNat (q + len))), .val (.int (Int32.ofNat len)), .val (.int (Int32.ofNat len)), z'] [])) := by
    intro r
    induction r with
    | zero =>
      intro i hi z hz Tl Bk Xl pl fl cl
      have hil : i = len := by omega
      rw [hil] at Xl fl cl
      exact ⟨Tl, Bk, z, Xl, pl, fl, cl⟩
    | succ r ih =>
      intro i hi z hz Tl Bk Xl pl fl cl
      have all := X0.warmed.alike.symm.trans Xl.warmed.alike
      have hAl := hA0.keep all (pl.other hne hA0.1)
      have hBk := hB0.like all pl.1 fl.1 fl.2.1 fl.2.2.1
      have hlt : q + i < Bk.slots.size := by rw [fl.2.2.1]; omega
      have c3 : Steps p.tables e below (s₁.setTop (entryFrame m #[.ref b, .int (Int32.ofNat o), .ref d, .int (Int32.ofNat q), .int (Int32.ofNat len)] 7)) (Tl.setTop (mkF m 12 #[.val (.ref b), .val (.int (Int32.ofNat (o + i))), .val (.ref d), .val (.int (Int32.ofNat (q + i))), .val (.int (Int32.ofNat len)), .val (.int (Int32.ofNat i)), z] [.int (Int32.ofNat (o + i)), .ref b])) := cl.trans (by
        refine XS.iload Xl.here hexec rfl (hb hbytes d3) rfl ?_
        refine XS.iload Xl.here hexec rfl (hb hbytes d5) rfl ?_
        refine XS.icmpNo Xl.here hexec rfl (hb hbytes d7) rfl (ii_ge_f (lt32 (by omega) (by omega))) ?_
        refine XS.aloadN Xl.here hexec rfl (hb hbytes d10) rfl rfl ?_
        refine XS.iloadN Xl.here hexec rfl (hb hbytes d11) rfl ?_
        exact Steps.refl _)
      have c4 : Steps p.tables e below (s₁.setTop (entryFrame m #[.ref b, .int (Int32.ofNat o), .ref d, .int (Int32.ofNat q), .int (Int32.ofNat len)] 7)) (Tl.setTop (mkF m 13 #[.val (.ref b), .val (.int (Int32.ofNat (o + i))), .val (.ref d), .val (.int (Int32.ofNat (q + i))), .val (.int (Int32.ofNat len)), .val (.int (Int32.ofNat i)), z] [.int (cv A (o + i))])) := c3.trans (by
        refine Xl.aget hexec hAl rfl (hA.get (i := o + i) (by omega)) rfl rfl (hb hbytes d12) ?_
        exact Steps.refl _)
      have c5 : Steps p.tables e below (s₁.setTop (entryFrame m #[.ref b, .int (Int32.ofNat o), .ref d, .int (Int32.ofNat q), .int (Int32.ofNat len)] 7)) (Tl.setTop (mkF m 15 #[.val (.ref b), .val (.int (Int32.ofNat (o + i))), .val (.ref d), .val (.int (Int32.ofNat (q + i))), .val (.int (Int32.ofNat len)), .val (.int (Int32.ofNat i)), .val (.int (cv A (o + i)))] [])) := c4.trans (by
        refine XS.istoreS Xl.here hexec rfl (hb hbytes d13) rfl rfl hz ?_
        exact Steps.refl _)
      have c6 : Steps p.tables e below (s₁.setTop (entryFrame m #[.ref b, .int (Int32.ofNat o), .ref d, .int (Int32.ofNat q), .int (Int32.ofNat len)] 7)) (Tl.setTop (mkF m 31 #[.val (.ref b), .val (.int (Int32.ofNat (o + i))), .val (.ref d), .val (.int (Int32.ofNat (q + i))), .val (.int (Int32.ofNat len)), .val (.int (Int32.ofNat i)), .val (.int (cv A (o + i)))] [.int (lo8 (cv A (o + i))), .int (Int32.ofNat (q + i)), .ref d])) := c5.trans (by
        refine XS.iload Xl.here hexec rfl (hb hbytes d15) rfl ?_
        refine sipushV Xl.here hexec rfl 255 (hb hbytes d17) (by decide) ?_
        refine XS.icmpYes Xl.here hexec rfl (pc0 := 20) rfl (hb hbytes d20) rfl (ii_le_t (hp i (by omega))) (by decide) rfl ?_
        refine XS.aloadN Xl.here hexec rfl (hb hbytes d26) rfl rfl ?_
        refine XS.iloadN Xl.here hexec rfl (hb hbytes d27) rfl ?_
        refine XS.iload Xl.here hexec rfl (hb hbytes d28) rfl ?_
        refine i2b Xl.here hexec rfl (hb hbytes d30) rfl ?_
        exact Steps.refl _)
      obtain ⟨T7, X7, p7, st7⟩ := Xl.aput hexec hBk rfl hlt rfl (fits_lo8 (cv A (o + i))) (g := (mkF m 31 #[.val (.ref b), .val (.int (Int32.ofNat (o + i))), .val (.ref d), .val (.int (Int32.ofNat (q + i))), .val (.int (Int32.ofNat len)), .val (.int (Int32.ofNat i)), .val (.int (cv A (o + i)))] [.int (lo8 (cv A (o + i))), .int (Int32.ofNat (q + i)), .ref d])) rfl (rest := []) rfl (hb hbytes d31)
      have c8 : Steps p.tables e below (s₁.setTop (entryFrame m #[.ref b, .int (Int32.ofNat o), .ref d, .int (Int32.ofNat q), .int (Int32.ofNat len)] 7)) (T7.setTop (mkF m 32 #[.val (.ref b), .val (.int (Int32.ofNat (o + i))), .val (.ref d), .val (.int (Int32.ofNat (q + i))), .val (.int (Int32.ofNat len)), .val (.int (Int32.ofNat i)), .val (.int (cv A (o + i)))] [])) := c6.trans (st7 _ (Steps.refl _))
      have c9 : Steps p.tables e below (s₁.setTop (entryFrame m #[.ref b, .int (Int32.ofNat o), .ref d, .int (Int32.ofNat q), .int (Int32.ofNat len)] 7)) (T7.setTop (mkF m 3 #[.val (.ref b), .val (.int (Int32.ofNat (o + i) + 1)), .val (.ref d), .val (.int (Int32.ofNat (q + i) + 1)), .val (.int (Int32.ofNat len)), .val (.int (Int32.ofNat i + 1)), .val (.int (cv A (o + i)))] [])) := c8.trans (by
        refine iincV X7.here hexec rfl 1 (hb hbytes d32) (by decide) rfl rfl ?_
        refine iincV X7.here hexec rfl 1 (hb hbytes d35) (by decide) rfl rfl ?_
        refine iincV X7.here hexec rfl 1 (hb hbytes d38) (by decide) rfl rfl ?_
        refine XS.goto X7.here hexec rfl (pc0 := 41) rfl (hb hbytes d41) (by decide) rfl ?_
        exact Steps.refl _)
      have c10 : Steps p.tables e below (s₁.setTop (entryFrame m #[.ref b, .int (Int32.ofNat o), .ref d, .int (Int32.ofNat q), .int (Int32.ofNat len)] 7)) (T7.setTop (mkF m 3 #[.val (.ref b), .val (.int (Int32.ofNat (o + (i + 1)))), .val (.ref d), .val (.int (Int32.ofNat (q + (i + 1)))), .val (.int (Int32.ofNat len)), .val (.int (Int32.ofNat (i + 1))), .val (.int (cv A (o + i)))] [])) := by
        have := c9
        rw [succ32, succ32, succ32] at this
        exact this
      exact ih (i + 1) (by omega) _ (Or.inr ⟨_, rfl, rfl⟩) T7 _ (by rw [copyLocs_step, ← List.append_assoc]; exact X7) (pl.trans p7) (fl.step (by omega) hlt (by simp)) c10
  obtain ⟨T9, B9, z9, X9, p9, f9, g9⟩ := loop len 0 (by omega) .unset (Or.inl rfl) s₁ B (by simpa [copyLocs] using X0) ⟨hB0.1, fun _ _ => rfl, rfl⟩ (Laid.zero _ _ _) c2
  have c11 : Steps p.tables e below (s₁.setTop (entryFrame m #[.ref b, .int (Int32.ofNat o), .ref d, .int (Int32.ofNat q), .int (Int32.ofNat len)] 7)) (T9.setTop (mkF m 46 #[.val (.ref b), .val (.int (Int32.ofNat (o + len))), .val (.ref d), .val (.int (Int32.ofNat (q + len))), .val (.int (Int32.ofNat len)), .val (.int (Int32.ofNat len)), z9] [.int (Int32.ofNat len)])) := g9.trans (by
    refine XS.iload X9.here hexec rfl (hb hbytes d3) rfl ?_
    refine XS.iload X9.here hexec rfl (hb hbytes d5) rfl ?_
    refine XS.icmpYes X9.here hexec rfl (pc0 := 7) rfl (hb hbytes d7) rfl (ii_ge_t (nlt32 (by omega) (Nat.le_refl _))) (by decide) rfl ?_
    refine XS.iload X9.here hexec rfl (hb hbytes d44) rfl ?_
    exact Steps.refl _)
  exact ⟨T9, some (.int (Int32.ofNat len)), _, _, _, X9, by simp, rfl, rfl, (fun h => by cases h), ⟨rfl, B9, p9.from hh0, f9⟩, fun fs hl => c11.trans (X9.ireturnOut hexec hret rfl (Or.inl rfl) (hb hbytes d46) hl)⟩
end Cmp5
namespace Cmp3
def yN : MethodName := ⟨"java/lang/StringUTF16", "compress", "([CII)[B"⟩
abbrev yB : ByteArray := jdk_52_method_16_code
theorem d0 : decode yB 0 = .ok (.iload_n 2, 1) := by decide +kernel
theorem d1 : decode yB 1 = .ok (.newarray .byte, 2) := by decide +kernel
theorem d3 : decode yB 3 = .ok (.astore_n 3, 1) := by decide +kernel
theorem d4 : decode yB 4 = .ok (.aload_n 0, 1) := by decide +kernel
theorem d5 : decode yB 5 = .ok (.iload_n 1, 1) := by decide +kernel
theorem d6 : decode yB 6 = .ok (.aload_n 3, 1) := by decide +kernel
theorem d7 : decode yB 7 = .ok (.iconst 0, 1) := by decide +kernel
theorem d8 : decode yB 8 = .ok (.iload_n 2, 1) := by decide +kernel
theorem d9 : decode yB 9 = .ok (.invokestatic 115, 3) := by decide +kernel
theorem d12 : decode yB 12 = .ok (.istore 4, 2) := by decide +kernel
theorem d14 : decode yB 14 = .ok (.iload 4, 2) := by decide +kernel
theorem d16 : decode yB 16 = .ok (.iload_n 2, 1) := by decide +kernel
theorem d17 : decode yB 17 = .ok (.if_icmp (.eq) 40, 3) := by decide +kernel
theorem d57 : decode yB 57 = .ok (.aload_n 3, 1) := by decide +kernel
theorem d58 : decode yB 58 = .ok (.areturn, 1) := by decide +kernel
def site : List Cond := [.arrayClass .byte, Cmp5.tab] ++ staticW U16 115 Cmp5.yN
def tab : Cond := tabOf yN yB 6 (some (.array .byte)) site
def P (b : Addr) (A : Cell) (o len : Nat) (args : Array Value) (s : State) : Prop := args = #[.ref b, .int (Int32.ofNat o), .int (Int32.ofNat len)] ∧ Ch b A s ∧ o + len ≤ A.slots.size ∧ len ≤ 536870912 ∧ ∀ i, i < len → ¬ 255 < cv A (o + i)
def E (b : Addr) (A : Cell) (o len : Nat) (r : Option Value) (s u : State) : Prop := NewArr .byte "[B" len (fun j => .int (lo8 (cv A (o + j)))) r s u ∧ u.heap.size = s.heap.size + 1
/-- no char of the range above 255: a new byte[] of their low bytes -/
theorem law (l : Launch) (b : Addr) (A : Cell) (o len : Nat) : Law l yN 3 3 1 18 yB 6 (some (.array .byte)) site (P b A o len) (E b A o len) [] 1 len := by
  refine Law.of_walk (plainFor_of_name (by decide +kernel)) (by decide +kernel) (by decide +kernel) (by decide) (fun _ _ h => by rw [h.1]; rfl) (fun _ U U' hal hh h => ⟨h.1, h.2.1.mv hal hh, h.2.2⟩) (fun r U U' V V' h1 hal h2 h => ⟨NewArr.mv r U U' V V' h1 hal h2 h.1, by rw [h1, h2]; exact h.2⟩) ?_
  intro p e s m args below meth c s₁ X0 hexec hbytes hml hret hlk hnm hown hh0 W hP
  obtain ⟨rfl, hA, l1, l2, hp⟩ := hP
  have a31 := hA.1.2.2.2
  have c1 : Steps p.tables e below (s₁.setTop (entryFrame m #[.ref b, .int (Int32.ofNat o), .int (Int32.ofNat len)] 6)) (s₁.setTop (mkF m 0 #[.val (.ref b), .val (.int (Int32.ofNat o)), .val (.int (Int32.ofNat len)), .unset, .unset, .unset] [])) := entry rfl
  have c2 : Steps p.tables e below (s₁.setTop (entryFrame m #[.ref b, .int (Int32.ofNat o), .int (Int32.ofNat len)] 6)) (s₁.setTop (mkF m 1 #[.val (.ref b), .val (.int (Int32.ofNat o)), .val (.int (Int32.ofNat len)), .unset, .unset, .unset] [.int (Int32.ofNat len)])) := c1.trans (by
    refine XS.iloadN X0.here hexec rfl (hb hbytes d0) rfl ?_
    exact Steps.refl _)
  obtain ⟨T3, B3, X3, ba3, bs3, bv3, bh3, bf3, st3⟩ := X0.anew hexec (atype := .byte) (wk W (.arrayClass .byte)) rfl (by show len * 1 ≤ _; omega) (by omega) (g := (mkF m 1 #[.val (.ref b), .val (.int (Int32.ofNat o)), .val (.int (Int32.ofNat len)), .unset, .unset, .unset] [.int (Int32.ofNat len)])) rfl (hb hbytes d1) (rest := []) rfl (Nat.le_refl _) (by show 0 + len ≤ len; omega)
  rw [hh0] at ba3 st3
  have kp3 : XT.Kept s T3 := (XT.Kept.of_eq hh0).push bh3
  have hA3 := hA.keep X3.warmed.alike (kp3 _ _ hA.1.1)
  have hne : b ≠ s.heap.size := hA.1.ne
  have c4 : Steps p.tables e below (s₁.setTop (entryFrame m #[.ref b, .int (Int32.ofNat o), .int (Int32.ofNat len)] 6)) (T3.setTop (mkF m 3 #[.val (.ref b), .val (.int (Int32.ofNat o)), .val (.int (Int32.ofNat len)), .unset, .unset, .unset] [.ref s.heap.size])) := c2.trans (st3 _ (Steps.refl _))
  have c5 : Steps p.tables e below (s₁.setTop (entryFrame m #[.ref b, .int (Int32.ofNat o), .int (Int32.ofNat len)] 6)) (T3.setTop (mkF m 9 #[.val (.ref b), .val (.int (Int32.ofNat o)), .val (.int (Int32.ofNat len)), .val (.ref s.heap.size), .unset, .unset] [.int (Int32.ofNat len), .int 0, .ref s.heap.size, .int (Int32.ofNat o), .ref b])) := c4.trans (by
    refine XS.astoreN X3.here hexec rfl (hb hbytes d3) rfl rfl rfl ?_
    refine XS.aloadN X3.here hexec rfl (hb hbytes d4) rfl rfl ?_
    refine XS.iloadN X3.here hexec rfl (hb hbytes d5) rfl ?_
    refine XS.aloadN X3.here hexec rfl (hb hbytes d6) rfl rfl ?_
    refine iconstV X3.here hexec rfl 0 (hb hbytes d7) (by decide) ?_
    refine XS.iloadN X3.here hexec rfl (hb hbytes d8) rfl ?_
    exact Steps.refl _)
  obtain ⟨v6, T6, X6, E6, g6⟩ := X3.callS hexec (Cmp5.law l b A s.heap.size B3 o 0 len) hown (wks W (staticW U16 115 Cmp5.yN)) (wk W Cmp5.tab) (W := 0) (Nat.le_of_ble_eq_true rfl) (Nat.le_of_ble_eq_true rfl) (Nat.le_refl _) (by show 0 + len + 0 ≤ len; omega) (g := (mkF m 9 #[.val (.ref b), .val (.int (Int32.ofNat o)), .val (.int (Int32.ofNat len)), .val (.ref s.heap.size), .unset, .unset] [.int (Int32.ofNat len), .int (Int32.ofNat 0), .ref s.heap.size, .int (Int32.ofNat o), .ref b])) rfl (by rw [hml]; rfl) c5 (argsL := [.ref b, .int (Int32.ofNat o), .ref s.heap.size, .int (Int32.ofNat 0), .int (Int32.ofNat len)]) (rest := []) rfl rfl (by show 2 * 0 + 0 ≤ _; decide) (hb hbytes d9) (⟨rfl, hA3, ba3, hne, l1, by rw [bs3]; simp, hp⟩)
  obtain ⟨rfl, B6, p6, f6⟩ := E6
  have c7 : Steps p.tables e below (s₁.setTop (entryFrame m #[.ref b, .int (Int32.ofNat o), .int (Int32.ofNat len)] 6)) (T6.setTop (mkF m 12 #[.val (.ref b), .val (.int (Int32.ofNat o)), .val (.int (Int32.ofNat len)), .val (.ref s.heap.size), .unset, .unset] [.int (Int32.ofNat len)])) := g6
  have c8 : Steps p.tables e below (s₁.setTop (entryFrame m #[.ref b, .int (Int32.ofNat o), .int (Int32.ofNat len)] 6)) (T6.setTop (mkF m 58 #[.val (.ref b), .val (.int (Int32.ofNat o)), .val (.int (Int32.ofNat len)), .val (.ref s.heap.size), .val (.int (Int32.ofNat len)), .unset] [.ref s.heap.size])) := c7.trans (by
    refine XS.istore X6.here hexec rfl (hb hbytes d12) rfl rfl ?_
    refine XS.iload X6.here hexec rfl (hb hbytes d14) rfl ?_
    refine XS.iloadN X6.here hexec rfl (hb hbytes d16) rfl ?_
    refine XS.icmpYes X6.here hexec rfl (pc0 := 17) rfl (hb hbytes d17) rfl (ii_eq_t rfl) (by decide) rfl ?_
    refine XS.aloadN X6.here hexec rfl (hb hbytes d57) rfl rfl ?_
    exact Steps.refl _)
  have X8 := X6.wide (L' := []) (cells' := 1) (slots' := len) (fun x hx hlt => by
    simp only [List.nil_append, copyLocs, List.mem_map, List.mem_range] at hx
    obtain ⟨i, -, rfl⟩ := hx
    exact absurd hlt (Nat.lt_irrefl _)) (Nat.le_refl _) (by omega)
  exact ⟨T6, some (.ref s.heap.size), _, _, _, X8, rfl, rfl, rfl, (fun h => by cases h), ⟨⟨rfl, B6, ba3.like (X3.warmed.alike.symm.trans X6.warmed.alike) p6.1 f6.1 f6.2.1 f6.2.2.1, f6.2.1.trans bv3, by rw [X6.warmed.alike.findClass, f6.1]; exact bf3, by rw [f6.2.2.1, bs3]; simp, fun j hj => by rw [f6.2.2.2 j, if_pos (by omega)]; rfl, kp3.put p6 (Nat.le_refl _)⟩, by rw [p6.2.2, bh3, hh0]; simp⟩, fun fs hl => c8.trans (X8.areturnOut hexec rfl hret rfl (hb hbytes d58) hl)⟩
end Cmp3
namespace CodL
def yN : MethodName := ⟨"java/lang/StringUTF16", "coderFromArrayLen", "([BI)B"⟩
abbrev yB : ByteArray := jdk_52_method_15_code
theorem d0 : decode yB 0 = .ok (.iload_n 1, 1) := by decide +kernel
theorem d1 : decode yB 1 = .ok (.aload_n 0, 1) := by decide +kernel
theorem d2 : decode yB 2 = .ok (.arraylength, 1) := by decide +kernel
theorem d3 : decode yB 3 = .ok (.isub, 1) := by decide +kernel
theorem d4 : decode yB 4 = .ok (.bipush 31, 2) := by decide +kernel
theorem d6 : decode yB 6 = .ok (.iushr, 1) := by decide +kernel
theorem d7 : decode yB 7 = .ok (.i2b, 1) := by decide +kernel
theorem d8 : decode yB 8 = .ok (.ireturn, 1) := by decide +kernel
def site : List Cond := []
def tab : Cond := tabOf yN yB 2 (some .byte) site
def P (d : Addr) (B : Cell) (args : Array Value) (s : State) : Prop := args = #[.ref d, .int (Int32.ofNat B.slots.size)] ∧ Arr .byte d B s
def E (r : Option Value) (s u : State) : Prop := XT.PureE (some (.int 0)) r s u
/-- an array as long as the number of chars: LATIN1 -/
theorem law (l : Launch) (d : Addr) (B : Cell) : Law l yN 2 2 0 0 yB 2 (some .byte) site (P d B) E [] 0 0 := by
  refine Law.of_walk (plainFor_of_name (by decide +kernel)) (by decide +kernel) (by decide +kernel) (by decide) (fun _ _ h => by rw [h.1]; rfl) (fun _ U U' hal hh h => ⟨h.1, h.2.mv hal hh⟩) (fun r U U' V V' h1 hal h2 h => XT.PureE.mv r U U' V V' h1 hal h2 h) ?_
  intro p e s m args below meth c s₁ X0 hexec hbytes hml hret hlk hnm hown hh0 W hP
  obtain ⟨rfl, hB⟩ := hP
  have hB0 := hB.mv X0.warmed.alike hh0
  have c1 : Steps p.tables e below (s₁.setTop (entryFrame m #[.ref d, .int (Int32.ofNat B.slots.size)] 2)) (s₁.setTop (mkF m 0 #[.val (.ref d), .val (.int (Int32.ofNat B.slots.size))] [])) := entry rfl
  have c2 : Steps p.tables e below (s₁.setTop (entryFrame m #[.ref d, .int (Int32.ofNat B.slots.size)] 2)) (s₁.setTop (mkF m 2 #[.val (.ref d), .val (.int (Int32.ofNat B.slots.size))] [.ref d, .int (Int32.ofNat B.slots.size)])) := c1.trans (by
    refine XS.iloadN X0.here hexec rfl (hb hbytes d0) rfl ?_
    refine XS.aloadN X0.here hexec rfl (hb hbytes d1) rfl rfl ?_
    exact Steps.refl _)
  have c3 : Steps p.tables e below (s₁.setTop (entryFrame m #[.ref d, .int (Int32.ofNat B.slots.size)] 2)) (s₁.setTop (mkF m 8 #[.val (.ref d), .val (.int (Int32.ofNat B.slots.size))] [.int (lo8 (ushr (Int32.ofNat B.slots.size - Int32.ofNat B.slots.size) 31))])) := c2.trans (by
    refine X0.alen hexec hB0 rfl rfl (hb hbytes d2) ?_
    refine XS.isub X0.here hexec rfl (hb hbytes d3) rfl ?_
    refine bipushV X0.here hexec rfl 31 (hb hbytes d4) (by decide) ?_
    refine iushr X0.here hexec rfl (hb hbytes d6) rfl ?_
    refine i2b X0.here hexec rfl (hb hbytes d7) rfl ?_
    exact Steps.refl _)
  have e0 : lo8 (ushr (Int32.ofNat B.slots.size - Int32.ofNat B.slots.size) 31) = 0 := by rw [Int32.sub_self]; decide
  rw [e0] at c3
  exact ⟨s₁, some (.int 0), _, _, _, X0, rfl, rfl, rfl, (fun h => by cases h), ⟨rfl, hh0⟩, fun fs hl => c3.trans (X0.ireturnOut hexec hret rfl (Or.inr (Or.inr (Or.inl rfl))) (hb hbytes d8) hl)⟩
end CodL
/-- the String at a is Latin-1 over a new byte[] (the heap's one new cell): the low bytes of the len chars of A from o on; every cell but a is kept -/
def Got (a : Addr) (D : Cell) (fV fC : Field) (A : Cell) (o len : Nat) (r : Option Value) (s u : State) : Prop := r = none ∧ ∃ D' V : Cell, Blank "java/lang/String" a D' u ∧ Same D D' [fV.slot, fC.slot] ∧ D'.slots[fV.slot]? = some (.ref s.heap.size) ∧ D'.slots[fC.slot]? = some (.int 0) ∧ Arr .byte s.heap.size V u ∧ V.vm = .none ∧ u.vm.findClass "[B" = some V.cls ∧ V.slots.size = len ∧ (∀ j, j < len → V.slots[j]? = some (.int (lo8 (cv A (o + j))))) ∧ (∀ (y : Addr) (c : Cell), y ≠ a → s.heap[y]? = some c → u.heap[y]? = some c) ∧ u.heap.size = s.heap.size + 1
theorem Got.mv {a : Addr} {D A : Cell} {fV fC : Field} {o len : Nat} : ∀ r (U U' V V' : State), U'.heap = U.heap → V.vm.Alike V'.vm → V'.heap = V.heap → Got a D fV fC A o len r U V → Got a D fV fC A o len r U' V' :=
  fun r U U' V V' h1 hal h2 ⟨e0, D', X, a1, a2, a3, a4, a5, a6, a7, a8, a9, a10, a11⟩ => ⟨e0, D', X, a1.mv hal h2, a2, by rw [h1]; exact a3, a4, by rw [h1]; exact a5.mv hal h2, a6, by rw [hal.findClass]; exact a7, a8, a9, by rw [h1, h2]; exact a10, by rw [h1, h2]; exact a11⟩
namespace New4
def yN : MethodName := ⟨"java/lang/String", "<init>", "([CIILjava/lang/Void;)V"⟩
abbrev yB : ByteArray := jdk_42_method_149_code
theorem d0 : decode yB 0 = .ok (.aload_n 0, 1) := by decide +kernel
theorem d1 : decode yB 1 = .ok (.invokespecial 1, 3) := by decide +kernel
theorem d4 : decode yB 4 = .ok (.iload_n 3, 1) := by decide +kernel
theorem d5 : decode yB 5 = .ok (.ifCond (.ne) 22, 3) := by decide +kernel
theorem d27 : decode yB 27 = .ok (.getstatic 38, 3) := by decide +kernel
theorem d30 : decode yB 30 = .ok (.ifCond (.eq) 28, 3) := by decide +kernel
theorem d33 : decode yB 33 = .ok (.aload_n 1, 1) := by decide +kernel
theorem d34 : decode yB 34 = .ok (.iload_n 2, 1) := by decide +kernel
theorem d35 : decode yB 35 = .ok (.iload_n 3, 1) := by decide +kernel
theorem d36 : decode yB 36 = .ok (.invokestatic 177, 3) := by decide +kernel
theorem d39 : decode yB 39 = .ok (.astore 5, 2) := by decide +kernel
theorem d41 : decode yB 41 = .ok (.aload_n 0, 1) := by decide +kernel
theorem d42 : decode yB 42 = .ok (.aload 5, 2) := by decide +kernel
theorem d44 : decode yB 44 = .ok (.iload_n 3, 1) := by decide +kernel
theorem d45 : decode yB 45 = .ok (.invokestatic 47, 3) := by decide +kernel
theorem d48 : decode yB 48 = .ok (.putfield 15, 3) := by decide +kernel
theorem d51 : decode yB 51 = .ok (.aload_n 0, 1) := by decide +kernel
theorem d52 : decode yB 52 = .ok (.aload 5, 2) := by decide +kernel
theorem d54 : decode yB 54 = .ok (.putfield 9, 3) := by decide +kernel
theorem d57 : decode yB 57 = .ok (.return_, 1) := by decide +kernel
def site : List Cond := [.fieldLink "java/lang/String" 38 "java/lang/String" "COMPACT_STRINGS" "Z", Cmp3.tab, CodL.tab, .laysFinal "java/lang/String" "java/lang/String" "value" "[B", .fieldLink "java/lang/String" 9 "java/lang/String" "value" "[B", .laysFinal "java/lang/String" "java/lang/String" "coder" "B", .fieldLink "java/lang/String" 15 "java/lang/String" "coder" "B"] ++ objW "java/lang/String" 1 ++ staticW "java/lang/String" 177 Cmp3.yN ++ staticW "java/lang/String" 47 CodL.yN
def tab : Cond := tabOf yN yB 6 none site
def P (a : Addr) (D : Cell) (fV fC : Field) (b : Addr) (A : Cell) (z : Int32) (o len : Nat) (args : Array Value) (s : State) : Prop := args = #[.ref a, .ref b, .int (Int32.ofNat o), .int (Int32.ofNat len), .null] ∧ Blank "java/lang/String" a D s ∧ Found "java/lang/String" "value" "[B" fV s ∧ Found "java/lang/String" "coder" "B" fC s ∧ Ch b A s ∧ StaticIs s "java/lang/String" "COMPACT_STRINGS" "Z" (.int z) ∧ ¬ z = 0 ∧ 0 < len ∧ o + len ≤ A.slots.size ∧ len ≤ 536870912 ∧ ∀ i, i < len → ¬ 255 < cv A (o + i)
def E (a : Addr) (D : Cell) (fV fC : Field) (A : Cell) (o len : Nat) (r : Option Value) (s u : State) : Prop := Got a D fV fC A o len r s u
/-- len > 0, no char of the range above 255: a Latin-1 String of their low bytes -/
theorem law (l : Launch) (a : Addr) (D : Cell) (fV fC : Field) (b : Addr) (A : Cell) (z : Int32) (o len : Nat) : Law l yN 5 4 2 35 yB 6 none site (P a D fV fC b A z o len) (E a D fV fC A o len) [⟨a, fC.slot⟩, ⟨a, fV.slot⟩] 1 len := by
  refine Law.of_walk (plainFor_of_name (by decide +kernel)) (by decide +kernel) (by decide +kernel) (by decide) (fun _ _ h => by rw [h.1]; rfl) (fun _ U U' hal hh h => ⟨h.1, h.2.1.mv hal hh, h.2.2.1.al hal, h.2.2.2.1.al hal, h.2.2.2.2.1.mv hal hh, h.2.2.2.2.2.1.there hal hh, h.2.2.2.2.2.2⟩) (fun r U U' V V' h1 hal h2 h => Got.mv r U U' V V' h1 hal h2 h) ?_
  intro p e s m args below meth c s₁ X0 hexec hbytes hml hret hlk hnm hown hh0 W hP
  obtain ⟨rfl, hB, f1, f2, hA, s1, hz, l0, l1, l2, hp⟩ := hP
  have a31 := hA.1.2.2.2
  have c1 : Steps p.tables e below (s₁.setTop (entryFrame m #[.ref a, .ref b, .int (Int32.ofNat o), .int (Int32.ofNat len), .null] 6)) (s₁.setTop (mkF m 0 #[.val (.ref a), .val (.ref b), .val (.int (Int32.ofNat o)), .val (.int (Int32.ofNat len)), .val .null, .unset] [])) := entry rfl
  have c2 : Steps p.tables e below (s₁.setTop (entryFrame m #[.ref a, .ref b, .int (Int32.ofNat o), .int (Int32.ofNat len), .null] 6)) (s₁.setTop (mkF m 1 #[.val (.ref a), .val (.ref b), .val (.int (Int32.ofNat o)), .val (.int (Int32.ofNat len)), .val .null, .unset] [.ref a])) := c1.trans (by
    refine XS.aloadN X0.here hexec rfl (hb hbytes d0) rfl rfl ?_
    exact Steps.refl _)
  obtain ⟨T3, X3, q3, st3⟩ := X0.oinit hexec hown (wks W (objW "java/lang/String" 1)) (g := (mkF m 1 #[.val (.ref a), .val (.ref b), .val (.int (Int32.ofNat o)), .val (.int (Int32.ofNat len)), .val .null, .unset] [.ref a])) rfl (by rw [hml]; rfl) (rest := []) rfl (hb hbytes d1) (W := 0) (by show 2 * 0 + 0 ≤ _; decide) (Nat.le_of_ble_eq_true rfl) (Nat.le_of_ble_eq_true rfl)
  have hh3 := q3.trans hh0
  have c4 : Steps p.tables e below (s₁.setTop (entryFrame m #[.ref a, .ref b, .int (Int32.ofNat o), .int (Int32.ofNat len), .null] 6)) (T3.setTop (mkF m 27 #[.val (.ref a), .val (.ref b), .val (.int (Int32.ofNat o)), .val (.int (Int32.ofNat len)), .val .null, .unset] [])) := (c2.trans (st3 _ (Steps.refl _))).trans (by
    refine XS.iloadN X3.here hexec rfl (hb hbytes d4) rfl ?_
    refine XS.ifYes X3.here hexec rfl (pc0 := 5) rfl (hb hbytes d5) rfl (i0_ne_t (nz32 (by omega) l0)) (by decide) rfl ?_
    exact Steps.refl _)
  obtain ⟨T5, X5, q5, st5⟩ := X3.sget hexec hown (wk W (.fieldLink "java/lang/String" 38 "java/lang/String" "COMPACT_STRINGS" "Z")) s1 (fun _ _ h => by rw [hh3]; exact h) (g := (mkF m 27 #[.val (.ref a), .val (.ref b), .val (.int (Int32.ofNat o)), .val (.int (Int32.ofNat len)), .val .null, .unset] [])) rfl (hb hbytes d27)
  have hh5 := q5.trans hh3
  have c6 : Steps p.tables e below (s₁.setTop (entryFrame m #[.ref a, .ref b, .int (Int32.ofNat o), .int (Int32.ofNat len), .null] 6)) (T5.setTop (mkF m 30 #[.val (.ref a), .val (.ref b), .val (.int (Int32.ofNat o)), .val (.int (Int32.ofNat len)), .val .null, .unset] [.int z])) := c4.trans (st5 _ (Steps.refl _))
  have c7 : Steps p.tables e below (s₁.setTop (entryFrame m #[.ref a, .ref b, .int (Int32.ofNat o), .int (Int32.ofNat len), .null] 6)) (T5.setTop (mkF m 36 #[.val (.ref a), .val (.ref b), .val (.int (Int32.ofNat o)), .val (.int (Int32.ofNat len)), .val .null, .unset] [.int (Int32.ofNat len), .int (Int32.ofNat o), .ref b])) := c6.trans (by
    refine XS.ifNo X5.here hexec rfl (hb hbytes d30) rfl (i0_eq_f hz) ?_
    refine XS.aloadN X5.here hexec rfl (hb hbytes d33) rfl rfl ?_
    refine XS.iloadN X5.here hexec rfl (hb hbytes d34) rfl ?_
    refine XS.iloadN X5.here hexec rfl (hb hbytes d35) rfl ?_
    exact Steps.refl _)
  obtain ⟨v8, T8, X8, E8, g8⟩ := X5.callS hexec (Cmp3.law l b A o len) hown (wks W (staticW "java/lang/String" 177 Cmp3.yN)) (wk W Cmp3.tab) (W := 0) (Nat.le_of_ble_eq_true rfl) (Nat.le_of_ble_eq_true rfl) (Nat.le_refl _) (by show 0 + len ≤ len; omega) (g := (mkF m 36 #[.val (.ref a), .val (.ref b), .val (.int (Int32.ofNat o)), .val (.int (Int32.ofNat len)), .val .null, .unset] [.int (Int32.ofNat len), .int (Int32.ofNat o), .ref b])) rfl (by rw [hml]; rfl) c7 (argsL := [.ref b, .int (Int32.ofNat o), .int (Int32.ofNat len)]) (rest := []) rfl rfl (by show 2 * 0 + 0 ≤ _; decide) (hb hbytes d36) (⟨rfl, hA.mv X5.warmed.alike hh5, l1, l2, hp⟩)
  obtain ⟨e8, z8⟩ := E8
  obtain ⟨rfl, N, n1, n2, n3, n4, n5, n6⟩ := NewArr.mv _ T5 s _ _ hh5.symm (Vm.Alike.refl _) rfl e8
  rw [hh5] at z8
  have hB1 := hB.keep X8.warmed.alike (n6 _ _ hB.1)
  have hne : s.heap.size ≠ a := (Nat.ne_of_lt (Array.getElem?_eq_some_iff.mp hB.1).1).symm
  have c9 : Steps p.tables e below (s₁.setTop (entryFrame m #[.ref a, .ref b, .int (Int32.ofNat o), .int (Int32.ofNat len), .null] 6)) (T8.setTop (mkF m 39 #[.val (.ref a), .val (.ref b), .val (.int (Int32.ofNat o)), .val (.int (Int32.ofNat len)), .val .null, .unset] [.ref s.heap.size])) := g8
  have c10 : Steps p.tables e below (s₁.setTop (entryFrame m #[.ref a, .ref b, .int (Int32.ofNat o), .int (Int32.ofNat len), .null] 6)) (T8.setTop (mkF m 45 #[.val (.ref a), .val (.ref b), .val (.int (Int32.ofNat o)), .val (.int (Int32.ofNat len)), .val .null, .val (.ref s.heap.size)] [.int (Int32.ofNat N.slots.size), .ref s.heap.size, .ref a])) := by
    have hc : Steps p.tables e below (s₁.setTop (entryFrame m #[.ref a, .ref b, .int (Int32.ofNat o), .int (Int32.ofNat len), .null] 6)) (T8.setTop (mkF m 45 #[.val (.ref a), .val (.ref b), .val (.int (Int32.ofNat o)), .val (.int (Int32.ofNat len)), .val .null, .val (.ref s.heap.size)] [.int (Int32.ofNat len), .ref s.heap.size, .ref a])) := c9.trans (by
      refine XS.astore X8.here hexec rfl (hb hbytes d39) rfl rfl rfl ?_
      refine XS.aloadN X8.here hexec rfl (hb hbytes d41) rfl rfl ?_
      refine XS.aload X8.here hexec rfl (hb hbytes d42) rfl rfl ?_
      refine XS.iloadN X8.here hexec rfl (hb hbytes d44) rfl ?_
      exact Steps.refl _)
    rw [n4]; exact hc
  obtain ⟨v11, T11, X11, E11, g11⟩ := X8.callS hexec (CodL.law l s.heap.size N) hown (wks W (staticW "java/lang/String" 47 CodL.yN)) (wk W CodL.tab) (W := 1) (Nat.le_of_ble_eq_true rfl) (Nat.le_of_ble_eq_true rfl) (Nat.le_refl _) (by show 0 + len + 0 ≤ len; omega) (g := (mkF m 45 #[.val (.ref a), .val (.ref b), .val (.int (Int32.ofNat o)), .val (.int (Int32.ofNat len)), .val .null, .val (.ref s.heap.size)] [.int (Int32.ofNat N.slots.size), .ref s.heap.size, .ref a])) rfl (by rw [hml]; rfl) c10 (argsL := [.ref s.heap.size, .int (Int32.ofNat N.slots.size)]) (rest := [.ref a]) rfl rfl (by show 2 * 0 + (1 + 0) ≤ _; decide) (hb hbytes d45) (⟨rfl, n1⟩)
  obtain ⟨rfl, q11⟩ := E11
  have hB11 := hB1.mv (X8.warmed.alike.symm.trans X11.warmed.alike) q11
  have c12 : Steps p.tables e below (s₁.setTop (entryFrame m #[.ref a, .ref b, .int (Int32.ofNat o), .int (Int32.ofNat len), .null] 6)) (T11.setTop (mkF m 48 #[.val (.ref a), .val (.ref b), .val (.int (Int32.ofNat o)), .val (.int (Int32.ofNat len)), .val .null, .val (.ref s.heap.size)] [.int 0, .ref a])) := g11
  obtain ⟨T13, X13, p13, bl13, sl13, st13⟩ := X11.finit hexec hown (wk W (.fieldLink "java/lang/String" 15 "java/lang/String" "coder" "B")) (Or.inr ⟨_, (wk W (.laysFinal "java/lang/String" "java/lang/String" "coder" "B"))⟩) (Or.inl ⟨rfl, hnm⟩) f2 (Or.inl rfl) hB11 (t := .byte) (by decide +kernel) rfl (g := (mkF m 48 #[.val (.ref a), .val (.ref b), .val (.int (Int32.ofNat o)), .val (.int (Int32.ofNat len)), .val .null, .val (.ref s.heap.size)] [.int 0, .ref a])) rfl (rest := []) rfl (hb hbytes d48)
  have c14 : Steps p.tables e below (s₁.setTop (entryFrame m #[.ref a, .ref b, .int (Int32.ofNat o), .int (Int32.ofNat len), .null] 6)) (T13.setTop (mkF m 54 #[.val (.ref a), .val (.ref b), .val (.int (Int32.ofNat o)), .val (.int (Int32.ofNat len)), .val .null, .val (.ref s.heap.size)] [.ref s.heap.size, .ref a])) := (c12.trans (st13 _ (Steps.refl _))).trans (by
    refine XS.aloadN X13.here hexec rfl (hb hbytes d51) rfl rfl ?_
    refine XS.aload X13.here hexec rfl (hb hbytes d52) rfl rfl ?_
    exact Steps.refl _)
  obtain ⟨T15, X15, p15, bl15, sl15, st15⟩ := X13.finit hexec hown (wk W (.fieldLink "java/lang/String" 9 "java/lang/String" "value" "[B")) (Or.inr ⟨_, (wk W (.laysFinal "java/lang/String" "java/lang/String" "value" "[B"))⟩) (Or.inl ⟨rfl, hnm⟩) f1 (Or.inl rfl) bl13 (t := (.array .byte)) (by decide +kernel) rfl (g := (mkF m 54 #[.val (.ref a), .val (.ref b), .val (.int (Int32.ofNat o)), .val (.int (Int32.ofNat len)), .val .null, .val (.ref s.heap.size)] [.ref s.heap.size, .ref a])) rfl (rest := []) rfl (hb hbytes d54)
  have c16 : Steps p.tables e below (s₁.setTop (entryFrame m #[.ref a, .ref b, .int (Int32.ofNat o), .int (Int32.ofNat len), .null] 6)) (T15.setTop (mkF m 57 #[.val (.ref a), .val (.ref b), .val (.int (Int32.ofNat o)), .val (.int (Int32.ofNat len)), .val .null, .val (.ref s.heap.size)] [])) := c14.trans (st15 _ (Steps.refl _))
  have ap := apart (Or.inr ⟨_, (wk W (.laysFinal "java/lang/String" "java/lang/String" "value" "[B"))⟩) (Or.inr ⟨_, (wk W (.laysFinal "java/lang/String" "java/lang/String" "coder" "B"))⟩) f1 f2 (t₁ := .array .byte) (t₂ := .byte) (by decide +kernel) (by decide +kernel) (by decide)
  have al := X8.warmed.alike.symm.trans X15.warmed.alike
  have n7 : T11.heap[s.heap.size]? = some N := by rw [q11]; exact n1.1
  exact ⟨T15, none, _, _, _, X15, by simp, rfl, by omega, (fun _ => rfl), ⟨rfl, _, N, bl15, ((Same.refl D _).set _ (by simp)).set _ (by simp), sl15, (Cell.slots_setSlot_ne _ ap).trans sl13, n1.keep al (p15.other hne (p13.other hne n7)), n2, by rw [al.findClass]; exact n3, n4, n5, fun y c h1 h2 => p15.other h1 (p13.other h1 (by rw [q11]; exact n6 y c h2)), by rw [p15.2.2, p13.2.2, q11]; exact z8⟩, fun fs hl => c16.trans (X15.returnOut hexec hret (hb hbytes d57) hl)⟩
end New4
namespace New1
def yN : MethodName := ⟨"java/lang/String", "<init>", "([C)V"⟩
abbrev yB : ByteArray := jdk_42_method_3_code
theorem d0 : decode yB 0 = .ok (.aload_n 0, 1) := by decide +kernel
theorem d1 : decode yB 1 = .ok (.aload_n 1, 1) := by decide +kernel
theorem d2 : decode yB 2 = .ok (.iconst 0, 1) := by decide +kernel
theorem d3 : decode yB 3 = .ok (.aload_n 1, 1) := by decide +kernel
theorem d4 : decode yB 4 = .ok (.arraylength, 1) := by decide +kernel
theorem d5 : decode yB 5 = .ok (.aconst_null, 1) := by decide +kernel
theorem d6 : decode yB 6 = .ok (.invokespecial 27, 3) := by decide +kernel
theorem d9 : decode yB 9 = .ok (.return_, 1) := by decide +kernel
def site : List Cond := [New4.tab] ++ initW "java/lang/String" 27 New4.yN
def tab : Cond := tabOf yN yB 2 none site
def P (a : Addr) (D : Cell) (fV fC : Field) (b : Addr) (A : Cell) (z : Int32) (args : Array Value) (s : State) : Prop := args = #[.ref a, .ref b] ∧ Blank "java/lang/String" a D s ∧ Found "java/lang/String" "value" "[B" fV s ∧ Found "java/lang/String" "coder" "B" fC s ∧ Ch b A s ∧ StaticIs s "java/lang/String" "COMPACT_STRINGS" "Z" (.int z) ∧ ¬ z = 0 ∧ 0 < A.slots.size ∧ A.slots.size ≤ 536870912 ∧ ∀ i, i < A.slots.size → ¬ 255 < cv A i
def E (a : Addr) (D : Cell) (fV fC : Field) (A : Cell) (r : Option Value) (s u : State) : Prop := Got a D fV fC A 0 A.slots.size r s u
/-- new String(chars), not empty, no char above 255: a Latin-1 String of their low bytes -/
theorem law (l : Launch) (a : Addr) (D : Cell) (fV fC : Field) (b : Addr) (A : Cell) (z : Int32) : Law l yN 2 1 3 52 yB 2 none site (P a D fV fC b A z) (E a D fV fC A) [⟨a, fC.slot⟩, ⟨a, fV.slot⟩] 1 A.slots.size := by
  refine Law.of_walk (plainFor_of_name (by decide +kernel)) (by decide +kernel) (by decide +kernel) (by decide) (fun _ _ h => by rw [h.1]; rfl) (fun _ U U' hal hh h => ⟨h.1, h.2.1.mv hal hh, h.2.2.1.al hal, h.2.2.2.1.al hal, h.2.2.2.2.1.mv hal hh, h.2.2.2.2.2.1.there hal hh, h.2.2.2.2.2.2⟩) (fun r U U' V V' h1 hal h2 h => Got.mv r U U' V V' h1 hal h2 h) ?_
  intro p e s m args below meth c s₁ X0 hexec hbytes hml hret hlk hnm hown hh0 W hP
  obtain ⟨rfl, hB, f1, f2, hA, s1, hz, l0, l2, hp⟩ := hP
  have c1 : Steps p.tables e below (s₁.setTop (entryFrame m #[.ref a, .ref b] 2)) (s₁.setTop (mkF m 0 #[.val (.ref a), .val (.ref b)] [])) := entry rfl
  have c2 : Steps p.tables e below (s₁.setTop (entryFrame m #[.ref a, .ref b] 2)) (s₁.setTop (mkF m 6 #[.val (.ref a), .val (.ref b)] [.null, .int (Int32.ofNat A.slots.size), .int 0, .ref b, .ref a])) := c1.trans (by
    refine XS.aloadN X0.here hexec rfl (hb hbytes d0) rfl rfl ?_
    refine XS.aloadN X0.here hexec rfl (hb hbytes d1) rfl rfl ?_
    refine iconstV X0.here hexec rfl 0 (hb hbytes d2) (by decide) ?_
    refine XS.aloadN X0.here hexec rfl (hb hbytes d3) rfl rfl ?_
    refine X0.alen hexec (hA.1.mv X0.warmed.alike hh0) rfl rfl (hb hbytes d4) ?_
    refine XS.aconstNull X0.here hexec rfl (hb hbytes d5) ?_
    exact Steps.refl _)
  obtain ⟨v3, T3, X3, E3, g3⟩ := X0.callN hexec (New4.law l a D fV fC b A z 0 A.slots.size) rfl hown (wks W (initW "java/lang/String" 27 New4.yN)) (W New4.tab (by simp only [site, List.mem_cons, List.mem_append, true_or, or_true])) (W := 0) (Nat.le_of_ble_eq_true rfl) (Nat.le_of_ble_eq_true rfl) (Nat.le_refl _) (by show 0 + A.slots.size ≤ A.slots.size; omega) (g := (mkF m 6 #[.val (.ref a), .val (.ref b)] [.null, .int (Int32.ofNat A.slots.size), .int (Int32.ofNat 0), .ref b, .ref a])) rfl (by rw [hml]; rfl) c2 (argsL := [.ref b, .int (Int32.ofNat 0), .int (Int32.ofNat A.slots.size), .null]) (rest := []) rfl rfl (by show 2 * 0 + 0 ≤ _; decide) (hb hbytes d6) (⟨rfl, hB.mv X0.warmed.alike hh0, f1.al X0.warmed.alike, f2.al X0.warmed.alike, hA.mv X0.warmed.alike hh0, s1.there X0.warmed.alike hh0, hz, l0, by omega, l2, fun i hi => by rw [Nat.zero_add]; exact hp i hi⟩)
  have e0 := Got.mv _ s₁ s _ _ hh0.symm (Vm.Alike.refl _) rfl E3
  obtain rfl := e0.1
  have c4 : Steps p.tables e below (s₁.setTop (entryFrame m #[.ref a, .ref b] 2)) (T3.setTop (mkF m 9 #[.val (.ref a), .val (.ref b)] [])) := g3
  exact ⟨T3, none, _, _, _, X3, by simp, rfl, by omega, (fun _ => rfl), e0, fun fs hl => c4.trans (X3.returnOut hexec hret (hb hbytes d9) hl)⟩
theorem pays {l : Launch} {R : Room} {p : Program} {e : Env} {below : List Frame} {s : State} {sargs : Array Value} {len W : Nat} (a : Addr) (D : Cell) (fV fC : Field) (b : Addr) (A : Cell) (z : Int32) (htab : tab.before sargs s = true) (hfr : 4 ≤ R.frames) (hlo : W + 65 ≤ R.locals) :
    Back l R p e below s sargs yN len W (fun A₁ a₁ => A₁.cells + 1 ≤ R.cells ∧ A₁.slots + A.slots.size ≤ R.slots ∧ P a D fV fC b A z a₁ A₁.U) (fun A₁ _ v₁ B₁ => E a D fV fC A v₁ A₁.U B₁.U ∧ B₁.locs = A₁.locs ++ [⟨a, fC.slot⟩, ⟨a, fV.slot⟩] ∧ B₁.cells = A₁.cells + 1 ∧ B₁.slots = A₁.slots + A.slots.size) :=
  (law l a D fV fC b A z).pays htab hfr (by omega)
end New1
/-- the byte, read back as charAt reads it, is the char -/
theorem lo8_mask {x : Int32} (h0 : ¬ x < 0) (h1 : ¬ 255 < x) : lo8 x &&& 255 = x := by
  have t : ∀ k : Fin 256, lo8 (Int32.ofNat k.val) &&& 255 = Int32.ofNat k.val := by decide +kernel
  rw [Int32.lt_iff_toInt_lt] at h0 h1
  have e0 : (0 : Int32).toInt = 0 := rfl
  have e1 : (255 : Int32).toInt = 255 := rfl
  obtain ⟨k, hk⟩ : ∃ k : Nat, x.toInt = k := ⟨x.toInt.toNat, by omega⟩
  have hx : x = Int32.ofNat k := Int32.toInt_inj.mp (by rw [hk, Int32.toInt_ofNat_small (by omega)])
  rw [hx]
  exact t ⟨k, by omega⟩
end StrChars
namespace StrChars.Road
open Jvm Sem ClassFile Op Lib Jvm.Stand Jvm.Free Jvm.Free.XT
open Jvm.Lib.Cold (StaticIs)
abbrev ST : String := "java/lang/String"
/-- every table word that New1's law asks, flat -/
abbrev words : List Jvm.Cond := [.code New1.yN New1.yB 2 none, .initialized ST, .methodLink ST 27 New4.yN, .instanceMethod New4.yN,
  .code New4.yN New4.yB 6 none, .fieldLink ST 38 ST "COMPACT_STRINGS" "Z", .laysFinal ST ST "value" "[B", .fieldLink ST 9 ST "value" "[B", .laysFinal ST ST "coder" "B", .fieldLink ST 15 ST "coder" "B",
  .methodLink ST 1 Lib.objectInit, .instanceMethod Lib.objectInit, .code Lib.objectInit ⟨#[0xb1]⟩ 1 none, .methodLink ST 177 Cmp3.yN, .static Cmp3.yN, .methodLink ST 47 CodL.yN, .static CodL.yN,
  .code Cmp3.yN Cmp3.yB 6 (some (.array .byte)), .initialized U16, .arrayClass .byte, .methodLink U16 115 Cmp5.yN, .static Cmp5.yN, .code Cmp5.yN Cmp5.yB 7 (some .int), .code CodL.yN CodL.yB 2 (some .byte)]
theorem tab_of {a : Array Value} {s : State} (h : ∀ w ∈ words, w.before a s = true) : New1.tab.before a s = true := by
  have h5 : Cmp5.tab.before a s = true := unparts (wk h (.code Cmp5.yN Cmp5.yB 7 (some .int))) (wks h (.initialized Cmp5.yN.cls :: Cmp5.site))
  have hc : CodL.tab.before a s = true := unparts (wk h (.code CodL.yN CodL.yB 2 (some .byte))) (wks h (.initialized CodL.yN.cls :: CodL.site))
  have q5 : ∀ w ∈ Cmp5.tab :: words, w.before a s = true := fun w hw => (List.mem_cons.mp hw).elim (fun e => e ▸ h5) (h w)
  have h3 : Cmp3.tab.before a s = true := unparts (wk q5 (.code Cmp3.yN Cmp3.yB 6 (some (.array .byte)))) (wks q5 (.initialized Cmp3.yN.cls :: Cmp3.site))
  have q3 : ∀ w ∈ Cmp3.tab :: CodL.tab :: words, w.before a s = true := fun w hw => (List.mem_cons.mp hw).elim (fun e => e ▸ h3) fun hw => (List.mem_cons.mp hw).elim (fun e => e ▸ hc) (h w)
  have h4 : New4.tab.before a s = true := unparts (wk q3 (.code New4.yN New4.yB 6 none)) (wks q3 (.initialized New4.yN.cls :: New4.site))
  have q4 : ∀ w ∈ New4.tab :: words, w.before a s = true := fun w hw => (List.mem_cons.mp hw).elim (fun e => e ▸ h4) (h w)
  exact unparts (wk q4 (.code New1.yN New1.yB 2 none)) (wks q4 (.initialized New1.yN.cls :: New1.site))
/-- the words ride from the start Z to the walk's own state -/
theorem moved {Z s : State} {a0 args : Array Value} (hZ : Z.Warmed39 s.vm) (hw : ∀ d ∈ words, d.before a0 Z = true) : ∀ d ∈ words, d.before args s = true := fun d hd => by
  have q := hw d hd
  have t : ∀ d ∈ words, d = .arrayClass .byte ∨ (d.onTables && d.keepsFace) = true := by decide +kernel
  rcases t d hd with rfl | t
  · exact RoadKit.mvA hZ q
  · exact RoadKit.mv hZ q t
/-- WHAT COMES BACK, over the tables of the start Z: h the heap at the call, h' behind it -/
def Q (Z : State) (x : Addr) (A : Cell) (h : Heap) (v : Option Value) (h' : Heap) (L : List Loc) : Prop := v = none ∧ (∀ y ∈ L, y.base = x) ∧ RoadKit.Keep h h' [x] ∧ h'.size = h.size + 1 ∧ RoadKit.Exa Z h' x ST ∧ RoadKit.Fld Z h' x ST "value" "[B" (.ref h.size) ∧ RoadKit.Fld Z h' x ST "coder" "B" (.int 0) ∧
  (∃ V : Cell, RoadKit.Arr Z h' h.size V .byte ∧ V.vm = .none ∧ Z.vm.findClass "[B" = some V.cls ∧ V.slots.size = A.slots.size ∧ ∀ j, j < A.slots.size → V.slots[j]? = some (.int (lo8 (cv A j)))) ∧
  ∀ (O n d : String) (w : Value), RoadKit.Fld Z h x O n d w → RoadKit.slotOf Z O n d ≠ RoadKit.slotOf Z ST "value" "[B" → RoadKit.slotOf Z O n d ≠ RoadKit.slotOf Z ST "coder" "B" → RoadKit.Fld Z h' x O n d w
/-- **new String(chars) AT A CALL, IN THE ROAD'S FORM**: for specialBack behind newO: x the fresh String, b the char[] with the cell A -/
theorem back {p : Program} {l : Launch} {e : Env} {R : Room} {s : State} {args : Array Value} {below : List Frame} {len W : Nat} {Z : State} {a0 : Array Value} {h : Heap} (hZ : Z.Warmed39 s.vm) (hw : ∀ d ∈ words, d.before a0 Z = true) {kI : Nat} (wi : (Jvm.Cond.instantiable ST kI).before a0 Z = true)
    {x b : Addr} {A : Cell} {z : Int32} {v0 c0 : Value} (E : RoadKit.Exa Z h x ST) (V : RoadKit.Fld Z h x ST "value" "[B" v0) (C : RoadKit.Fld Z h x ST "coder" "B" c0) (K : RoadKit.Arr Z h b A .char) (hty : Typed .char A) (S : RoadKit.Sta Z h ST "COMPACT_STRINGS" "Z" (.int z)) (hz : ¬ z = 0)
    (l0 : 0 < A.slots.size) (l2 : A.slots.size ≤ 536870912) (hp : ∀ i, i < A.slots.size → ¬ 255 < cv A i) (hfr : 4 ≤ R.frames) (hlo : W + 65 ≤ R.locals) :
    Back l R p e below s args New1.yN len W (fun P a => a = #[.ref x, .ref b] ∧ P.U.heap = h ∧ P.cells + 1 ≤ R.cells ∧ P.slots + A.slots.size ≤ R.slots)
      (fun P _ v B => ∃ L, Q Z x A h v B.U.heap L ∧ B.locs = P.locs ++ L ∧ B.cells = P.cells + 1 ∧ B.slots = P.slots + A.slots.size) := by
  intro m meth c P g ig mk a X hg hsize hdg hW hn hp'
  obtain ⟨rfl, rfl, r1, r2⟩ := hp'
  have al : Z.vm.Alike P.U.vm := hZ.alike.trans X.warmed.alike
  obtain ⟨D, cfV, kV, iV, fV, hD, gV, stV, knV, obV, asV, slV⟩ := id V
  obtain ⟨D', cfC, kC, iC, fC, hD', gC, stC, -, -, asC, slC⟩ := id C
  cases hD.symm.trans hD'
  obtain ⟨D2, kD, e1, e2, e3, e4, e5⟩ := id E
  cases hD.symm.trans e1
  obtain ⟨c2, k2, i1, i2, i3, -⟩ := Cond.instantiable_spec wi
  cases e2.symm.trans i1
  cases e3.symm.trans i2
  obtain ⟨kU, u1, u2⟩ := al.2.2 _ _ e3
  have hB : Blank ST x D P.U := ⟨hD, ⟨knV, fun q hq => by rw [hq] at obV; cases obV⟩, by rw [al.findClass]; exact e2, kU, u1, by rw [u2]; exact i3, by rw [u2]; exact e5 i3⟩
  have F1 : Found ST "value" "[B" fV P.U := ⟨SBG.found_only al ⟨cfV, kV, iV, gV⟩, stV⟩
  have F2 : Found ST "coder" "B" fC P.U := ⟨SBG.found_only al ⟨cfC, kC, iC, gC⟩, stC⟩
  have hA : Ch b A P.U := ⟨⟨K.1, State.isArrayOf_alike al K.2.1, K.2.2, by omega⟩, hty⟩
  have hS : StaticIs P.U ST "COMPACT_STRINGS" "Z" (.int z) := by
    obtain ⟨cfS, iS, kS, fS, st, cS, t1, t2, t3, t4, t5, t6, t7⟩ := S
    exact StaticIs.there (s := { Z with heap := P.U.heap }) ⟨cfS, iS, kS, fS, st, cS, t1, t2, t3, t4, t5, (fun q => by rw [q] at t6; cases t6), t7⟩ al rfl
  obtain ⟨v, B, X', ⟨⟨hv, E', V', q1, q2, q3, q4, q5, q6, q7, q8, q9, q10, q11⟩, hl, hc, hs⟩, st⟩ := New1.pays x D fV fC b A z (tab_of (moved hZ hw)) hfr hlo m meth c P g ig mk _ X hg hsize hdg hW hn ⟨r1, r2, rfl, hB, F1, F2, hA, hS, hz, l0, l2, hp⟩
  have al' : Z.vm.Alike B.U.vm := hZ.alike.trans X'.warmed.alike
  have hsz : E'.slots.size = D.slots.size := by
    obtain ⟨-, -, -, kB, w1, w2, w3⟩ := q1
    obtain ⟨kB', y1, y2⟩ := al'.2.2 _ _ e3
    rw [q2.2.1] at w1
    cases w1.symm.trans y1
    rw [w3, e5 i3, y2]
  refine ⟨v, B, X', ⟨_, ⟨hv, ?_, ⟨by omega, fun y cy hy hn' => q10 y cy (by simpa using hn') hy, fun y cy hy => ?_⟩, q11, ⟨E', _, q1.1, by rw [q2.2.1]; exact e2, by rw [q2.2.1]; exact e3, by rw [q2.1]; exact obV, fun _ => by rw [hsz]; exact e5 i3⟩,
    ⟨E', cfV, kV, iV, fV, q1.1, gV, stV, by rw [q2.1]; exact knV, by rw [q2.1]; exact obV, by rw [q2.2.1]; exact asV, q3⟩, ⟨E', cfC, kC, iC, fC, q1.1, gC, stC, by rw [q2.1]; exact knV, by rw [q2.1]; exact obV, by rw [q2.2.1]; exact asC, q4⟩,
    ⟨V', ⟨q5.1, State.isArrayOf_alike al'.symm q5.2.1, q5.2.2.1⟩, q6, by rw [← al'.findClass]; exact q7, q8, fun j hj => by have := q9 j hj; rwa [Nat.zero_add] at this⟩, fun O n d w F n1 n2 => ?_⟩, hl, hc, hs⟩, st⟩
  · intro y hy
    simp only [List.mem_cons, List.not_mem_nil, or_false] at hy
    rcases hy with rfl | rfl <;> rfl
  · by_cases q : y = x
    · subst q
      cases hD.symm.trans hy
      exact ⟨E', q1.1, q2.2.1, q2.1, hsz⟩
    · exact ⟨cy, q10 y cy q hy, rfl, rfl, rfl⟩
  · obtain ⟨D3, cf, k, i, f, g1, g2, g3, g4, g5, g6, g7⟩ := F
    cases hD.symm.trans g1
    simp only [RoadKit.slotOf, g2, gV, gC, Option.map_some, Option.getD_some] at n1 n2
    exact ⟨E', cf, k, i, f, q1.1, g2, g3, by rw [q2.1]; exact g4, by rw [q2.1]; exact g5, by rw [q2.2.1]; exact g6, by rw [q2.2.2 f.slot (by simp [n1, n2])]; exact g7⟩
end StrChars.Road
namespace StrChars.Road
open Jvm Sem ClassFile Op Lib Jvm.Stand Jvm.Free Jvm.Free.XT
/-- WHAT COMES BACK, the byte[] as a list of values -/
def QA (Z : State) (x : Addr) (zn : Int32) (cs : List Int32) (h : Heap) (v : Option Value) (h' : Heap) (L : List Loc) : Prop := v = none ∧ (∀ y ∈ L, y.base = x) ∧ RoadKit.Keep h h' [x] ∧ h'.size = h.size + 1 ∧ RoadKit.Exa Z h' x ST ∧ RoadKit.Fld Z h' x ST "value" "[B" (.ref h.size) ∧ RoadKit.Fld Z h' x ST "coder" "B" (.int 0) ∧
  (∃ kb, Z.vm.findClass "[B" = some kb ∧ RoadKit.Arv Z h' h.size kb .byte zn (cs.map fun c => .int (lo8 c)) (.int 0)) ∧
  ∀ (O n d : String) (w : Value), RoadKit.Fld Z h x O n d w → RoadKit.slotOf Z O n d ≠ RoadKit.slotOf Z ST "value" "[B" → RoadKit.slotOf Z O n d ≠ RoadKit.slotOf Z ST "coder" "B" → RoadKit.Fld Z h' x O n d w
/-- **new String(chars) AT A CALL, THE ARRAYS AS LISTS**: the char[] at b holds cs, not empty, no char above 255 -/
theorem backArv {p : Program} {l : Launch} {e : Env} {R : Room} {s : State} {args : Array Value} {below : List Frame} {len W : Nat} {Z : State} {a0 : Array Value} {h : Heap} (hZ : Z.Warmed39 s.vm) (hw : ∀ d ∈ words, d.before a0 Z = true) {kI : Nat} (wi : (Jvm.Cond.instantiable ST kI).before a0 Z = true)
    {x b : Addr} {k : ClassId} {zn z : Int32} {cs : List Int32} {dv v0 c0 : Value} (E : RoadKit.Exa Z h x ST) (V : RoadKit.Fld Z h x ST "value" "[B" v0) (C : RoadKit.Fld Z h x ST "coder" "B" c0) (K : RoadKit.Arv Z h b k .char zn (cs.map Value.int) dv) (S : RoadKit.Sta Z h ST "COMPACT_STRINGS" "Z" (.int z)) (hz : ¬ z = 0)
    (hlen : zn.toNatClampNeg = cs.length) (h0 : 0 < cs.length) (hbig : cs.length ≤ 536870912) (hall : ∀ c ∈ cs, ¬ 255 < c) (hfr : 4 ≤ R.frames) (hlo : W + 65 ≤ R.locals) :
    Back l R p e below s args New1.yN len W (fun P a => a = #[.ref x, .ref b] ∧ P.U.heap = h ∧ P.cells + 1 ≤ R.cells ∧ P.slots + cs.length ≤ R.slots)
      (fun P _ v B => ∃ L, QA Z x zn cs h v B.U.heap L ∧ B.locs = P.locs ++ L ∧ B.cells = P.cells + 1 ∧ B.slots = P.slots + cs.length) := by
  obtain ⟨A, K1, K2, K3, K4, K5, K6⟩ := K
  have e : A.slots.size = cs.length := K3.trans hlen
  have hat : ∀ (i : Nat) (hi : i < cs.length), A.slots[i]? = some (.int cs[i]) := fun i hi => by rw [K5 i (by omega)]; simp [List.getD_eq_getElem?_getD, hi]
  have hcv : ∀ (i : Nat) (hi : i < cs.length), cv A i = cs[i] := fun i hi => by unfold cv; rw [hat i hi]
  have hty : Typed .char A := fun i v hv => by
    have hi : i < A.slots.size := (Array.getElem?_eq_some_iff.mp hv).1
    have q := K5 i hi
    rw [hv] at q
    rw [Option.some.inj q]
    exact K6 i hi
  refine Back.mono (back hZ hw wi E V C K1 hty S hz (by omega) (by omega) (fun i hi => by rw [hcv i (by omega)]; exact hall _ (List.getElem_mem _)) hfr hlo) (fun P a hp => ⟨hp.1, hp.2.1, hp.2.2.1, by rw [e]; exact hp.2.2.2⟩) (fun P a v B hp hq => ?_)
  obtain ⟨L, ⟨q1, q2, q3, q4, q5, q6, q7, ⟨V', v1, v2, v3, v4, v5⟩, q9⟩, hl, hc, hs⟩ := hq
  refine ⟨L, ⟨q1, q2, q3, q4, q5, q6, q7, ⟨V'.cls, v3, V', v1, rfl, by rw [v4, e, hlen], K4, fun i hi => ?_, fun i hi => ?_⟩, q9⟩, hl, hc, by rw [hs, e]⟩
  · have hi' : i < cs.length := by omega
    rw [v5 i (by omega), hcv i hi']; simp [List.getD_eq_getElem?_getD, hi']
  · have hi' : i < cs.length := by omega
    simp only [List.getD_eq_getElem?_getD, List.getElem?_map, List.getElem?_eq_getElem hi', Option.map_some, Option.getD_some]
    exact fits_lo8 _
end StrChars.Road
namespace StrChars.Road
open Jvm Sem ClassFile Op Lib Jvm.Stand Jvm.Free Jvm.Free.XT
/-- WHAT COMES BACK, in the writer's own shape -/
def QV (Z : State) (x : Addr) (N : Int32) (bs : List Int32) (h : Heap) (n0 : Nat) (v : Option Value) (h' : Heap) (L : List Loc) : Prop := v = none ∧ RoadKit.Fr n0 L ∧ RoadKit.Keep h h' [x] ∧ RoadKit.Exa Z h' x ST ∧ RoadKit.Fld Z h' x ST "coder" "B" (.int 0) ∧
  ∃ (t : Addr) (kb : ClassId), n0 ≤ t ∧ h.size ≤ t ∧ ¬ t = x ∧ RoadKit.Fld Z h' x ST "value" "[B" (.ref t) ∧ RoadKit.Arv Z h' t kb .byte N (bs.map Value.int) (.int 0)
/-- **new String(chars) AT A CALL, FOR THE WRITER**: a char[] of n known ints, each 0 to 255 -/
theorem backV {p : Program} {l : Launch} {e : Env} {R : Room} {s : State} {args : Array Value} {below : List Frame} {len W : Nat} {Z : State} {a0 : Array Value} {h : Heap} (hZ : Z.Warmed39 s.vm) (hw : ∀ d ∈ words, d.before a0 Z = true) {kI : Nat} (wi : (Jvm.Cond.instantiable ST kI).before a0 Z = true)
    {x b : Addr} {kC : ClassId} {cs bs : List Int32} {d v0 c0 : Value} {z N : Int32} {n n0 : Nat} (hx0 : n0 ≤ x) (hh0 : n0 ≤ h.size) (E : RoadKit.Exa Z h x ST) (V : RoadKit.Fld Z h x ST "value" "[B" v0) (C : RoadKit.Fld Z h x ST "coder" "B" c0) (K : RoadKit.Arv Z h b kC .char N (cs.map Value.int) d) (S : RoadKit.Sta Z h ST "COMPACT_STRINGS" "Z" (.int z)) (hz : ¬ z = 0)
    (hn : cs.length = n) (hN : N = Int32.ofNat n) (l0 : 0 < n) (l2 : n ≤ 4000) (hp : ∀ c ∈ cs, ¬ c < 0 ∧ ¬ (255 : Int32) < c) (hb : bs = cs.map (fun c => c.toInt8.toInt32)) (hfr : 4 ≤ R.frames) (hlo : W + 65 ≤ R.locals) :
    Back l R p e below s args (⟨"java/lang/String", "<init>", "([C)V"⟩ : MethodName) len W (fun P a => a = #[.ref x, .ref b] ∧ P.U.heap = h ∧ P.cells + 1 ≤ R.cells ∧ P.slots + n ≤ R.slots)
      (fun P _ v B => ∃ L, QV Z x N bs h n0 v B.U.heap L ∧ B.locs = P.locs ++ L ∧ B.cells = P.cells + 1 ∧ B.slots = P.slots + n) := by
  subst hn hN hb
  refine Back.mono (backArv hZ hw wi E V C K S hz (n32 (by omega)) l0 (by omega) (fun c hc => (hp c hc).2) hfr hlo) (fun P a hp => hp) (fun P a v B hp hq => ?_)
  obtain ⟨L, ⟨q1, q2, q3, q4, q5, q6, q7, ⟨kb, v1, v2⟩, q9⟩, hl, hc, hs⟩ := hq
  exact ⟨L, ⟨q1, fun y hy => by rw [q2 y hy]; exact hx0, q3, q5, q7, h.size, kb, hh0, Nat.le_refl _, Nat.ne_of_gt E.lt, q6, by rw [List.map_map]; exact v2⟩, hl, hc, hs⟩
end StrChars.Road
namespace StrChars
open Jvm Sem ClassFile Op Lib Jvm.Stand Jvm.Free.XT Jvm.Free.ALB Jvm.Free.JM Jvm.Free
open Jvm.Lib.Cold (StaticIs)
def hi8 (x : Int32) : Int32 := lo8 (x >>> ((8 : Int32) &&& 31))
/-- what StringUTF16.getChar makes of two bytes -/
def pairCh (u v : Int32) : Int32 := (((u &&& 255) <<< ((0 : Int32) &&& 31)) ||| ((v &&& 255) <<< ((8 : Int32) &&& 31))).toUInt32.toUInt16.toUInt32.toInt32
theorem lo8_and (x : Int32) : (lo8 x &&& 255).toBitVec.toNat = x.toBitVec.toNat % 256 := by
  have h : (lo8 x).toBitVec = (x.toBitVec.signExtend 8).signExtend 32 := by rw [lo8, Int8.toBitVec_toInt32, Int32.toBitVec_toInt8]
  rw [Int32.toBitVec_and, BitVec.toNat_and, h]
  have e : ((x.toBitVec.signExtend 8).signExtend 32).toNat % 256 = x.toBitVec.toNat % 256 := by
    rw [BitVec.toNat_signExtend]
    have hlt := x.toBitVec.isLt
    simp only [BitVec.toNat_setWidth, BitVec.toNat_signExtend]
    split <;> split <;> omega
  rw [← e]
  exact Nat.and_two_pow_sub_one_eq_mod _ 8
theorem pair_says {c : Int32} (h0 : ¬ c < 0) (h1 : ¬ 65535 < c) : pairCh (lo8 c) (hi8 c) = c := by
  rw [Int32.lt_iff_toInt_lt] at h0 h1
  have e0 : (0 : Int32).toInt = 0 := rfl
  have e1 : (65535 : Int32).toInt = 65535 := rfl
  have hc : c.toInt = c.toBitVec.toNat := by
    have := c.toBitVec.isLt
    have e : c.toInt = c.toBitVec.toInt := rfl
    rw [e] at h0 h1
    rw [e]
    rw [BitVec.toInt_eq_toNat_cond] at h0 h1 ⊢
    split at h0 <;> split <;> omega
  have hn : c.toBitVec.toNat < 65536 := by omega
  have a1 := lo8_and c
  have a2 : (hi8 c &&& 255).toBitVec.toNat = c.toBitVec.toNat / 256 := by
    rw [hi8, lo8_and]
    have e : ((8 : Int32) &&& 31) = 8 := by decide
    rw [e, Int32.toBitVec_shiftRight]
    have e2 : ((8 : Int32).toBitVec.smod 32) = 8#32 := by decide
    rw [e2, BitVec.sshiftRight_eq', BitVec.toNat_sshiftRight_of_msb_false (by rw [BitVec.msb_eq_false_iff_two_mul_lt]; omega)]
    show c.toBitVec.toNat >>> 8 % 256 = _
    rw [Nat.shiftRight_eq_div_pow]
    omega
  unfold pairCh
  apply Int32.toBitVec_inj.mp
  apply BitVec.eq_of_toNat_eq
  have f0 : ((0 : Int32) &&& 31) = 0 := by decide
  have f8 : ((8 : Int32) &&& 31) = 8 := by decide
  rw [f0, f8]
  have g : (((lo8 c &&& 255) <<< (0 : Int32)) ||| ((hi8 c &&& 255) <<< (8 : Int32))).toBitVec.toNat = c.toBitVec.toNat := by
    rw [Int32.toBitVec_or, Int32.toBitVec_shiftLeft, Int32.toBitVec_shiftLeft]
    have s0 : ((0 : Int32).toBitVec.smod 32) = 0#32 := by decide
    have s8 : ((8 : Int32).toBitVec.smod 32) = 8#32 := by decide
    rw [s0, s8, BitVec.toNat_or]
    simp only [BitVec.shiftLeft_eq', BitVec.toNat_shiftLeft, a1, a2]
    show (c.toBitVec.toNat % 256) <<< 0 % 2 ^ 32 ||| (c.toBitVec.toNat / 256) <<< 8 % 2 ^ 32 = _
    rw [Nat.shiftLeft_zero, Nat.mod_eq_of_lt (show c.toBitVec.toNat % 256 < 2 ^ 32 by omega), Nat.mod_eq_of_lt (show (c.toBitVec.toNat / 256) <<< 8 < 2 ^ 32 by rw [Nat.shiftLeft_eq]; omega), Nat.or_comm, ← Nat.shiftLeft_add_eq_or_of_lt (by omega), Nat.shiftLeft_eq]
    omega
  show BitVec.toNat (((((lo8 c &&& 255) <<< (0 : Int32)) ||| ((hi8 c &&& 255) <<< (8 : Int32))).toBitVec.setWidth 16).setWidth 32) = _
  rw [BitVec.toNat_setWidth, BitVec.toNat_setWidth, g]
  omega
end StrChars
namespace StrChars
open Jvm Sem ClassFile Op Lib Jvm.Stand Jvm.Free.XT Jvm.Free.ALB Jvm.Free.JM Jvm.Free
open Jvm.Lib.Cold (StaticIs)
/-- the array's cell V codes the n chars f 0 .. f (n - 1) by the coder cd, as the JDK does: coder 1 just where some char is above 255 -/
def Cod (cd : Int32) (n : Nat) (f : Nat → Int32) (V : Cell) : Prop := (cd = 0 ∧ V.slots.size = n ∧ ∀ j, j < n → V.slots[j]? = some (.int (lo8 (f j))) ∧ ¬ 255 < f j) ∨ (cd = 1 ∧ V.slots.size = 2 * n ∧ (∀ j, j < n → V.slots[2 * j]? = some (.int (lo8 (f j))) ∧ V.slots[2 * j + 1]? = some (.int (hi8 (f j)))) ∧ ∃ j, j < n ∧ 255 < f j)
/-- **x is a String of the n chars f 0 .. f (n - 1)**, Latin-1 or UTF-16; its array at t has the cell V -/
def Txt (x t : Addr) (V : Cell) (cd : Int32) (n : Nat) (f : Nat → Int32) (U : State) : Prop := Exact "java/lang/String" x U ∧ Has x "java/lang/String" "value" "[B" (.ref t) U ∧ Has x "java/lang/String" "coder" "B" (.int cd) U ∧ XT.Arr .byte t V U ∧ Cod cd n f V ∧ ∀ j, j < n → ¬ f j < 0 ∧ ¬ 65535 < f j
theorem Txt.mv {x t : Addr} {V : Cell} {cd : Int32} {n : Nat} {f : Nat → Int32} {U U' : State} (h : Txt x t V cd n f U) (hal : U.vm.Alike U'.vm) (hh : U'.heap = U.heap) : Txt x t V cd n f U' := ⟨h.1.mv hal hh, h.2.1.mv hal hh, h.2.2.1.mv hal hh, h.2.2.2.1.mv hal hh, h.2.2.2.2⟩
end StrChars
namespace StrChars.Road
open Jvm Sem ClassFile Op Lib Jvm.Stand Jvm.Free Jvm.Free.XT
open Jvm.Lib.Cold (StaticIs)
theorem consq {a : Array Value} {s : State} {c : Jvm.Cond} {L : List Jvm.Cond} (h0 : c.before a s = true) (h : ∀ w ∈ L, w.before a s = true) : ∀ w ∈ c :: L, w.before a s = true := fun w hw => (List.mem_cons.mp hw).elim (fun e => e ▸ h0) (h w)
/-- the bytes of the chars cs, low before high -/
def wideBytes : List Int32 → List Value
  | [] => []
  | c :: cs => .int (lo8 c) :: .int (hi8 c) :: wideBytes cs
theorem wide_lo (d : Value) : ∀ (cs : List Int32) (j : Nat), j < cs.length → (wideBytes cs).getD (2 * j) d = .int (lo8 (cs.getD j 0))
  | [], j, h => absurd h (Nat.not_lt_zero j)
  | c :: cs, 0, _ => rfl
  | c :: cs, j + 1, h => by
    have q := wide_lo d cs j (by simpa using h)
    rw [show 2 * (j + 1) = 2 * j + 1 + 1 from by omega]
    simpa [wideBytes] using q
theorem wide_hi (d : Value) : ∀ (cs : List Int32) (j : Nat), j < cs.length → (wideBytes cs).getD (2 * j + 1) d = .int (hi8 (cs.getD j 0))
  | [], j, h => absurd h (Nat.not_lt_zero j)
  | c :: cs, 0, _ => rfl
  | c :: cs, j + 1, h => by
    have q := wide_hi d cs j (by simpa using h)
    rw [show 2 * (j + 1) + 1 = 2 * j + 1 + 1 + 1 from by omega]
    simpa [wideBytes] using q
theorem low_at (d : Value) (cs : List Int32) (j : Nat) (h : j < cs.length) : (cs.map fun c => Value.int (lo8 c)).getD j d = .int (lo8 (cs.getD j 0)) := by
  simp [List.getD_eq_getElem?_getD, h]
/-- an array of N2 bytes vs codes the chars cs by the coder cd -/
def CodA (cs : List Int32) (cd N2 : Int32) (vs : List Value) : Prop := (cd = 0 ∧ N2 = Int32.ofNat cs.length ∧ vs = (cs.map fun c => Value.int (lo8 c)) ∧ ∀ c ∈ cs, ¬ 255 < c) ∨ (cd = 1 ∧ N2 = Int32.ofNat (2 * cs.length) ∧ vs = wideBytes cs ∧ ∃ c ∈ cs, 255 < c)
theorem CodA.cod {cs : List Int32} {cd N2 : Int32} {vs : List Value} {V : Cell} (h : CodA cs cd N2 vs) (hn : 2 * cs.length < 2 ^ 31) (hs : V.slots.size = N2.toNatClampNeg) (hv : RoadKit.Has V vs (.int 0)) : Cod cd cs.length (fun j => cs.getD j 0) V := by
  rcases h with ⟨rfl, rfl, rfl, h⟩ | ⟨rfl, rfl, rfl, c, hc, hw⟩
  · rw [n32 (by omega)] at hs
    exact Or.inl ⟨rfl, hs, fun j hj => ⟨by rw [hv j (by omega), low_at _ _ _ hj], by
      have e : cs.getD j 0 = cs[j] := by simp [List.getD_eq_getElem?_getD, hj]
      show ¬ 255 < cs.getD j 0
      rw [e]; exact h _ (List.getElem_mem _)⟩⟩
  · rw [n32 (by omega)] at hs
    obtain ⟨j, hj, rfl⟩ := List.getElem_of_mem hc
    exact Or.inr ⟨rfl, hs, fun j hj => ⟨by rw [hv _ (by omega), wide_lo _ _ _ hj], by rw [hv _ (by omega), wide_hi _ _ _ hj]⟩, j, hj, by
      have e : cs.getD j 0 = cs[j] := by simp [List.getD_eq_getElem?_getD, hj]
      show 255 < cs.getD j 0
      rw [e]; exact hw⟩
/-- an object of exactly java/lang/String, its two fields found: as the laws ask it -/
theorem strObj {Z U : State} {a0 : Array Value} {kI : Nat} (wi : (Jvm.Cond.instantiable ST kI).before a0 Z = true) (al : Z.vm.Alike U.vm) {x : Addr} {v0 c0 : Value} (E : RoadKit.Exa Z U.heap x ST) (V : RoadKit.Fld Z U.heap x ST "value" "[B" v0) (C : RoadKit.Fld Z U.heap x ST "coder" "B" c0) :
    ∃ (D : Cell) (fV fC : Field), Blank ST x D U ∧ Found ST "value" "[B" fV U ∧ Found ST "coder" "B" fC U ∧ D.slots[fV.slot]? = some v0 ∧ D.slots[fC.slot]? = some c0 ∧ RoadKit.slotOf Z ST "value" "[B" = fV.slot ∧ RoadKit.slotOf Z ST "coder" "B" = fC.slot := by
  obtain ⟨D, cfV, kV, iV, fV, hD, gV, stV, knV, obV, asV, slV⟩ := V
  obtain ⟨D', cfC, kC, iC, fC, hD', gC, stC, -, -, asC, slC⟩ := C
  cases hD.symm.trans hD'
  obtain ⟨D2, kD, e1, e2, e3, e4, e5⟩ := E
  cases hD.symm.trans e1
  obtain ⟨c2, k2, i1, i2, i3, -⟩ := Cond.instantiable_spec wi
  cases e2.symm.trans i1
  cases e3.symm.trans i2
  obtain ⟨kU, u1, u2⟩ := al.2.2 _ _ e3
  exact ⟨D, fV, fC, ⟨hD, ⟨knV, fun q hq => by rw [hq] at obV; cases obV⟩, by rw [al.findClass]; exact e2, kU, u1, by rw [u2]; exact i3, by rw [u2]; exact e5 i3⟩, ⟨SBG.found_only al ⟨cfV, kV, iV, gV⟩, stV⟩, ⟨SBG.found_only al ⟨cfC, kC, iC, gC⟩, stC⟩, slV, slC, by simp [RoadKit.slotOf, gV], by simp [RoadKit.slotOf, gC]⟩
theorem sta_is {Z U : State} (al : Z.vm.Alike U.vm) {C n d : String} {v : Value} (S : RoadKit.Sta Z U.heap C n d v) : StaticIs U C n d v := by
  obtain ⟨cfS, iS, kS, fS, st, cS, t1, t2, t3, t4, t5, t6, t7⟩ := S
  exact StaticIs.there (s := { Z with heap := U.heap }) ⟨cfS, iS, kS, fS, st, cS, t1, t2, t3, t4, t5, (fun q => by rw [q] at t6; cases t6), t7⟩ al rfl
end StrChars.Road
namespace StrChars
open Jvm Sem ClassFile Op Lib Jvm.Stand Jvm.Free.XT Jvm.Free.ALB Jvm.Free.JM Jvm.Free
open Jvm.Lib.Cold (StaticIs)
/-- what place i of a byte[]'s cell holds -/
def yv (A : Cell) (i : Nat) : Int32 := match A.slots[i]? with | some (.int x) => x | _ => 0
theorem yv_get {a : Addr} {A : Cell} {U : State} (h : XT.Arr .byte a A U) (ht : Typed .byte A) {i : Nat} (hi : i < A.slots.size) : A.slots[i]? = some (.int (yv A i)) := by
  have e := Array.getElem?_eq_getElem hi
  have f := ht i _ e
  unfold yv; rw [e]
  generalize A.slots[i] = v at f
  cases v <;> simp [fits] at f ⊢
/-- the two arrays are equal, place for place -/
def EqC (A B : Cell) : Prop := A.slots.size = B.slots.size ∧ ∀ i, i < A.slots.size → yv A i = yv B i
/-- a boolean that says whether p -/
def Says01 (q : Prop) (r : Option Value) (s u : State) : Prop := ∃ v : Int32, r = some (.int v) ∧ u.heap = s.heap ∧ ((v = 1 ∧ q) ∨ (v = 0 ∧ ¬ q))
theorem Says01.mv {q : Prop} : ∀ r (U U' V V' : State), U'.heap = U.heap → V.vm.Alike V'.vm → V'.heap = V.heap → Says01 q r U V → Says01 q r U' V' :=
  fun r U U' V V' h1 _ h2 ⟨v, a, b, c⟩ => ⟨v, a, by rw [h1, h2]; exact b, c⟩
namespace LEq
def yN : MethodName := ⟨"java/lang/StringLatin1", "equals", "([B[B)Z"⟩
abbrev yB : ByteArray := jdk_43_method_13_code
theorem d0 : decode yB 0 = .ok (.aload_n 0, 1) := by decide +kernel
theorem d1 : decode yB 1 = .ok (.arraylength, 1) := by decide +kernel
theorem d2 : decode yB 2 = .ok (.aload_n 1, 1) := by decide +kernel
theorem d3 : decode yB 3 = .ok (.arraylength, 1) := by decide +kernel
theorem d4 : decode yB 4 = .ok (.if_icmp (.ne) 30, 3) := by decide +kernel
theorem d7 : decode yB 7 = .ok (.iconst 0, 1) := by decide +kernel
theorem d8 : decode yB 8 = .ok (.istore_n 2, 1) := by decide +kernel
theorem d9 : decode yB 9 = .ok (.iload_n 2, 1) := by decide +kernel
theorem d10 : decode yB 10 = .ok (.aload_n 0, 1) := by decide +kernel
theorem d11 : decode yB 11 = .ok (.arraylength, 1) := by decide +kernel
theorem d12 : decode yB 12 = .ok (.if_icmp (.ge) 20, 3) := by decide +kernel
theorem d15 : decode yB 15 = .ok (.aload_n 0, 1) := by decide +kernel
theorem d16 : decode yB 16 = .ok (.iload_n 2, 1) := by decide +kernel
theorem d17 : decode yB 17 = .ok (.baload, 1) := by decide +kernel
theorem d18 : decode yB 18 = .ok (.aload_n 1, 1) := by decide +kernel
theorem d19 : decode yB 19 = .ok (.iload_n 2, 1) := by decide +kernel
theorem d20 : decode yB 20 = .ok (.baload, 1) := by decide +kernel
theorem d21 : decode yB 21 = .ok (.if_icmp (.eq) 5, 3) := by decide +kernel
theorem d24 : decode yB 24 = .ok (.iconst 0, 1) := by decide +kernel
theorem d25 : decode yB 25 = .ok (.ireturn, 1) := by decide +kernel
theorem d26 : decode yB 26 = .ok (.iinc 2 1, 3) := by decide +kernel
theorem d29 : decode yB 29 = .ok (.goto (-20), 3) := by decide +kernel
theorem d32 : decode yB 32 = .ok (.iconst 1, 1) := by decide +kernel
theorem d33 : decode yB 33 = .ok (.ireturn, 1) := by decide +kernel
theorem d34 : decode yB 34 = .ok (.iconst 0, 1) := by decide +kernel
theorem d35 : decode yB 35 = .ok (.ireturn, 1) := by decide +kernel
def site : List Cond := []
def tab : Cond := tabOf yN yB 3 (some .boolean) site
def P (a : Addr) (A : Cell) (b : Addr) (B : Cell) (args : Array Value) (s : State) : Prop := args = #[.ref a, .ref b] ∧ XT.Arr .byte a A s ∧ Typed .byte A ∧ XT.Arr .byte b B s ∧ Typed .byte B
/-- whether two byte[] are equal, place for place -/
theorem law (l : Launch) (a : Addr) (A : Cell) (b : Addr) (B : Cell) : Law l yN 2 2 0 0 yB 3 (some .boolean) site (P a A b B) (Says01 (EqC A B)) [] 0 0 := by
  refine Law.of_walk (plainFor_of_name (by decide +kernel)) (by decide +kernel) (by decide +kernel) (by decide) (fun _ _ h => by rw [h.1]; rfl) (fun _ U U' hal hh h => ⟨h.1, h.2.1.mv hal hh, h.2.2.1, h.2.2.2.1.mv hal hh, h.2.2.2.2⟩) (fun r U U' V V' h1 hal h2 h => Says01.mv r U U' V V' h1 hal h2 h) ?_
  intro p e s m args below meth c s₁ X0 hexec hbytes hml hret hlk hnm hown hh0 W hP
  obtain ⟨rfl, hA, tA, hB, tB⟩ := hP
  have a31 := hA.2.2.2
  have b31 := hB.2.2.2
  have hA0 := hA.mv X0.warmed.alike hh0
  have hB0 := hB.mv X0.warmed.alike hh0
  have c1 : Steps p.tables e below (s₁.setTop (entryFrame m #[.ref a, .ref b] 3)) (s₁.setTop (mkF m 0 #[.val (.ref a), .val (.ref b), .unset] [])) := entry rfl
  have c2 : Steps p.tables e below (s₁.setTop (entryFrame m #[.ref a, .ref b] 3)) (s₁.setTop (mkF m 4 #[.val (.ref a), .val (.ref b), .unset] [.int (Int32.ofNat B.slots.size), .int (Int32.ofNat A.slots.size)])) := c1.trans (by
    refine XS.aloadN X0.here hexec rfl (hb hbytes d0) rfl rfl ?_
    refine X0.alen hexec hA0 rfl rfl (hb hbytes d1) ?_
    refine XS.aloadN X0.here hexec rfl (hb hbytes d2) rfl rfl ?_
    refine X0.alen hexec hB0 rfl rfl (hb hbytes d3) ?_
    exact Steps.refl _)
  by_cases hs : A.slots.size = B.slots.size
  · have c3 : Steps p.tables e below (s₁.setTop (entryFrame m #[.ref a, .ref b] 3)) (s₁.setTop (mkF m 9 #[.val (.ref a), .val (.ref b), .val (.int 0)] [])) := c2.trans (by
      refine XS.icmpNo X0.here hexec rfl (hb hbytes d4) rfl (ii_ne_f (by rw [hs])) ?_
      refine iconstV X0.here hexec rfl 0 (hb hbytes d7) (by decide) ?_
      refine XS.istoreN X0.here hexec rfl (hb hbytes d8) rfl rfl ?_
      exact Steps.refl _)
    have loop : ∀ (r i : Nat), i + r = A.slots.size → (∀ j, j < i → yv A j = yv B j) → Steps p.tables e below (s₁.setTop (entryFrame m #[.ref a, .ref b] 3)) (s₁.setTop (mkF m 9 #[.val (.ref a), .val (.ref b), .val (.int (Int32.ofNat i))] [])) → ∃ (pc : Nat) (Ls : Array Slot) (v : Int32), (pc = 25 ∨ pc = 33) ∧ ((v = 1 ∧ EqC A B) ∨ (v = 0 ∧ ¬ EqC A B)) ∧ Steps p.tables e below (s₁.setTop (entryFrame m #[.ref a, .ref b] 3)) (s₁.setTop (mkF m pc Ls [.int v])) := by
      intro r
      induction r with
      | zero =>
        intro i hi he cl
        exact ⟨33, _, 1, Or.inr rfl, Or.inl ⟨rfl, hs, fun j hj => he j (by omega)⟩, cl.trans (by
          refine XS.iloadN X0.here hexec rfl (hb hbytes d9) rfl ?_
          refine XS.aloadN X0.here hexec rfl (hb hbytes d10) rfl rfl ?_
          refine X0.alen hexec hA0 rfl rfl (hb hbytes d11) ?_
          refine XS.icmpYes X0.here hexec rfl (pc0 := 12) rfl (hb hbytes d12) rfl (ii_ge_t (nlt32 (by omega) (by omega))) (by decide) rfl ?_
          refine iconstV X0.here hexec rfl 1 (hb hbytes d32) (by decide) ?_
          exact Steps.refl _)⟩
      | succ r ih =>
        intro i hi he cl
        have c4 : Steps p.tables e below (s₁.setTop (entryFrame m #[.ref a, .ref b] 3)) (s₁.setTop (mkF m 21 #[.val (.ref a), .val (.ref b), .val (.int (Int32.ofNat i))] [.int (yv B i), .int (yv A i)])) := cl.trans (by
          refine XS.iloadN X0.here hexec rfl (hb hbytes d9) rfl ?_
          refine XS.aloadN X0.here hexec rfl (hb hbytes d10) rfl rfl ?_
          refine X0.alen hexec hA0 rfl rfl (hb hbytes d11) ?_
          refine XS.icmpNo X0.here hexec rfl (hb hbytes d12) rfl (ii_ge_f (lt32 (by omega) (by omega))) ?_
          refine XS.aloadN X0.here hexec rfl (hb hbytes d15) rfl rfl ?_
          refine XS.iloadN X0.here hexec rfl (hb hbytes d16) rfl ?_
          refine X0.aget hexec hA0 rfl (yv_get hA tA (i := i) (by omega)) rfl rfl (hb hbytes d17) ?_
          refine XS.aloadN X0.here hexec rfl (hb hbytes d18) rfl rfl ?_
          refine XS.iloadN X0.here hexec rfl (hb hbytes d19) rfl ?_
          refine X0.aget hexec hB0 rfl (yv_get hB tB (i := i) (by omega)) rfl rfl (hb hbytes d20) ?_
          exact Steps.refl _)
        by_cases hv : yv A i = yv B i
        · have c5 : Steps p.tables e below (s₁.setTop (entryFrame m #[.ref a, .ref b] 3)) (s₁.setTop (mkF m 9 #[.val (.ref a), .val (.ref b), .val (.int (Int32.ofNat i + 1))] [])) := c4.trans (by
            refine XS.icmpYes X0.here hexec rfl (pc0 := 21) rfl (hb hbytes d21) rfl (ii_eq_t hv) (by decide) rfl ?_
            refine iincV X0.here hexec rfl 1 (hb hbytes d26) (by decide) rfl rfl ?_
            refine XS.goto X0.here hexec rfl (pc0 := 29) rfl (hb hbytes d29) (by decide) rfl ?_
            exact Steps.refl _)
          rw [succ32] at c5
          exact ih (i + 1) (by omega) (fun j hj => by
            by_cases e : j = i
            · rw [e]; exact hv
            · exact he j (by omega)) c5
        · exact ⟨25, _, 0, Or.inl rfl, Or.inr ⟨rfl, fun q => hv (q.2 i (by omega))⟩, c4.trans (by
            refine XS.icmpNo X0.here hexec rfl (hb hbytes d21) rfl (ii_eq_f hv) ?_
            refine iconstV X0.here hexec rfl 0 (hb hbytes d24) (by decide) ?_
            exact Steps.refl _)⟩
    obtain ⟨pc, Ls, v, hpc, hv, cz⟩ := loop A.slots.size 0 (by omega) (fun j hj => absurd hj (Nat.not_lt_zero j)) c3
    have nv : narrow .boolean (.int v) = .int v := by rcases hv with ⟨rfl, -⟩ | ⟨rfl, -⟩ <;> rfl
    rcases hpc with rfl | rfl
    · exact ⟨s₁, some (.int v), _, _, _, X0, rfl, rfl, rfl, (fun h => by cases h), ⟨v, rfl, hh0, hv⟩, fun fs hl => cz.trans (X0.ireturnOut hexec hret nv (Or.inr (Or.inl rfl)) (hb hbytes d25) hl)⟩
    · exact ⟨s₁, some (.int v), _, _, _, X0, rfl, rfl, rfl, (fun h => by cases h), ⟨v, rfl, hh0, hv⟩, fun fs hl => cz.trans (X0.ireturnOut hexec hret nv (Or.inr (Or.inl rfl)) (hb hbytes d33) hl)⟩
  · have c3 : Steps p.tables e below (s₁.setTop (entryFrame m #[.ref a, .ref b] 3)) (s₁.setTop (mkF m 35 #[.val (.ref a), .val (.ref b), .unset] [.int 0])) := c2.trans (by
      refine XS.icmpYes X0.here hexec rfl (pc0 := 4) rfl (hb hbytes d4) rfl (ii_ne_t (ne32 a31 b31 hs)) (by decide) rfl ?_
      refine iconstV X0.here hexec rfl 0 (hb hbytes d34) (by decide) ?_
      exact Steps.refl _)
    exact ⟨s₁, some (.int 0), _, _, _, X0, rfl, rfl, rfl, (fun h => by cases h), ⟨0, rfl, hh0, Or.inr ⟨rfl, fun q => hs q.1⟩⟩, fun fs hl => c3.trans (X0.ireturnOut hexec hret rfl (Or.inr (Or.inl rfl)) (hb hbytes d35) hl)⟩
end LEq
theorem Cod.ty {cd : Int32} {n : Nat} {f : Nat → Int32} {V : Cell} (h : Cod cd n f V) : Typed .byte V := fun i v hv => by
  have hi : i < V.slots.size := (Array.getElem?_eq_some_iff.mp hv).1
  rcases h with ⟨-, k1, k2⟩ | ⟨-, k1, k2, -⟩
  · rw [(k2 i (by omega)).1] at hv; cases hv; exact fits_lo8 _
  · rcases Nat.mod_two_eq_zero_or_one i with e | e
    · obtain ⟨j, rfl⟩ : ∃ j, i = 2 * j := ⟨i / 2, by omega⟩
      rw [(k2 j (by omega)).1] at hv; cases hv; exact fits_lo8 _
    · obtain ⟨j, rfl⟩ : ∃ j, i = 2 * j + 1 := ⟨i / 2, by omega⟩
      rw [(k2 j (by omega)).2] at hv; cases hv; exact fits_lo8 _
/-- the same text -/
def SameT (n : Nat) (f : Nat → Int32) (k : Nat) (g : Nat → Int32) : Prop := n = k ∧ ∀ j, j < n → f j = g j
theorem lo8_inj {x y : Int32} (h0 : ¬ x < 0) (h1 : ¬ 255 < x) (k0 : ¬ y < 0) (k1 : ¬ 255 < y) (h : lo8 x = lo8 y) : x = y := by
  rw [← lo8_mask h0 h1, ← lo8_mask k0 k1, h]
/-- arrays coded by one coder are equal just where the texts are -/
theorem Cod.eqv {cd : Int32} {n k : Nat} {f g : Nat → Int32} {V V' : Cell} (h : Cod cd n f V) (h' : Cod cd k g V') (hf : ∀ j, j < n → ¬ f j < 0 ∧ ¬ 65535 < f j) (hg : ∀ j, j < k → ¬ g j < 0 ∧ ¬ 65535 < g j) : EqC V V' ↔ SameT n f k g := by
  have yvv : ∀ {W : Cell} {i : Nat} {x : Int32}, W.slots[i]? = some (.int x) → yv W i = x := fun q => by unfold yv; rw [q]
  rcases h with ⟨rfl, k1, k2⟩ | ⟨rfl, k1, k2, -⟩
  · rcases h' with ⟨-, m1, m2⟩ | ⟨e, -⟩
    · constructor
      · rintro ⟨e1, e2⟩
        refine ⟨by omega, fun j hj => ?_⟩
        have q := e2 j (by omega)
        rw [yvv (k2 j hj).1, yvv (m2 j (by omega)).1] at q
        exact lo8_inj (hf j hj).1 (k2 j hj).2 (hg j (by omega)).1 (m2 j (by omega)).2 q
      · rintro ⟨rfl, e2⟩
        refine ⟨by omega, fun j hj => ?_⟩
        rw [yvv (k2 j (by omega)).1, yvv (m2 j (by omega)).1, e2 j (by omega)]
    · exact absurd e (by decide)
  · rcases h' with ⟨e, -⟩ | ⟨-, m1, m2, -⟩
    · exact absurd e (by decide)
    · constructor
      · rintro ⟨e1, e2⟩
        refine ⟨by omega, fun j hj => ?_⟩
        have q1 := e2 (2 * j) (by omega)
        have q2 := e2 (2 * j + 1) (by omega)
        rw [yvv (k2 j hj).1, yvv (m2 j (by omega)).1] at q1
        rw [yvv (k2 j hj).2, yvv (m2 j (by omega)).2] at q2
        rw [← pair_says (hf j hj).1 (hf j hj).2, ← pair_says (hg j (by omega)).1 (hg j (by omega)).2, q1, q2]
      · rintro ⟨rfl, e2⟩
        refine ⟨by omega, fun i hi => ?_⟩
        rcases Nat.mod_two_eq_zero_or_one i with e | e
        · obtain ⟨j, rfl⟩ : ∃ j, i = 2 * j := ⟨i / 2, by omega⟩
          rw [yvv (k2 j (by omega)).1, yvv (m2 j (by omega)).1, e2 j (by omega)]
        · obtain ⟨j, rfl⟩ : ∃ j, i = 2 * j + 1 := ⟨i / 2, by omega⟩
          rw [yvv (k2 j (by omega)).2, yvv (m2 j (by omega)).2, e2 j (by omega)]
/-- two codings differ: so do the texts -/
theorem Cod.dif {cd cd' : Int32} {n k : Nat} {f g : Nat → Int32} {V V' : Cell} (h : Cod cd n f V) (h' : Cod cd' k g V') (hne : ¬ cd = cd') : ¬ SameT n f k g := by
  rintro ⟨rfl, e⟩
  rcases h with ⟨rfl, -, k2⟩ | ⟨rfl, -, -, j, hj, hw⟩
  · rcases h' with ⟨rfl, -⟩ | ⟨-, -, -, j, hj, hw⟩
    · exact hne rfl
    · exact (k2 j hj).2 (by rw [e j hj]; exact hw)
  · rcases h' with ⟨-, -, m2⟩ | ⟨rfl, -⟩
    · exact (m2 j hj).2 (by rw [← e j hj]; exact hw)
    · exact hne rfl
/-- an object of exactly C is an instance of C -/
theorem cinst {p : Program} {l : Launch} {e : Env} {R : Room} {s : State} {m : MethodId} {args : Array Value} {below : List Frame} {meth : Method} {c : Code} {T : State} {locs : List Loc} {cells slots : Nat} (X : Stand p l e R s m args below meth c T locs cells slots) (hexec : p.tables.exec = Jvm.exec) {own C : String} {index : Nat} (hown : s.vm.findClass own = some m.cls) (hlink : (Cond.classLink own index C).before args s = true) {a : Addr} (hE : Exact C a T)
    {g : JFrame} (hg : g.method = m) {rest : List Value} (hstack : g.stack = .ref a :: rest) (hdg : decode c.code g.pc = .ok (.instanceof index, 3)) :
    ∃ T', Stand p l e R s m args below meth c T' locs cells slots ∧ T'.heap = T.heap ∧ ∀ target, Steps p.tables e below (T'.setTop { g with pc := g.pc + 3, stack := .int 1 :: rest }) target → Steps p.tables e below (T.setTop g) target := by
  obtain ⟨cB, h1, D, h2, h3, h4⟩ := hE
  have h1' : s.vm.findClass C = some cB := by rw [← X.warmed.alike.findClass]; exact h1
  obtain ⟨vm', X', st⟩ := X.instanceofYes hexec hown hlink h2 h4 h1' (by rw [h3]; exact Jvm.Free.SB.assignable_self _ _) hg hstack hdg
  exact ⟨_, X', rfl, st⟩
theorem cself {p : Program} {l : Launch} {e : Env} {R : Room} {s : State} {m : MethodId} {args : Array Value} {below : List Frame} {meth : Method} {c : Code} {T : State} {locs : List Loc} {cells slots : Nat} (X : Stand p l e R s m args below meth c T locs cells slots) (hexec : p.tables.exec = Jvm.exec) {own C : String} {index : Nat} (hown : s.vm.findClass own = some m.cls) (hlink : (Cond.classLink own index C).before args s = true) {a : Addr} (hE : Exact C a T)
    {g : JFrame} (hg : g.method = m) {rest : List Value} (hstack : g.stack = .ref a :: rest) (hdg : decode c.code g.pc = .ok (.checkcast index, 3)) :
    ∃ T', Stand p l e R s m args below meth c T' locs cells slots ∧ T'.heap = T.heap ∧ ∀ target, Steps p.tables e below (T'.setTop { g with pc := g.pc + 3, stack := .ref a :: rest }) target → Steps p.tables e below (T.setTop g) target := by
  obtain ⟨cB, h1, D, h2, h3, h4⟩ := hE
  have h1' : s.vm.findClass C = some cB := by rw [← X.warmed.alike.findClass]; exact h1
  obtain ⟨vm', X', st⟩ := X.checkcastYes hexec hown hlink h2 h4 h1' (by rw [h3]; exact Jvm.Free.SB.assignable_self _ _) hg hstack hdg
  exact ⟨_, X', rfl, fun t h => st t (by rw [← hstack] at h; exact h)⟩
namespace SEq
def yN : MethodName := ⟨"java/lang/String", "equals", "(Ljava/lang/Object;)Z"⟩
abbrev yB : ByteArray := jdk_42_method_66_code
theorem d0 : decode yB 0 = .ok (.aload_n 0, 1) := by decide +kernel
theorem d1 : decode yB 1 = .ok (.aload_n 1, 1) := by decide +kernel
theorem d2 : decode yB 2 = .ok (.if_acmp (.ne) 5, 3) := by decide +kernel
theorem d5 : decode yB 5 = .ok (.iconst 1, 1) := by decide +kernel
theorem d6 : decode yB 6 = .ok (.ireturn, 1) := by decide +kernel
theorem d7 : decode yB 7 = .ok (.aload_n 1, 1) := by decide +kernel
theorem d8 : decode yB 8 = .ok (.instanceof 10, 3) := by decide +kernel
theorem d11 : decode yB 11 = .ok (.ifCond (.eq) 43, 3) := by decide +kernel
theorem d14 : decode yB 14 = .ok (.aload_n 1, 1) := by decide +kernel
theorem d15 : decode yB 15 = .ok (.checkcast 10, 3) := by decide +kernel
theorem d18 : decode yB 18 = .ok (.astore_n 2, 1) := by decide +kernel
theorem d19 : decode yB 19 = .ok (.getstatic 38, 3) := by decide +kernel
theorem d22 : decode yB 22 = .ok (.ifCond (.eq) 14, 3) := by decide +kernel
theorem d25 : decode yB 25 = .ok (.aload_n 0, 1) := by decide +kernel
theorem d26 : decode yB 26 = .ok (.getfield 15, 3) := by decide +kernel
theorem d29 : decode yB 29 = .ok (.aload_n 2, 1) := by decide +kernel
theorem d30 : decode yB 30 = .ok (.getfield 15, 3) := by decide +kernel
theorem d33 : decode yB 33 = .ok (.if_icmp (.ne) 21, 3) := by decide +kernel
theorem d36 : decode yB 36 = .ok (.aload_n 0, 1) := by decide +kernel
theorem d37 : decode yB 37 = .ok (.getfield 9, 3) := by decide +kernel
theorem d40 : decode yB 40 = .ok (.aload_n 2, 1) := by decide +kernel
theorem d41 : decode yB 41 = .ok (.getfield 9, 3) := by decide +kernel
theorem d44 : decode yB 44 = .ok (.invokestatic 541, 3) := by decide +kernel
theorem d47 : decode yB 47 = .ok (.ifCond (.eq) 7, 3) := by decide +kernel
theorem d50 : decode yB 50 = .ok (.iconst 1, 1) := by decide +kernel
theorem d51 : decode yB 51 = .ok (.goto 4, 3) := by decide +kernel
theorem d54 : decode yB 54 = .ok (.iconst 0, 1) := by decide +kernel
theorem d55 : decode yB 55 = .ok (.ireturn, 1) := by decide +kernel
def site : List Cond := [.classLink "java/lang/String" 10 "java/lang/String", .fieldLink "java/lang/String" 38 "java/lang/String" "COMPACT_STRINGS" "Z", .fieldLink "java/lang/String" 15 "java/lang/String" "coder" "B", .fieldLink "java/lang/String" 9 "java/lang/String" "value" "[B", LEq.tab] ++ staticW "java/lang/String" 541 LEq.yN
def tab : Cond := tabOf yN yB 3 (some .boolean) site
def P (x t : Addr) (V : Cell) (cd : Int32) (n : Nat) (f : Nat → Int32) (y t' : Addr) (V' : Cell) (cd' : Int32) (k : Nat) (g : Nat → Int32) (z : Int32) (args : Array Value) (s : State) : Prop := args = #[.ref x, .ref y] ∧ Txt x t V cd n f s ∧ Txt y t' V' cd' k g s ∧ StaticIs s "java/lang/String" "COMPACT_STRINGS" "Z" (.int z) ∧ ¬ z = 0
/-- equals(Object) of two Strings: whether the texts are the same -/
theorem law (l : Launch) (x t : Addr) (V : Cell) (cd : Int32) (n : Nat) (f : Nat → Int32) (y t' : Addr) (V' : Cell) (cd' : Int32) (k : Nat) (g : Nat → Int32) (z : Int32) : Law l yN 2 1 1 14 yB 3 (some .boolean) site (P x t V cd n f y t' V' cd' k g z) (Says01 (SameT n f k g)) [] 0 0 := by
  refine Law.of_walk (plainFor_of_name (by decide +kernel)) (by decide +kernel) (by decide +kernel) (by decide) (fun _ _ h => by rw [h.1]; rfl) (fun _ U U' hal hh h => ⟨h.1, h.2.1.mv hal hh, h.2.2.1.mv hal hh, h.2.2.2.1.there hal hh, h.2.2.2.2⟩) (fun r U U' V V' h1 hal h2 h => Says01.mv r U U' V V' h1 hal h2 h) ?_
  intro p e s m args below meth c s₁ X0 hexec hbytes hml hret hlk hnm hown hh0 W hP
  obtain ⟨rfl, hx, hy, s1, hz⟩ := hP
  have c1 : Steps p.tables e below (s₁.setTop (entryFrame m #[.ref x, .ref y] 3)) (s₁.setTop (mkF m 2 #[.val (.ref x), .val (.ref y), .unset] [.ref y, .ref x])) := Steps.trans (entry rfl) (by
    show Steps p.tables e below (s₁.setTop (mkF m 0 #[.val (.ref x), .val (.ref y), .unset] [])) _
    refine XS.aloadN X0.here hexec rfl (hb hbytes d0) rfl rfl ?_
    refine XS.aloadN X0.here hexec rfl (hb hbytes d1) rfl rfl ?_
    exact Steps.refl _)
  by_cases hxy : x = y
  · have c2 : Steps p.tables e below (s₁.setTop (entryFrame m #[.ref x, .ref y] 3)) (s₁.setTop (mkF m 6 #[.val (.ref x), .val (.ref y), .unset] [.int 1])) := c1.trans (by
      refine acmpNo X0.here hexec rfl (hb hbytes d2) rfl rfl rfl (by simp [acmp, hxy]) ?_
      refine iconstV X0.here hexec rfl 1 (hb hbytes d5) (by decide) ?_
      exact Steps.refl _)
    subst hxy
    have ec : cd = cd' := by
      obtain ⟨D, fd, a1, a2, a3⟩ := hx.2.2.1
      obtain ⟨D', fd', b1, b2, b3⟩ := hy.2.2.1
      cases a1.symm.trans b1
      obtain ⟨q1, q2, q3, q4⟩ := a2.1
      obtain ⟨r1, r2, r3, r4⟩ := b2.1
      cases q4.symm.trans r4
      cases a3.symm.trans b3; rfl
    have et : t = t' := by
      obtain ⟨D, fd, a1, a2, a3⟩ := hx.2.1
      obtain ⟨D', fd', b1, b2, b3⟩ := hy.2.1
      cases a1.symm.trans b1
      obtain ⟨q1, q2, q3, q4⟩ := a2.1
      obtain ⟨r1, r2, r3, r4⟩ := b2.1
      cases q4.symm.trans r4
      cases a3.symm.trans b3; rfl
    subst ec et
    have ev : V = V' := by cases hx.2.2.2.1.1.symm.trans hy.2.2.2.1.1; rfl
    subst ev
    have hs : SameT n f k g := (Cod.eqv hx.2.2.2.2.1 hy.2.2.2.2.1 hx.2.2.2.2.2 hy.2.2.2.2.2).mp ⟨rfl, fun _ _ => rfl⟩
    exact ⟨s₁, some (.int 1), _, _, _, X0, rfl, rfl, rfl, (fun h => by cases h), ⟨1, rfl, hh0, Or.inl ⟨rfl, hs⟩⟩, fun fs hl => c2.trans (X0.ireturnOut hexec hret rfl (Or.inr (Or.inl rfl)) (hb hbytes d6) hl)⟩
  · have c2 : Steps p.tables e below (s₁.setTop (entryFrame m #[.ref x, .ref y] 3)) (s₁.setTop (mkF m 8 #[.val (.ref x), .val (.ref y), .unset] [.ref y])) := c1.trans (by
      refine acmpYes X0.here hexec rfl (pc0 := 2) rfl (hb hbytes d2) rfl rfl rfl (by simp [acmp, hxy]) (by decide) rfl ?_
      refine XS.aloadN X0.here hexec rfl (hb hbytes d7) rfl rfl ?_
      exact Steps.refl _)
    obtain ⟨T3, X3, q3, st3⟩ := cinst X0 hexec hown (wk W (.classLink "java/lang/String" 10 "java/lang/String")) (hy.mv X0.warmed.alike hh0).1 (g := (mkF m 8 #[.val (.ref x), .val (.ref y), .unset] [.ref y])) rfl (rest := []) rfl (hb hbytes d8)
    have hh3 := q3.trans hh0
    have c4 : Steps p.tables e below (s₁.setTop (entryFrame m #[.ref x, .ref y] 3)) (T3.setTop (mkF m 15 #[.val (.ref x), .val (.ref y), .unset] [.ref y])) := (c2.trans (st3 _ (Steps.refl _))).trans (by
      refine XS.ifNo X3.here hexec rfl (hb hbytes d11) rfl (i0_eq_f (by decide)) ?_
      refine XS.aloadN X3.here hexec rfl (hb hbytes d14) rfl rfl ?_
      exact Steps.refl _)
    obtain ⟨T5, X5, q5, st5⟩ := cself X3 hexec hown (wk W (.classLink "java/lang/String" 10 "java/lang/String")) (hy.mv X3.warmed.alike hh3).1 (g := (mkF m 15 #[.val (.ref x), .val (.ref y), .unset] [.ref y])) rfl (rest := []) rfl (hb hbytes d15)
    have hh5 := q5.trans hh3
    have c6 : Steps p.tables e below (s₁.setTop (entryFrame m #[.ref x, .ref y] 3)) (T5.setTop (mkF m 19 #[.val (.ref x), .val (.ref y), .val (.ref y)] [])) := (c4.trans (st5 _ (Steps.refl _))).trans (by
      refine XS.astoreN X5.here hexec rfl (hb hbytes d18) rfl rfl rfl ?_
      exact Steps.refl _)
    obtain ⟨T7, X7, q7, st7⟩ := X5.sget hexec hown (wk W (.fieldLink "java/lang/String" 38 "java/lang/String" "COMPACT_STRINGS" "Z")) s1 (fun _ _ h => by rw [hh5]; exact h) (g := (mkF m 19 #[.val (.ref x), .val (.ref y), .val (.ref y)] [])) rfl (hb hbytes d19)
    have hh7 := q7.trans hh5
    have c8 : Steps p.tables e below (s₁.setTop (entryFrame m #[.ref x, .ref y] 3)) (T7.setTop (mkF m 26 #[.val (.ref x), .val (.ref y), .val (.ref y)] [.ref x])) := (c6.trans (st7 _ (Steps.refl _))).trans (by
      refine XS.ifNo X7.here hexec rfl (hb hbytes d22) rfl (i0_eq_f hz) ?_
      refine XS.aloadN X7.here hexec rfl (hb hbytes d25) rfl rfl ?_
      exact Steps.refl _)
    obtain ⟨T9, X9, q9, st9⟩ := X7.hget hexec hown (wk W (.fieldLink "java/lang/String" 15 "java/lang/String" "coder" "B")) (hx.mv X7.warmed.alike hh7).2.2.1 (g := (mkF m 26 #[.val (.ref x), .val (.ref y), .val (.ref y)] [.ref x])) rfl (rest := []) rfl (hb hbytes d26)
    have hh9 := q9.trans hh7
    have c10 : Steps p.tables e below (s₁.setTop (entryFrame m #[.ref x, .ref y] 3)) (T9.setTop (mkF m 30 #[.val (.ref x), .val (.ref y), .val (.ref y)] [.ref y, .int cd])) := (c8.trans (st9 _ (Steps.refl _))).trans (by
      refine XS.aloadN X9.here hexec rfl (hb hbytes d29) rfl rfl ?_
      exact Steps.refl _)
    obtain ⟨T11, X11, q11, st11⟩ := X9.hget hexec hown (wk W (.fieldLink "java/lang/String" 15 "java/lang/String" "coder" "B")) (hy.mv X9.warmed.alike hh9).2.2.1 (g := (mkF m 30 #[.val (.ref x), .val (.ref y), .val (.ref y)] [.ref y, .int cd])) rfl (rest := [.int cd]) rfl (hb hbytes d30)
    have hh11 := q11.trans hh9
    have c12 : Steps p.tables e below (s₁.setTop (entryFrame m #[.ref x, .ref y] 3)) (T11.setTop (mkF m 33 #[.val (.ref x), .val (.ref y), .val (.ref y)] [.int cd', .int cd])) := c10.trans (st11 _ (Steps.refl _))
    by_cases hcd : cd = cd'
    · subst hcd
      have c13 : Steps p.tables e below (s₁.setTop (entryFrame m #[.ref x, .ref y] 3)) (T11.setTop (mkF m 37 #[.val (.ref x), .val (.ref y), .val (.ref y)] [.ref x])) := c12.trans (by
        refine XS.icmpNo X11.here hexec rfl (hb hbytes d33) rfl (ii_ne_f rfl) ?_
        refine XS.aloadN X11.here hexec rfl (hb hbytes d36) rfl rfl ?_
        exact Steps.refl _)
      obtain ⟨T14, X14, q14, st14⟩ := X11.hget hexec hown (wk W (.fieldLink "java/lang/String" 9 "java/lang/String" "value" "[B")) (hx.mv X11.warmed.alike hh11).2.1 (g := (mkF m 37 #[.val (.ref x), .val (.ref y), .val (.ref y)] [.ref x])) rfl (rest := []) rfl (hb hbytes d37)
      have hh14 := q14.trans hh11
      have c15 : Steps p.tables e below (s₁.setTop (entryFrame m #[.ref x, .ref y] 3)) (T14.setTop (mkF m 41 #[.val (.ref x), .val (.ref y), .val (.ref y)] [.ref y, .ref t])) := (c13.trans (st14 _ (Steps.refl _))).trans (by
        refine XS.aloadN X14.here hexec rfl (hb hbytes d40) rfl rfl ?_
        exact Steps.refl _)
      obtain ⟨T16, X16, q16, st16⟩ := X14.hget hexec hown (wk W (.fieldLink "java/lang/String" 9 "java/lang/String" "value" "[B")) (hy.mv X14.warmed.alike hh14).2.1 (g := (mkF m 41 #[.val (.ref x), .val (.ref y), .val (.ref y)] [.ref y, .ref t])) rfl (rest := [.ref t]) rfl (hb hbytes d41)
      have hh16 := q16.trans hh14
      have c17 : Steps p.tables e below (s₁.setTop (entryFrame m #[.ref x, .ref y] 3)) (T16.setTop (mkF m 44 #[.val (.ref x), .val (.ref y), .val (.ref y)] [.ref t', .ref t])) := c15.trans (st16 _ (Steps.refl _))
      obtain ⟨v18, T18, X18, E18, g18⟩ := X16.callS hexec (LEq.law l t V t' V') hown (wks W (staticW "java/lang/String" 541 LEq.yN)) (wk W LEq.tab) (W := 0) (Nat.le_of_ble_eq_true rfl) (Nat.le_of_ble_eq_true rfl) (Nat.le_refl _) (Nat.le_refl _) (g := (mkF m 44 #[.val (.ref x), .val (.ref y), .val (.ref y)] [.ref t', .ref t])) rfl (by rw [hml]; rfl) c17 (argsL := [.ref t, .ref t']) (rest := []) rfl rfl (by show 2 * 0 + 0 ≤ _; decide) (hb hbytes d44) (⟨rfl, hx.2.2.2.1.mv X16.warmed.alike hh16, hx.2.2.2.2.1.ty, hy.2.2.2.1.mv X16.warmed.alike hh16, hy.2.2.2.2.1.ty⟩)
      obtain ⟨v, rfl, q18, hv⟩ := E18
      have iff := Cod.eqv hx.2.2.2.2.1 hy.2.2.2.2.1 hx.2.2.2.2.2 hy.2.2.2.2.2
      rcases hv with ⟨rfl, he⟩ | ⟨rfl, he⟩
      · have c19 : Steps p.tables e below (s₁.setTop (entryFrame m #[.ref x, .ref y] 3)) (T18.setTop (mkF m 55 #[.val (.ref x), .val (.ref y), .val (.ref y)] [.int 1])) := Steps.trans g18 (by
          refine XS.ifNo X18.here hexec rfl (hb hbytes d47) rfl (i0_eq_f (by decide)) ?_
          refine iconstV X18.here hexec rfl 1 (hb hbytes d50) (by decide) ?_
          refine XS.goto X18.here hexec rfl (pc0 := 51) rfl (hb hbytes d51) (by decide) rfl ?_
          exact Steps.refl _)
        exact ⟨T18, some (.int 1), _, _, _, X18, rfl, rfl, rfl, (fun h => by cases h), ⟨1, rfl, q18.trans hh16, Or.inl ⟨rfl, iff.mp he⟩⟩, fun fs hl => c19.trans (X18.ireturnOut hexec hret rfl (Or.inr (Or.inl rfl)) (hb hbytes d55) hl)⟩
      · have c19 : Steps p.tables e below (s₁.setTop (entryFrame m #[.ref x, .ref y] 3)) (T18.setTop (mkF m 55 #[.val (.ref x), .val (.ref y), .val (.ref y)] [.int 0])) := Steps.trans g18 (by
          refine XS.ifYes X18.here hexec rfl (pc0 := 47) rfl (hb hbytes d47) rfl (i0_eq_t rfl) (by decide) rfl ?_
          refine iconstV X18.here hexec rfl 0 (hb hbytes d54) (by decide) ?_
          exact Steps.refl _)
        exact ⟨T18, some (.int 0), _, _, _, X18, rfl, rfl, rfl, (fun h => by cases h), ⟨0, rfl, q18.trans hh16, Or.inr ⟨rfl, fun q => he (iff.mpr q)⟩⟩, fun fs hl => c19.trans (X18.ireturnOut hexec hret rfl (Or.inr (Or.inl rfl)) (hb hbytes d55) hl)⟩
    · have c13 : Steps p.tables e below (s₁.setTop (entryFrame m #[.ref x, .ref y] 3)) (T11.setTop (mkF m 55 #[.val (.ref x), .val (.ref y), .val (.ref y)] [.int 0])) := c12.trans (by
        refine XS.icmpYes X11.here hexec rfl (pc0 := 33) rfl (hb hbytes d33) rfl (ii_ne_t hcd) (by decide) rfl ?_
        refine iconstV X11.here hexec rfl 0 (hb hbytes d54) (by decide) ?_
        exact Steps.refl _)
      exact ⟨T11, some (.int 0), _, _, _, X11, rfl, rfl, rfl, (fun h => by cases h), ⟨0, rfl, hh11, Or.inr ⟨rfl, Cod.dif hx.2.2.2.2.1 hy.2.2.2.2.1 hcd⟩⟩, fun fs hl => c13.trans (X11.ireturnOut hexec hret rfl (Or.inr (Or.inl rfl)) (hb hbytes d55) hl)⟩
theorem pays {l : Launch} {R : Room} {p : Program} {e : Env} {below : List Frame} {s : State} {sargs : Array Value} {len W : Nat} (x t : Addr) (V : Cell) (cd : Int32) (n : Nat) (f : Nat → Int32) (y t' : Addr) (V' : Cell) (cd' : Int32) (k : Nat) (g : Nat → Int32) (z : Int32) (htab : tab.before sargs s = true) (hfr : 2 ≤ R.frames) (hlo : W + 28 ≤ R.locals) :
    Back l R p e below s sargs yN len W (fun A₁ a₁ => A₁.cells + 0 ≤ R.cells ∧ A₁.slots + 0 ≤ R.slots ∧ P x t V cd n f y t' V' cd' k g z a₁ A₁.U) (fun A₁ _ v₁ B₁ => Says01 (SameT n f k g) v₁ A₁.U B₁.U ∧ B₁.locs = A₁.locs ++ [] ∧ B₁.cells = A₁.cells + 0 ∧ B₁.slots = A₁.slots + 0) :=
  (law l x t V cd n f y t' V' cd' k g z).pays htab hfr (by omega)
end SEq
end StrChars
namespace StrChars.Road
open Jvm Sem ClassFile Op Lib Jvm.Stand Jvm.Free Jvm.Free.XT
open Jvm.Lib.Cold (StaticIs)
/-- the words of String.equals(Object) -/
abbrev wordsEq : List Jvm.Cond := [.code SEq.yN SEq.yB 3 (some .boolean), .initialized ST, .classLink ST 10 ST, .fieldLink ST 38 ST "COMPACT_STRINGS" "Z", .fieldLink ST 15 ST "coder" "B", .fieldLink ST 9 ST "value" "[B", .methodLink ST 541 LEq.yN, .static LEq.yN, .code LEq.yN LEq.yB 3 (some .boolean), .initialized "java/lang/StringLatin1"]
theorem tabEq_of {a : Array Value} {s : State} (h : ∀ w ∈ wordsEq, w.before a s = true) : SEq.tab.before a s = true := by
  have hl : LEq.tab.before a s = true := unparts (wk h (.code LEq.yN LEq.yB 3 (some .boolean))) (wks h (.initialized LEq.yN.cls :: LEq.site))
  have q := consq hl h
  exact unparts (wk q (.code SEq.yN SEq.yB 3 (some .boolean))) (wks q (.initialized SEq.yN.cls :: SEq.site))
theorem movedEq {Z s : State} {a0 args : Array Value} (hZ : Z.Warmed39 s.vm) (hw : ∀ d ∈ wordsEq, d.before a0 Z = true) : ∀ d ∈ wordsEq, d.before args s = true := fun d hd => by
  have t : ∀ d ∈ wordsEq, (d.onTables && d.keepsFace) = true := by decide +kernel
  exact RoadKit.mv hZ (hw d hd) (t d hd)
/-- the road's facts of a String, as the laws ask it -/
theorem txt_of {Z U : State} {a0 : Array Value} {kI : Nat} (wi : (Jvm.Cond.instantiable ST kI).before a0 Z = true) (al : Z.vm.Alike U.vm) {x t : Addr} {kb : ClassId} {cs : List Int32} {cd N2 : Int32} {vs : List Value} (E : RoadKit.Exa Z U.heap x ST) (V : RoadKit.Fld Z U.heap x ST "value" "[B" (.ref t)) (C : RoadKit.Fld Z U.heap x ST "coder" "B" (.int cd)) (K : RoadKit.Arv Z U.heap t kb .byte N2 vs (.int 0)) (hc : CodA cs cd N2 vs) (hb : ∀ c ∈ cs, ¬ c < 0 ∧ ¬ (65535 : Int32) < c) (l2 : cs.length ≤ 4000) :
    ∃ A, Txt x t A cd cs.length (fun j => cs.getD j 0) U := by
  obtain ⟨A, K1, K2, K3, K4, K5, K6⟩ := K
  have hcod := hc.cod (by omega) K3 K5
  obtain ⟨D, fV, fC, hB, F1, F2, g1, g2, -, -⟩ := strObj wi al E V C
  exact ⟨A, ⟨_, hB.2.2.1, D, hB.1, rfl, by cases q : D.vm <;> first | rfl | exact absurd q (hB.2.1.2 _)⟩, Has.of hB F1 g1, Has.of hB F2 g2, ⟨K1.1, State.isArrayOf_alike al K1.2.1, K1.2.2, by rcases hcod with ⟨-, q, -⟩ | ⟨-, q, -⟩ <;> omega⟩, hcod, fun j hj => by
    have e : cs.getD j 0 = cs[j] := by simp [List.getD_eq_getElem?_getD, hj]
    show ¬ cs.getD j 0 < 0 ∧ ¬ 65535 < cs.getD j 0
    rw [e]; exact hb _ (List.getElem_mem _)⟩
theorem same_list (cs ds : List Int32) : SameT cs.length (fun j => cs.getD j 0) ds.length (fun j => ds.getD j 0) ↔ cs = ds := by
  constructor
  · rintro ⟨e, q⟩
    refine List.ext_getElem e fun j h1 h2 => ?_
    have := q j h1
    simpa [List.getD_eq_getElem?_getD, h1, h2] using this
  · rintro rfl
    exact ⟨rfl, fun _ _ => rfl⟩
/-- **equals(Object) OF TWO SUCH STRINGS**: 1 just where the chars are the same -/
theorem eqW {p : Program} {l : Launch} {e : Env} {R : Room} {s : State} {args : Array Value} {below : List Frame} {len W : Nat} {Z : State} {a0 : Array Value} {h : Heap} (hZ : Z.Warmed39 s.vm) (hw : ∀ d ∈ wordsEq, d.before a0 Z = true) {kI : Nat} (wi : (Jvm.Cond.instantiable ST kI).before a0 Z = true)
    {x t : Addr} {kb : ClassId} {cs : List Int32} {cd N2 : Int32} {vs : List Value} (E : RoadKit.Exa Z h x ST) (V : RoadKit.Fld Z h x ST "value" "[B" (.ref t)) (C : RoadKit.Fld Z h x ST "coder" "B" (.int cd)) (K : RoadKit.Arv Z h t kb .byte N2 vs (.int 0)) (hc : CodA cs cd N2 vs) (hb : ∀ c ∈ cs, ¬ c < 0 ∧ ¬ (65535 : Int32) < c) (l2 : cs.length ≤ 4000)
    {y t' : Addr} {kb' : ClassId} {ds : List Int32} {cd' N2' : Int32} {vs' : List Value} (E' : RoadKit.Exa Z h y ST) (V' : RoadKit.Fld Z h y ST "value" "[B" (.ref t')) (C' : RoadKit.Fld Z h y ST "coder" "B" (.int cd')) (K' : RoadKit.Arv Z h t' kb' .byte N2' vs' (.int 0)) (hc' : CodA ds cd' N2' vs') (hb' : ∀ c ∈ ds, ¬ c < 0 ∧ ¬ (65535 : Int32) < c) (l2' : ds.length ≤ 4000)
    {z : Int32} (S : RoadKit.Sta Z h ST "COMPACT_STRINGS" "Z" (.int z)) (hz : ¬ z = 0) (hfr : 2 ≤ R.frames) (hlo : W + 28 ≤ R.locals) :
    Back l R p e below s args (⟨"java/lang/String", "equals", "(Ljava/lang/Object;)Z"⟩ : MethodName) len W (fun P a => a = #[.ref x, .ref y] ∧ P.U.heap = h ∧ P.cells + 0 ≤ R.cells ∧ P.slots + 0 ≤ R.slots)
      (fun P _ v B => ∃ L, (((v = some (.int 1) ∧ cs = ds) ∨ (v = some (.int 0) ∧ ¬ cs = ds)) ∧ L = [] ∧ B.U.heap = h) ∧ B.locs = P.locs ++ L ∧ B.cells = P.cells + 0 ∧ B.slots = P.slots + 0) := by
  intro m meth c P g ig mk a X hg hsize hdg hW hn hp'
  obtain ⟨rfl, rfl, r1, r2⟩ := hp'
  have al : Z.vm.Alike P.U.vm := hZ.alike.trans X.warmed.alike
  obtain ⟨A, hx⟩ := txt_of wi al E V C K hc hb l2
  obtain ⟨A', hy⟩ := txt_of wi al E' V' C' K' hc' hb' l2'
  obtain ⟨v, B, X', ⟨⟨w, hv, hh, hq⟩, hl, hk, hs⟩, st⟩ := SEq.pays x t A cd cs.length (fun j => cs.getD j 0) y t' A' cd' ds.length (fun j => ds.getD j 0) z (tabEq_of (movedEq hZ hw)) hfr hlo m meth c P g ig mk _ X hg hsize hdg hW hn ⟨r1, r2, rfl, hx, hy, sta_is al S, hz⟩
  refine ⟨v, B, X', ⟨[], ⟨?_, rfl, hh⟩, hl, hk, hs⟩, st⟩
  rcases hq with ⟨rfl, q⟩ | ⟨rfl, q⟩
  · exact Or.inl ⟨hv, (same_list cs ds).mp q⟩
  · exact Or.inr ⟨hv, fun e => q ((same_list cs ds).mpr e)⟩
end StrChars.Road
namespace StrChars.Road
open Jvm Sem ClassFile Op Lib Jvm.Stand Jvm.Free Jvm.Free.XT
open Jvm.Lib.Cold (StaticIs)
/-- what backV says of its String, as the contracts of this text ask it: cs's low bytes, coder 0 -/
theorem codOf {cs : List Int32} {n : Nat} (hn : cs.length = n) (hb : ∀ c ∈ cs, ¬ 255 < c) : CodA cs 0 (Int32.ofNat n) ((cs.map lo8).map Value.int) := Or.inl ⟨rfl, by rw [hn], by simp [List.map_map, Function.comp_def], hb⟩
end StrChars.Road
end Jvm.Pilot.@@N@@
set_option maxRecDepth 65536
set_option maxHeartbeats 4000000
namespace Jvm.Pilot.@@N@@
open Jvm Jvm.ClassFile Sem Op Lib Jvm.Free Jvm.Stand Jvm.LawKit Jvm.RoadKit Bundle Jvm.Own Jvm.Pilot.@@N@@.Jvm.D
theorem pn_0 : plainName "java/lang/String" = true := by first | (simp [plainName, overriddenIn]; done) | decide +kernel
theorem pd_0 : parseMethodDescriptor "([CIILjava/lang/Void;)V" = some ⟨[(.array .char), .int, .int, (.object "java/lang/Void")], none⟩ := by decide +kernel
theorem pd_1 : parseMethodDescriptor "([C)V" = some ⟨[(.array .char)], none⟩ := by decide +kernel
theorem pn_1 : plainName "java/lang/StringLatin1" = true := by first | (simp [plainName, overriddenIn]; done) | decide +kernel
theorem pd_2 : parseMethodDescriptor "(C)Z" = some ⟨[.char], some .boolean⟩ := by decide +kernel
theorem pd_3 : parseMethodDescriptor "(C)[B" = some ⟨[.char], some (.array .byte)⟩ := by decide +kernel
theorem pd_4 : parseMethodDescriptor "([BB)V" = some ⟨[(.array .byte), .byte], none⟩ := by decide +kernel
theorem pd_5 : parseMethodDescriptor "(C)Ljava/lang/String;" = some ⟨[.char], some (.object "java/lang/String")⟩ := by decide +kernel
theorem pn_2 : plainName "com/example/paramarc/paramarc/TokenIsPinLaw" = true := by first | (simp [plainName, overriddenIn]; done) | decide +kernel
theorem pd_6 : parseMethodDescriptor "(ICC)Ljava/lang/String;" = some ⟨[.int, .char, .char], some (.object "java/lang/String")⟩ := by decide +kernel
theorem pd_7 : parseMethodDescriptor "(I)Lcom/example/paramarc/paramarc/Token$Kind;" = some ⟨[.int], some (.object "com/example/paramarc/paramarc/Token$Kind")⟩ := by decide +kernel
theorem pn_3 : plainName "com/example/paramarc/paramarc/Position" = true := by first | (simp [plainName, overriddenIn]; done) | decide +kernel
theorem pd_8 : parseMethodDescriptor "(Ljava/lang/String;IILjava/lang/String;)V" = some ⟨[(.object "java/lang/String"), .int, .int, (.object "java/lang/String")], none⟩ := by decide +kernel
theorem pd_9 : parseMethodDescriptor "(Ljava/lang/String;II)V" = some ⟨[(.object "java/lang/String"), .int, .int], none⟩ := by decide +kernel
theorem pn_4 : plainName "com/example/paramarc/paramarc/Token" = true := by first | (simp [plainName, overriddenIn]; done) | decide +kernel
theorem pd_10 : parseMethodDescriptor "(Lcom/example/paramarc/paramarc/Token$Kind;Ljava/lang/String;Lcom/example/paramarc/paramarc/Position;)V" = some ⟨[(.object "com/example/paramarc/paramarc/Token$Kind"), (.object "java/lang/String"), (.object "com/example/paramarc/paramarc/Position")], none⟩ := by decide +kernel
theorem pd_11 : parseMethodDescriptor "(Ljava/lang/String;)Z" = some ⟨[(.object "java/lang/String")], some .boolean⟩ := by decide +kernel
theorem pd_12 : parseMethodDescriptor "(Ljava/lang/Object;)Z" = some ⟨[(.object "java/lang/Object")], some .boolean⟩ := by decide +kernel

def Str (V : Vw) (h : Heap) (m : Nat) (x : Nat) (cs : List Int32) : Prop := ∃ (t : Nat) (kb : ClassId) (cd N2 : Int32) (vs : List Value), x < m ∧ t < m ∧ m ≤ h.size ∧ Exa V.Z h x "java/lang/String" ∧ Fld V.Z h x "java/lang/String" "value" "[B" (.ref t) ∧ Fld V.Z h x "java/lang/String" "coder" "B" (.int cd) ∧ Arv V.Z h t kb .byte N2 vs (.int 0) ∧ StrChars.Road.CodA cs cd N2 vs ∧ (∀ c ∈ cs, ¬ c < 0 ∧ ¬ (65535 : Int32) < c) ∧ cs.length ≤ 4000
theorem Str.ext {V : Vw} {h h' : Heap} {m : Nat} {x : Nat} {cs : List Int32} (E : Ext h h') (S : Str V h m x cs) : Str V h' m x cs := by
  obtain ⟨t, kb, cd, N2, vs, a1, a2, a3, a4, a5, a6, a7, a8⟩ := S
  exact ⟨t, kb, cd, N2, vs, a1, a2, Nat.le_trans a3 E.1, a4.ext E, a5.ext E, a6.ext E, a7.ext E, a8⟩
theorem Str.up {V : Vw} {h : Heap} {m m' : Nat} {x : Nat} {cs : List Int32} (S : Str V h m x cs) (q : m ≤ m') (r : m' ≤ h.size) : Str V h m' x cs := by
  obtain ⟨t, kb, cd, N2, vs, a1, a2, a3, a8⟩ := S
  exact ⟨t, kb, cd, N2, vs, by omega, by omega, r, a8⟩
theorem Str.keep {V : Vw} {h h' : Heap} {ws : List Addr} {m : Nat} {x : Nat} {cs : List Int32} (K : Keep h h' ws) (q : ∀ w ∈ ws, m ≤ w) (S : Str V h m x cs) : Str V h' m x cs := by
  obtain ⟨t, kb, cd, N2, vs, a1, a2, a3, a4, a5, a6, a7, a8⟩ := S
  have nx : x ∉ ws := fun z => absurd (q x z) (by omega)
  have nt : t ∉ ws := fun z => absurd (q t z) (by omega)
  exact ⟨t, kb, cd, N2, vs, a1, a2, Nat.le_trans a3 K.1, a4.keep K, a5.keep K nx, a6.keep K nx, a7.keep K nt, a8⟩
theorem Str.keepE {V : Vw} {h h' : Heap} {a : Nat} {C : String} {n m : Nat} {x : Nat} {cs : List Int32} (K : Keep h h' [a]) (E : Exa V.Z h a C) (hC : C ≠ "java/lang/String") (wi : (Jvm.Cond.instantiable C n).before V.a0 V.Z = true) (S : Str V h m x cs) : Str V h' m x cs := by
  obtain ⟨t, kb, cd, N2, vs, a1, a2, a3, a4, a5, a6, a7, a8⟩ := S
  have nx : x ∉ [a] := ninS (a4.ne E (Ne.symm hC)) nin0
  have nt : t ∉ [a] := ninS (Ne.symm (E.neArv a7 wi)) nin0
  exact ⟨t, kb, cd, N2, vs, a1, a2, Nat.le_trans a3 K.1, a4.keep K, a5.keep K nx, a6.keep K nx, a7.keep K nt, a8⟩
theorem Arr.neTy {Z : State} {h : Heap} {a b : Nat} {c d : Cell} {ty ty' : FieldType} (A : RoadKit.Arr Z h a c ty) (D : RoadKit.Arr Z h b d ty') (q : ty ≠ ty') : a ≠ b := fun e => by
  subst e
  cases A.1.symm.trans D.1
  obtain ⟨-, k1, h1, c1, g1⟩ := A.2.1
  obtain ⟨-, k2, h2, c2, g2⟩ := D.2.1
  cases h1.symm.trans h2
  rw [g1] at g2
  injection g2 with _ g3
  exact q g3
theorem Str.keepA {V : Vw} {h h' : Heap} {a : Nat} {k : ClassId} {ty : FieldType} {z : Int32} {us : List Value} {dv : Value} {n m : Nat} {x : Nat} {cs : List Int32} (K : Keep h h' [a]) (A : Arv V.Z h a k ty z us dv) (hty : ty ≠ .byte) (wi : (Jvm.Cond.instantiable "java/lang/String" n).before V.a0 V.Z = true) (S : Str V h m x cs) : Str V h' m x cs := by
  obtain ⟨t, kb, cd, N2, vs, a1, a2, a3, a4, a5, a6, a7, a8⟩ := S
  have nx : x ∉ [a] := ninS (a4.neArv A wi) nin0
  have nt : t ∉ [a] := ninS (fun e => by obtain ⟨c1, A1, -⟩ := A; obtain ⟨c2, A2, -⟩ := a7; exact Arr.neTy A1 A2 hty e.symm) nin0
  exact ⟨t, kb, cd, N2, vs, a1, a2, Nat.le_trans a3 K.1, a4.keep K, a5.keep K nx, a6.keep K nx, a7.keep K nt, a8⟩
theorem Str.exa {V : Vw} {h : Heap} {m : Nat} {x : Nat} {cs : List Int32} (S : Str V h m x cs) : Exa V.Z h x "java/lang/String" := by
  obtain ⟨t, kb, cd, N2, vs, a1, a2, a3, a4, -⟩ := S; exact a4
theorem Str.lt {V : Vw} {h : Heap} {m : Nat} {x : Nat} {cs : List Int32} (S : Str V h m x cs) : x < m ∧ m ≤ h.size := by
  obtain ⟨t, kb, cd, N2, vs, a1, a2, a3, a4, -⟩ := S; exact ⟨a1, a3⟩
theorem up16 {cs : List Int32} (h : ∀ c ∈ cs, By c) : ∀ c ∈ cs, ¬ c < 0 ∧ ¬ (65535 : Int32) < c := fun c hc => ⟨(h c hc).1, fun q => (h c hc).2 (by
  rw [Int32.lt_iff_toInt_lt] at q ⊢; have e1 : (65535 : Int32).toInt = 65535 := rfl; have e2 : (255 : Int32).toInt = 255 := rfl; omega)⟩

def Qsm (q : Prop) (h0 : Heap) : Qt := fun v h _ => ∃ b : Int32, v = some (.int b) ∧ h = h0 ∧ (b = 1 ∧ q ∨ b = 0 ∧ ¬ q)
theorem bt {b : Int32} {q : Prop} (h : b = 1 ∧ q ∨ b = 0 ∧ ¬ q) (c : ¬ b = 0) : q := h.elim (fun x => x.2) (fun x => absurd x.1 c)
theorem bf {b : Int32} {q : Prop} (h : b = 1 ∧ q ∨ b = 0 ∧ ¬ q) (c : b = 0) : ¬ q := h.elim (fun x => absurd (x.1.symm.trans c) (by decide)) (fun x => x.2)
theorem beq {b c : Int32} {q r : Prop} (h : b = 1 ∧ q ∨ b = 0 ∧ ¬ q) (k : c = 1 ∧ r ∨ c = 0 ∧ ¬ r) (e : q ↔ r) : b = c := by
  rcases h with ⟨rfl, x⟩ | ⟨rfl, x⟩ <;> rcases k with ⟨rfl, y⟩ | ⟨rfl, y⟩ <;> first | rfl | exact absurd (e.mp x) y | exact absurd (e.mpr y) x
theorem bnar {b : Int32} {q : Prop} (h : b = 1 ∧ q ∨ b = 0 ∧ ¬ q) : RoadKit.nar .boolean b = b := by rcases h with ⟨rfl, x⟩ | ⟨rfl, x⟩ <;> rfl
def Qmk (V : Vw) (cs : List Int32) (h0 : Heap) : Qt := fun v h _ => ∃ x : Nat, v = some (.ref x) ∧ Ext h0 h ∧ Str V h h.size x cs
theorem Keep.ext0 {h h1 h2 : Heap} {ws : List Addr} (E : Ext h h1) (K : Keep h1 h2 ws) (q : ∀ w ∈ ws, h.size ≤ w) : Ext h h2 := ⟨Nat.le_trans E.1 K.1, fun a c hc => K.2.1 a c (E.2 a c hc) fun z => absurd (Array.getElem?_eq_some_iff.mp hc).1 (Nat.not_lt.mpr (q a z))⟩
theorem Ext.wr0 {h h1 h2 : Heap} {a : Nat} {j : Nat} {v : Value} (E : Ext h h1) (W : Wr h1 h2 a j v) (q : h.size ≤ a) : Ext h h2 := Keep.ext0 E (Keep.of_wr W) (fun w hw => by cases List.mem_singleton.mp hw; exact q)
theorem Ext.refl0 (h : Heap) : Ext h h := ⟨Nat.le_refl _, fun _ _ q => q⟩
theorem nby {c : Int32} (h : By c) : RoadKit.nar .char c = c := by
  have f := c_i2c c
  obtain ⟨a, b⟩ := h
  rw [Int32.lt_iff_toInt_lt] at a b
  have e0 : (0 : Int32).toInt = 0 := rfl
  have e1 : (255 : Int32).toInt = 255 := rfl
  show c.toUInt32.toUInt16.toUInt32.toInt32 = c
  rw [← Int32.toInt_inj]; omega
theorem by0 : ∀ c ∈ ([] : List Int32), By c := fun _ q => nomatch q
theorem by1 {a : Int32} (h : By a) : ∀ c ∈ [a], By c := fun c hc => by cases List.mem_singleton.mp hc; exact h
theorem byS {a : Int32} {l : List Int32} (h : By a) (t : ∀ c ∈ l, By c) : ∀ c ∈ a :: l, By c := fun c hc => by rcases List.mem_cons.mp hc with rfl | hc; exact h; exact t c hc
def Qn (V : Vw) (x : Nat) (cs : List Int32) (h0 : Heap) : Qt := fun v h _ => v = none ∧ Keep h0 h [x] ∧ Str V h h.size x cs
theorem wds (V : Vw) (hw : ∀ d ∈ tables_1, d.before V.a0 V.Z = true) (ws : List Jvm.Cond) (h : ∀ d ∈ ws, d ∈ tables_1) : ∀ d ∈ ws, d.before V.a0 V.Z = true := fun d hd => hw d (h d hd)
theorem pay_newN (V : Vw) (hw : ∀ d ∈ tables_1, d.before V.a0 V.Z = true) (K : Cx) (B : Bx) (W : Nat) (x b : Nat) (kC : ClassId) (cs : List Int32) (N : Int32) (h : Heap) (ps : List Addr) (d v0 c0 : Value) (zx : V.Z.heap.size ≤ x) (zh : V.Z.heap.size ≤ h.size) (E : Exa V.Z h x "java/lang/String") (Fv : Fld V.Z h x "java/lang/String" "value" "[B" v0) (Fc : Fld V.Z h x "java/lang/String" "coder" "B" c0) (A : Arv V.Z h b kC .char N (cs.map Value.int) d) (O : Ext V.Z.heap h) (cz : Int32) (hCS : Sta V.Z V.Z.heap "java/lang/String" "COMPACT_STRINGS" "Z" (.int cz)) (hcz : ¬ cz = 0) (hN : N = Int32.ofNat cs.length) (l0 : 0 < cs.length) (l2 : cs.length ≤ 4000) (hp : ∀ c ∈ cs, By c) (hxp : x ∈ ps) (hfr : 4 ≤ B.R.frames) (hlo : W + 65 ≤ B.R.locals) :
    Pays V K B (⟨"java/lang/String", "<init>", "([C)V"⟩ : MethodName) 3 W #[.ref x, .ref b] h ps 1 cs.length (Qn V x cs h) :=
  Pays.back (ws := [x]) (fun s hZ => StrChars.Road.backV (W := W) hZ (wds V hw _ (by decide +kernel)) (kI := 4) (wd hw 6 rfl) (cs := cs) (bs := cs.map (fun c => c.toInt8.toInt32)) (n := cs.length) zx zh E Fv Fc A (hCS.ext O) hcz rfl hN l0 l2 hp rfl hfr hlo)
    (fun v h' L q => by
      obtain ⟨q1, q2, q3, q4, q5, t, kb, q6, q7, q8, q9, q10⟩ := q
      exact ⟨q2, q3, q1, q3, t, kb, 0, N, _, q4.lt, q10.lt, Nat.le_refl _, q4, q9, q5, q10, Or.inl ⟨rfl, hN, by simp [List.map_map, Function.comp_def, StrChars.lo8], fun c hc => (hp c hc).2⟩, up16 hp, l2⟩)
    (by simpa using zx) (fun vm al P y hy => by cases List.mem_singleton.mp hy; exact (P _ hxp).2)
theorem satoms (V : Vw) (hw : ∀ d ∈ tables_1, d.before V.a0 V.Z = true) : ∀ a ∈ Bundle.stringAtoms, a.before V.a0 V.Z = true := wds V hw _ (by decide +kernel)
theorem d0_0 : decode jdk_42_method_149_code 0 = .ok (.aload_n 0, 1) := by decide +kernel
theorem d0_1 : decode jdk_42_method_149_code 1 = .ok (.invokespecial 1, 3) := by decide +kernel
theorem d0_4 : decode jdk_42_method_149_code 4 = .ok (.iload_n 3, 1) := by decide +kernel
theorem d0_5 : decode jdk_42_method_149_code 5 = .ok (.ifCond .ne 22, 3) := by decide +kernel
theorem d0_8 : decode jdk_42_method_149_code 8 = .ok (.aload_n 0, 1) := by decide +kernel
theorem d0_9 : decode jdk_42_method_149_code 9 = .ok (.ldc 7, 2) := by decide +kernel
theorem d0_11 : decode jdk_42_method_149_code 11 = .ok (.getfield 9, 3) := by decide +kernel
theorem d0_14 : decode jdk_42_method_149_code 14 = .ok (.putfield 9, 3) := by decide +kernel
theorem d0_17 : decode jdk_42_method_149_code 17 = .ok (.aload_n 0, 1) := by decide +kernel
theorem d0_18 : decode jdk_42_method_149_code 18 = .ok (.ldc 7, 2) := by decide +kernel
theorem d0_20 : decode jdk_42_method_149_code 20 = .ok (.getfield 15, 3) := by decide +kernel
theorem d0_23 : decode jdk_42_method_149_code 23 = .ok (.putfield 15, 3) := by decide +kernel
theorem d0_26 : decode jdk_42_method_149_code 26 = .ok (.return_, 1) := by decide +kernel
theorem d0_27 : decode jdk_42_method_149_code 27 = .ok (.getstatic 38, 3) := by decide +kernel
theorem d0_30 : decode jdk_42_method_149_code 30 = .ok (.ifCond .eq 28, 3) := by decide +kernel
theorem d0_33 : decode jdk_42_method_149_code 33 = .ok (.aload_n 1, 1) := by decide +kernel
theorem d0_34 : decode jdk_42_method_149_code 34 = .ok (.iload_n 2, 1) := by decide +kernel
theorem d0_35 : decode jdk_42_method_149_code 35 = .ok (.iload_n 3, 1) := by decide +kernel
theorem d0_36 : decode jdk_42_method_149_code 36 = .ok (.invokestatic 177, 3) := by decide +kernel
theorem d0_39 : decode jdk_42_method_149_code 39 = .ok (.astore 5, 2) := by decide +kernel
theorem d0_41 : decode jdk_42_method_149_code 41 = .ok (.aload_n 0, 1) := by decide +kernel
theorem d0_42 : decode jdk_42_method_149_code 42 = .ok (.aload 5, 2) := by decide +kernel
theorem d0_44 : decode jdk_42_method_149_code 44 = .ok (.iload_n 3, 1) := by decide +kernel
theorem d0_45 : decode jdk_42_method_149_code 45 = .ok (.invokestatic 47, 3) := by decide +kernel
theorem d0_48 : decode jdk_42_method_149_code 48 = .ok (.putfield 15, 3) := by decide +kernel
theorem d0_51 : decode jdk_42_method_149_code 51 = .ok (.aload_n 0, 1) := by decide +kernel
theorem d0_52 : decode jdk_42_method_149_code 52 = .ok (.aload 5, 2) := by decide +kernel
theorem d0_54 : decode jdk_42_method_149_code 54 = .ok (.putfield 9, 3) := by decide +kernel
theorem d0_57 : decode jdk_42_method_149_code 57 = .ok (.return_, 1) := by decide +kernel
theorem d0_58 : decode jdk_42_method_149_code 58 = .ok (.aload_n 0, 1) := by decide +kernel
theorem d0_59 : decode jdk_42_method_149_code 59 = .ok (.iconst 1, 1) := by decide +kernel
theorem d0_60 : decode jdk_42_method_149_code 60 = .ok (.putfield 15, 3) := by decide +kernel
theorem d0_63 : decode jdk_42_method_149_code 63 = .ok (.aload_n 0, 1) := by decide +kernel
theorem d0_64 : decode jdk_42_method_149_code 64 = .ok (.aload_n 1, 1) := by decide +kernel
theorem d0_65 : decode jdk_42_method_149_code 65 = .ok (.iload_n 2, 1) := by decide +kernel
theorem d0_66 : decode jdk_42_method_149_code 66 = .ok (.iload_n 3, 1) := by decide +kernel
theorem d0_67 : decode jdk_42_method_149_code 67 = .ok (.invokestatic 180, 3) := by decide +kernel
theorem d0_70 : decode jdk_42_method_149_code 70 = .ok (.putfield 9, 3) := by decide +kernel
theorem d0_73 : decode jdk_42_method_149_code 73 = .ok (.return_, 1) := by decide +kernel
abbrev b_new4 : Bx := (⟨"java/lang/String", "<init>", "([CIILjava/lang/Void;)V"⟩, jdk_42_method_149_code, 6, none, { frames := 1, cells := 4, slots := 8, locals := 24 })
theorem c_new4e (V : Vw) (hw : ∀ d ∈ tables_1, d.before V.a0 V.Z = true) (hm : ("java/lang/String", 7) ∈ V.EL) (hn : V.nar = false) (x b : Nat) (h : Heap) (ps : List Addr) (zx : V.Z.heap.size ≤ x) (hxp : x ∈ ps) (E : Exa V.Z h x "java/lang/String") (Fv : Fld V.Z h x "java/lang/String" "value" "[B" .null) (Fc : Fld V.Z h x "java/lang/String" "coder" "B" (.int 0)) : Con V b_new4 #[.ref x, .ref b, .int 0, .int 0, .null] h ps (Qn V x [] h) := Con.of (plainFor_of_name pn_0) (L := [.val (.ref x), .val (.ref b), .val (.int (0 : Int32)), .val (.int (0 : Int32)), .val (.null), .unset]) rfl fun K => by
  have lx := ltN E.lt
  refine r_aloadN 1 rfl d0_0 rfl rfl ?_
  refine r_initO 0 4 rfl d0_1 (wd hw 16 rfl) (wd hw 17 rfl) (wd hw 18 rfl) rfl (by decide) (Nat.le_of_eq rfl) (by decide) ?_
  refine r_iloadN 5 rfl d0_4 rfl ?_
  refine r_if_ne 27 8 d0_5 (by decide) rfl rfl (fun c1 => ?_) (fun c1 => ?_)
  · exact absurd rfl c1
  refine r_aloadN 9 rfl d0_8 rfl rfl ?_
  refine r_ldcS [] (0 : Int32) 0 11 rfl d0_9 (wd hw 19 rfl) (satoms V hw) hm hn (by decide) (by decide) rfl (by decide) (by decide) (by decide) (by decide) fun a2 b3 k4 h5 Eh5 Xh5 Ch5 Yh5 Ah5 Nh5 => ?_
  have f6 := Exa.ext Eh5 E
  have f7 := Fld.ext Eh5 Fv
  have f8 := Fld.ext Eh5 Fc
  have sh5 := Eh5.1
  have la2 := ltN Xh5.lt
  have lb3 := ltN Ah5.lt
  have n1xh5 := neN (Nh5 _ hxp).1
  have n2xh5 := neN (Nh5 _ hxp).2
  refine r_getfield 14 rfl d0_11 (wd hw 25 rfl) Yh5 ?_
  refine r_putfield 17 rfl d0_14 (wd hw 25 rfl) f7 f6 (Or.inr ⟨wd hw 21 rfl, rfl, rfl⟩) (wd hw 6 rfl) (ty := (.array .byte)) (by decide) rfl rfl zx (Or.inr hxp) fun h9 Wh9 => ?_
  have sh9 := Wh9.size
  have f10 := Exa.wr Wh9 f6
  have f11 := Fld.same Wh9 f7
  have f12 := Fld.other Wh9 f8 (Or.inr (slot_ne (C := "java/lang/String") (Or.inr (wd hw 22 rfl)) (Or.inr (wd hw 21 rfl)) (by decide) (t := .byte) (by decide) (t' := (.array .byte)) (by decide)))
  have f13 := Exa.wr Wh9 Xh5
  have f14 := Fld.other Wh9 Ch5 (Or.inl (neA (by omega)))
  have f15 := Fld.other Wh9 Yh5 (Or.inl (neA (by omega)))
  have f16 := Arv.other Ah5 Wh9 (neA (by omega))
  refine r_aloadN 18 rfl d0_17 rfl rfl ?_
  refine r_ldcS [] (0 : Int32) 0 20 rfl d0_18 (wd hw 19 rfl) (satoms V hw) hm hn (by decide) (by decide) rfl (by decide) (by decide) (by decide) (by decide) fun a17 b18 k19 h20 Eh20 Xh20 Ch20 Yh20 Ah20 Nh20 => ?_
  have f21 := Exa.ext Eh20 f10
  have f22 := Fld.ext Eh20 f11
  have f23 := Fld.ext Eh20 f12
  have f24 := Exa.ext Eh20 f13
  have f25 := Fld.ext Eh20 f14
  have f26 := Fld.ext Eh20 f15
  have f27 := f16.ext Eh20
  have sh20 := Eh20.1
  have la17 := ltN Xh20.lt
  have lb18 := ltN Ah20.lt
  have n1xh20 := neN (Nh20 _ hxp).1
  have n2xh20 := neN (Nh20 _ hxp).2
  refine r_getfield 23 rfl d0_20 (wd hw 26 rfl) Ch20 ?_
  refine r_putfield 26 rfl d0_23 (wd hw 26 rfl) f23 f21 (Or.inr ⟨wd hw 22 rfl, rfl, rfl⟩) (wd hw 6 rfl) (ty := .byte) (by decide) (by decide) (by decide) zx (Or.inr hxp) fun h28 Wh28 => ?_
  have sh28 := Wh28.size
  have f29 := Exa.wr Wh28 f21
  have f30 := Fld.other Wh28 f22 (Or.inr (slot_ne (C := "java/lang/String") (Or.inr (wd hw 21 rfl)) (Or.inr (wd hw 22 rfl)) (by decide) (t := (.array .byte)) (by decide) (t' := .byte) (by decide)))
  have f31 := Fld.same Wh28 f23
  have f32 := Exa.wr Wh28 f24
  have f33 := Fld.other Wh28 f25 (Or.inl (neA (by omega)))
  have f34 := Fld.other Wh28 f26 (Or.inl (neA (by omega)))
  have f35 := Arv.other f27 Wh28 (neA (by omega))
  have f36 := Exa.wr Wh28 Xh20
  have f37 := Fld.other Wh28 Ch20 (Or.inl (neA (by omega)))
  have f38 := Fld.other Wh28 Yh20 (Or.inl (neA (by omega)))
  have f39 := Arv.other Ah20 Wh28 (neA (by omega))
  have KK : Keep h h28 [x] := ((((Keep.refl _ _).ext Eh5).wr Wh9 (Or.inl (by simp))).ext Eh20).wr Wh28 (Or.inl (by simp))
  refine r_ret rfl d0_26 (by decide) (by decide) [] (fun _ q => nomatch q) ?_
  exact ⟨rfl, KK, b3, _, 0, 0, [], f29.lt, f35.lt, Nat.le_refl _, f29, f30, f31, f35, Or.inl ⟨rfl, rfl, rfl, fun _ q => nomatch q⟩, (fun _ q => nomatch q), by decide⟩
theorem d1_0 : decode jdk_42_method_3_code 0 = .ok (.aload_n 0, 1) := by decide +kernel
theorem d1_1 : decode jdk_42_method_3_code 1 = .ok (.aload_n 1, 1) := by decide +kernel
theorem d1_2 : decode jdk_42_method_3_code 2 = .ok (.iconst 0, 1) := by decide +kernel
theorem d1_3 : decode jdk_42_method_3_code 3 = .ok (.aload_n 1, 1) := by decide +kernel
theorem d1_4 : decode jdk_42_method_3_code 4 = .ok (.arraylength, 1) := by decide +kernel
theorem d1_5 : decode jdk_42_method_3_code 5 = .ok (.aconst_null, 1) := by decide +kernel
theorem d1_6 : decode jdk_42_method_3_code 6 = .ok (.invokespecial 27, 3) := by decide +kernel
theorem d1_9 : decode jdk_42_method_3_code 9 = .ok (.return_, 1) := by decide +kernel
abbrev b_new1 : Bx := (⟨"java/lang/String", "<init>", "([C)V"⟩, jdk_42_method_3_code, 2, none, { frames := 2, cells := 4, slots := 8, locals := 44 })
theorem c_new1e (V : Vw) (hw : ∀ d ∈ tables_1, d.before V.a0 V.Z = true) (hm : ("java/lang/String", 7) ∈ V.EL) (hn : V.nar = false) (x b : Nat) (kC : ClassId) (vs : List Value) (d : Value) (h : Heap) (ps : List Addr) (zx : V.Z.heap.size ≤ x) (hxp : x ∈ ps) (E : Exa V.Z h x "java/lang/String") (Fv : Fld V.Z h x "java/lang/String" "value" "[B" .null) (Fc : Fld V.Z h x "java/lang/String" "coder" "B" (.int 0)) (A : Arv V.Z h b kC .char 0 vs d) : Con V b_new1 #[.ref x, .ref b] h ps (Qn V x [] h) := Con.of (plainFor_of_name pn_0) (L := [.val (.ref x), .val (.ref b)]) rfl fun K => by
  refine r_aloadN 1 rfl d1_0 rfl rfl ?_
  refine r_aloadN 2 rfl d1_1 rfl rfl ?_
  refine r_iconst (0 : Int32) 3 rfl d1_2 rfl ?_
  refine r_aloadN 4 rfl d1_3 rfl rfl ?_
  refine r_arraylength 5 rfl d1_4 A ?_
  refine r_null 6 rfl d1_5 ?_
  refine r_special 9 rfl d1_6 rfl (wd hw 12 rfl) (wd hw 13 rfl) (wd hw 15 rfl) (by decide) (Pays.con (K := K) (B := b_new1) (c_new4e V hw hm hn x b h _ zx hxp E Fv Fc) (wd hw 15 rfl) (wd hw 7 rfl) (by decide) (by decide)) (W := 0) (argsL := [.ref b, .int (0 : Int32), .int (0 : Int32), .null]) (lenOf pd_0 rfl) rfl rfl rfl (Nat.le_of_eq rfl) (Nat.le_of_ble_eq_true rfl) (Nat.le_of_ble_eq_true rfl) fun v43 h44 ps40 q42 z41 => ?_
  obtain ⟨rfl, K1, S1⟩ := q42
  show Own.Run V K b_new1 _ h44 _ 4 8 9 [.val (.ref x), .val (.ref b)] []
  refine r_ret rfl d1_9 (by decide) (by decide) [] (fun _ q => nomatch q) ?_
  exact ⟨rfl, K1, S1⟩
theorem pay_newE (V : Vw) (hw : ∀ d ∈ tables_1, d.before V.a0 V.Z = true) (K : Cx) (B : Bx) (W : Nat) (hm : ("java/lang/String", 7) ∈ V.EL) (hn : V.nar = false) (x b : Nat) (kC : ClassId) (vs : List Value) (d : Value) (h : Heap) (ps : List Addr) (zx : V.Z.heap.size ≤ x) (hxp : x ∈ ps) (E : Exa V.Z h x "java/lang/String") (Fv : Fld V.Z h x "java/lang/String" "value" "[B" .null) (Fc : Fld V.Z h x "java/lang/String" "coder" "B" (.int 0)) (A : Arv V.Z h b kC .char 0 vs d) (hfr : 3 ≤ B.R.frames) (hlo : W + 57 ≤ B.R.locals) :
    Pays V K B (⟨"java/lang/String", "<init>", "([C)V"⟩ : MethodName) 3 W #[.ref x, .ref b] h ps 4 8 (Qn V x [] h) := Pays.con (B' := b_new1) (c_new1e V hw hm hn x b kC vs d h ps zx hxp E Fv Fc A) (wd hw 11 rfl) (wd hw 7 rfl) hfr (by show W + (2 + 11) + 44 ≤ _; omega)
theorem pay_eq (V : Vw) (hw : ∀ d ∈ tables_1, d.before V.a0 V.Z = true) (K : Cx) (B : Bx) (W : Nat) (x y : Nat) (m m' : Nat) (cs ds : List Int32) (h : Heap) (ps : List Addr) (S : Str V h m x cs) (S' : Str V h m' y ds) (O : Ext V.Z.heap h) (cz : Int32) (hCS : Sta V.Z V.Z.heap "java/lang/String" "COMPACT_STRINGS" "Z" (.int cz)) (hcz : ¬ cz = 0) (hfr : 2 ≤ B.R.frames) (hlo : W + 28 ≤ B.R.locals) : Pays V K B (⟨"java/lang/String", "equals", "(Ljava/lang/Object;)Z"⟩ : MethodName) 3 W #[.ref x, .ref y] h ps 0 0 (Qsm (cs = ds) h) := by
  obtain ⟨t, kb, cd, N2, vs, a1, a2, a3, a4, a5, a6, a7, a8, a9, a10⟩ := S
  obtain ⟨t', kb', cd', N2', vs', b1, b2, b3, b4, b5, b6, b7, b8, b9, b10⟩ := S'
  exact Pays.back (ws := []) (Q0 := fun v h' L => ((v = some (.int 1) ∧ cs = ds) ∨ (v = some (.int 0) ∧ ¬ cs = ds)) ∧ L = [] ∧ h' = h) (fun s hZ => StrChars.Road.eqW (W := W) hZ (wds V hw _ (by decide +kernel)) (kI := 4) (wd hw 6 rfl) a4 a5 a6 a7 a8 a9 a10 b4 b5 b6 b7 b8 b9 b10 (hCS.ext O) hcz hfr hlo) (fun v h' L q => ⟨by rw [q.2.1]; exact Fr.nil _, by rw [q.2.2]; exact Keep.refl _ _, q.1.elim (fun z => ⟨1, z.1, q.2.2, Or.inl ⟨rfl, z.2⟩⟩) (fun z => ⟨0, z.1, q.2.2, Or.inr ⟨rfl, z.2⟩⟩)⟩) all0 (fun vm al P => all0)
theorem d2_0 : decode jdk_43_method_3_code 0 = .ok (.iload_n 0, 1) := by decide +kernel
theorem d2_1 : decode jdk_43_method_3_code 1 = .ok (.sipush 255, 3) := by decide +kernel
theorem d2_4 : decode jdk_43_method_3_code 4 = .ok (.if_icmp .gt 7, 3) := by decide +kernel
theorem d2_7 : decode jdk_43_method_3_code 7 = .ok (.iconst 1, 1) := by decide +kernel
theorem d2_8 : decode jdk_43_method_3_code 8 = .ok (.goto 4, 3) := by decide +kernel
theorem d2_11 : decode jdk_43_method_3_code 11 = .ok (.iconst 0, 1) := by decide +kernel
theorem d2_12 : decode jdk_43_method_3_code 12 = .ok (.ireturn, 1) := by decide +kernel
abbrev b_canEnc : Bx := (⟨"java/lang/StringLatin1", "canEncode", "(C)Z"⟩, jdk_43_method_3_code, 1, some .boolean, { frames := 0, cells := 0, slots := 0, locals := 0 })
theorem c_canEnc (V : Vw) (hw : ∀ d ∈ tables_1, d.before V.a0 V.Z = true) (c : Int32) (hc : By c) (h : Heap) (ps : List Addr) : Con V b_canEnc #[.int c] h ps (fun v h' _ => v = some (.int 1) ∧ h' = h) := Con.of (plainFor_of_name pn_1) (L := [.val (.int c)]) rfl fun K => by
  refine r_iloadN 1 rfl d2_0 rfl ?_
  refine r_sipush (255 : Int32) 4 rfl d2_1 rfl ?_
  refine r_icmp_gt 11 7 d2_4 (by decide) rfl rfl (fun c45 => ?_) (fun c45 => ?_)
  · exact absurd c45 hc.2
  refine r_iconst (1 : Int32) 8 rfl d2_7 rfl ?_
  refine r_goto 12 d2_8 (by decide) rfl ?_
  refine r_nret (t := .boolean) (1 : Int32) rfl (by simp) rfl d2_12 (by decide) (by decide) [] (fun _ q => nomatch q) ?_
  exact ⟨rfl, rfl⟩
theorem d3_0 : decode jdk_43_method_46_code 0 = .ok (.iconst 1, 1) := by decide +kernel
theorem d3_1 : decode jdk_43_method_46_code 1 = .ok (.newarray .byte, 2) := by decide +kernel
theorem d3_3 : decode jdk_43_method_46_code 3 = .ok (.dup, 1) := by decide +kernel
theorem d3_4 : decode jdk_43_method_46_code 4 = .ok (.iconst 0, 1) := by decide +kernel
theorem d3_5 : decode jdk_43_method_46_code 5 = .ok (.iload_n 0, 1) := by decide +kernel
theorem d3_6 : decode jdk_43_method_46_code 6 = .ok (.i2b, 1) := by decide +kernel
theorem d3_7 : decode jdk_43_method_46_code 7 = .ok (.bastore, 1) := by decide +kernel
theorem d3_8 : decode jdk_43_method_46_code 8 = .ok (.areturn, 1) := by decide +kernel
abbrev b_toB : Bx := (⟨"java/lang/StringLatin1", "toBytes", "(C)[B"⟩, jdk_43_method_46_code, 1, some (.array .byte), { frames := 0, cells := 1, slots := 1, locals := 0 })
theorem c_toB (V : Vw) (hw : ∀ d ∈ tables_1, d.before V.a0 V.Z = true) (c : Int32) (h : Heap) (ps : List Addr) : Con V b_toB #[.int c] h ps (fun v h' _ => ∃ (t : Nat) (k : ClassId), v = some (.ref t) ∧ Ext h h' ∧ h.size ≤ t ∧ Arv V.Z h' t k .byte 1 [.int c.toInt8.toInt32] (.int 0)) := Con.of (plainFor_of_name pn_1) (L := [.val (.int c)]) rfl fun K => by
  refine r_iconst (1 : Int32) 1 rfl d3_0 rfl ?_
  refine r_newarray 1 3 rfl d3_1 (wd hw 20 rfl) (by decide) (by decide) (by decide) (by decide) (by decide) fun a46 h47 k48 ga46 za46 Eh47 Aa46 => ?_
  have sh47 := Eh47.1
  have la46 := ltN Aa46.lt
  have f49 : Arv V.Z h47 a46 k48 .byte (1 : Int32) [.int 0] (.int 0) := Arv.pad Aa46 (pad_rep [] (.int 0) 1)
  refine r_dup 4 rfl d3_3 rfl ?_
  refine r_iconst (0 : Int32) 5 rfl d3_4 rfl ?_
  refine r_iloadN 6 rfl d3_5 rfl ?_
  refine r_i2b 7 rfl d3_6 ?_
  refine r_bastore 0 8 rfl d3_7 f49 (by decide) rfl (Nat.le_of_ble_eq_true rfl) za46 (by simp) c.toInt8.toInt32 (by simp) fun h50 Wh50 f51 => ?_
  have sh50 := Wh50.size
  replace f51 : Arv V.Z h50 a46 k48 .byte (1 : Int32) [.int c.toInt8.toInt32] (.int 0) := f51
  refine r_aret (t := (.array .byte)) rfl rfl rfl d3_8 (by decide) (by decide) [] (fun _ q => nomatch q) ?_
  exact ⟨_, _, rfl, Ext.wr0 Eh47 Wh50 (by omega), by omega, f51⟩
theorem d4_0 : decode jdk_42_method_151_code 0 = .ok (.aload_n 0, 1) := by decide +kernel
theorem d4_1 : decode jdk_42_method_151_code 1 = .ok (.invokespecial 1, 3) := by decide +kernel
theorem d4_4 : decode jdk_42_method_151_code 4 = .ok (.aload_n 0, 1) := by decide +kernel
theorem d4_5 : decode jdk_42_method_151_code 5 = .ok (.aload_n 1, 1) := by decide +kernel
theorem d4_6 : decode jdk_42_method_151_code 6 = .ok (.putfield 9, 3) := by decide +kernel
theorem d4_9 : decode jdk_42_method_151_code 9 = .ok (.aload_n 0, 1) := by decide +kernel
theorem d4_10 : decode jdk_42_method_151_code 10 = .ok (.iload_n 2, 1) := by decide +kernel
theorem d4_11 : decode jdk_42_method_151_code 11 = .ok (.putfield 15, 3) := by decide +kernel
theorem d4_14 : decode jdk_42_method_151_code 14 = .ok (.return_, 1) := by decide +kernel
abbrev b_sBB : Bx := (⟨"java/lang/String", "<init>", "([BB)V"⟩, jdk_42_method_151_code, 3, none, { frames := 1, cells := 0, slots := 0, locals := 12 })
theorem c_sBB (V : Vw) (hw : ∀ d ∈ tables_1, d.before V.a0 V.Z = true) (x t : Nat) (h : Heap) (ps : List Addr) (zx : V.Z.heap.size ≤ x) (hxp : x ∈ ps) (E : Exa V.Z h x "java/lang/String") (Fv : Fld V.Z h x "java/lang/String" "value" "[B" .null) (Fc : Fld V.Z h x "java/lang/String" "coder" "B" (.int 0)) : Con V b_sBB #[.ref x, .ref t, .int 0] h ps (fun v h' _ => v = none ∧ Keep h h' [x] ∧ Exa V.Z h' x "java/lang/String" ∧ Fld V.Z h' x "java/lang/String" "value" "[B" (.ref t) ∧ Fld V.Z h' x "java/lang/String" "coder" "B" (.int 0)) := Con.of (plainFor_of_name pn_0) (L := [.val (.ref x), .val (.ref t), .val (.int (0 : Int32))]) rfl fun K => by
  refine r_aloadN 1 rfl d4_0 rfl rfl ?_
  refine r_initO 0 4 rfl d4_1 (wd hw 16 rfl) (wd hw 17 rfl) (wd hw 18 rfl) rfl (by decide) (Nat.le_of_eq rfl) (by decide) ?_
  refine r_aloadN 5 rfl d4_4 rfl rfl ?_
  refine r_aloadN 6 rfl d4_5 rfl rfl ?_
  refine r_putfield 9 rfl d4_6 (wd hw 25 rfl) Fv E (Or.inr ⟨wd hw 21 rfl, rfl, rfl⟩) (wd hw 6 rfl) (ty := (.array .byte)) (by decide) rfl rfl zx (Or.inr hxp) fun h52 Wh52 => ?_
  have sh52 := Wh52.size
  have f53 := Exa.wr Wh52 E
  have f54 := Fld.same Wh52 Fv
  have f55 := Fld.other Wh52 Fc (Or.inr (slot_ne (C := "java/lang/String") (Or.inr (wd hw 22 rfl)) (Or.inr (wd hw 21 rfl)) (by decide) (t := .byte) (by decide) (t' := (.array .byte)) (by decide)))
  refine r_aloadN 10 rfl d4_9 rfl rfl ?_
  refine r_iloadN 11 rfl d4_10 rfl ?_
  refine r_putfield 14 rfl d4_11 (wd hw 26 rfl) f55 f53 (Or.inr ⟨wd hw 22 rfl, rfl, rfl⟩) (wd hw 6 rfl) (ty := .byte) (by decide) (by decide) (by decide) zx (Or.inr hxp) fun h56 Wh56 => ?_
  have sh56 := Wh56.size
  have f57 := Exa.wr Wh56 f53
  have f58 := Fld.other Wh56 f54 (Or.inr (slot_ne (C := "java/lang/String") (Or.inr (wd hw 21 rfl)) (Or.inr (wd hw 22 rfl)) (by decide) (t := (.array .byte)) (by decide) (t' := .byte) (by decide)))
  have f59 := Fld.same Wh56 f55
  refine r_ret rfl d4_14 (by decide) (by decide) [] (fun _ q => nomatch q) ?_
  exact ⟨rfl, ((Keep.refl _ _).wr Wh52 (Or.inl (by simp))).wr Wh56 (Or.inl (by simp)), f57, f58, f59⟩
theorem d5_0 : decode jdk_42_method_139_code 0 = .ok (.getstatic 38, 3) := by decide +kernel
theorem d5_3 : decode jdk_42_method_139_code 3 = .ok (.ifCond .eq 23, 3) := by decide +kernel
theorem d5_6 : decode jdk_42_method_139_code 6 = .ok (.iload_n 0, 1) := by decide +kernel
theorem d5_7 : decode jdk_42_method_139_code 7 = .ok (.invokestatic 1015, 3) := by decide +kernel
theorem d5_10 : decode jdk_42_method_139_code 10 = .ok (.ifCond .eq 16, 3) := by decide +kernel
theorem d5_13 : decode jdk_42_method_139_code 13 = .ok (.new 10, 3) := by decide +kernel
theorem d5_16 : decode jdk_42_method_139_code 16 = .ok (.dup, 1) := by decide +kernel
theorem d5_17 : decode jdk_42_method_139_code 17 = .ok (.iload_n 0, 1) := by decide +kernel
theorem d5_18 : decode jdk_42_method_139_code 18 = .ok (.invokestatic 1018, 3) := by decide +kernel
theorem d5_21 : decode jdk_42_method_139_code 21 = .ok (.iconst 0, 1) := by decide +kernel
theorem d5_22 : decode jdk_42_method_139_code 22 = .ok (.invokespecial 209, 3) := by decide +kernel
theorem d5_25 : decode jdk_42_method_139_code 25 = .ok (.areturn, 1) := by decide +kernel
theorem d5_26 : decode jdk_42_method_139_code 26 = .ok (.new 10, 3) := by decide +kernel
theorem d5_29 : decode jdk_42_method_139_code 29 = .ok (.dup, 1) := by decide +kernel
theorem d5_30 : decode jdk_42_method_139_code 30 = .ok (.iload_n 0, 1) := by decide +kernel
theorem d5_31 : decode jdk_42_method_139_code 31 = .ok (.invokestatic 1021, 3) := by decide +kernel
theorem d5_34 : decode jdk_42_method_139_code 34 = .ok (.iconst 1, 1) := by decide +kernel
theorem d5_35 : decode jdk_42_method_139_code 35 = .ok (.invokespecial 209, 3) := by decide +kernel
theorem d5_38 : decode jdk_42_method_139_code 38 = .ok (.areturn, 1) := by decide +kernel
abbrev b_valueOf : Bx := (⟨"java/lang/String", "valueOf", "(C)Ljava/lang/String;"⟩, jdk_42_method_139_code, 1, some (.object "java/lang/String"), { frames := 2, cells := 2, slots := 5, locals := 40 })
theorem c_valueOf (V : Vw) (hw : ∀ d ∈ tables_1, d.before V.a0 V.Z = true) (cz : Int32) (hCS : Sta V.Z V.Z.heap "java/lang/String" "COMPACT_STRINGS" "Z" (.int cz)) (hcz : ¬ cz = 0) (c : Int32) (hc : By c) (h : Heap) (ps : List Addr) : Con V b_valueOf #[.int c] h ps (Qmk V [c] h) := Con.of (plainFor_of_name pn_0) (L := [.val (.int c)]) rfl fun K => by
  refine r_getstatic 3 rfl d5_0 (wd hw 79 rfl) hCS ?_
  refine r_if_eq 26 6 d5_3 (by decide) rfl rfl (fun c60 => ?_) (fun c60 => ?_)
  · exact absurd c60 hcz
  refine r_iloadN 7 rfl d5_6 rfl ?_
  refine r_static 10 rfl d5_7 (wd hw 89 rfl) (wd hw 90 rfl) (wd hw 82 rfl) (wd hw 91 rfl) (by decide) (Pays.con (K := K) (B := b_valueOf) (c_canEnc V hw c hc h _) (wd hw 91 rfl) (wd hw 82 rfl) (by decide) (by decide)) (W := 0) (argsL := [.int c]) (lenOf pd_2 rfl) rfl rfl rfl (Nat.le_of_eq rfl) (Nat.le_of_ble_eq_true rfl) (Nat.le_of_ble_eq_true rfl) fun v64 h65 ps61 q63 z62 => ?_
  obtain ⟨rfl, es66⟩ := q63
  subst h65
  show Own.Run V K b_valueOf _ h _ 0 0 10 [.val (.int c)] [.int (1 : Int32)]
  refine r_if_eq 26 13 d5_10 (by decide) rfl rfl (fun c67 => ?_) (fun c67 => ?_)
  · exact absurd c67 (by decide)
  refine r_new 16 rfl d5_13 (wd hw 78 rfl) (wd hw 6 rfl) (wd hw 7 rfl) (by decide) (by decide) fun a68 h69 ga68 za68 Eh69 Xa68 Da68 => ?_
  have sh69 := Eh69.1
  have la68 := ltN Xa68.lt
  have f70 : Fld V.Z h69 a68 "java/lang/String" "value" "[B" (.null) := Da68 (Or.inr (wd hw 21 rfl)) (ty := (.array .byte)) (by decide)
  have f71 : Fld V.Z h69 a68 "java/lang/String" "coder" "B" (.int (0 : Int32)) := Da68 (Or.inr (wd hw 22 rfl)) (ty := .byte) (by decide)
  refine r_dup 17 rfl d5_16 rfl ?_
  refine r_iloadN 18 rfl d5_17 rfl ?_
  refine r_static 21 rfl d5_18 (wd hw 92 rfl) (wd hw 93 rfl) (wd hw 82 rfl) (wd hw 94 rfl) (by decide) (Pays.con (K := K) (B := b_valueOf) (c_toB V hw c h69 _) (wd hw 94 rfl) (wd hw 82 rfl) (by decide) (by decide)) (W := 2) (argsL := [.int c]) (lenOf pd_3 rfl) rfl rfl rfl (Nat.le_of_eq rfl) (Nat.le_of_ble_eq_true rfl) (Nat.le_of_ble_eq_true rfl) fun v75 h76 ps72 q74 z73 => ?_
  obtain ⟨t, kt, rfl, Et, gt, At⟩ := q74
  have f77 := Exa.ext Et Xa68
  have f78 := Fld.ext Et f70
  have f79 := Fld.ext Et f71
  have sh76 := Et.1
  show Own.Run V K b_valueOf _ h76 _ 2 5 21 [.val (.int c)] [.ref t, .ref a68, .ref a68]
  have lt := ltN At.lt
  refine r_iconst (0 : Int32) 22 rfl d5_21 rfl ?_
  refine r_special 25 rfl d5_22 rfl (wd hw 95 rfl) (wd hw 96 rfl) (wd hw 97 rfl) (by decide) (Pays.con (K := K) (B := b_valueOf) (c_sBB V hw a68 t h76 _ za68 (by simp) f77 f78 f79) (wd hw 97 rfl) (wd hw 7 rfl) (by decide) (by decide)) (W := 1) (argsL := [.ref t, .int (0 : Int32)]) (lenOf pd_4 rfl) rfl rfl rfl (Nat.le_of_eq rfl) (Nat.le_of_ble_eq_true rfl) (Nat.le_of_ble_eq_true rfl) fun v83 h84 ps80 q82 z81 => ?_
  obtain ⟨rfl, K1, X1, G1, G2⟩ := q82
  have f85 := Exa.keep f77 K1
  have f86 := Arv.keep At K1 (ninS (neA (by omega)) nin0)
  show Own.Run V K b_valueOf _ h84 _ 2 5 25 [.val (.int c)] [.ref a68]
  refine r_aret (t := (.object "java/lang/String")) rfl rfl rfl d5_25 (by decide) (by decide) [] (fun _ q => nomatch q) ?_
  exact ⟨_, rfl, Keep.ext0 (Ext.trans' Eh69 Et) K1 (fun w hw' => by cases List.mem_singleton.mp hw'; exact leA (by omega)), t, _, 0, 1, _, X1.lt, f86.lt, Nat.le_refl _, X1, G1, G2, f86, Or.inl ⟨rfl, rfl, rfl, fun c' hc' => by cases List.mem_singleton.mp hc'; exact hc.2⟩, up16 (by1 hc), Nat.le_of_ble_eq_true rfl⟩
theorem d6_0 : decode method_3_code 0 = .ok (.iload_n 0, 1) := by decide +kernel
theorem d6_1 : decode method_3_code 1 = .ok (.ifCond .ne 14, 3) := by decide +kernel
theorem d6_4 : decode method_3_code 4 = .ok (.new 28, 3) := by decide +kernel
theorem d6_7 : decode method_3_code 7 = .ok (.dup, 1) := by decide +kernel
theorem d6_8 : decode method_3_code 8 = .ok (.iconst 0, 1) := by decide +kernel
theorem d6_9 : decode method_3_code 9 = .ok (.newarray .char, 2) := by decide +kernel
theorem d6_11 : decode method_3_code 11 = .ok (.invokespecial 30, 3) := by decide +kernel
theorem d6_14 : decode method_3_code 14 = .ok (.areturn, 1) := by decide +kernel
theorem d6_15 : decode method_3_code 15 = .ok (.iload_n 0, 1) := by decide +kernel
theorem d6_16 : decode method_3_code 16 = .ok (.iconst 1, 1) := by decide +kernel
theorem d6_17 : decode method_3_code 17 = .ok (.if_icmp .ne 8, 3) := by decide +kernel
theorem d6_20 : decode method_3_code 20 = .ok (.iload_n 1, 1) := by decide +kernel
theorem d6_21 : decode method_3_code 21 = .ok (.invokestatic 33, 3) := by decide +kernel
theorem d6_24 : decode method_3_code 24 = .ok (.areturn, 1) := by decide +kernel
theorem d6_25 : decode method_3_code 25 = .ok (.new 28, 3) := by decide +kernel
theorem d6_28 : decode method_3_code 28 = .ok (.dup, 1) := by decide +kernel
theorem d6_29 : decode method_3_code 29 = .ok (.iconst 2, 1) := by decide +kernel
theorem d6_30 : decode method_3_code 30 = .ok (.newarray .char, 2) := by decide +kernel
theorem d6_32 : decode method_3_code 32 = .ok (.dup, 1) := by decide +kernel
theorem d6_33 : decode method_3_code 33 = .ok (.iconst 0, 1) := by decide +kernel
theorem d6_34 : decode method_3_code 34 = .ok (.iload_n 1, 1) := by decide +kernel
theorem d6_35 : decode method_3_code 35 = .ok (.castore, 1) := by decide +kernel
theorem d6_36 : decode method_3_code 36 = .ok (.dup, 1) := by decide +kernel
theorem d6_37 : decode method_3_code 37 = .ok (.iconst 1, 1) := by decide +kernel
theorem d6_38 : decode method_3_code 38 = .ok (.iload_n 2, 1) := by decide +kernel
theorem d6_39 : decode method_3_code 39 = .ok (.castore, 1) := by decide +kernel
theorem d6_40 : decode method_3_code 40 = .ok (.invokespecial 30, 3) := by decide +kernel
theorem d6_43 : decode method_3_code 43 = .ok (.areturn, 1) := by decide +kernel
abbrev b_make : Bx := (⟨"com/example/paramarc/paramarc/TokenIsPinLaw", "make", "(ICC)Ljava/lang/String;"⟩, method_3_code, 3, some (.object "java/lang/String"), { frames := 4, cells := 6, slots := 16, locals := 70 })
def mk (n c0 c1 : Int32) : List Int32 := if n = 0 then [] else if n = 1 then [c0] else [c0, c1]
theorem c_make (V : Vw) (hw : ∀ d ∈ tables_1, d.before V.a0 V.Z = true) (hm : ("java/lang/String", 7) ∈ V.EL) (hn : V.nar = false) (cz : Int32) (hCS : Sta V.Z V.Z.heap "java/lang/String" "COMPACT_STRINGS" "Z" (.int cz)) (hcz : ¬ cz = 0) (n c0 c1 : Int32) (h0 : By c0) (h1 : By c1) (h : Heap) (ps : List Addr) : Con V b_make #[.int n, .int c0, .int c1] h ps (Qmk V (mk n c0 c1) h) := Con.of (plainFor_of_name pn_2) (L := [.val (.int n), .val (.int c0), .val (.int c1)]) rfl fun K => by
  refine r_iloadN 1 rfl d6_0 rfl ?_
  refine r_if_ne 15 4 d6_1 (by decide) rfl rfl (fun c87 => ?_) (fun c87 => ?_)
  rotate_left
  · refine r_new 7 rfl d6_4 (wd hw 5 rfl) (wd hw 6 rfl) (wd hw 7 rfl) (by decide) (by decide) fun a88 h89 ga88 za88 Eh89 Xa88 Da88 => ?_
    have sh89 := Eh89.1
    have la88 := ltN Xa88.lt
    have f90 : Fld V.Z h89 a88 "java/lang/String" "value" "[B" (.null) := Da88 (Or.inr (wd hw 21 rfl)) (ty := (.array .byte)) (by decide)
    have f91 : Fld V.Z h89 a88 "java/lang/String" "coder" "B" (.int (0 : Int32)) := Da88 (Or.inr (wd hw 22 rfl)) (ty := .byte) (by decide)
    refine r_dup 8 rfl d6_7 rfl ?_
    refine r_iconst (0 : Int32) 9 rfl d6_8 rfl ?_
    refine r_newarray 0 11 rfl d6_9 (wd hw 8 rfl) (by decide) (by decide) (by decide) (by decide) (by decide) fun a92 h93 k94 ga92 za92 Eh93 Aa92 => ?_
    have f95 := Exa.ext Eh93 Xa88
    have f96 := Fld.ext Eh93 f90
    have f97 := Fld.ext Eh93 f91
    have sh93 := Eh93.1
    have la92 := ltN Aa92.lt
    have f98 : Arv V.Z h93 a92 k94 .char (0 : Int32) [] (.int 0) := Arv.pad Aa92 (pad_rep [] (.int 0) 0)
    refine Run.old fun OX => ?_
    have EX := Ext.trans' Eh89 Eh93
    have la88' : a88 < h93.size := by omega
    refine r_special 14 rfl d6_11 rfl (wd hw 9 rfl) (wd hw 10 rfl) (wd hw 11 rfl) (by decide) (pay_newE V hw K b_make 1 hm hn a88 a92 _ _ _ h93 _ za88 (by simp) f95 f96 f97 f98 (by decide) (by decide)) (W := 1) (argsL := [.ref a92]) (lenOf pd_1 rfl) rfl rfl rfl (Nat.le_of_eq rfl) (Nat.le_of_ble_eq_true rfl) (Nat.le_of_ble_eq_true rfl) fun v102 h103 ps99 q101 z100 => ?_
    obtain ⟨rfl, K1, S1⟩ := q101
    have f104 := Exa.keep f95 K1
    have f105 := Arv.keep f98 K1 (ninS (neA (by omega)) nin0)
    show Own.Run V K b_make _ h103 _ 6 12 14 [.val (.int n), .val (.int c0), .val (.int c1)] [.ref a88]
    have sh103 := K1.1
    have ba88 := S1.lt
    refine r_aret (t := (.object "java/lang/String")) rfl rfl rfl d6_14 (by decide) (by decide) [] (fun _ q => nomatch q) ?_
    exact ⟨_, rfl, Keep.ext0 EX K1 (fun w hw' => by cases List.mem_singleton.mp hw'; exact leA (by omega)), by rw [show mk n c0 c1 = [] from if_pos c87]; exact S1⟩
  refine r_iloadN 16 rfl d6_15 rfl ?_
  refine r_iconst (1 : Int32) 17 rfl d6_16 rfl ?_
  refine r_icmp_ne 25 20 d6_17 (by decide) rfl rfl (fun c106 => ?_) (fun c106 => ?_)
  rotate_left
  · refine r_iloadN 21 rfl d6_20 rfl ?_
    refine r_static 24 rfl d6_21 (wd hw 86 rfl) (wd hw 87 rfl) (wd hw 7 rfl) (wd hw 88 rfl) (by decide) (Pays.con (K := K) (B := b_make) (c_valueOf V hw cz hCS hcz c0 h0 h _) (wd hw 88 rfl) (wd hw 7 rfl) (by decide) (by decide)) (W := 0) (argsL := [.int c0]) (lenOf pd_5 rfl) rfl rfl rfl (Nat.le_of_eq rfl) (Nat.le_of_ble_eq_true rfl) (Nat.le_of_ble_eq_true rfl) fun v110 h111 ps107 q109 z108 => ?_
    obtain ⟨x, rfl, E1, S1⟩ := q109
    have sh111 := E1.1
    show Own.Run V K b_make _ h111 _ 2 5 24 [.val (.int n), .val (.int c0), .val (.int c1)] [.ref x]
    refine r_aret (t := (.object "java/lang/String")) rfl rfl rfl d6_24 (by decide) (by decide) [] (fun _ q => nomatch q) ?_
    exact ⟨_, rfl, E1, by rw [show mk n c0 c1 = [c0] from (if_neg c87).trans (if_pos c106)]; exact S1⟩
  refine r_new 28 rfl d6_25 (wd hw 5 rfl) (wd hw 6 rfl) (wd hw 7 rfl) (by decide) (by decide) fun a112 h113 ga112 za112 Eh113 Xa112 Da112 => ?_
  have sh113 := Eh113.1
  have la112 := ltN Xa112.lt
  have f114 : Fld V.Z h113 a112 "java/lang/String" "value" "[B" (.null) := Da112 (Or.inr (wd hw 21 rfl)) (ty := (.array .byte)) (by decide)
  have f115 : Fld V.Z h113 a112 "java/lang/String" "coder" "B" (.int (0 : Int32)) := Da112 (Or.inr (wd hw 22 rfl)) (ty := .byte) (by decide)
  refine r_dup 29 rfl d6_28 rfl ?_
  refine r_iconst (2 : Int32) 30 rfl d6_29 rfl ?_
  refine r_newarray 2 32 rfl d6_30 (wd hw 8 rfl) (by decide) (by decide) (by decide) (by decide) (by decide) fun a116 h117 k118 ga116 za116 Eh117 Aa116 => ?_
  have f119 := Exa.ext Eh117 Xa112
  have f120 := Fld.ext Eh117 f114
  have f121 := Fld.ext Eh117 f115
  have sh117 := Eh117.1
  have la116 := ltN Aa116.lt
  have f122 : Arv V.Z h117 a116 k118 .char (2 : Int32) [.int 0, .int 0] (.int 0) := Arv.pad Aa116 (pad_rep [] (.int 0) 2)
  refine r_dup 33 rfl d6_32 rfl ?_
  refine r_iconst (0 : Int32) 34 rfl d6_33 rfl ?_
  refine r_iloadN 35 rfl d6_34 rfl ?_
  refine r_castore 0 36 rfl d6_35 f122 (by decide) rfl (Nat.le_of_ble_eq_true rfl) za116 c0 (nby h0) fun h123 Wh123 f124 => ?_
  have sh123 := Wh123.size
  have f125 := Exa.wr Wh123 f119
  have f126 := Fld.other Wh123 f120 (Or.inl (neA (by omega)))
  have f127 := Fld.other Wh123 f121 (Or.inl (neA (by omega)))
  replace f124 : Arv V.Z h123 a116 k118 .char (2 : Int32) [.int c0, .int 0] (.int 0) := f124
  refine r_dup 37 rfl d6_36 rfl ?_
  refine r_iconst (1 : Int32) 38 rfl d6_37 rfl ?_
  refine r_iloadN 39 rfl d6_38 rfl ?_
  refine r_castore 1 40 rfl d6_39 f124 (by decide) rfl (Nat.le_of_ble_eq_true rfl) za116 c1 (nby h1) fun h128 Wh128 f129 => ?_
  have sh128 := Wh128.size
  have f130 := Exa.wr Wh128 f125
  have f131 := Fld.other Wh128 f126 (Or.inl (neA (by omega)))
  have f132 := Fld.other Wh128 f127 (Or.inl (neA (by omega)))
  replace f129 : Arv V.Z h128 a116 k118 .char (2 : Int32) [.int c0, .int c1] (.int 0) := f129
  refine Run.old fun OX => ?_
  have EX := Ext.wr0 (Ext.wr0 (Ext.trans' Eh113 Eh117) Wh123 (by omega)) Wh128 (by omega)
  have la112' : a112 < h128.size := by omega
  refine r_special 43 rfl d6_40 rfl (wd hw 9 rfl) (wd hw 10 rfl) (wd hw 11 rfl) (by decide) (pay_newN V hw K b_make 1 a112 a116 _ [c0, c1] _ h128 _ _ _ _ za112 (Nat.le_trans za112 (Nat.le_of_lt la112')) f130 f131 f132 f129 OX cz hCS hcz rfl (Nat.le_of_ble_eq_true rfl) (Nat.le_of_ble_eq_true rfl) (byS h0 (by1 h1)) (by simp) (by decide) (by decide)) (W := 1) (argsL := [.ref a116]) (lenOf pd_1 rfl) rfl rfl rfl (Nat.le_of_eq rfl) (Nat.le_of_ble_eq_true rfl) (Nat.le_of_ble_eq_true rfl) fun v136 h137 ps133 q135 z134 => ?_
  obtain ⟨rfl, K1, S1⟩ := q135
  have f138 := Exa.keep f130 K1
  have f139 := Arv.keep f129 K1 (ninS (neA (by omega)) nin0)
  show Own.Run V K b_make _ h137 _ 3 8 43 [.val (.int n), .val (.int c0), .val (.int c1)] [.ref a112]
  have sh137 := K1.1
  have ba112 := S1.lt
  refine r_aret (t := (.object "java/lang/String")) rfl rfl rfl d6_43 (by decide) (by decide) [] (fun _ q => nomatch q) ?_
  exact ⟨_, rfl, Keep.ext0 EX K1 (fun w hw' => by cases List.mem_singleton.mp hw'; exact leA (by omega)), by rw [show mk n c0 c1 = [c0, c1] from (if_neg c87).trans (if_neg c106)]; exact S1⟩
theorem d7_0 : decode method_2_code 0 = .ok (.iload_n 0, 1) := by decide +kernel
theorem d7_1 : decode method_2_code 1 = .ok (.ifCond .ne 7, 3) := by decide +kernel
theorem d7_4 : decode method_2_code 4 = .ok (.getstatic 7, 3) := by decide +kernel
theorem d7_7 : decode method_2_code 7 = .ok (.areturn, 1) := by decide +kernel
theorem d7_8 : decode method_2_code 8 = .ok (.iload_n 0, 1) := by decide +kernel
theorem d7_9 : decode method_2_code 9 = .ok (.iconst 1, 1) := by decide +kernel
theorem d7_10 : decode method_2_code 10 = .ok (.if_icmp .ne 7, 3) := by decide +kernel
theorem d7_13 : decode method_2_code 13 = .ok (.getstatic 13, 3) := by decide +kernel
theorem d7_16 : decode method_2_code 16 = .ok (.areturn, 1) := by decide +kernel
theorem d7_17 : decode method_2_code 17 = .ok (.iload_n 0, 1) := by decide +kernel
theorem d7_18 : decode method_2_code 18 = .ok (.iconst 2, 1) := by decide +kernel
theorem d7_19 : decode method_2_code 19 = .ok (.if_icmp .ne 7, 3) := by decide +kernel
theorem d7_22 : decode method_2_code 22 = .ok (.getstatic 16, 3) := by decide +kernel
theorem d7_25 : decode method_2_code 25 = .ok (.areturn, 1) := by decide +kernel
theorem d7_26 : decode method_2_code 26 = .ok (.iload_n 0, 1) := by decide +kernel
theorem d7_27 : decode method_2_code 27 = .ok (.iconst 3, 1) := by decide +kernel
theorem d7_28 : decode method_2_code 28 = .ok (.if_icmp .ne 7, 3) := by decide +kernel
theorem d7_31 : decode method_2_code 31 = .ok (.getstatic 19, 3) := by decide +kernel
theorem d7_34 : decode method_2_code 34 = .ok (.areturn, 1) := by decide +kernel
theorem d7_35 : decode method_2_code 35 = .ok (.iload_n 0, 1) := by decide +kernel
theorem d7_36 : decode method_2_code 36 = .ok (.iconst 4, 1) := by decide +kernel
theorem d7_37 : decode method_2_code 37 = .ok (.if_icmp .ne 7, 3) := by decide +kernel
theorem d7_40 : decode method_2_code 40 = .ok (.getstatic 22, 3) := by decide +kernel
theorem d7_43 : decode method_2_code 43 = .ok (.areturn, 1) := by decide +kernel
theorem d7_44 : decode method_2_code 44 = .ok (.getstatic 25, 3) := by decide +kernel
theorem d7_47 : decode method_2_code 47 = .ok (.areturn, 1) := by decide +kernel
abbrev b_kind : Bx := (⟨"com/example/paramarc/paramarc/TokenIsPinLaw", "kindOf", "(I)Lcom/example/paramarc/paramarc/Token$Kind;"⟩, method_2_code, 1, some (.object "com/example/paramarc/paramarc/Token$Kind"), { frames := 0, cells := 0, slots := 0, locals := 0 })
def Kn (V : Vw) (n : String) (k : Int32) (r : Nat) : Prop := Sta V.Z V.Z.heap "com/example/paramarc/paramarc/Token$Kind" n "Lcom/example/paramarc/paramarc/Token$Kind;" (.ref r) ∧ Fld V.Z V.Z.heap r "java/lang/Enum" "ordinal" "I" (.int k)
def Ks (V : Vw) (rn rs : Nat) : Prop := Kn V "NAME" 0 rn ∧ Kn V "SYMBOL" 3 rs ∧ (∃ r, Kn V "NUMBER" 1 r) ∧ (∃ r, Kn V "STRING" 2 r) ∧ (∃ r, Kn V "END" 4 r) ∧ (∃ r, Kn V "ERROR" 5 r)
theorem Kn.ne {V : Vw} {n m : String} {k j : Int32} {r s : Nat} (a : Kn V n k r) (b : Kn V m j s) (q : k ≠ j) : r ≠ s := a.2.ne b.2 (by simpa using q)
def Qkd (k : Int32) (rn rs : Nat) (h0 : Heap) : Qt := fun v h _ => ∃ r : Nat, v = some (.ref r) ∧ h = h0 ∧ ((r = rn ∨ r = rs) ↔ (k = 0 ∨ k = 3))
theorem c_kind (V : Vw) (hw : ∀ d ∈ tables_1, d.before V.a0 V.Z = true) (rn rs : Nat) (hK : Ks V rn rs) (k : Int32) (h : Heap) (ps : List Addr) : Con V b_kind #[.int k] h ps (Qkd k rn rs h) := Con.of (plainFor_of_name pn_2) (L := [.val (.int k)]) rfl fun K => by
  obtain ⟨K0, K3, ⟨r1, K1⟩, ⟨r2, K2⟩, ⟨r4, K4⟩, ⟨r5, K5⟩⟩ := hK
  refine r_iloadN 1 rfl d7_0 rfl ?_
  refine r_if_ne 8 4 d7_1 (by decide) rfl rfl (fun c140 => ?_) (fun c140 => ?_)
  rotate_left
  · refine r_getstatic 7 rfl d7_4 (wd hw 33 rfl) K0.1 ?_
    refine r_aret (t := (.object "com/example/paramarc/paramarc/Token$Kind")) rfl rfl rfl d7_7 (by decide) (by decide) [] (fun _ q => nomatch q) ?_
    exact ⟨_, rfl, rfl, ⟨fun _ => Or.inl c140, fun _ => Or.inl rfl⟩⟩
  refine r_iloadN 9 rfl d7_8 rfl ?_
  refine r_iconst (1 : Int32) 10 rfl d7_9 rfl ?_
  refine r_icmp_ne 17 13 d7_10 (by decide) rfl rfl (fun c141 => ?_) (fun c141 => ?_)
  rotate_left
  · refine r_getstatic 16 rfl d7_13 (wd hw 84 rfl) K1.1 ?_
    refine r_aret (t := (.object "com/example/paramarc/paramarc/Token$Kind")) rfl rfl rfl d7_16 (by decide) (by decide) [] (fun _ q => nomatch q) ?_
    exact ⟨_, rfl, rfl, ⟨fun q => absurd q (by rintro (q | q); exact K1.ne K0 (by decide) q; exact K1.ne K3 (by decide) q), fun q => absurd q (by rw [c141]; decide)⟩⟩
  refine r_iloadN 18 rfl d7_17 rfl ?_
  refine r_iconst (2 : Int32) 19 rfl d7_18 rfl ?_
  refine r_icmp_ne 26 22 d7_19 (by decide) rfl rfl (fun c142 => ?_) (fun c142 => ?_)
  rotate_left
  · refine r_getstatic 25 rfl d7_22 (wd hw 113 rfl) K2.1 ?_
    refine r_aret (t := (.object "com/example/paramarc/paramarc/Token$Kind")) rfl rfl rfl d7_25 (by decide) (by decide) [] (fun _ q => nomatch q) ?_
    exact ⟨_, rfl, rfl, ⟨fun q => absurd q (by rintro (q | q); exact K2.ne K0 (by decide) q; exact K2.ne K3 (by decide) q), fun q => absurd q (by rw [c142]; decide)⟩⟩
  refine r_iloadN 27 rfl d7_26 rfl ?_
  refine r_iconst (3 : Int32) 28 rfl d7_27 rfl ?_
  refine r_icmp_ne 35 31 d7_28 (by decide) rfl rfl (fun c143 => ?_) (fun c143 => ?_)
  rotate_left
  · refine r_getstatic 34 rfl d7_31 (wd hw 100 rfl) K3.1 ?_
    refine r_aret (t := (.object "com/example/paramarc/paramarc/Token$Kind")) rfl rfl rfl d7_34 (by decide) (by decide) [] (fun _ q => nomatch q) ?_
    exact ⟨_, rfl, rfl, ⟨fun _ => Or.inr c143, fun _ => Or.inr rfl⟩⟩
  refine r_iloadN 36 rfl d7_35 rfl ?_
  refine r_iconst (4 : Int32) 37 rfl d7_36 rfl ?_
  refine r_icmp_ne 44 40 d7_37 (by decide) rfl rfl (fun c144 => ?_) (fun c144 => ?_)
  rotate_left
  · refine r_getstatic 43 rfl d7_40 (wd hw 98 rfl) K4.1 ?_
    refine r_aret (t := (.object "com/example/paramarc/paramarc/Token$Kind")) rfl rfl rfl d7_43 (by decide) (by decide) [] (fun _ q => nomatch q) ?_
    exact ⟨_, rfl, rfl, ⟨fun q => absurd q (by rintro (q | q); exact K4.ne K0 (by decide) q; exact K4.ne K3 (by decide) q), fun q => absurd q (by rw [c144]; decide)⟩⟩
  refine r_getstatic 47 rfl d7_44 (wd hw 101 rfl) K5.1 ?_
  refine r_aret (t := (.object "com/example/paramarc/paramarc/Token$Kind")) rfl rfl rfl d7_47 (by decide) (by decide) [] (fun _ q => nomatch q) ?_
  exact ⟨_, rfl, rfl, ⟨fun q => absurd q (by rintro (q | q); exact K5.ne K0 (by decide) q; exact K5.ne K3 (by decide) q), fun q => absurd q (by rintro (q | q); exact c140 q; exact c143 q)⟩⟩
theorem d8_0 : decode prog_4_method_2_code 0 = .ok (.aload_n 0, 1) := by decide +kernel
theorem d8_1 : decode prog_4_method_2_code 1 = .ok (.invokespecial 7, 3) := by decide +kernel
theorem d8_4 : decode prog_4_method_2_code 4 = .ok (.aload_n 0, 1) := by decide +kernel
theorem d8_5 : decode prog_4_method_2_code 5 = .ok (.aload_n 1, 1) := by decide +kernel
theorem d8_6 : decode prog_4_method_2_code 6 = .ok (.putfield 12, 3) := by decide +kernel
theorem d8_9 : decode prog_4_method_2_code 9 = .ok (.aload_n 0, 1) := by decide +kernel
theorem d8_10 : decode prog_4_method_2_code 10 = .ok (.iload_n 2, 1) := by decide +kernel
theorem d8_11 : decode prog_4_method_2_code 11 = .ok (.putfield 16, 3) := by decide +kernel
theorem d8_14 : decode prog_4_method_2_code 14 = .ok (.aload_n 0, 1) := by decide +kernel
theorem d8_15 : decode prog_4_method_2_code 15 = .ok (.iload_n 3, 1) := by decide +kernel
theorem d8_16 : decode prog_4_method_2_code 16 = .ok (.putfield 20, 3) := by decide +kernel
theorem d8_19 : decode prog_4_method_2_code 19 = .ok (.aload_n 0, 1) := by decide +kernel
theorem d8_20 : decode prog_4_method_2_code 20 = .ok (.aload 4, 2) := by decide +kernel
theorem d8_22 : decode prog_4_method_2_code 22 = .ok (.putfield 23, 3) := by decide +kernel
theorem d8_25 : decode prog_4_method_2_code 25 = .ok (.return_, 1) := by decide +kernel
abbrev b_pos2 : Bx := (⟨"com/example/paramarc/paramarc/Position", "<init>", "(Ljava/lang/String;IILjava/lang/String;)V"⟩, prog_4_method_2_code, 5, none, { frames := 1, cells := 0, slots := 0, locals := 12 })
def Qk (a : Nat) (h0 : Heap) : Qt := fun v h _ => v = none ∧ Keep h0 h [a]
theorem c_pos2 (V : Vw) (hw : ∀ d ∈ tables_1, d.before V.a0 V.Z = true) (p x : Nat) (h : Heap) (ps : List Addr) (zp : V.Z.heap.size ≤ p) (E : Exa V.Z h p "com/example/paramarc/paramarc/Position") (F0 : Fld V.Z h p "com/example/paramarc/paramarc/Position" "source" "Ljava/lang/String;" .null) (F1 : Fld V.Z h p "com/example/paramarc/paramarc/Position" "line" "I" (.int 0)) (F2 : Fld V.Z h p "com/example/paramarc/paramarc/Position" "column" "I" (.int 0)) (F3 : Fld V.Z h p "com/example/paramarc/paramarc/Position" "copy" "Ljava/lang/String;" .null) : Con V b_pos2 #[.ref p, .ref x, .int 1, .int 1, .null] h ps (Qk p h) := Con.of (plainFor_of_name pn_3) (L := [.val (.ref p), .val (.ref x), .val (.int (1 : Int32)), .val (.int (1 : Int32)), .val (.null)]) rfl fun K => by
  refine r_aloadN 1 rfl d8_0 rfl rfl ?_
  refine r_initO 0 4 rfl d8_1 (wd hw 46 rfl) (wd hw 17 rfl) (wd hw 18 rfl) rfl (by decide) (Nat.le_of_eq rfl) (by decide) ?_
  refine r_aloadN 5 rfl d8_4 rfl rfl ?_
  refine r_aloadN 6 rfl d8_5 rfl rfl ?_
  refine r_putfield 9 rfl d8_6 (wd hw 47 rfl) F0 E (Or.inr ⟨wd hw 48 rfl, rfl, rfl⟩) (wd hw 37 rfl) (ty := (.object "java/lang/String")) (by decide) rfl rfl zp (Or.inl (by decide)) fun h145 Wh145 => ?_
  have sh145 := Wh145.size
  have f146 := Exa.wr Wh145 E
  have f147 := Fld.same Wh145 F0
  have f148 := Fld.other Wh145 F1 (Or.inr (slot_ne (C := "com/example/paramarc/paramarc/Position") (Or.inr (wd hw 50 rfl)) (Or.inr (wd hw 48 rfl)) (by decide) (t := .int) (by decide) (t' := (.object "java/lang/String")) (by decide)))
  have f149 := Fld.other Wh145 F2 (Or.inr (slot_ne (C := "com/example/paramarc/paramarc/Position") (Or.inr (wd hw 52 rfl)) (Or.inr (wd hw 48 rfl)) (by decide) (t := .int) (by decide) (t' := (.object "java/lang/String")) (by decide)))
  have f150 := Fld.other Wh145 F3 (Or.inr (slot_ne (C := "com/example/paramarc/paramarc/Position") (Or.inr (wd hw 54 rfl)) (Or.inr (wd hw 48 rfl)) (by decide) (t := (.object "java/lang/String")) (by decide) (t' := (.object "java/lang/String")) (by decide)))
  refine r_aloadN 10 rfl d8_9 rfl rfl ?_
  refine r_iloadN 11 rfl d8_10 rfl ?_
  refine r_putfield 14 rfl d8_11 (wd hw 49 rfl) f148 f146 (Or.inr ⟨wd hw 50 rfl, rfl, rfl⟩) (wd hw 37 rfl) (ty := .int) (by decide) rfl rfl zp (Or.inl (by decide)) fun h151 Wh151 => ?_
  have sh151 := Wh151.size
  have f152 := Exa.wr Wh151 f146
  have f153 := Fld.other Wh151 f147 (Or.inr (slot_ne (C := "com/example/paramarc/paramarc/Position") (Or.inr (wd hw 48 rfl)) (Or.inr (wd hw 50 rfl)) (by decide) (t := (.object "java/lang/String")) (by decide) (t' := .int) (by decide)))
  have f154 := Fld.same Wh151 f148
  have f155 := Fld.other Wh151 f149 (Or.inr (slot_ne (C := "com/example/paramarc/paramarc/Position") (Or.inr (wd hw 52 rfl)) (Or.inr (wd hw 50 rfl)) (by decide) (t := .int) (by decide) (t' := .int) (by decide)))
  have f156 := Fld.other Wh151 f150 (Or.inr (slot_ne (C := "com/example/paramarc/paramarc/Position") (Or.inr (wd hw 54 rfl)) (Or.inr (wd hw 50 rfl)) (by decide) (t := (.object "java/lang/String")) (by decide) (t' := .int) (by decide)))
  refine r_aloadN 15 rfl d8_14 rfl rfl ?_
  refine r_iloadN 16 rfl d8_15 rfl ?_
  refine r_putfield 19 rfl d8_16 (wd hw 51 rfl) f155 f152 (Or.inr ⟨wd hw 52 rfl, rfl, rfl⟩) (wd hw 37 rfl) (ty := .int) (by decide) rfl rfl zp (Or.inl (by decide)) fun h157 Wh157 => ?_
  have sh157 := Wh157.size
  have f158 := Exa.wr Wh157 f152
  have f159 := Fld.other Wh157 f153 (Or.inr (slot_ne (C := "com/example/paramarc/paramarc/Position") (Or.inr (wd hw 48 rfl)) (Or.inr (wd hw 52 rfl)) (by decide) (t := (.object "java/lang/String")) (by decide) (t' := .int) (by decide)))
  have f160 := Fld.other Wh157 f154 (Or.inr (slot_ne (C := "com/example/paramarc/paramarc/Position") (Or.inr (wd hw 50 rfl)) (Or.inr (wd hw 52 rfl)) (by decide) (t := .int) (by decide) (t' := .int) (by decide)))
  have f161 := Fld.same Wh157 f155
  have f162 := Fld.other Wh157 f156 (Or.inr (slot_ne (C := "com/example/paramarc/paramarc/Position") (Or.inr (wd hw 54 rfl)) (Or.inr (wd hw 52 rfl)) (by decide) (t := (.object "java/lang/String")) (by decide) (t' := .int) (by decide)))
  refine r_aloadN 20 rfl d8_19 rfl rfl ?_
  refine r_aload 22 rfl d8_20 rfl rfl ?_
  refine r_putfield 25 rfl d8_22 (wd hw 53 rfl) f162 f158 (Or.inr ⟨wd hw 54 rfl, rfl, rfl⟩) (wd hw 37 rfl) (ty := (.object "java/lang/String")) (by decide) rfl rfl zp (Or.inl (by decide)) fun h163 Wh163 => ?_
  have sh163 := Wh163.size
  have f164 := Exa.wr Wh163 f158
  have f165 := Fld.other Wh163 f159 (Or.inr (slot_ne (C := "com/example/paramarc/paramarc/Position") (Or.inr (wd hw 48 rfl)) (Or.inr (wd hw 54 rfl)) (by decide) (t := (.object "java/lang/String")) (by decide) (t' := (.object "java/lang/String")) (by decide)))
  have f166 := Fld.other Wh163 f160 (Or.inr (slot_ne (C := "com/example/paramarc/paramarc/Position") (Or.inr (wd hw 50 rfl)) (Or.inr (wd hw 54 rfl)) (by decide) (t := .int) (by decide) (t' := (.object "java/lang/String")) (by decide)))
  have f167 := Fld.other Wh163 f161 (Or.inr (slot_ne (C := "com/example/paramarc/paramarc/Position") (Or.inr (wd hw 52 rfl)) (Or.inr (wd hw 54 rfl)) (by decide) (t := .int) (by decide) (t' := (.object "java/lang/String")) (by decide)))
  have f168 := Fld.same Wh163 f162
  refine r_ret rfl d8_25 (by decide) (by decide) [] (fun _ q => nomatch q) ?_
  exact ⟨rfl, ((((Keep.refl _ _).wr Wh145 (Or.inl (by simp))).wr Wh151 (Or.inl (by simp))).wr Wh157 (Or.inl (by simp))).wr Wh163 (Or.inl (by simp))⟩
theorem d9_0 : decode prog_4_method_1_code 0 = .ok (.aload_n 0, 1) := by decide +kernel
theorem d9_1 : decode prog_4_method_1_code 1 = .ok (.aload_n 1, 1) := by decide +kernel
theorem d9_2 : decode prog_4_method_1_code 2 = .ok (.iload_n 2, 1) := by decide +kernel
theorem d9_3 : decode prog_4_method_1_code 3 = .ok (.iload_n 3, 1) := by decide +kernel
theorem d9_4 : decode prog_4_method_1_code 4 = .ok (.aconst_null, 1) := by decide +kernel
theorem d9_5 : decode prog_4_method_1_code 5 = .ok (.invokespecial 1, 3) := by decide +kernel
theorem d9_8 : decode prog_4_method_1_code 8 = .ok (.return_, 1) := by decide +kernel
abbrev b_pos1 : Bx := (⟨"com/example/paramarc/paramarc/Position", "<init>", "(Ljava/lang/String;II)V"⟩, prog_4_method_1_code, 4, none, { frames := 2, cells := 0, slots := 0, locals := 40 })
theorem c_pos1 (V : Vw) (hw : ∀ d ∈ tables_1, d.before V.a0 V.Z = true) (p x : Nat) (h : Heap) (ps : List Addr) (zp : V.Z.heap.size ≤ p) (E : Exa V.Z h p "com/example/paramarc/paramarc/Position") (F0 : Fld V.Z h p "com/example/paramarc/paramarc/Position" "source" "Ljava/lang/String;" .null) (F1 : Fld V.Z h p "com/example/paramarc/paramarc/Position" "line" "I" (.int 0)) (F2 : Fld V.Z h p "com/example/paramarc/paramarc/Position" "column" "I" (.int 0)) (F3 : Fld V.Z h p "com/example/paramarc/paramarc/Position" "copy" "Ljava/lang/String;" .null) : Con V b_pos1 #[.ref p, .ref x, .int 1, .int 1] h ps (Qk p h) := Con.of (plainFor_of_name pn_3) (L := [.val (.ref p), .val (.ref x), .val (.int (1 : Int32)), .val (.int (1 : Int32))]) rfl fun K => by
  refine r_aloadN 1 rfl d9_0 rfl rfl ?_
  refine r_aloadN 2 rfl d9_1 rfl rfl ?_
  refine r_iloadN 3 rfl d9_2 rfl ?_
  refine r_iloadN 4 rfl d9_3 rfl ?_
  refine r_null 5 rfl d9_4 ?_
  refine r_special 8 rfl d9_5 rfl (wd hw 43 rfl) (wd hw 44 rfl) (wd hw 45 rfl) (by decide) (Pays.con (K := K) (B := b_pos1) (c_pos2 V hw p x h _ zp E F0 F1 F2 F3) (wd hw 45 rfl) (wd hw 38 rfl) (by decide) (by decide)) (W := 0) (argsL := [.ref x, .int (1 : Int32), .int (1 : Int32), .null]) (lenOf pd_8 rfl) rfl rfl rfl (Nat.le_of_eq rfl) (Nat.le_of_ble_eq_true rfl) (Nat.le_of_ble_eq_true rfl) fun v172 h173 ps169 q171 z170 => ?_
  obtain ⟨rfl, K1⟩ := q171
  show Own.Run V K b_pos1 _ h173 _ 0 0 8 [.val (.ref p), .val (.ref x), .val (.int (1 : Int32)), .val (.int (1 : Int32))] []
  refine r_ret rfl d9_8 (by decide) (by decide) [] (fun _ q => nomatch q) ?_
  exact ⟨rfl, K1⟩
theorem d10_0 : decode prog_6_method_1_code 0 = .ok (.aload_n 0, 1) := by decide +kernel
theorem d10_1 : decode prog_6_method_1_code 1 = .ok (.invokespecial 1, 3) := by decide +kernel
theorem d10_4 : decode prog_6_method_1_code 4 = .ok (.aload_n 0, 1) := by decide +kernel
theorem d10_5 : decode prog_6_method_1_code 5 = .ok (.aload_n 1, 1) := by decide +kernel
theorem d10_6 : decode prog_6_method_1_code 6 = .ok (.putfield 7, 3) := by decide +kernel
theorem d10_9 : decode prog_6_method_1_code 9 = .ok (.aload_n 0, 1) := by decide +kernel
theorem d10_10 : decode prog_6_method_1_code 10 = .ok (.aload_n 2, 1) := by decide +kernel
theorem d10_11 : decode prog_6_method_1_code 11 = .ok (.putfield 13, 3) := by decide +kernel
theorem d10_14 : decode prog_6_method_1_code 14 = .ok (.aload_n 0, 1) := by decide +kernel
theorem d10_15 : decode prog_6_method_1_code 15 = .ok (.aload_n 3, 1) := by decide +kernel
theorem d10_16 : decode prog_6_method_1_code 16 = .ok (.putfield 17, 3) := by decide +kernel
theorem d10_19 : decode prog_6_method_1_code 19 = .ok (.return_, 1) := by decide +kernel
abbrev b_tinit : Bx := (⟨"com/example/paramarc/paramarc/Token", "<init>", "(Lcom/example/paramarc/paramarc/Token$Kind;Ljava/lang/String;Lcom/example/paramarc/paramarc/Position;)V"⟩, prog_6_method_1_code, 4, none, { frames := 1, cells := 0, slots := 0, locals := 12 })
def Qti (V : Vw) (a k x : Nat) (h0 : Heap) : Qt := fun v h _ => v = none ∧ Keep h0 h [a] ∧ Fld V.Z h a "com/example/paramarc/paramarc/Token" "kind" "Lcom/example/paramarc/paramarc/Token$Kind;" (.ref k) ∧ Fld V.Z h a "com/example/paramarc/paramarc/Token" "text" "Ljava/lang/String;" (.ref x)
theorem c_tinit (V : Vw) (hw : ∀ d ∈ tables_1, d.before V.a0 V.Z = true) (a k x p : Nat) (h : Heap) (ps : List Addr) (za : V.Z.heap.size ≤ a) (E : Exa V.Z h a "com/example/paramarc/paramarc/Token") (F0 : Fld V.Z h a "com/example/paramarc/paramarc/Token" "kind" "Lcom/example/paramarc/paramarc/Token$Kind;" .null) (F1 : Fld V.Z h a "com/example/paramarc/paramarc/Token" "text" "Ljava/lang/String;" .null) (F2 : Fld V.Z h a "com/example/paramarc/paramarc/Token" "position" "Lcom/example/paramarc/paramarc/Position;" .null) : Con V b_tinit #[.ref a, .ref k, .ref x, .ref p] h ps (Qti V a k x h) := Con.of (plainFor_of_name pn_4) (L := [.val (.ref a), .val (.ref k), .val (.ref x), .val (.ref p)]) rfl fun K => by
  refine r_aloadN 1 rfl d10_0 rfl rfl ?_
  refine r_initO 0 4 rfl d10_1 (wd hw 58 rfl) (wd hw 17 rfl) (wd hw 18 rfl) rfl (by decide) (Nat.le_of_eq rfl) (by decide) ?_
  refine r_aloadN 5 rfl d10_4 rfl rfl ?_
  refine r_aloadN 6 rfl d10_5 rfl rfl ?_
  refine r_putfield 9 rfl d10_6 (wd hw 59 rfl) F0 E (Or.inr ⟨wd hw 60 rfl, rfl, rfl⟩) (wd hw 28 rfl) (ty := (.object "com/example/paramarc/paramarc/Token$Kind")) (by decide) rfl rfl za (Or.inl (by decide)) fun h174 Wh174 => ?_
  have sh174 := Wh174.size
  have f175 := Exa.wr Wh174 E
  have f176 := Fld.same Wh174 F0
  have f177 := Fld.other Wh174 F1 (Or.inr (slot_ne (C := "com/example/paramarc/paramarc/Token") (Or.inr (wd hw 62 rfl)) (Or.inr (wd hw 60 rfl)) (by decide) (t := (.object "java/lang/String")) (by decide) (t' := (.object "com/example/paramarc/paramarc/Token$Kind")) (by decide)))
  have f178 := Fld.other Wh174 F2 (Or.inr (slot_ne (C := "com/example/paramarc/paramarc/Token") (Or.inr (wd hw 64 rfl)) (Or.inr (wd hw 60 rfl)) (by decide) (t := (.object "com/example/paramarc/paramarc/Position")) (by decide) (t' := (.object "com/example/paramarc/paramarc/Token$Kind")) (by decide)))
  refine r_aloadN 10 rfl d10_9 rfl rfl ?_
  refine r_aloadN 11 rfl d10_10 rfl rfl ?_
  refine r_putfield 14 rfl d10_11 (wd hw 61 rfl) f177 f175 (Or.inr ⟨wd hw 62 rfl, rfl, rfl⟩) (wd hw 28 rfl) (ty := (.object "java/lang/String")) (by decide) rfl rfl za (Or.inl (by decide)) fun h179 Wh179 => ?_
  have sh179 := Wh179.size
  have f180 := Exa.wr Wh179 f175
  have f181 := Fld.other Wh179 f176 (Or.inr (slot_ne (C := "com/example/paramarc/paramarc/Token") (Or.inr (wd hw 60 rfl)) (Or.inr (wd hw 62 rfl)) (by decide) (t := (.object "com/example/paramarc/paramarc/Token$Kind")) (by decide) (t' := (.object "java/lang/String")) (by decide)))
  have f182 := Fld.same Wh179 f177
  have f183 := Fld.other Wh179 f178 (Or.inr (slot_ne (C := "com/example/paramarc/paramarc/Token") (Or.inr (wd hw 64 rfl)) (Or.inr (wd hw 62 rfl)) (by decide) (t := (.object "com/example/paramarc/paramarc/Position")) (by decide) (t' := (.object "java/lang/String")) (by decide)))
  refine r_aloadN 15 rfl d10_14 rfl rfl ?_
  refine r_aloadN 16 rfl d10_15 rfl rfl ?_
  refine r_putfield 19 rfl d10_16 (wd hw 63 rfl) f183 f180 (Or.inr ⟨wd hw 64 rfl, rfl, rfl⟩) (wd hw 28 rfl) (ty := (.object "com/example/paramarc/paramarc/Position")) (by decide) rfl rfl za (Or.inl (by decide)) fun h184 Wh184 => ?_
  have sh184 := Wh184.size
  have f185 := Exa.wr Wh184 f180
  have f186 := Fld.other Wh184 f181 (Or.inr (slot_ne (C := "com/example/paramarc/paramarc/Token") (Or.inr (wd hw 60 rfl)) (Or.inr (wd hw 64 rfl)) (by decide) (t := (.object "com/example/paramarc/paramarc/Token$Kind")) (by decide) (t' := (.object "com/example/paramarc/paramarc/Position")) (by decide)))
  have f187 := Fld.other Wh184 f182 (Or.inr (slot_ne (C := "com/example/paramarc/paramarc/Token") (Or.inr (wd hw 62 rfl)) (Or.inr (wd hw 64 rfl)) (by decide) (t := (.object "java/lang/String")) (by decide) (t' := (.object "com/example/paramarc/paramarc/Position")) (by decide)))
  have f188 := Fld.same Wh184 f183
  refine r_ret rfl d10_19 (by decide) (by decide) [] (fun _ q => nomatch q) ?_
  exact ⟨rfl, (((Keep.refl _ _).wr Wh174 (Or.inl (by simp))).wr Wh179 (Or.inl (by simp))).wr Wh184 (Or.inl (by simp)), f186, f187⟩
theorem d11_0 : decode prog_6_method_5_code 0 = .ok (.aload_n 0, 1) := by decide +kernel
theorem d11_1 : decode prog_6_method_5_code 1 = .ok (.getfield 7, 3) := by decide +kernel
theorem d11_4 : decode prog_6_method_5_code 4 = .ok (.getstatic 21, 3) := by decide +kernel
theorem d11_7 : decode prog_6_method_5_code 7 = .ok (.if_acmp .eq 13, 3) := by decide +kernel
theorem d11_10 : decode prog_6_method_5_code 10 = .ok (.aload_n 0, 1) := by decide +kernel
theorem d11_11 : decode prog_6_method_5_code 11 = .ok (.getfield 7, 3) := by decide +kernel
theorem d11_14 : decode prog_6_method_5_code 14 = .ok (.getstatic 26, 3) := by decide +kernel
theorem d11_17 : decode prog_6_method_5_code 17 = .ok (.if_acmp .ne 18, 3) := by decide +kernel
theorem d11_20 : decode prog_6_method_5_code 20 = .ok (.aload_n 0, 1) := by decide +kernel
theorem d11_21 : decode prog_6_method_5_code 21 = .ok (.getfield 13, 3) := by decide +kernel
theorem d11_24 : decode prog_6_method_5_code 24 = .ok (.aload_n 1, 1) := by decide +kernel
theorem d11_25 : decode prog_6_method_5_code 25 = .ok (.invokevirtual 29, 3) := by decide +kernel
theorem d11_28 : decode prog_6_method_5_code 28 = .ok (.ifCond .eq 7, 3) := by decide +kernel
theorem d11_31 : decode prog_6_method_5_code 31 = .ok (.iconst 1, 1) := by decide +kernel
theorem d11_32 : decode prog_6_method_5_code 32 = .ok (.goto 4, 3) := by decide +kernel
theorem d11_35 : decode prog_6_method_5_code 35 = .ok (.iconst 0, 1) := by decide +kernel
theorem d11_36 : decode prog_6_method_5_code 36 = .ok (.ireturn, 1) := by decide +kernel
abbrev b_is : Bx := (⟨"com/example/paramarc/paramarc/Token", "is", "(Ljava/lang/String;)Z"⟩, prog_6_method_5_code, 2, some .boolean, { frames := 3, cells := 0, slots := 0, locals := 44 })
theorem c_is (V : Vw) (hw : ∀ d ∈ tables_1, d.before V.a0 V.Z = true) (cz : Int32) (hCS : Sta V.Z V.Z.heap "java/lang/String" "COMPACT_STRINGS" "Z" (.int cz)) (hcz : ¬ cz = 0) (rn rs : Nat) (hK : Ks V rn rs) (a k x y : Nat) (m m' : Nat) (cs ds : List Int32) (h : Heap) (ps : List Addr) (F : Fld V.Z h a "com/example/paramarc/paramarc/Token" "kind" "Lcom/example/paramarc/paramarc/Token$Kind;" (.ref k)) (G : Fld V.Z h a "com/example/paramarc/paramarc/Token" "text" "Ljava/lang/String;" (.ref x)) (S : Str V h m x cs) (S' : Str V h m' y ds) : Con V b_is #[.ref a, .ref y] h ps (Qsm ((k = rn ∨ k = rs) ∧ cs = ds) h) := Con.of (plainFor_of_name pn_4) (L := [.val (.ref a), .val (.ref y)]) rfl fun K => by
  obtain ⟨K0, K3, -⟩ := hK
  refine Run.old fun OX => ?_
  have j20 : (k = rn ∨ k = rs) → Own.Run V K b_is (Qsm ((k = rn ∨ k = rs) ∧ cs = ds) h) h ps 0 0 20 [.val (.ref a), .val (.ref y)] [] := by
    intro hk
    refine r_aloadN 21 rfl d11_20 rfl rfl ?_
    refine r_getfield 24 rfl d11_21 (wd hw 61 rfl) G ?_
    refine r_aloadN 25 rfl d11_24 rfl rfl ?_
    refine r_virtual 28 rfl d11_25 (wd hw 73 rfl) (wd hw 74 rfl) (wd hw 76 rfl) (wd hw 75 rfl) (nfS (wd hw 76 rfl)) (by decide) S.exa (pay_eq V hw K b_is 0 x y m m' cs ds h _ S S' OX cz hCS hcz (by decide) (by decide)) (W := 0) (argsL := [.ref y]) (lenOf pd_12 rfl) rfl rfl rfl (Nat.le_of_eq rfl) (Nat.le_of_ble_eq_true rfl) (Nat.le_of_ble_eq_true rfl) fun v192 h193 ps189 q191 z190 => ?_
    obtain ⟨e, rfl, es194, he⟩ := q191
    subst h193
    show Own.Run V K b_is _ h _ 0 0 28 [.val (.ref a), .val (.ref y)] [.int e]
    refine r_if_eq 35 31 d11_28 (by decide) rfl rfl (fun c195 => ?_) (fun c195 => ?_)
    · refine r_iconst (0 : Int32) 36 rfl d11_35 rfl ?_
      refine r_nret (t := .boolean) (0 : Int32) rfl (by simp) rfl d11_36 (by decide) (by decide) [] (fun _ q => nomatch q) ?_
      exact ⟨_, rfl, rfl, Or.inr ⟨rfl, fun q => bf he c195 q.2⟩⟩
    · refine r_iconst (1 : Int32) 32 rfl d11_31 rfl ?_
      refine r_goto 36 d11_32 (by decide) rfl ?_
      refine r_nret (t := .boolean) (1 : Int32) rfl (by simp) rfl d11_36 (by decide) (by decide) [] (fun _ q => nomatch q) ?_
      exact ⟨_, rfl, rfl, Or.inl ⟨rfl, hk, bt he c195⟩⟩
  refine r_aloadN 1 rfl d11_0 rfl rfl ?_
  refine r_getfield 4 rfl d11_1 (wd hw 59 rfl) F ?_
  refine r_getstatic 7 rfl d11_4 (wd hw 70 rfl) K3.1 ?_
  refine r_acmp_eq 20 10 d11_7 rfl rfl (by decide) rfl rfl (fun c196 => ?_) (fun c196 => ?_)
  · exact j20 (Or.inr (by simpa using c196))
  refine r_aloadN 11 rfl d11_10 rfl rfl ?_
  refine r_getfield 14 rfl d11_11 (wd hw 59 rfl) F ?_
  refine r_getstatic 17 rfl d11_14 (wd hw 72 rfl) K0.1 ?_
  refine r_acmp_ne 35 20 d11_17 rfl rfl (by decide) rfl rfl (fun c197 => ?_) (fun c197 => ?_)
  · refine r_iconst (0 : Int32) 36 rfl d11_35 rfl ?_
    refine r_nret (t := .boolean) (0 : Int32) rfl (by simp) rfl d11_36 (by decide) (by decide) [] (fun _ q => nomatch q) ?_
    exact ⟨_, rfl, rfl, Or.inr ⟨rfl, fun q => q.1.elim (fun z => c197 (by rw [z])) (fun z => c196 (by rw [z]))⟩⟩
  · exact j20 (Or.inl (by simpa using c197))
abbrev b_law : Bx := (x, code, maxLocals, ret, room_1)
def Q1 : Qt := fun v _ _ => v = some (.int 1)
theorem i2cBy {z x : Int32} (e : z = (x &&& 255).toUInt32.toUInt16.toUInt32.toInt32) : By z := by rw [e, i2c_mask]; exact By.mask x
theorem mod3 {z x : Int32} (e : z = (x &&& 3) % 3) : z = 0 ∨ z = 1 ∨ z = 2 := by
  have h := c_and x 3 (by decide)
  have q := (c_irem (x &&& 3) 3 3 (by decide)).1 h.1
  rw [← e] at q
  simp only [← Int32.toInt_inj]
  have e0 : (0 : Int32).toInt = 0 := rfl
  have e1 : (1 : Int32).toInt = 1 := rfl
  have e2 : (2 : Int32).toInt = 2 := rfl
  omega
def N3 (z : Int32) : Prop := z = 0 ∨ z = 1 ∨ z = 2
theorem mk0 (a b : Int32) : mk 0 a b = [] := rfl
theorem mk1 (a b : Int32) : mk 1 a b = [a] := rfl
theorem mk2 (a b : Int32) : mk 2 a b = [a, b] := rfl
theorem mk_iff {n m a b c d : Int32} (hn : N3 n) (hm : N3 m) : mk n a b = mk m c d ↔ (n = m ∧ (n < 1 ∨ a = c) ∧ (n < 2 ∨ b = d)) := by
  have t1 : (0 : Int32) < 1 := by decide
  have t2 : (0 : Int32) < 2 := by decide
  have t3 : ¬ (1 : Int32) < 1 := by decide
  have t4 : (1 : Int32) < 2 := by decide
  have t5 : ¬ (2 : Int32) < 1 := by decide
  have t6 : ¬ (2 : Int32) < 2 := by decide
  have n1 : ¬ (0 : Int32) = 1 := by decide
  have n2 : ¬ (0 : Int32) = 2 := by decide
  have n3 : ¬ (1 : Int32) = 0 := by decide
  have n4 : ¬ (1 : Int32) = 2 := by decide
  have n5 : ¬ (2 : Int32) = 0 := by decide
  have n6 : ¬ (2 : Int32) = 1 := by decide
  rcases hn with rfl | rfl | rfl <;> rcases hm with rfl | rfl | rfl <;> simp only [mk0, mk1, mk2, t1, t2, t3, t4, t5, t6, n1, n2, n3, n4, n5, n6, true_and, false_and, true_or, false_or, and_true, and_false, and_self, List.cons.injEq, reduceCtorEq]
theorem c_law (V : Vw) (hw : ∀ d ∈ tables_1, d.before V.a0 V.Z = true) (hm : ("java/lang/String", 7) ∈ V.EL) (hn : V.nar = false) (cz : Int32) (hCS : Sta V.Z V.Z.heap "java/lang/String" "COMPACT_STRINGS" "Z" (.int cz)) (hcz : ¬ cz = 0) (hm2 : ("com/example/paramarc/paramarc/TokenIsPinLaw", 52) ∈ V.EL) (rn rs : Nat) (hK : Ks V rn rs) (p0 p1 p2 p3 : Int32) (h : Heap) : Con V b_law #[.int p0, .int p1, .int p2, .int p3] h [] Q1 := Con.of (plainFor_of_name pn_2) (L := [.val (.int p0), .val (.int p1), .val (.int p2), .val (.int p3), .unset, .unset, .unset, .unset, .unset, .unset, .unset, .unset, .unset, .unset, .unset, .unset]) rfl fun K => by
  refine r_iloadN 1 rfl at_0 rfl ?_
  refine r_ldcI 3 rfl at_1 (wd hw 0 rfl) ?_
  refine r_iand 4 rfl at_3 ?_
  refine r_bipush (6 : Int32) 6 rfl at_4 rfl ?_
  refine r_irem 7 rfl at_6 (by decide) ?_
  refine r_gen fun k198 hk198 => ?_
  refine r_istore [.val (.int p0), .val (.int p1), .val (.int p2), .val (.int p3), .val (.int k198), .unset, .unset, .unset, .unset, .unset, .unset, .unset, .unset, .unset, .unset, .unset] 9 rfl at_7 rfl ?_
  refine r_iloadN 10 rfl at_9 rfl ?_
  refine r_bipush (16 : Int32) 12 rfl at_10 rfl ?_
  refine r_iushr 13 rfl at_12 ?_
  refine r_iconst (3 : Int32) 14 rfl at_13 rfl ?_
  refine r_iand 15 rfl at_14 ?_
  refine r_iconst (3 : Int32) 16 rfl at_15 rfl ?_
  refine r_irem 17 rfl at_16 (by decide) ?_
  refine r_gen fun k199 hk199 => ?_
  refine r_istore [.val (.int p0), .val (.int p1), .val (.int p2), .val (.int p3), .val (.int k198), .val (.int k199), .unset, .unset, .unset, .unset, .unset, .unset, .unset, .unset, .unset, .unset] 19 rfl at_17 rfl ?_
  refine r_iloadN 20 rfl at_19 rfl ?_
  refine r_sipush (255 : Int32) 23 rfl at_20 rfl ?_
  refine r_iand 24 rfl at_23 ?_
  refine r_i2c 25 rfl at_24 ?_
  refine r_gen fun k200 hk200 => ?_
  refine r_istore [.val (.int p0), .val (.int p1), .val (.int p2), .val (.int p3), .val (.int k198), .val (.int k199), .val (.int k200), .unset, .unset, .unset, .unset, .unset, .unset, .unset, .unset, .unset] 27 rfl at_25 rfl ?_
  refine r_iloadN 28 rfl at_27 rfl ?_
  refine r_bipush (8 : Int32) 30 rfl at_28 rfl ?_
  refine r_iushr 31 rfl at_30 ?_
  refine r_sipush (255 : Int32) 34 rfl at_31 rfl ?_
  refine r_iand 35 rfl at_34 ?_
  refine r_i2c 36 rfl at_35 ?_
  refine r_gen fun k201 hk201 => ?_
  refine r_istore [.val (.int p0), .val (.int p1), .val (.int p2), .val (.int p3), .val (.int k198), .val (.int k199), .val (.int k200), .val (.int k201), .unset, .unset, .unset, .unset, .unset, .unset, .unset, .unset] 38 rfl at_36 rfl ?_
  refine r_iloadN 39 rfl at_38 rfl ?_
  refine r_bipush (16 : Int32) 41 rfl at_39 rfl ?_
  refine r_iushr 42 rfl at_41 ?_
  refine r_iconst (3 : Int32) 43 rfl at_42 rfl ?_
  refine r_iand 44 rfl at_43 ?_
  refine r_iconst (3 : Int32) 45 rfl at_44 rfl ?_
  refine r_irem 46 rfl at_45 (by decide) ?_
  refine r_gen fun k202 hk202 => ?_
  refine r_istore [.val (.int p0), .val (.int p1), .val (.int p2), .val (.int p3), .val (.int k198), .val (.int k199), .val (.int k200), .val (.int k201), .val (.int k202), .unset, .unset, .unset, .unset, .unset, .unset, .unset] 48 rfl at_46 rfl ?_
  refine r_iloadN 49 rfl at_48 rfl ?_
  refine r_sipush (255 : Int32) 52 rfl at_49 rfl ?_
  refine r_iand 53 rfl at_52 ?_
  refine r_i2c 54 rfl at_53 ?_
  refine r_gen fun k203 hk203 => ?_
  refine r_istore [.val (.int p0), .val (.int p1), .val (.int p2), .val (.int p3), .val (.int k198), .val (.int k199), .val (.int k200), .val (.int k201), .val (.int k202), .val (.int k203), .unset, .unset, .unset, .unset, .unset, .unset] 56 rfl at_54 rfl ?_
  refine r_iloadN 57 rfl at_56 rfl ?_
  refine r_bipush (8 : Int32) 59 rfl at_57 rfl ?_
  refine r_iushr 60 rfl at_59 ?_
  refine r_sipush (255 : Int32) 63 rfl at_60 rfl ?_
  refine r_iand 64 rfl at_63 ?_
  refine r_i2c 65 rfl at_64 ?_
  refine r_gen fun k204 hk204 => ?_
  refine r_istore [.val (.int p0), .val (.int p1), .val (.int p2), .val (.int p3), .val (.int k198), .val (.int k199), .val (.int k200), .val (.int k201), .val (.int k202), .val (.int k203), .val (.int k204), .unset, .unset, .unset, .unset, .unset] 67 rfl at_65 rfl ?_
  have b6 := i2cBy hk200
  have b7 := i2cBy hk201
  have b9 := i2cBy hk203
  have b10 := i2cBy hk204
  have m5 : N3 k199 := mod3 hk199
  have m8 : N3 k202 := mod3 hk202
  have j97 : ∀ al q0 q1 : Int32, N3 al → By q0 → By q1 → Own.Run V K b_law Q1 h [] 0 0 97 [.val (.int p0), .val (.int p1), .val (.int p2), .val (.int p3), .val (.int k198), .val (.int k199), .val (.int k200), .val (.int k201), .val (.int al), .val (.int q0), .val (.int q1), .unset, .unset, .unset, .unset, .unset] [] := by
    intro al q0 q1 hal h0 h1
    refine r_iload 99 rfl at_97 rfl ?_
    refine r_iload 101 rfl at_99 rfl ?_
    refine r_iload 103 rfl at_101 rfl ?_
    refine r_static 106 rfl at_103 (wd hw 1 rfl) (wd hw 2 rfl) (wd hw 3 rfl) (wd hw 4 rfl) (by decide) (Pays.con (K := K) (B := b_law) (c_make V hw hm hn cz hCS hcz k199 k200 k201 b6 b7 h _) (wd hw 4 rfl) (wd hw 3 rfl) (by decide) (by decide)) (W := 0) (argsL := [.int k199, .int k200, .int k201]) (lenOf pd_6 rfl) rfl rfl rfl (Nat.le_of_eq rfl) (Nat.le_of_ble_eq_true rfl) (Nat.le_of_ble_eq_true rfl) fun v208 h209 ps205 q207 z206 => ?_
    obtain ⟨x1, rfl, E1, S1⟩ := q207
    have sh209 := E1.1
    show Own.Run V K b_law _ h209 _ 6 16 106 [.val (.int p0), .val (.int p1), .val (.int p2), .val (.int p3), .val (.int k198), .val (.int k199), .val (.int k200), .val (.int k201), .val (.int al), .val (.int q0), .val (.int q1), .unset, .unset, .unset, .unset, .unset] [.ref x1]
    refine r_astore [.val (.int p0), .val (.int p1), .val (.int p2), .val (.int p3), .val (.int k198), .val (.int k199), .val (.int k200), .val (.int k201), .val (.int al), .val (.int q0), .val (.int q1), .val (.ref x1), .unset, .unset, .unset, .unset] 108 rfl at_106 rfl rfl ?_
    refine r_iload 110 rfl at_108 rfl ?_
    refine r_iload 112 rfl at_110 rfl ?_
    refine r_iload 114 rfl at_112 rfl ?_
    refine r_static 117 rfl at_114 (wd hw 1 rfl) (wd hw 2 rfl) (wd hw 3 rfl) (wd hw 4 rfl) (by decide) (Pays.con (K := K) (B := b_law) (c_make V hw hm hn cz hCS hcz al q0 q1 h0 h1 h209 _) (wd hw 4 rfl) (wd hw 3 rfl) (by decide) (by decide)) (W := 0) (argsL := [.int al, .int q0, .int q1]) (lenOf pd_6 rfl) rfl rfl rfl (Nat.le_of_eq rfl) (Nat.le_of_ble_eq_true rfl) (Nat.le_of_ble_eq_true rfl) fun v213 h214 ps210 q212 z211 => ?_
    obtain ⟨x2, rfl, E2, S2⟩ := q212
    have f215 := Str.ext E2 S1
    have sh214 := E2.1
    show Own.Run V K b_law _ h214 _ 12 32 117 [.val (.int p0), .val (.int p1), .val (.int p2), .val (.int p3), .val (.int k198), .val (.int k199), .val (.int k200), .val (.int k201), .val (.int al), .val (.int q0), .val (.int q1), .val (.ref x1), .unset, .unset, .unset, .unset] [.ref x2]
    refine r_astore [.val (.int p0), .val (.int p1), .val (.int p2), .val (.int p3), .val (.int k198), .val (.int k199), .val (.int k200), .val (.int k201), .val (.int al), .val (.int q0), .val (.int q1), .val (.ref x1), .val (.ref x2), .unset, .unset, .unset] 119 rfl at_117 rfl rfl ?_
    refine r_new 122 rfl at_119 (wd hw 27 rfl) (wd hw 28 rfl) (wd hw 29 rfl) (by decide) (by decide) fun a216 h217 ga216 za216 Eh217 Xa216 Da216 => ?_
    have f218 := Str.ext Eh217 f215
    have f219 := Str.ext Eh217 S2
    have sh217 := Eh217.1
    have la216 := ltN Xa216.lt
    have f220 : Fld V.Z h217 a216 "com/example/paramarc/paramarc/Token" "kind" "Lcom/example/paramarc/paramarc/Token$Kind;" (.null) := Da216 (Or.inr (wd hw 60 rfl)) (ty := (.object "com/example/paramarc/paramarc/Token$Kind")) (by decide)
    have f221 : Fld V.Z h217 a216 "com/example/paramarc/paramarc/Token" "text" "Ljava/lang/String;" (.null) := Da216 (Or.inr (wd hw 62 rfl)) (ty := (.object "java/lang/String")) (by decide)
    have f222 : Fld V.Z h217 a216 "com/example/paramarc/paramarc/Token" "position" "Lcom/example/paramarc/paramarc/Position;" (.null) := Da216 (Or.inr (wd hw 64 rfl)) (ty := (.object "com/example/paramarc/paramarc/Position")) (by decide)
    refine r_dup 123 rfl at_122 rfl ?_
    refine r_iload 125 rfl at_123 rfl ?_
    refine r_static 128 rfl at_125 (wd hw 30 rfl) (wd hw 31 rfl) (wd hw 3 rfl) (wd hw 32 rfl) (by decide) (Pays.con (K := K) (B := b_law) (c_kind V hw rn rs hK k198 h217 _) (wd hw 32 rfl) (wd hw 3 rfl) (by decide) (by decide)) (W := 2) (argsL := [.int k198]) (lenOf pd_7 rfl) rfl rfl rfl (Nat.le_of_eq rfl) (Nat.le_of_ble_eq_true rfl) (Nat.le_of_ble_eq_true rfl) fun v226 h227 ps223 q225 z224 => ?_
    obtain ⟨rk, rfl, es228, hrk⟩ := q225
    subst h227
    show Own.Run V K b_law _ h217 _ 13 35 128 [.val (.int p0), .val (.int p1), .val (.int p2), .val (.int p3), .val (.int k198), .val (.int k199), .val (.int k200), .val (.int k201), .val (.int al), .val (.int q0), .val (.int q1), .val (.ref x1), .val (.ref x2), .unset, .unset, .unset] [.ref rk, .ref a216, .ref a216]
    refine r_aload 130 rfl at_128 rfl rfl ?_
    refine r_new 133 rfl at_130 (wd hw 36 rfl) (wd hw 37 rfl) (wd hw 38 rfl) (by decide) (by decide) fun a229 h230 ga229 za229 Eh230 Xa229 Da229 => ?_
    have f231 := Str.ext Eh230 f218
    have f232 := Str.ext Eh230 f219
    have f233 := Exa.ext Eh230 Xa216
    have f234 := Fld.ext Eh230 f220
    have f235 := Fld.ext Eh230 f221
    have f236 := Fld.ext Eh230 f222
    have sh230 := Eh230.1
    have la229 := ltN Xa229.lt
    have f237 : Fld V.Z h230 a229 "com/example/paramarc/paramarc/Position" "source" "Ljava/lang/String;" (.null) := Da229 (Or.inr (wd hw 48 rfl)) (ty := (.object "java/lang/String")) (by decide)
    have f238 : Fld V.Z h230 a229 "com/example/paramarc/paramarc/Position" "line" "I" (.int (0 : Int32)) := Da229 (Or.inr (wd hw 50 rfl)) (ty := .int) (by decide)
    have f239 : Fld V.Z h230 a229 "com/example/paramarc/paramarc/Position" "column" "I" (.int (0 : Int32)) := Da229 (Or.inr (wd hw 52 rfl)) (ty := .int) (by decide)
    have f240 : Fld V.Z h230 a229 "com/example/paramarc/paramarc/Position" "copy" "Ljava/lang/String;" (.null) := Da229 (Or.inr (wd hw 54 rfl)) (ty := (.object "java/lang/String")) (by decide)
    refine r_dup 134 rfl at_133 rfl ?_
    refine r_ldcS [.int 109] (1 : Int32) 4 136 rfl at_134 (wd hw 39 rfl) (satoms V hw) hm2 hn (by decide) (by decide) rfl (by decide) (by decide) (by decide) (by decide) fun a241 b242 k243 h244 Eh244 Xh244 Ch244 Yh244 Ah244 Nh244 => ?_
    have f245 := Str.ext Eh244 f231
    have f246 := Str.ext Eh244 f232
    have f247 := Exa.ext Eh244 f233
    have f248 := Fld.ext Eh244 f234
    have f249 := Fld.ext Eh244 f235
    have f250 := Fld.ext Eh244 f236
    have f251 := Exa.ext Eh244 Xa229
    have f252 := Fld.ext Eh244 f237
    have f253 := Fld.ext Eh244 f238
    have f254 := Fld.ext Eh244 f239
    have f255 := Fld.ext Eh244 f240
    have sh244 := Eh244.1
    have la241 := ltN Xh244.lt
    have lb242 := ltN Ah244.lt
    refine r_iconst (1 : Int32) 137 rfl at_136 rfl ?_
    refine r_iconst (1 : Int32) 138 rfl at_137 rfl ?_
    refine r_special 141 rfl at_138 rfl (wd hw 40 rfl) (wd hw 41 rfl) (wd hw 42 rfl) (by decide) (Pays.con (K := K) (B := b_law) (c_pos1 V hw a229 a241 h244 _ za229 f251 f252 f253 f254 f255) (wd hw 42 rfl) (wd hw 38 rfl) (by decide) (by decide)) (W := 5) (argsL := [.ref a241, .int (1 : Int32), .int (1 : Int32)]) (lenOf pd_9 rfl) rfl rfl rfl (Nat.le_of_eq rfl) (Nat.le_of_ble_eq_true rfl) (Nat.le_of_ble_eq_true rfl) fun v259 h260 ps256 q258 z257 => ?_
    obtain ⟨rfl, K3⟩ := q258
    have f261 : Str V h260 h209.size x1 (mk k199 k200 k201) := by first | exact Str.keep K3 (fun w hw' => by cases List.mem_singleton.mp hw'; exact leA (by omega)) f245 | exact Str.keepE K3 f251 (by decide) (wd hw 37 rfl) f245
    have f262 : Str V h260 h214.size x2 (mk al q0 q1) := by first | exact Str.keep K3 (fun w hw' => by cases List.mem_singleton.mp hw'; exact leA (by omega)) f246 | exact Str.keepE K3 f251 (by decide) (wd hw 37 rfl) f246
    have f263 := Exa.keep f247 K3
    have f264 := Fld.keep f248 K3 (ninS (neA (by omega)) nin0)
    have f265 := Fld.keep f249 K3 (ninS (neA (by omega)) nin0)
    have f266 := Fld.keep f250 K3 (ninS (neA (by omega)) nin0)
    have f267 := Exa.keep f251 K3
    show Own.Run V K b_law _ h260 _ 16 47 141 [.val (.int p0), .val (.int p1), .val (.int p2), .val (.int p3), .val (.int k198), .val (.int k199), .val (.int k200), .val (.int k201), .val (.int al), .val (.int q0), .val (.int q1), .val (.ref x1), .val (.ref x2), .unset, .unset, .unset] [.ref a229, .ref x1, .ref rk, .ref a216, .ref a216]
    have sh260 := K3.1
    refine r_special 144 rfl at_141 rfl (wd hw 55 rfl) (wd hw 56 rfl) (wd hw 57 rfl) (by decide) (Pays.con (K := K) (B := b_law) (c_tinit V hw a216 rk x1 a229 h260 _ za216 f263 f264 f265 f266) (wd hw 57 rfl) (wd hw 29 rfl) (by decide) (by decide)) (W := 1) (argsL := [.ref rk, .ref x1, .ref a229]) (lenOf pd_10 rfl) rfl rfl rfl (Nat.le_of_eq rfl) (Nat.le_of_ble_eq_true rfl) (Nat.le_of_ble_eq_true rfl) fun v271 h272 ps268 q270 z269 => ?_
    obtain ⟨rfl, K4, G1, G2⟩ := q270
    have f273 : Str V h272 h209.size x1 (mk k199 k200 k201) := by first | exact Str.keep K4 (fun w hw' => by cases List.mem_singleton.mp hw'; exact leA (by omega)) f261 | exact Str.keepE K4 f263 (by decide) (wd hw 28 rfl) f261
    have f274 : Str V h272 h214.size x2 (mk al q0 q1) := by first | exact Str.keep K4 (fun w hw' => by cases List.mem_singleton.mp hw'; exact leA (by omega)) f262 | exact Str.keepE K4 f263 (by decide) (wd hw 28 rfl) f262
    have f275 := Exa.keep f263 K4
    have f276 := Exa.keep f267 K4
    show Own.Run V K b_law _ h272 _ 16 47 144 [.val (.int p0), .val (.int p1), .val (.int p2), .val (.int p3), .val (.int k198), .val (.int k199), .val (.int k200), .val (.int k201), .val (.int al), .val (.int q0), .val (.int q1), .val (.ref x1), .val (.ref x2), .unset, .unset, .unset] [.ref a216]
    have sh272 := K4.1
    refine r_astore [.val (.int p0), .val (.int p1), .val (.int p2), .val (.int p3), .val (.int k198), .val (.int k199), .val (.int k200), .val (.int k201), .val (.int al), .val (.int q0), .val (.int q1), .val (.ref x1), .val (.ref x2), .val (.ref a216), .unset, .unset] 146 rfl at_144 rfl rfl ?_
    refine r_iload 148 rfl at_146 rfl ?_
    refine r_iload 150 rfl at_148 rfl ?_
    have j184 : ∀ {pX : List Addr} (sm : Int32), (sm = 1 ∧ (k199 = al ∧ (k199 < 1 ∨ k200 = q0) ∧ (k199 < 2 ∨ k201 = q1)) ∨ sm = 0 ∧ ¬ (k199 = al ∧ (k199 < 1 ∨ k200 = q0) ∧ (k199 < 2 ∨ k201 = q1))) → Own.Run V K b_law Q1 h272 pX 16 47 184 [.val (.int p0), .val (.int p1), .val (.int p2), .val (.int p3), .val (.int k198), .val (.int k199), .val (.int k200), .val (.int k201), .val (.int al), .val (.int q0), .val (.int q1), .val (.ref x1), .val (.ref x2), .val (.ref a216), .unset, .unset] [.int sm] := by
      intro pX sm hsm
      refine r_istore [.val (.int p0), .val (.int p1), .val (.int p2), .val (.int p3), .val (.int k198), .val (.int k199), .val (.int k200), .val (.int k201), .val (.int al), .val (.int q0), .val (.int q1), .val (.ref x1), .val (.ref x2), .val (.ref a216), .val (.int sm), .unset] 186 rfl at_184 rfl ?_
      refine r_iload 188 rfl at_186 rfl ?_
      have j207 : ∀ {pX : List Addr} (ex : Int32), (ex = 1 ∧ ((k198 = 0 ∨ k198 = 3) ∧ (k199 = al ∧ (k199 < 1 ∨ k200 = q0) ∧ (k199 < 2 ∨ k201 = q1))) ∨ ex = 0 ∧ ¬ ((k198 = 0 ∨ k198 = 3) ∧ (k199 = al ∧ (k199 < 1 ∨ k200 = q0) ∧ (k199 < 2 ∨ k201 = q1)))) → Own.Run V K b_law Q1 h272 pX 16 47 207 [.val (.int p0), .val (.int p1), .val (.int p2), .val (.int p3), .val (.int k198), .val (.int k199), .val (.int k200), .val (.int k201), .val (.int al), .val (.int q0), .val (.int q1), .val (.ref x1), .val (.ref x2), .val (.ref a216), .val (.int sm), .unset] [.int ex] := by
        intro pX ex hex
        refine r_istore [.val (.int p0), .val (.int p1), .val (.int p2), .val (.int p3), .val (.int k198), .val (.int k199), .val (.int k200), .val (.int k201), .val (.int al), .val (.int q0), .val (.int q1), .val (.ref x1), .val (.ref x2), .val (.ref a216), .val (.int sm), .val (.int ex)] 209 rfl at_207 rfl ?_
        refine r_aload 211 rfl at_209 rfl rfl ?_
        refine r_aload 213 rfl at_211 rfl rfl ?_
        refine r_virtual 216 rfl at_213 (wd hw 65 rfl) (wd hw 66 rfl) (wd hw 68 rfl) (wd hw 67 rfl) (nfS (wd hw 68 rfl)) (by decide) f275 (Pays.con (K := K) (B := b_law) (c_is V hw cz hCS hcz rn rs hK a216 rk x1 x2 _ _ _ _ h272 _ G1 G2 f273 f274) (wd hw 69 rfl) (wd hw 29 rfl) (by decide) (by decide)) (W := 0) (argsL := [.ref x2]) (lenOf pd_11 rfl) rfl rfl rfl (Nat.le_of_eq rfl) (Nat.le_of_ble_eq_true rfl) (Nat.le_of_ble_eq_true rfl) fun v280 h281 ps277 q279 z278 => ?_
        obtain ⟨e, rfl, es282, he⟩ := q279
        subst h281
        show Own.Run V K b_law _ h272 _ 16 47 216 [.val (.int p0), .val (.int p1), .val (.int p2), .val (.int p3), .val (.int k198), .val (.int k199), .val (.int k200), .val (.int k201), .val (.int al), .val (.int q0), .val (.int q1), .val (.ref x1), .val (.ref x2), .val (.ref a216), .val (.int sm), .val (.int ex)] [.int e]
        refine r_iload 218 rfl at_216 rfl ?_
        refine r_icmp_ne 225 221 at_218 (by decide) rfl rfl (fun c283 => ?_) (fun c283 => ?_)
        · exact absurd (beq he hex (and_congr hrk (mk_iff m5 hal))) c283
        refine r_iconst (1 : Int32) 222 rfl at_221 rfl ?_
        refine r_goto 226 at_222 (by decide) rfl ?_
        refine r_nret (t := .boolean) (1 : Int32) rfl (by simp) rfl at_226 (by decide) (by decide) [] (fun _ q => nomatch q) ?_
        rfl
      refine r_if_eq 197 191 at_188 (by decide) rfl rfl (fun c284 => ?_) (fun c284 => ?_)
      · refine r_iload 199 rfl at_197 rfl ?_
        refine r_if_eq 206 202 at_199 (by decide) rfl rfl (fun c285 => ?_) (fun c285 => ?_)
        · refine r_iconst (0 : Int32) 207 rfl at_206 rfl ?_
          exact j207 _ (Or.inr ⟨rfl, fun q => bf hsm c285 q.2⟩)
        · refine r_iconst (1 : Int32) 203 rfl at_202 rfl ?_
          refine r_goto 207 at_203 (by decide) rfl ?_
          exact j207 _ (Or.inl ⟨rfl, Or.inl c284, bt hsm c285⟩)
      refine r_iload 193 rfl at_191 rfl ?_
      refine r_iconst (3 : Int32) 194 rfl at_193 rfl ?_
      refine r_icmp_ne 206 197 at_194 (by decide) rfl rfl (fun c286 => ?_) (fun c286 => ?_)
      · refine r_iconst (0 : Int32) 207 rfl at_206 rfl ?_
        exact j207 _ (Or.inr ⟨rfl, fun q => q.1.elim c284 c286⟩)
      · refine r_iload 199 rfl at_197 rfl ?_
        refine r_if_eq 206 202 at_199 (by decide) rfl rfl (fun c287 => ?_) (fun c287 => ?_)
        · refine r_iconst (0 : Int32) 207 rfl at_206 rfl ?_
          exact j207 _ (Or.inr ⟨rfl, fun q => bf hsm c287 q.2⟩)
        · refine r_iconst (1 : Int32) 203 rfl at_202 rfl ?_
          refine r_goto 207 at_203 (by decide) rfl ?_
          exact j207 _ (Or.inl ⟨rfl, Or.inr c286, bt hsm c287⟩)
    refine r_icmp_ne 183 153 at_150 (by decide) rfl rfl (fun c288 => ?_) (fun c288 => ?_)
    · refine r_iconst (0 : Int32) 184 rfl at_183 rfl ?_
      exact j184 _ (Or.inr ⟨rfl, fun q => c288 q.1⟩)
    refine r_iload 155 rfl at_153 rfl ?_
    refine r_iconst (1 : Int32) 156 rfl at_155 rfl ?_
    refine r_icmp_lt 166 159 at_156 (by decide) rfl rfl (fun c289 => ?_) (fun c289 => ?_)
    · refine r_iload 168 rfl at_166 rfl ?_
      refine r_iconst (2 : Int32) 169 rfl at_168 rfl ?_
      refine r_icmp_lt 179 172 at_169 (by decide) rfl rfl (fun c290 => ?_) (fun c290 => ?_)
      · refine r_iconst (1 : Int32) 180 rfl at_179 rfl ?_
        refine r_goto 184 at_180 (by decide) rfl ?_
        exact j184 _ (Or.inl ⟨rfl, c288, Or.inl c289, Or.inl c290⟩)
      · refine r_iload 174 rfl at_172 rfl ?_
        refine r_iload 176 rfl at_174 rfl ?_
        refine r_icmp_ne 183 179 at_176 (by decide) rfl rfl (fun c291 => ?_) (fun c291 => ?_)
        · refine r_iconst (0 : Int32) 184 rfl at_183 rfl ?_
          exact j184 _ (Or.inr ⟨rfl, fun q => q.2.2.elim c290 c291⟩)
        · refine r_iconst (1 : Int32) 180 rfl at_179 rfl ?_
          refine r_goto 184 at_180 (by decide) rfl ?_
          exact j184 _ (Or.inl ⟨rfl, c288, Or.inl c289, Or.inr c291⟩)
    · refine r_iload 161 rfl at_159 rfl ?_
      refine r_iload 163 rfl at_161 rfl ?_
      refine r_icmp_ne 183 166 at_163 (by decide) rfl rfl (fun c292 => ?_) (fun c292 => ?_)
      · refine r_iconst (0 : Int32) 184 rfl at_183 rfl ?_
        exact j184 _ (Or.inr ⟨rfl, fun q => q.2.1.elim c289 c292⟩)
      · refine r_iload 168 rfl at_166 rfl ?_
        refine r_iconst (2 : Int32) 169 rfl at_168 rfl ?_
        refine r_icmp_lt 179 172 at_169 (by decide) rfl rfl (fun c293 => ?_) (fun c293 => ?_)
        · refine r_iconst (1 : Int32) 180 rfl at_179 rfl ?_
          refine r_goto 184 at_180 (by decide) rfl ?_
          exact j184 _ (Or.inl ⟨rfl, c288, Or.inr c292, Or.inl c293⟩)
        · refine r_iload 174 rfl at_172 rfl ?_
          refine r_iload 176 rfl at_174 rfl ?_
          refine r_icmp_ne 183 179 at_176 (by decide) rfl rfl (fun c294 => ?_) (fun c294 => ?_)
          · refine r_iconst (0 : Int32) 184 rfl at_183 rfl ?_
            exact j184 _ (Or.inr ⟨rfl, fun q => q.2.2.elim c293 c294⟩)
          · refine r_iconst (1 : Int32) 180 rfl at_179 rfl ?_
            refine r_goto 184 at_180 (by decide) rfl ?_
            exact j184 _ (Or.inl ⟨rfl, c288, Or.inr c292, Or.inr c294⟩)
  have j87 : ∀ q0 q1 : Int32, By q0 → By q1 → Own.Run V K b_law Q1 h [] 0 0 87 [.val (.int p0), .val (.int p1), .val (.int p2), .val (.int p3), .val (.int k198), .val (.int k199), .val (.int k200), .val (.int k201), .val (.int k202), .val (.int q0), .val (.int q1), .unset, .unset, .unset, .unset, .unset] [] := by
    intro q0 q1 h0 h1
    refine r_iloadN 88 rfl at_87 rfl ?_
    refine r_iconst (4 : Int32) 89 rfl at_88 rfl ?_
    refine r_iand 90 rfl at_89 ?_
    refine r_if_eq 97 93 at_90 (by decide) rfl rfl (fun c295 => ?_) (fun c295 => ?_)
    · exact j97 _ q0 q1 m8 h0 h1
    · refine r_iload 95 rfl at_93 rfl ?_
      refine r_istore [.val (.int p0), .val (.int p1), .val (.int p2), .val (.int p3), .val (.int k198), .val (.int k199), .val (.int k200), .val (.int k201), .val (.int k199), .val (.int q0), .val (.int q1), .unset, .unset, .unset, .unset, .unset] 97 rfl at_95 rfl ?_
      exact j97 _ q0 q1 m5 h0 h1
  have j77 : ∀ q0 : Int32, By q0 → Own.Run V K b_law Q1 h [] 0 0 77 [.val (.int p0), .val (.int p1), .val (.int p2), .val (.int p3), .val (.int k198), .val (.int k199), .val (.int k200), .val (.int k201), .val (.int k202), .val (.int q0), .val (.int k204), .unset, .unset, .unset, .unset, .unset] [] := by
    intro q0 h0
    refine r_iloadN 78 rfl at_77 rfl ?_
    refine r_iconst (2 : Int32) 79 rfl at_78 rfl ?_
    refine r_iand 80 rfl at_79 ?_
    refine r_if_eq 87 83 at_80 (by decide) rfl rfl (fun c296 => ?_) (fun c296 => ?_)
    · exact j87 q0 _ h0 b10
    · refine r_iload 85 rfl at_83 rfl ?_
      refine r_istore [.val (.int p0), .val (.int p1), .val (.int p2), .val (.int p3), .val (.int k198), .val (.int k199), .val (.int k200), .val (.int k201), .val (.int k202), .val (.int q0), .val (.int k201), .unset, .unset, .unset, .unset, .unset] 87 rfl at_85 rfl ?_
      exact j87 q0 _ h0 b7
  refine r_iloadN 68 rfl at_67 rfl ?_
  refine r_iconst (1 : Int32) 69 rfl at_68 rfl ?_
  refine r_iand 70 rfl at_69 ?_
  refine r_if_eq 77 73 at_70 (by decide) rfl rfl (fun c297 => ?_) (fun c297 => ?_)
  · exact j77 _ b9
  · refine r_iload 75 rfl at_73 rfl ?_
    refine r_istore [.val (.int p0), .val (.int p1), .val (.int p2), .val (.int p3), .val (.int k198), .val (.int k199), .val (.int k200), .val (.int k201), .val (.int k202), .val (.int k200), .val (.int k204), .unset, .unset, .unset, .unset, .unset] 77 rfl at_75 rfl ?_
    exact j77 _ b6
theorem fld_eq_int {args : Array Value} {s : State} {t : Term} {C n d : String} {x : Nat} {k : Int32} (ht : t.eval args s none [] s = some (.ref x)) (h : (Jvm.Cond.eq (.field t C n d) (.int k)).value args s none s [] = some true) : Fld s s.heap x C n d (.int k) := by
  obtain ⟨u, w, e1, e2, k1, k2⟩ := cmp_v (Or.inl h)
  obtain rfl : w = .int k := Option.some.inj (e2.symm.trans (Term.int_eval k))
  obtain ⟨z, rfl⟩ := k2
  have q : z = k := gotT (Cond.eq_ints e1 (Term.int_eval k)) h
  subst q
  exact Fld.start ((fld_at ht).symm.trans e1)
theorem kn_of {args : Array Value} {s : State} {el : List (String × Nat)} {b : Bool} {l : Launch} {n : String} {k : Int32} (h1 : (Jvm.Cond.exactly (.static "com/example/paramarc/paramarc/Token$Kind" n "Lcom/example/paramarc/paramarc/Token$Kind;") "com/example/paramarc/paramarc/Token$Kind").value args s none s [] = some true) (h2 : (Jvm.Cond.eq (.field (.static "com/example/paramarc/paramarc/Token$Kind" n "Lcom/example/paramarc/paramarc/Token$Kind;") "java/lang/Enum" "ordinal" "I") (.int k)).value args s none s [] = some true)
    (w1 : (Jvm.Cond.initialized "com/example/paramarc/paramarc/Token$Kind").before args s = true) (w2 : (Jvm.Cond.laysStatic "com/example/paramarc/paramarc/Token$Kind" n "Lcom/example/paramarc/paramarc/Token$Kind;").before args s = true) : ∃ r, Kn (s, args, el, b, l) n k r := by
  obtain ⟨x, ev⟩ := exa_v h1
  exact ⟨x, Sta.start ev (Or.inr ⟨w1, w2⟩), fld_eq_int ev h2⟩
theorem comes_1 {Post : Tables → Env → Array Value → State → Outcome → State → Prop} (hpost : ∀ tb e args s v u, (limb_1_1.after args s (.returned v) u = true ∧ limb_1_2.after args s (.returned v) u = true ∧ True) → ReturnedEndW s (.returned v) u (Jvm.fieldLocs frame_1_writes args s ++ Jvm.arrayLocs frame_1_arrays args s ++ Jvm.staticLocs frame_1_statics s) 32 2176 → Post tb e args s (.returned v) u) :
    ArmFor flags0 classFile x code maxLocals ret World_1 tables_1 room_1 Calls_1 rest_1 Pre_1 Post := by
  intro l hfl _ _ p e ha hc hk s m args below hf hA hF happ hP
  obtain ⟨hcalls, hrest, hpre⟩ := hP
  obtain ⟨-, -, -, hnamed, -, -, -, hat⟩ := (Spec.applies_iff hf).mp happ
  obtain ⟨hg, hn⟩ := and_e (Cond.before_iff.mp (show (Jvm.Cond.and given_1 narrow_1).before args s = true from hpre))
  obtain ⟨hcount, g0⟩ := and_e hg
  obtain ⟨k0, g1⟩ := and_e g0
  obtain ⟨k1, g2⟩ := and_e g1
  obtain ⟨k2, g3⟩ := and_e g2
  have k3 := g3
  obtain ⟨w0, w1, w2, w3, rfl⟩ : ∃ w0 w1 w2 w3 : Value, args = #[w0, w1, w2, w3] := by
    have hs : args.size = 4 := by simpa [Cond.value, given_1] using hcount
    obtain ⟨L⟩ := args
    match L, hs with
    | [w0, w1, w2, w3], _ => exact ⟨w0, w1, w2, w3, rfl⟩
  have hw := fun d (hd : d ∈ tables_1) => atoms_spec (ws := Jvm.Cond.code x code maxLocals ret :: tables_1) hat d (List.mem_cons_of_mem _ hd)
  obtain ⟨i0, e0⟩ := is_v k0
  obtain rfl : w0 = (.int i0) := Option.some.inj e0
  obtain ⟨i1, e1⟩ := is_v k1
  obtain rfl : w1 = (.int i1) := Option.some.inj e1
  obtain ⟨i2, e2⟩ := is_v k2
  obtain rfl : w2 = (.int i2) := Option.some.inj e2
  obtain ⟨i3, e3⟩ := is_v k3
  obtain rfl : w3 = (.int i3) := Option.some.inj e3
  obtain ⟨hsets, hown0⟩ := atoms_of _ (rest_1_c_eq ▸ (show rest_1_c.before _ s = true from hrest))
  have n5 := not_v (Cond.before_iff.mp (hsets _ (List.mem_of_getElem? (i := 2) rfl)))
  obtain ⟨i11, e11⟩ := is_v (Cond.before_iff.mp (hsets _ (List.mem_of_getElem? (i := 1) rfl)))
  have S12 : Sta s s.heap "java/lang/String" "COMPACT_STRINGS" "Z" (.int i11) := Sta.start e11 (Or.inl (hsets _ (List.mem_of_getElem? (i := 0) rfl)))
  have c17 : ¬ (i11 = (0 : Int32)) := gotF (Cond.eq_ints e11 (Term.int_eval (0))) n5
  have hEW : EW s #[.int i0, .int i1, .int i2, .int i3] consts_1 := (EW.cons (hw _ (List.mem_of_getElem? (i := 39) rfl)) (by decide) (EW.cons (hw _ (List.mem_of_getElem? (i := 19) rfl)) (by decide) EW.nil))
  have hCH : CHv s consts_1 s.vm s.heap := CHv.start hEW (fun p hp => hcalls.1 p hp) (hsets _ (List.mem_of_getElem? (i := 2) rfl)) (hw _ (List.mem_of_getElem? (i := 20) rfl)) (hw _ (List.mem_of_getElem? (i := 6) rfl))
  obtain ⟨xexactlyNAME, t0⟩ := and_e hn
  obtain ⟨xexactlySYMBOL, t1⟩ := and_e t0
  obtain ⟨xeqNAME, t2⟩ := and_e t1
  obtain ⟨xeqSYMBOL, t3⟩ := and_e t2
  obtain ⟨xexactlyNUMBER, t4⟩ := and_e t3
  obtain ⟨xeqNUMBER, t5⟩ := and_e t4
  obtain ⟨xexactlyEND, t6⟩ := and_e t5
  obtain ⟨xeqEND, t7⟩ := and_e t6
  obtain ⟨xexactlyERROR, t8⟩ := and_e t7
  obtain ⟨xeqERROR, t9⟩ := and_e t8
  obtain ⟨xexactlySTRING, t10⟩ := and_e t9
  have xeqSTRING := t10
  obtain ⟨rNAME, KNAME⟩ : ∃ r, Kn (s, #[.int i0, .int i1, .int i2, .int i3], consts_1, false, l) "NAME" 0 r := kn_of xexactlyNAME xeqNAME (hw _ (List.mem_of_getElem? (i := 34) rfl)) (hw _ (List.mem_of_getElem? (i := 35) rfl))
  obtain ⟨rNUMBER, KNUMBER⟩ : ∃ r, Kn (s, #[.int i0, .int i1, .int i2, .int i3], consts_1, false, l) "NUMBER" 1 r := kn_of xexactlyNUMBER xeqNUMBER (hw _ (List.mem_of_getElem? (i := 34) rfl)) (hw _ (List.mem_of_getElem? (i := 85) rfl))
  obtain ⟨rSTRING, KSTRING⟩ : ∃ r, Kn (s, #[.int i0, .int i1, .int i2, .int i3], consts_1, false, l) "STRING" 2 r := kn_of xexactlySTRING xeqSTRING (hw _ (List.mem_of_getElem? (i := 34) rfl)) (hw _ (List.mem_of_getElem? (i := 114) rfl))
  obtain ⟨rSYMBOL, KSYMBOL⟩ : ∃ r, Kn (s, #[.int i0, .int i1, .int i2, .int i3], consts_1, false, l) "SYMBOL" 3 r := kn_of xexactlySYMBOL xeqSYMBOL (hw _ (List.mem_of_getElem? (i := 34) rfl)) (hw _ (List.mem_of_getElem? (i := 71) rfl))
  obtain ⟨rEND, KEND⟩ : ∃ r, Kn (s, #[.int i0, .int i1, .int i2, .int i3], consts_1, false, l) "END" 4 r := kn_of xexactlyEND xeqEND (hw _ (List.mem_of_getElem? (i := 34) rfl)) (hw _ (List.mem_of_getElem? (i := 99) rfl))
  obtain ⟨rERROR, KERROR⟩ : ∃ r, Kn (s, #[.int i0, .int i1, .int i2, .int i3], consts_1, false, l) "ERROR" 5 r := kn_of xexactlyERROR xeqERROR (hw _ (List.mem_of_getElem? (i := 34) rfl)) (hw _ (List.mem_of_getElem? (i := 102) rfl))
  have hK : Ks (s, #[.int i0, .int i1, .int i2, .int i3], consts_1, false, l) rNAME rSYMBOL := ⟨KNAME, KSYMBOL, ⟨_, KNUMBER⟩, ⟨_, KSTRING⟩, ⟨_, KEND⟩, ⟨_, KERROR⟩⟩
  obtain ⟨n, o, h1, h2, h3, v, L, ps, rfl, N, rfl, -, -, -, hq, -⟩ := c_law (s, #[.int i0, .int i1, .int i2, .int i3], consts_1, false, l) hw (show ("java/lang/String", 7) ∈ consts_1 by decide) rfl i11 S12 c17 (show ("com/example/paramarc/paramarc/TokenIsPinLaw", 52) ∈ consts_1 by decide) _ _ hK i0 i1 i2 i3 s.heap hEW ⟨Nat.le_refl _, fun _ _ q => q⟩ (fun q => nomatch q) tables_1 p e ha hc hk s m _ below hf ((Spec.applies_iff_loose hf).mp happ).1 ⟨rfl, State.Warmed39.refl s, rfl, hCH, Sf.nil⟩ trivial
  refine ⟨n, _, h1, h2, h3, hpost _ _ _ _ _ _ ⟨Cond.after_iff.mpr rfl, Cond.after_iff.mpr (eq_i res_at (Term.int_eval (1)) rfl), trivial⟩ ⟨hq.1, hq.2.1, hq.2.2.1, (hq.2.2.2.sift fun y hy => Or.inr (N y hy)).mono (by decide) (by decide)⟩⟩
theorem main_1_1 : Claimed_1_1 := comes_1 fun _ _ _ _ _ _ h hF => ⟨h.1, hF⟩
theorem main_1_2 : Claimed_1_2 := comes_1 fun _ _ _ _ _ _ h hF => ⟨h.2.1, hF⟩
end Jvm.Pilot.@@N@@
namespace Jvm.Pilot.@@N@@
open Jvm Jvm.ClassFile Sem Op Lib Jvm.Free Jvm.Stand Jvm.Pilot.@@N@@.Jvm.D
/-! MADE BY PROGRAM (witnessworld.py) out of the Statement's table words and the real class files: 23 classes; the members and pool entries that the words name. The judged class is class 1, her method 3. -/
namespace start1
open Jvm.ClassFile
def u (s : String) : CpInfo := .utf8 (stringToUtf16 s)
/-- a pool by its gaps: so many unusable entries, then the entry; so many at the end -/
def gap : Nat → List CpInfo → List CpInfo
  | 0, r => r
  | n + 1, r => .unusable :: gap n r
def poolList (es : List (Nat × CpInfo)) (last : Nat) : List CpInfo := es.foldr (fun e r => gap e.1 (e.2 :: r)) (gap last [])
def pool (es : List (Nat × CpInfo)) (last : Nat) : Array CpInfo := ⟨poolList es last⟩
def fileOf (pool : Array CpInfo) (this : Nat) (attrs : Array Attribute := #[]) (ms : Array MethodInfo := #[]) (fl : Nat := 33) (sup : Nat := 0) (ifs : Array Nat := #[]) (fds : Array FieldInfo := #[]) : ClassFile where
  minorVersion := 0
  majorVersion := 65
  constantPool := pool
  accessFlags := fl
  thisClass := this
  superClass := sup
  interfaces := ifs
  fields := fds
  methods := ms
  attributes := attrs
def plain (name : String) (sup : Option ClassId) : Class where
  name := name
  kind := .ordinary
  loader := none
  accessFlags := 33
  super := sup
  interfaces := #[]
  cf := none
  fields := #[]
  methods := #[]
  instanceTypes := #[]
  staticTypes := #[]
  resolved := #[]
  callSites := []
  init := .initialized
  statics := none
  mirror := none

def pool0 : Array CpInfo := pool [(5, u "<init>"), (0, u "()V"), (1, .class_ 10), (1, u "java/lang/Object")] 113

def k0c0 : Code := { maxStack := 0, maxLocals := 1, code := object_method_1_code, exceptionTable := #[], attributes := #[] }
def k0m0 : Method := { name := "<init>", desc := "()V", sig := { parameters := [], returnType := none }, accessFlags := 1, code := some k0c0 }
/-- java/lang/Object -/
def k0 : Class := { plain "java/lang/Object" none with
  accessFlags := 33
  interfaces := #[]
  cf := some (fileOf pool0 8 #[] #[{ accessFlags := 1, nameIndex := 5, descriptorIndex := 6, attributes := #[] }] 33 0 #[] #[])
  fields := #[]
  methods := #[k0m0]
  instanceTypes := #[]
  staticTypes := #[]
  resolved := Array.replicate 124 none
  statics := none }

def pool1 : Array CpInfo := pool [(2, .class_ 4), (1, u "java/lang/Object"), (0, u "<init>"), (0, u "()V"), (0, .fieldref 8 9), (0, .class_ 10), (0, .nameAndType 11 12), (0, u "com/example/paramarc/paramarc/Token$Kind"), (0, u "NAME"), (0, u "Lcom/example/paramarc/paramarc/Token$Kind;"), (0, .fieldref 8 14), (0, .nameAndType 15 12), (0, u "NUMBER"), (0, .fieldref 8 17), (0, .nameAndType 18 12), (0, u "STRING"), (0, .fieldref 8 20), (0, .nameAndType 21 12), (0, u "SYMBOL"), (0, .fieldref 8 23), (0, .nameAndType 24 12), (0, u "END"), (0, .fieldref 8 26), (0, .nameAndType 27 12), (0, u "ERROR"), (0, .class_ 29), (0, u "java/lang/String"), (0, .methodref 28 31), (0, .nameAndType 5 32), (0, u "([C)V"), (0, .methodref 28 34), (0, .nameAndType 35 36), (0, u "valueOf"), (0, u "(C)Ljava/lang/String;"), (0, .integer 2147483647), (0, .methodref 39 40), (0, .class_ 41), (0, .nameAndType 42 43), (0, u "com/example/paramarc/paramarc/TokenIsPinLaw"), (0, u "make"), (0, u "(ICC)Ljava/lang/String;"), (0, .class_ 45), (0, u "com/example/paramarc/paramarc/Token"), (0, .methodref 39 47), (0, .nameAndType 48 49), (0, u "kindOf"), (0, u "(I)Lcom/example/paramarc/paramarc/Token$Kind;"), (0, .class_ 51), (0, u "com/example/paramarc/paramarc/Position"), (0, .string 53), (0, u "m"), (0, .methodref 50 55), (0, .nameAndType 5 56), (0, u "(Ljava/lang/String;II)V"), (0, .methodref 44 58), (0, .nameAndType 5 59), (0, u "(Lcom/example/paramarc/paramarc/Token$Kind;Ljava/lang/String;Lcom/example/paramarc/paramarc/Position;)V"), (0, .methodref 44 61), (0, .nameAndType 62 63), (0, u "is"), (0, u "(Ljava/lang/String;)Z"), (3, u "law"), (0, u "(IIII)Z")] 4

def k1m0 : Method := { name := "<init>", desc := "()V", sig := { parameters := [], returnType := none }, accessFlags := 1, code := none }
def k1c1 : Code := { maxStack := 2, maxLocals := 1, code := method_2_code, exceptionTable := #[], attributes := #[] }
def k1m1 : Method := { name := "kindOf", desc := "(I)Lcom/example/paramarc/paramarc/Token$Kind;", sig := { parameters := [.int], returnType := some (.object "com/example/paramarc/paramarc/Token$Kind") }, accessFlags := 10, code := some k1c1 }
def k1c2 : Code := { maxStack := 6, maxLocals := 3, code := method_3_code, exceptionTable := #[], attributes := #[] }
def k1m2 : Method := { name := "make", desc := "(ICC)Ljava/lang/String;", sig := { parameters := [.int, .char, .char], returnType := some (.object "java/lang/String") }, accessFlags := 10, code := some k1c2 }
def k1c3 : Code := { maxStack := 9, maxLocals := 16, code := code, exceptionTable := #[], attributes := #[] }
def k1m3 : Method := { name := "law", desc := "(IIII)Z", sig := { parameters := [.int, .int, .int, .int], returnType := some .boolean }, accessFlags := 9, code := some k1c3 }
/-- com/example/paramarc/paramarc/TokenIsPinLaw -/
def k1 : Class := { plain "com/example/paramarc/paramarc/TokenIsPinLaw" (some 0) with
  accessFlags := 49
  interfaces := #[]
  cf := some (fileOf pool1 39 #[] #[{ accessFlags := 1, nameIndex := 5, descriptorIndex := 6, attributes := #[] }, { accessFlags := 10, nameIndex := 48, descriptorIndex := 49, attributes := #[] }, { accessFlags := 10, nameIndex := 42, descriptorIndex := 43, attributes := #[] }, { accessFlags := 9, nameIndex := 67, descriptorIndex := 68, attributes := #[] }] 49 2 #[] #[])
  fields := #[]
  methods := #[k1m0, k1m1, k1m2, k1m3]
  instanceTypes := #[]
  staticTypes := #[]
  resolved := Array.replicate 73 none
  statics := none }

def pool2 : Array CpInfo := pool [(1, .class_ 2), (0, u "java/io/Serializable"), (0, .class_ 4), (0, u "java/lang/Object")] 2

/-- java/io/Serializable -/
def k2 : Class := { plain "java/io/Serializable" (some 0) with
  accessFlags := 1537
  interfaces := #[]
  cf := some (fileOf pool2 1 #[] #[] 1537 3 #[] #[])
  fields := #[]
  methods := #[]
  instanceTypes := #[]
  staticTypes := #[]
  resolved := Array.replicate 7 none
  statics := none }

def pool3 : Array CpInfo := pool [(1, .class_ 2), (0, u "java/lang/Comparable"), (0, .class_ 4), (0, u "java/lang/Object")] 7

/-- java/lang/Comparable -/
def k3 : Class := { plain "java/lang/Comparable" (some 0) with
  accessFlags := 1537
  interfaces := #[]
  cf := some (fileOf pool3 1 #[] #[] 1537 3 #[] #[])
  fields := #[]
  methods := #[]
  instanceTypes := #[]
  staticTypes := #[]
  resolved := Array.replicate 12 none
  statics := none }

def pool4 : Array CpInfo := pool [(2, .class_ 4), (1, u "java/lang/CharSequence"), (42, .class_ 48), (0, u "java/lang/CharSequence$1CodePointIterator"), (10, .class_ 60), (0, u "java/lang/CharSequence$1CharIterator"), (5, .class_ 67), (0, u "java/lang/Object")] 63

/-- java/lang/CharSequence -/
def k4 : Class := { plain "java/lang/CharSequence" (some 0) with
  accessFlags := 1537
  interfaces := #[]
  cf := some (fileOf pool4 2 #[.nestMembers #[47, 59]] #[] 1537 66 #[] #[])
  fields := #[]
  methods := #[]
  instanceTypes := #[]
  staticTypes := #[]
  resolved := Array.replicate 131 none
  statics := none }

def pool5 : Array CpInfo := pool [(1, .class_ 2), (0, u "java/lang/constant/Constable"), (0, .class_ 4), (0, u "java/lang/Object")] 6

/-- java/lang/constant/Constable -/
def k5 : Class := { plain "java/lang/constant/Constable" (some 0) with
  accessFlags := 1537
  interfaces := #[]
  cf := some (fileOf pool5 1 #[] #[] 1537 3 #[] #[])
  fields := #[]
  methods := #[]
  instanceTypes := #[]
  staticTypes := #[]
  resolved := Array.replicate 11 none
  statics := none }

def pool6 : Array CpInfo := pool [(1, .class_ 2), (0, u "java/lang/constant/ConstantDesc"), (0, .class_ 4), (0, u "java/lang/Object")] 32

/-- java/lang/constant/ConstantDesc -/
def k6 : Class := { plain "java/lang/constant/ConstantDesc" (some 0) with
  accessFlags := 1537
  interfaces := #[]
  cf := some (fileOf pool6 1 #[] #[] 1537 3 #[] #[])
  fields := #[]
  methods := #[]
  instanceTypes := #[]
  staticTypes := #[]
  resolved := Array.replicate 37 none
  statics := none }

def pool7 : Array CpInfo := pool [(1, .methodref 2 3), (0, .class_ 4), (0, .nameAndType 5 6), (0, u "java/lang/Object"), (0, u "<init>"), (0, u "()V"), (0, .string 8), (0, u ""), (0, .fieldref 10 11), (0, .class_ 12), (0, .nameAndType 13 14), (0, u "java/lang/String"), (0, u "value"), (0, u "[B"), (0, .fieldref 10 16), (0, .nameAndType 17 18), (0, u "coder"), (0, u "B"), (2, u "hash"), (0, u "I"), (2, u "hashIsZero"), (0, u "Z"), (0, .methodref 10 28), (0, .nameAndType 5 29), (0, u "([CIILjava/lang/Void;)V"), (8, .fieldref 10 39), (0, .nameAndType 40 26), (0, u "COMPACT_STRINGS"), (1, .class_ 44), (1, u "java/lang/StringUTF16"), (0, u "compress"), (1, .methodref 42 48), (0, .nameAndType 49 50), (0, u "coderFromArrayLen"), (0, u "([BI)B"), (2, u "toBytes"), (53, .class_ 109), (1, u "java/lang/StringLatin1"), (67, .methodref 42 178), (0, .nameAndType 45 179), (0, u "([CII)[B"), (29, .methodref 10 210), (0, .nameAndType 5 211), (0, u "([BB)V"), (157, u "(C)Z"), (171, .methodref 107 542), (0, .nameAndType 543 544), (0, u "equals"), (0, u "([B[B)Z"), (28, u "(Ljava/lang/Object;)Z"), (1, .class_ 576), (0, u "java/lang/CharSequence"), (22, u "CASE_INSENSITIVE_ORDER"), (0, u "Ljava/util/Comparator;"), (181, u "valueOf"), (0, u "(C)Ljava/lang/String;"), (226, u "([C)V"), (4, .methodref 107 1016), (0, .nameAndType 1017 369), (0, u "canEncode"), (0, .methodref 107 1019), (0, .nameAndType 53 1020), (0, u "(C)[B"), (80, u "serialPersistentFields"), (0, u "[Ljava/io/ObjectStreamField;"), (0, .class_ 1104), (0, u "java/lang/String$CaseInsensitiveComparator"), (1, .class_ 1107), (0, u "java/io/Serializable"), (0, .class_ 1109), (0, u "java/lang/Comparable"), (0, .class_ 1111), (0, u "java/lang/constant/Constable"), (0, .class_ 1113), (0, u "java/lang/constant/ConstantDesc"), (2, u "serialVersionUID"), (0, u "J"), (3, u "REPL"), (0, u "C"), (2, u "LATIN1"), (1, u "UTF16")] 323

def k7m0 : Method := { name := "<init>", desc := "()V", sig := { parameters := [], returnType := none }, accessFlags := 1, code := none }
def k7c1 : Code := { maxStack := 5, maxLocals := 2, code := jdk_42_method_3_code, exceptionTable := #[], attributes := #[] }
def k7m1 : Method := { name := "<init>", desc := "([C)V", sig := { parameters := [(.array .char)], returnType := none }, accessFlags := 1, code := some k7c1 }
def k7c2 : Code := { maxStack := 2, maxLocals := 3, code := jdk_42_method_66_code, exceptionTable := #[], attributes := #[] }
def k7m2 : Method := { name := "equals", desc := "(Ljava/lang/Object;)Z", sig := { parameters := [(.object "java/lang/Object")], returnType := some .boolean }, accessFlags := 1, code := some k7c2 }
def k7c3 : Code := { maxStack := 4, maxLocals := 1, code := jdk_42_method_139_code, exceptionTable := #[], attributes := #[] }
def k7m3 : Method := { name := "valueOf", desc := "(C)Ljava/lang/String;", sig := { parameters := [.char], returnType := some (.object "java/lang/String") }, accessFlags := 9, code := some k7c3 }
def k7c4 : Code := { maxStack := 4, maxLocals := 6, code := jdk_42_method_149_code, exceptionTable := #[], attributes := #[] }
def k7m4 : Method := { name := "<init>", desc := "([CIILjava/lang/Void;)V", sig := { parameters := [(.array .char), .int, .int, (.object "java/lang/Void")], returnType := none }, accessFlags := 2, code := some k7c4 }
def k7c5 : Code := { maxStack := 2, maxLocals := 3, code := jdk_42_method_151_code, exceptionTable := #[], attributes := #[] }
def k7m5 : Method := { name := "<init>", desc := "([BB)V", sig := { parameters := [(.array .byte), .byte], returnType := none }, accessFlags := 0, code := some k7c5 }
/-- java/lang/String -/
def k7 : Class := { plain "java/lang/String" (some 0) with
  accessFlags := 49
  interfaces := #[2, 3, 4, 5, 6]
  cf := some (fileOf pool7 10 #[.nestMembers #[1103]] #[{ accessFlags := 1, nameIndex := 5, descriptorIndex := 6, attributes := #[] }, { accessFlags := 1, nameIndex := 5, descriptorIndex := 1010, attributes := #[] }, { accessFlags := 1, nameIndex := 543, descriptorIndex := 573, attributes := #[] }, { accessFlags := 9, nameIndex := 782, descriptorIndex := 783, attributes := #[] }, { accessFlags := 2, nameIndex := 5, descriptorIndex := 29, attributes := #[] }, { accessFlags := 0, nameIndex := 5, descriptorIndex := 211, attributes := #[] }] 49 2 #[1106, 1108, 575, 1110, 1112] #[{ accessFlags := 18, nameIndex := 13, descriptorIndex := 14, attributes := #[] }, { accessFlags := 18, nameIndex := 17, descriptorIndex := 18, attributes := #[] }, { accessFlags := 2, nameIndex := 21, descriptorIndex := 22, attributes := #[] }, { accessFlags := 2, nameIndex := 25, descriptorIndex := 26, attributes := #[] }, { accessFlags := 26, nameIndex := 1116, descriptorIndex := 1117, attributes := #[] }, { accessFlags := 24, nameIndex := 40, descriptorIndex := 26, attributes := #[] }, { accessFlags := 26, nameIndex := 1101, descriptorIndex := 1102, attributes := #[] }, { accessFlags := 26, nameIndex := 1121, descriptorIndex := 1122, attributes := #[] }, { accessFlags := 25, nameIndex := 599, descriptorIndex := 600, attributes := #[] }, { accessFlags := 24, nameIndex := 1125, descriptorIndex := 18, attributes := #[] }, { accessFlags := 24, nameIndex := 1127, descriptorIndex := 18, attributes := #[] }])
  fields := #[{ name := "value", type := (.array .byte), accessFlags := 18, slot := 0, constantValue := 0 }, { name := "coder", type := .byte, accessFlags := 18, slot := 1, constantValue := 0 }, { name := "hash", type := .int, accessFlags := 2, slot := 2, constantValue := 0 }, { name := "hashIsZero", type := .boolean, accessFlags := 2, slot := 3, constantValue := 0 }, { name := "serialVersionUID", type := .long, accessFlags := 26, slot := 0, constantValue := 0 }, { name := "COMPACT_STRINGS", type := .boolean, accessFlags := 24, slot := 1, constantValue := 0 }, { name := "serialPersistentFields", type := (.array (.object "java/io/ObjectStreamField")), accessFlags := 26, slot := 2, constantValue := 0 }, { name := "REPL", type := .char, accessFlags := 26, slot := 3, constantValue := 0 }, { name := "CASE_INSENSITIVE_ORDER", type := (.object "java/util/Comparator"), accessFlags := 25, slot := 4, constantValue := 0 }, { name := "LATIN1", type := .byte, accessFlags := 24, slot := 5, constantValue := 0 }, { name := "UTF16", type := .byte, accessFlags := 24, slot := 6, constantValue := 0 }]
  methods := #[k7m0, k7m1, k7m2, k7m3, k7m4, k7m5]
  instanceTypes := #[(.array .byte), .byte, .int, .boolean]
  staticTypes := #[.long, .boolean, (.array (.object "java/io/ObjectStreamField")), .char, (.object "java/util/Comparator"), .byte, .byte]
  resolved := Array.replicate 1451 none
  statics := some 0 }

def pool8 : Array CpInfo := pool [(1, .methodref 2 3), (0, .class_ 4), (0, .nameAndType 5 6), (0, u "java/lang/Object"), (0, u "<init>"), (0, u "()V"), (0, .fieldref 8 9), (0, .class_ 10), (0, .nameAndType 11 12), (0, u "com/example/paramarc/paramarc/Token"), (0, u "kind"), (0, u "Lcom/example/paramarc/paramarc/Token$Kind;"), (0, .fieldref 8 14), (0, .nameAndType 15 16), (0, u "text"), (0, u "Ljava/lang/String;"), (0, .fieldref 8 18), (0, .nameAndType 19 20), (0, u "position"), (0, u "Lcom/example/paramarc/paramarc/Position;"), (0, .fieldref 22 23), (0, .class_ 24), (0, .nameAndType 25 12), (0, u "com/example/paramarc/paramarc/Token$Kind"), (0, u "SYMBOL"), (0, .fieldref 22 27), (0, .nameAndType 28 12), (0, u "NAME"), (0, .methodref 30 31), (0, .class_ 32), (0, .nameAndType 33 34), (0, u "java/lang/String"), (0, u "equals"), (0, u "(Ljava/lang/Object;)Z"), (13, u "(Lcom/example/paramarc/paramarc/Token$Kind;Ljava/lang/String;Lcom/example/paramarc/paramarc/Position;)V"), (5, u "is"), (0, u "(Ljava/lang/String;)Z")] 23

def k8c0 : Code := { maxStack := 2, maxLocals := 4, code := prog_6_method_1_code, exceptionTable := #[], attributes := #[] }
def k8m0 : Method := { name := "<init>", desc := "(Lcom/example/paramarc/paramarc/Token$Kind;Ljava/lang/String;Lcom/example/paramarc/paramarc/Position;)V", sig := { parameters := [(.object "com/example/paramarc/paramarc/Token$Kind"), (.object "java/lang/String"), (.object "com/example/paramarc/paramarc/Position")], returnType := none }, accessFlags := 0, code := some k8c0 }
def k8c1 : Code := { maxStack := 2, maxLocals := 2, code := prog_6_method_5_code, exceptionTable := #[], attributes := #[] }
def k8m1 : Method := { name := "is", desc := "(Ljava/lang/String;)Z", sig := { parameters := [(.object "java/lang/String")], returnType := some .boolean }, accessFlags := 0, code := some k8c1 }
/-- com/example/paramarc/paramarc/Token -/
def k8 : Class := { plain "com/example/paramarc/paramarc/Token" (some 0) with
  accessFlags := 48
  interfaces := #[]
  cf := some (fileOf pool8 8 #[.nestMembers #[22]] #[{ accessFlags := 0, nameIndex := 5, descriptorIndex := 48, attributes := #[] }, { accessFlags := 0, nameIndex := 54, descriptorIndex := 55, attributes := #[] }] 48 2 #[] #[{ accessFlags := 18, nameIndex := 11, descriptorIndex := 12, attributes := #[] }, { accessFlags := 18, nameIndex := 15, descriptorIndex := 16, attributes := #[] }, { accessFlags := 18, nameIndex := 19, descriptorIndex := 20, attributes := #[] }])
  fields := #[{ name := "kind", type := (.object "com/example/paramarc/paramarc/Token$Kind"), accessFlags := 18, slot := 0, constantValue := 0 }, { name := "text", type := (.object "java/lang/String"), accessFlags := 18, slot := 1, constantValue := 0 }, { name := "position", type := (.object "com/example/paramarc/paramarc/Position"), accessFlags := 18, slot := 2, constantValue := 0 }]
  methods := #[k8m0, k8m1]
  instanceTypes := #[(.object "com/example/paramarc/paramarc/Token$Kind"), (.object "java/lang/String"), (.object "com/example/paramarc/paramarc/Position")]
  staticTypes := #[]
  resolved := Array.replicate 79 none
  statics := none }

def pool9 : Array CpInfo := pool [(2, .class_ 4), (1, u "java/lang/Enum"), (0, u "name"), (0, u "Ljava/lang/String;"), (2, u "ordinal"), (0, u "I"), (1, .class_ 14), (1, u "java/lang/Object"), (4, u "hash"), (86, .class_ 108), (1, u "java/lang/Enum$EnumDesc"), (2, .class_ 112), (0, u "java/lang/constant/Constable"), (0, .class_ 114), (0, u "java/lang/Comparable"), (0, .class_ 116), (0, u "java/io/Serializable")] 87

/-- java/lang/Enum -/
def k9 : Class := { plain "java/lang/Enum" (some 0) with
  accessFlags := 1057
  interfaces := #[5, 3, 2]
  cf := some (fileOf pool9 2 #[.nestMembers #[106]] #[] 1057 12 #[111, 113, 115] #[{ accessFlags := 18, nameIndex := 5, descriptorIndex := 6, attributes := #[] }, { accessFlags := 18, nameIndex := 9, descriptorIndex := 10, attributes := #[] }, { accessFlags := 2, nameIndex := 19, descriptorIndex := 10, attributes := #[] }])
  fields := #[{ name := "name", type := (.object "java/lang/String"), accessFlags := 18, slot := 0, constantValue := 0 }, { name := "ordinal", type := .int, accessFlags := 18, slot := 1, constantValue := 0 }, { name := "hash", type := .int, accessFlags := 2, slot := 2, constantValue := 0 }]
  methods := #[]
  instanceTypes := #[(.object "java/lang/String"), .int, .int]
  staticTypes := #[]
  resolved := Array.replicate 204 none
  statics := none }

def pool10 : Array CpInfo := pool [(1, .class_ 2), (0, u "com/example/paramarc/paramarc/Token$Kind"), (2, u "NAME"), (0, u "Lcom/example/paramarc/paramarc/Token$Kind;"), (2, u "NUMBER"), (2, u "STRING"), (2, u "SYMBOL"), (2, u "END"), (2, u "ERROR"), (2, u "$VALUES"), (0, u "[Lcom/example/paramarc/paramarc/Token$Kind;"), (6, .class_ 34), (1, u "java/lang/Enum"), (29, .class_ 65), (0, u "com/example/paramarc/paramarc/Token")] 2

/-- com/example/paramarc/paramarc/Token$Kind -/
def k10 : Class := { plain "com/example/paramarc/paramarc/Token$Kind" (some 9) with
  accessFlags := 16432
  interfaces := #[]
  cf := some (fileOf pool10 1 #[.nestHost 64] #[] 16432 32 #[] #[{ accessFlags := 16409, nameIndex := 5, descriptorIndex := 6, attributes := #[] }, { accessFlags := 16409, nameIndex := 9, descriptorIndex := 6, attributes := #[] }, { accessFlags := 16409, nameIndex := 12, descriptorIndex := 6, attributes := #[] }, { accessFlags := 16409, nameIndex := 15, descriptorIndex := 6, attributes := #[] }, { accessFlags := 16409, nameIndex := 18, descriptorIndex := 6, attributes := #[] }, { accessFlags := 16409, nameIndex := 21, descriptorIndex := 6, attributes := #[] }, { accessFlags := 4122, nameIndex := 24, descriptorIndex := 25, attributes := #[] }])
  fields := #[{ name := "NAME", type := (.object "com/example/paramarc/paramarc/Token$Kind"), accessFlags := 16409, slot := 0, constantValue := 0 }, { name := "NUMBER", type := (.object "com/example/paramarc/paramarc/Token$Kind"), accessFlags := 16409, slot := 1, constantValue := 0 }, { name := "STRING", type := (.object "com/example/paramarc/paramarc/Token$Kind"), accessFlags := 16409, slot := 2, constantValue := 0 }, { name := "SYMBOL", type := (.object "com/example/paramarc/paramarc/Token$Kind"), accessFlags := 16409, slot := 3, constantValue := 0 }, { name := "END", type := (.object "com/example/paramarc/paramarc/Token$Kind"), accessFlags := 16409, slot := 4, constantValue := 0 }, { name := "ERROR", type := (.object "com/example/paramarc/paramarc/Token$Kind"), accessFlags := 16409, slot := 5, constantValue := 0 }, { name := "$VALUES", type := (.array (.object "com/example/paramarc/paramarc/Token$Kind")), accessFlags := 4122, slot := 6, constantValue := 0 }]
  methods := #[]
  instanceTypes := #[(.object "java/lang/String"), .int, .int]
  staticTypes := #[(.object "com/example/paramarc/paramarc/Token$Kind"), (.object "com/example/paramarc/paramarc/Token$Kind"), (.object "com/example/paramarc/paramarc/Token$Kind"), (.object "com/example/paramarc/paramarc/Token$Kind"), (.object "com/example/paramarc/paramarc/Token$Kind"), (.object "com/example/paramarc/paramarc/Token$Kind"), (.array (.object "com/example/paramarc/paramarc/Token$Kind"))]
  resolved := Array.replicate 68 none
  statics := some 1 }

def pool11 : Array CpInfo := pool [(1, .methodref 2 3), (0, .class_ 4), (0, .nameAndType 5 6), (0, u "com/example/paramarc/paramarc/Position"), (0, u "<init>"), (0, u "(Ljava/lang/String;IILjava/lang/String;)V"), (0, .methodref 8 9), (0, .class_ 10), (0, .nameAndType 5 11), (0, u "java/lang/Object"), (0, u "()V"), (0, .fieldref 2 13), (0, .nameAndType 14 15), (0, u "source"), (0, u "Ljava/lang/String;"), (0, .fieldref 2 17), (0, .nameAndType 18 19), (0, u "line"), (0, u "I"), (0, .fieldref 2 21), (0, .nameAndType 22 19), (0, u "column"), (0, .fieldref 2 24), (0, .nameAndType 25 15), (0, u "copy"), (23, u "(Ljava/lang/String;II)V")] 30

def k11c0 : Code := { maxStack := 5, maxLocals := 4, code := prog_4_method_1_code, exceptionTable := #[], attributes := #[] }
def k11m0 : Method := { name := "<init>", desc := "(Ljava/lang/String;II)V", sig := { parameters := [(.object "java/lang/String"), .int, .int], returnType := none }, accessFlags := 0, code := some k11c0 }
def k11c1 : Code := { maxStack := 2, maxLocals := 5, code := prog_4_method_2_code, exceptionTable := #[], attributes := #[] }
def k11m1 : Method := { name := "<init>", desc := "(Ljava/lang/String;IILjava/lang/String;)V", sig := { parameters := [(.object "java/lang/String"), .int, .int, (.object "java/lang/String")], returnType := none }, accessFlags := 2, code := some k11c1 }
/-- com/example/paramarc/paramarc/Position -/
def k11 : Class := { plain "com/example/paramarc/paramarc/Position" (some 0) with
  accessFlags := 48
  interfaces := #[]
  cf := some (fileOf pool11 2 #[] #[{ accessFlags := 0, nameIndex := 5, descriptorIndex := 49, attributes := #[] }, { accessFlags := 2, nameIndex := 5, descriptorIndex := 6, attributes := #[] }] 48 8 #[] #[{ accessFlags := 18, nameIndex := 14, descriptorIndex := 15, attributes := #[] }, { accessFlags := 18, nameIndex := 18, descriptorIndex := 19, attributes := #[] }, { accessFlags := 18, nameIndex := 22, descriptorIndex := 19, attributes := #[] }, { accessFlags := 18, nameIndex := 25, descriptorIndex := 15, attributes := #[] }])
  fields := #[{ name := "source", type := (.object "java/lang/String"), accessFlags := 18, slot := 0, constantValue := 0 }, { name := "line", type := .int, accessFlags := 18, slot := 1, constantValue := 0 }, { name := "column", type := .int, accessFlags := 18, slot := 2, constantValue := 0 }, { name := "copy", type := (.object "java/lang/String"), accessFlags := 18, slot := 3, constantValue := 0 }]
  methods := #[k11m0, k11m1]
  instanceTypes := #[(.object "java/lang/String"), .int, .int, (.object "java/lang/String")]
  staticTypes := #[]
  resolved := Array.replicate 80 none
  statics := none }

def pool12 : Array CpInfo := pool [(4, .class_ 6), (1, u "java/lang/Object"), (0, u "<init>"), (0, u "()V"), (5, .class_ 16), (1, u "java/lang/StringLatin1"), (73, u "canEncode"), (14, u "(C)Z"), (15, u "$assertionsDisabled"), (0, u "Z"), (98, .class_ 223), (1, u "java/lang/StringLatin1$LinesSpliterator"), (57, u "equals"), (0, u "([B[B)Z"), (97, u "toBytes"), (1, u "(C)[B"), (7, .class_ 391), (0, u "java/lang/StringLatin1$CharsSpliterator")] 3

def k12m0 : Method := { name := "<init>", desc := "()V", sig := { parameters := [], returnType := none }, accessFlags := 0, code := none }
def k12c1 : Code := { maxStack := 2, maxLocals := 1, code := jdk_43_method_3_code, exceptionTable := #[], attributes := #[] }
def k12m1 : Method := { name := "canEncode", desc := "(C)Z", sig := { parameters := [.char], returnType := some .boolean }, accessFlags := 9, code := some k12c1 }
def k12c2 : Code := { maxStack := 3, maxLocals := 3, code := jdk_43_method_13_code, exceptionTable := #[], attributes := #[] }
def k12m2 : Method := { name := "equals", desc := "([B[B)Z", sig := { parameters := [(.array .byte), (.array .byte)], returnType := some .boolean }, accessFlags := 9, code := some k12c2 }
def k12c3 : Code := { maxStack := 4, maxLocals := 1, code := jdk_43_method_46_code, exceptionTable := #[], attributes := #[] }
def k12m3 : Method := { name := "toBytes", desc := "(C)[B", sig := { parameters := [.char], returnType := some (.array .byte) }, accessFlags := 9, code := some k12c3 }
/-- java/lang/StringLatin1 -/
def k12 : Class := { plain "java/lang/StringLatin1" (some 0) with
  accessFlags := 48
  interfaces := #[]
  cf := some (fileOf pool12 14 #[.nestMembers #[390, 221]] #[{ accessFlags := 0, nameIndex := 7, descriptorIndex := 8, attributes := #[] }, { accessFlags := 9, nameIndex := 90, descriptorIndex := 105, attributes := #[] }, { accessFlags := 9, nameIndex := 281, descriptorIndex := 282, attributes := #[] }, { accessFlags := 9, nameIndex := 380, descriptorIndex := 382, attributes := #[] }] 48 4 #[] #[{ accessFlags := 4120, nameIndex := 121, descriptorIndex := 122, attributes := #[] }])
  fields := #[{ name := "$assertionsDisabled", type := .boolean, accessFlags := 4120, slot := 0, constantValue := 0 }]
  methods := #[k12m0, k12m1, k12m2, k12m3]
  instanceTypes := #[]
  staticTypes := #[.boolean]
  resolved := Array.replicate 395 none
  statics := none }

def pool13 : Array CpInfo := pool [(6, .class_ 8), (1, u "java/lang/Object"), (0, u "<init>"), (0, u "()V"), (1, .class_ 14), (1, u "java/lang/StringUTF16"), (31, u "$assertionsDisabled"), (0, u "Z"), (13, u "HI_BYTE_SHIFT"), (0, u "I"), (2, u "LO_BYTE_SHIFT"), (49, .methodref 12 116), (0, .nameAndType 117 118), (0, u "compress"), (0, u "([CI[BII)I"), (3, u "([CII)[B"), (138, u "coderFromArrayLen"), (0, u "([BI)B"), (106, .class_ 371), (1, u "java/lang/StringUTF16$LinesSpliterator"), (58, u "MAX_LENGTH"), (196, .class_ 628), (0, u "java/lang/StringUTF16$CodePointsSpliterator"), (0, .class_ 630), (0, u "java/lang/StringUTF16$CharsSpliterator")] 4

def k13m0 : Method := { name := "<init>", desc := "()V", sig := { parameters := [], returnType := none }, accessFlags := 0, code := none }
def k13c1 : Code := { maxStack := 2, maxLocals := 2, code := jdk_52_method_15_code, exceptionTable := #[], attributes := #[] }
def k13m1 : Method := { name := "coderFromArrayLen", desc := "([BI)B", sig := { parameters := [(.array .byte), .int], returnType := some .byte }, accessFlags := 8, code := some k13c1 }
def k13c2 : Code := { maxStack := 5, maxLocals := 6, code := jdk_52_method_16_code, exceptionTable := #[], attributes := #[] }
def k13m2 : Method := { name := "compress", desc := "([CII)[B", sig := { parameters := [(.array .char), .int, .int], returnType := some (.array .byte) }, accessFlags := 9, code := some k13c2 }
def k13c3 : Code := { maxStack := 3, maxLocals := 7, code := jdk_52_method_21_code, exceptionTable := #[], attributes := #[] }
def k13m3 : Method := { name := "compress", desc := "([CI[BII)I", sig := { parameters := [(.array .char), .int, (.array .byte), .int, .int], returnType := some .int }, accessFlags := 9, code := some k13c3 }
/-- java/lang/StringUTF16 -/
def k13 : Class := { plain "java/lang/StringUTF16" (some 0) with
  accessFlags := 48
  interfaces := #[]
  cf := some (fileOf pool13 12 #[.nestMembers #[627, 629, 369]] #[{ accessFlags := 0, nameIndex := 9, descriptorIndex := 10, attributes := #[] }, { accessFlags := 8, nameIndex := 261, descriptorIndex := 262, attributes := #[] }, { accessFlags := 9, nameIndex := 117, descriptorIndex := 122, attributes := #[] }, { accessFlags := 9, nameIndex := 117, descriptorIndex := 118, attributes := #[] }] 48 6 #[] #[{ accessFlags := 26, nameIndex := 61, descriptorIndex := 62, attributes := #[] }, { accessFlags := 26, nameIndex := 65, descriptorIndex := 62, attributes := #[] }, { accessFlags := 24, nameIndex := 430, descriptorIndex := 62, attributes := #[] }, { accessFlags := 4120, nameIndex := 46, descriptorIndex := 47, attributes := #[] }])
  fields := #[{ name := "HI_BYTE_SHIFT", type := .int, accessFlags := 26, slot := 0, constantValue := 0 }, { name := "LO_BYTE_SHIFT", type := .int, accessFlags := 26, slot := 1, constantValue := 0 }, { name := "MAX_LENGTH", type := .int, accessFlags := 24, slot := 2, constantValue := 0 }, { name := "$assertionsDisabled", type := .boolean, accessFlags := 4120, slot := 3, constantValue := 0 }]
  methods := #[k13m0, k13m1, k13m2, k13m3]
  instanceTypes := #[]
  staticTypes := #[.int, .int, .int, .boolean]
  resolved := Array.replicate 635 none
  statics := none }

def pool14 : Array CpInfo := pool [(2, .class_ 4), (1, u "java/lang/Object"), (0, u "<init>"), (0, u "()V"), (17, .class_ 26), (1, u "jdk/internal/util/Preconditions"), (28, .class_ 56), (0, u "jdk/internal/util/Preconditions$4"), (57, .class_ 115), (0, u "jdk/internal/util/Preconditions$1"), (7, u "SIOOBE_FORMATTER"), (0, u "Ljava/util/function/BiFunction;"), (0, .class_ 126), (0, u "jdk/internal/util/Preconditions$2"), (3, u "AIOOBE_FORMATTER"), (0, .class_ 132), (0, u "jdk/internal/util/Preconditions$3"), (3, u "IOOBE_FORMATTER")] 57

def k14m0 : Method := { name := "<init>", desc := "()V", sig := { parameters := [], returnType := none }, accessFlags := 1, code := none }
/-- jdk/internal/util/Preconditions -/
def k14 : Class := { plain "jdk/internal/util/Preconditions" (some 0) with
  accessFlags := 33
  interfaces := #[]
  cf := some (fileOf pool14 24 #[.nestMembers #[55, 131, 125, 114]] #[{ accessFlags := 1, nameIndex := 5, descriptorIndex := 6, attributes := #[] }] 33 2 #[] #[{ accessFlags := 25, nameIndex := 123, descriptorIndex := 124, attributes := #[] }, { accessFlags := 25, nameIndex := 130, descriptorIndex := 124, attributes := #[] }, { accessFlags := 25, nameIndex := 136, descriptorIndex := 124, attributes := #[] }])
  fields := #[{ name := "SIOOBE_FORMATTER", type := (.object "java/util/function/BiFunction"), accessFlags := 25, slot := 0, constantValue := 0 }, { name := "AIOOBE_FORMATTER", type := (.object "java/util/function/BiFunction"), accessFlags := 25, slot := 1, constantValue := 0 }, { name := "IOOBE_FORMATTER", type := (.object "java/util/function/BiFunction"), accessFlags := 25, slot := 2, constantValue := 0 }]
  methods := #[k14m0]
  instanceTypes := #[]
  staticTypes := #[(.object "java/util/function/BiFunction"), (.object "java/util/function/BiFunction"), (.object "java/util/function/BiFunction")]
  resolved := Array.replicate 194 none
  statics := some 2 }

def pool15 : Array CpInfo := pool [(9, u "<init>"), (6, .class_ 18), (1, u "java/lang/Object"), (0, u "()V"), (1, .class_ 23), (1, u "jdk/internal/util/ArraysSupport"), (0, u "LOG2_ARRAY_LONG_INDEX_SCALE"), (0, u "I"), (2, u "U"), (0, u "Ljdk/internal/misc/Unsafe;"), (8, u "BIG_ENDIAN"), (0, u "Z"), (8, u "LOG2_BYTE_BIT_SIZE"), (4, u "LOG2_ARRAY_INT_INDEX_SCALE"), (54, u "JLA"), (0, u "Ljdk/internal/access/JavaLangAccess;"), (11, u "LOG2_ARRAY_BOOLEAN_INDEX_SCALE"), (9, u "LOG2_ARRAY_BYTE_INDEX_SCALE"), (5, u "LOG2_ARRAY_CHAR_INDEX_SCALE"), (5, u "LOG2_ARRAY_SHORT_INDEX_SCALE"), (18, u "LOG2_ARRAY_FLOAT_INDEX_SCALE"), (24, u "LOG2_ARRAY_DOUBLE_INDEX_SCALE"), (89, u "T_BOOLEAN"), (2, u "T_CHAR"), (1, u "T_FLOAT"), (1, u "T_DOUBLE"), (1, u "T_BYTE"), (1, u "T_SHORT"), (1, u "T_INT"), (1, u "T_LONG"), (1, u "SOFT_MAX_ARRAY_LENGTH")] 83

def k15m0 : Method := { name := "<init>", desc := "()V", sig := { parameters := [], returnType := none }, accessFlags := 2, code := none }
/-- jdk/internal/util/ArraysSupport -/
def k15 : Class := { plain "jdk/internal/util/ArraysSupport" (some 0) with
  accessFlags := 33
  interfaces := #[]
  cf := some (fileOf pool15 21 #[] #[{ accessFlags := 2, nameIndex := 9, descriptorIndex := 19, attributes := #[] }] 33 16 #[] #[{ accessFlags := 24, nameIndex := 28, descriptorIndex := 29, attributes := #[] }, { accessFlags := 26, nameIndex := 38, descriptorIndex := 39, attributes := #[] }, { accessFlags := 25, nameIndex := 121, descriptorIndex := 25, attributes := #[] }, { accessFlags := 25, nameIndex := 131, descriptorIndex := 25, attributes := #[] }, { accessFlags := 25, nameIndex := 137, descriptorIndex := 25, attributes := #[] }, { accessFlags := 25, nameIndex := 143, descriptorIndex := 25, attributes := #[] }, { accessFlags := 25, nameIndex := 53, descriptorIndex := 25, attributes := #[] }, { accessFlags := 25, nameIndex := 24, descriptorIndex := 25, attributes := #[] }, { accessFlags := 25, nameIndex := 162, descriptorIndex := 25, attributes := #[] }, { accessFlags := 25, nameIndex := 187, descriptorIndex := 25, attributes := #[] }, { accessFlags := 26, nameIndex := 48, descriptorIndex := 25, attributes := #[] }, { accessFlags := 25, nameIndex := 277, descriptorIndex := 25, attributes := #[] }, { accessFlags := 25, nameIndex := 280, descriptorIndex := 25, attributes := #[] }, { accessFlags := 25, nameIndex := 282, descriptorIndex := 25, attributes := #[] }, { accessFlags := 25, nameIndex := 284, descriptorIndex := 25, attributes := #[] }, { accessFlags := 25, nameIndex := 286, descriptorIndex := 25, attributes := #[] }, { accessFlags := 25, nameIndex := 288, descriptorIndex := 25, attributes := #[] }, { accessFlags := 25, nameIndex := 290, descriptorIndex := 25, attributes := #[] }, { accessFlags := 25, nameIndex := 292, descriptorIndex := 25, attributes := #[] }, { accessFlags := 26, nameIndex := 108, descriptorIndex := 109, attributes := #[] }, { accessFlags := 25, nameIndex := 294, descriptorIndex := 25, attributes := #[] }])
  fields := #[{ name := "U", type := (.object "jdk/internal/misc/Unsafe"), accessFlags := 24, slot := 0, constantValue := 0 }, { name := "BIG_ENDIAN", type := .boolean, accessFlags := 26, slot := 1, constantValue := 0 }, { name := "LOG2_ARRAY_BOOLEAN_INDEX_SCALE", type := .int, accessFlags := 25, slot := 2, constantValue := 0 }, { name := "LOG2_ARRAY_BYTE_INDEX_SCALE", type := .int, accessFlags := 25, slot := 3, constantValue := 0 }, { name := "LOG2_ARRAY_CHAR_INDEX_SCALE", type := .int, accessFlags := 25, slot := 4, constantValue := 0 }, { name := "LOG2_ARRAY_SHORT_INDEX_SCALE", type := .int, accessFlags := 25, slot := 5, constantValue := 0 }, { name := "LOG2_ARRAY_INT_INDEX_SCALE", type := .int, accessFlags := 25, slot := 6, constantValue := 0 }, { name := "LOG2_ARRAY_LONG_INDEX_SCALE", type := .int, accessFlags := 25, slot := 7, constantValue := 0 }, { name := "LOG2_ARRAY_FLOAT_INDEX_SCALE", type := .int, accessFlags := 25, slot := 8, constantValue := 0 }, { name := "LOG2_ARRAY_DOUBLE_INDEX_SCALE", type := .int, accessFlags := 25, slot := 9, constantValue := 0 }, { name := "LOG2_BYTE_BIT_SIZE", type := .int, accessFlags := 26, slot := 10, constantValue := 0 }, { name := "T_BOOLEAN", type := .int, accessFlags := 25, slot := 11, constantValue := 0 }, { name := "T_CHAR", type := .int, accessFlags := 25, slot := 12, constantValue := 0 }, { name := "T_FLOAT", type := .int, accessFlags := 25, slot := 13, constantValue := 0 }, { name := "T_DOUBLE", type := .int, accessFlags := 25, slot := 14, constantValue := 0 }, { name := "T_BYTE", type := .int, accessFlags := 25, slot := 15, constantValue := 0 }, { name := "T_SHORT", type := .int, accessFlags := 25, slot := 16, constantValue := 0 }, { name := "T_INT", type := .int, accessFlags := 25, slot := 17, constantValue := 0 }, { name := "T_LONG", type := .int, accessFlags := 25, slot := 18, constantValue := 0 }, { name := "JLA", type := (.object "jdk/internal/access/JavaLangAccess"), accessFlags := 26, slot := 19, constantValue := 0 }, { name := "SOFT_MAX_ARRAY_LENGTH", type := .int, accessFlags := 25, slot := 20, constantValue := 0 }]
  methods := #[k15m0]
  instanceTypes := #[]
  staticTypes := #[(.object "jdk/internal/misc/Unsafe"), .boolean, .int, .int, .int, .int, .int, .int, .int, .int, .int, .int, .int, .int, .int, .int, .int, .int, .int, (.object "jdk/internal/access/JavaLangAccess"), .int]
  resolved := Array.replicate 378 none
  statics := none }

def pool16 : Array CpInfo := pool [(1, u "java/lang/Cloneable"), (0, .class_ 1), (0, u "java/lang/Object"), (0, .class_ 3)] 3

/-- java/lang/Cloneable -/
def k16 : Class := { plain "java/lang/Cloneable" (some 0) with
  accessFlags := 1537
  interfaces := #[]
  cf := some (fileOf pool16 2 #[] #[] 1537 4 #[] #[])
  fields := #[]
  methods := #[]
  instanceTypes := #[]
  staticTypes := #[]
  resolved := Array.replicate 8 none
  statics := none }

/-- the primitive byte -/
def k17 : Class := { plain "byte" none with kind := .primitive 'B', accessFlags := 0x411 }
/-- [B -/
def k18 : Class := { plain "[B" (some 0) with kind := .array 17 .byte, interfaces := #[16, 2], accessFlags := 1041 }

/-- the primitive char -/
def k19 : Class := { plain "char" none with kind := .primitive 'C', accessFlags := 0x411 }
/-- [C -/
def k20 : Class := { plain "[C" (some 0) with kind := .array 19 .char, interfaces := #[16, 2], accessFlags := 1041 }

/-- the primitive int -/
def k21 : Class := { plain "int" none with kind := .primitive 'I', accessFlags := 0x411 }
/-- [I -/
def k22 : Class := { plain "[I" (some 0) with kind := .array 21 .int, interfaces := #[16, 2], accessFlags := 1041 }

def heap : Heap := #[{ cls := 7, slots := #[.long 0, .int 1, .null, .int 0, .null, .int 0, .int 0], vm := .statics 7 },
  { cls := 10, slots := #[.ref 3, .ref 4, .ref 5, .ref 6, .ref 7, .ref 8, .null], vm := .statics 10 },
  { cls := 14, slots := #[.null, .null, .null], vm := .statics 14 },
  { cls := 10, slots := #[.null, .int 0, .int 0], vm := .none },
  { cls := 10, slots := #[.null, .int 1, .int 0], vm := .none },
  { cls := 10, slots := #[.null, .int 2, .int 0], vm := .none },
  { cls := 10, slots := #[.null, .int 3, .int 0], vm := .none },
  { cls := 10, slots := #[.null, .int 4, .int 0], vm := .none },
  { cls := 10, slots := #[.null, .int 5, .int 0], vm := .none }]
def classes : Array Class := #[k0, k1, k2, k3, k4, k5, k6, k7, k8, k9, k10, k11, k12, k13, k14, k15, k16, k17, k18, k19, k20, k21, k22]
def interned : List (Array UInt16 × Addr) := []
def slotsUsed : Nat := 35
def theMethod : MethodId := ⟨1, 3⟩
def args0 : Array Value := #[.int 1, .int 2, .int 3, .int 4]
def aboutOver (below : List Frame) : State where
  vm := { classes := classes, interned := interned.toArray }
  heap := heap
  slotsUsed := slotsUsed
  threads := #[{ frames := .invoking theMethod args0 :: below }]
def below0 : List Frame := [.native { method := ⟨0, 0⟩, args := #[] }]
def about1 : State := aboutOver below0
def p0 : Program := .bare "" "" ""
def e0 : Env := launch0.env 0 0 0
theorem w_frames : about1.frames = Frame.invoking theMethod args0 :: below0 := rfl
set_option maxRecDepth 65536 in
theorem w_args : argsFit about1.vm theMethod args0 = true := by decide +kernel
set_option maxRecDepth 65536 in
theorem w_heap : heapFits about1 = true := by decide +kernel
set_option maxRecDepth 65536 in
theorem w_runnable : about1.curStatus? = some .runnable := by decide +kernel
set_option maxRecDepth 65536 in
theorem w_alone : about1.alone = true := by decide +kernel
set_option maxRecDepth 65536 in
theorem w_named : about1.methodNamed? x = some theMethod := by decide +kernel
set_option maxRecDepth 65536 in
theorem w_hears : about1.hears theMethod below0 = true := by decide +kernel
set_option maxRecDepth 65536 in
theorem w_ripe : about1.ripe theMethod args0 below0 = true := by decide +kernel
theorem w_running : about1.status = .running := rfl
set_option maxRecDepth 65536 in
theorem w_room : about1.hasRoom e0.platform room_1 = true :=
  launch0.hasRoom_least _ room_1 (by decide +kernel) (by decide +kernel) (by decide +kernel) (by decide +kernel) (by decide +kernel) (by decide +kernel)
theorem allAtoms_all (ts : List Jvm.Cond) (a : Array Jvm.Value) (st : Jvm.State) : (allAtoms ts).before a st = ts.all (fun c => c.before a st) := by
  induction ts with
  | nil => rfl
  | cons c t ih =>
    show (Jvm.Cond.and c (allAtoms t)).before a st = _
    rw [Jvm.Cond.before_and, ih, List.all_cons]
def words1 : List Jvm.Cond := Jvm.Cond.code x code maxLocals ret :: tables_1
/-- a 'code' word, met by the world's own term for the bytes: nothing is compared byte by byte -/
theorem code_word {y : MethodName} {bytes : ByteArray} {mx : Nat} {rt : Option FieldType} {a : Array Value} {s : State} {m : MethodId} {meth : Method} {c : Code} (h1 : s.methodNamed? y = some m) (h2 : s.vm.method? m = some meth) (h3 : meth.code = some c) (h4 : c.code = bytes)
    (h5 : (c.maxLocals == mx && c.exceptionTable.isEmpty && decide (c.maxStack ≤ mostOperands) && decide (meth.sig.returnType = rt) && !meth.locks && decide (parseMethodDescriptor y.desc = some meth.sig)) = true) : (Jvm.Cond.code y bytes mx rt).before a s = true := by
  simp only [Bool.and_eq_true, beq_iff_eq, Bool.not_eq_true', decide_eq_true_eq] at h5
  obtain ⟨⟨⟨⟨⟨g1, g2⟩, g3⟩, g4⟩, g5⟩, g6⟩ := h5
  simp [Cond.before, Cond.holds, Cond.value, h1, h2, h3, h4, g1, g2, g3, g4, g5, g6]
def isCode : Jvm.Cond → Bool
  | .code _ _ _ _ => true
  | _ => false
theorem all_split {L : List Jvm.Cond} {P : Jvm.Cond → Bool} (h1 : L.all (fun c => isCode c || P c) = true) (h2 : ∀ c ∈ L.filter isCode, P c = true) : L.all P = true := by
  refine List.all_eq_true.mpr fun c hc => ?_
  have h := List.all_eq_true.mp h1 c hc
  rcases Bool.eq_false_or_eq_true (isCode c) with hi | hi
  · exact h2 c (List.mem_filter.mpr ⟨hc, hi⟩)
  · simpa [hi] using h
set_option maxRecDepth 65536 in
theorem w_c0 : (Jvm.Cond.code x code maxLocals ret).before args0 about1 = true := code_word (m := ⟨1, 3⟩) (meth := k1m3) (c := k1c3) (by decide +kernel) rfl rfl rfl (by decide +kernel)
set_option maxRecDepth 65536 in
theorem w_c1 : (Jvm.Cond.code ({ cls := "com/example/paramarc/paramarc/TokenIsPinLaw", name := "make", desc := "(ICC)Ljava/lang/String;" } : Jvm.MethodName) method_3_code (3 : Nat) (Option.some (Jvm.ClassFile.FieldType.object "java/lang/String"))).before args0 about1 = true := code_word (m := ⟨1, 2⟩) (meth := k1m2) (c := k1c2) (by decide +kernel) rfl rfl rfl (by decide +kernel)
set_option maxRecDepth 65536 in
theorem w_c2 : (Jvm.Cond.code ({ cls := "java/lang/String", name := "<init>", desc := "([C)V" } : Jvm.MethodName) jdk_42_method_3_code (2 : Nat) (Option.none : Option Jvm.ClassFile.FieldType)).before args0 about1 = true := code_word (m := ⟨7, 1⟩) (meth := k7m1) (c := k7c1) (by decide +kernel) rfl rfl rfl (by decide +kernel)
set_option maxRecDepth 65536 in
theorem w_c3 : (Jvm.Cond.code ({ cls := "java/lang/String", name := "<init>", desc := "([CIILjava/lang/Void;)V" } : Jvm.MethodName) jdk_42_method_149_code (6 : Nat) (Option.none : Option Jvm.ClassFile.FieldType)).before args0 about1 = true := code_word (m := ⟨7, 4⟩) (meth := k7m4) (c := k7c4) (by decide +kernel) rfl rfl rfl (by decide +kernel)
set_option maxRecDepth 65536 in
theorem w_c4 : (Jvm.Cond.code ({ cls := "java/lang/Object", name := "<init>", desc := "()V" } : Jvm.MethodName) object_method_1_code (1 : Nat) (Option.none : Option Jvm.ClassFile.FieldType)).before args0 about1 = true := code_word (m := ⟨0, 0⟩) (meth := k0m0) (c := k0c0) (by decide +kernel) rfl rfl rfl (by decide +kernel)
set_option maxRecDepth 65536 in
theorem w_c5 : (Jvm.Cond.code ({ cls := "com/example/paramarc/paramarc/TokenIsPinLaw", name := "kindOf", desc := "(I)Lcom/example/paramarc/paramarc/Token$Kind;" } : Jvm.MethodName) method_2_code (1 : Nat) (Option.some (Jvm.ClassFile.FieldType.object "com/example/paramarc/paramarc/Token$Kind"))).before args0 about1 = true := code_word (m := ⟨1, 1⟩) (meth := k1m1) (c := k1c1) (by decide +kernel) rfl rfl rfl (by decide +kernel)
set_option maxRecDepth 65536 in
theorem w_c6 : (Jvm.Cond.code ({ cls := "com/example/paramarc/paramarc/Position", name := "<init>", desc := "(Ljava/lang/String;II)V" } : Jvm.MethodName) prog_4_method_1_code (4 : Nat) (Option.none : Option Jvm.ClassFile.FieldType)).before args0 about1 = true := code_word (m := ⟨11, 0⟩) (meth := k11m0) (c := k11c0) (by decide +kernel) rfl rfl rfl (by decide +kernel)
set_option maxRecDepth 65536 in
theorem w_c7 : (Jvm.Cond.code ({ cls := "com/example/paramarc/paramarc/Position", name := "<init>", desc := "(Ljava/lang/String;IILjava/lang/String;)V" } : Jvm.MethodName) prog_4_method_2_code (5 : Nat) (Option.none : Option Jvm.ClassFile.FieldType)).before args0 about1 = true := code_word (m := ⟨11, 1⟩) (meth := k11m1) (c := k11c1) (by decide +kernel) rfl rfl rfl (by decide +kernel)
set_option maxRecDepth 65536 in
theorem w_c8 : (Jvm.Cond.code ({ cls := "com/example/paramarc/paramarc/Token", name := "<init>", desc := "(Lcom/example/paramarc/paramarc/Token$Kind;Ljava/lang/String;Lcom/example/paramarc/paramarc/Position;)V" } : Jvm.MethodName) prog_6_method_1_code (4 : Nat) (Option.none : Option Jvm.ClassFile.FieldType)).before args0 about1 = true := code_word (m := ⟨8, 0⟩) (meth := k8m0) (c := k8c0) (by decide +kernel) rfl rfl rfl (by decide +kernel)
set_option maxRecDepth 65536 in
theorem w_c9 : (Jvm.Cond.code ({ cls := "com/example/paramarc/paramarc/Token", name := "is", desc := "(Ljava/lang/String;)Z" } : Jvm.MethodName) prog_6_method_5_code (2 : Nat) (Option.some Jvm.ClassFile.FieldType.boolean)).before args0 about1 = true := code_word (m := ⟨8, 1⟩) (meth := k8m1) (c := k8c1) (by decide +kernel) rfl rfl rfl (by decide +kernel)
set_option maxRecDepth 65536 in
theorem w_c10 : (Jvm.Cond.code ({ cls := "java/lang/String", name := "equals", desc := "(Ljava/lang/Object;)Z" } : Jvm.MethodName) jdk_42_method_66_code (3 : Nat) (Option.some Jvm.ClassFile.FieldType.boolean)).before args0 about1 = true := code_word (m := ⟨7, 2⟩) (meth := k7m2) (c := k7c2) (by decide +kernel) rfl rfl rfl (by decide +kernel)
set_option maxRecDepth 65536 in
theorem w_c11 : (Jvm.Cond.code ({ cls := "java/lang/StringLatin1", name := "equals", desc := "([B[B)Z" } : Jvm.MethodName) jdk_43_method_13_code (3 : Nat) (Option.some Jvm.ClassFile.FieldType.boolean)).before args0 about1 = true := code_word (m := ⟨12, 2⟩) (meth := k12m2) (c := k12c2) (by decide +kernel) rfl rfl rfl (by decide +kernel)
set_option maxRecDepth 65536 in
theorem w_c12 : (Jvm.Cond.code ({ cls := "java/lang/String", name := "valueOf", desc := "(C)Ljava/lang/String;" } : Jvm.MethodName) jdk_42_method_139_code (1 : Nat) (Option.some (Jvm.ClassFile.FieldType.object "java/lang/String"))).before args0 about1 = true := code_word (m := ⟨7, 3⟩) (meth := k7m3) (c := k7c3) (by decide +kernel) rfl rfl rfl (by decide +kernel)
set_option maxRecDepth 65536 in
theorem w_c13 : (Jvm.Cond.code ({ cls := "java/lang/StringLatin1", name := "canEncode", desc := "(C)Z" } : Jvm.MethodName) jdk_43_method_3_code (1 : Nat) (Option.some Jvm.ClassFile.FieldType.boolean)).before args0 about1 = true := code_word (m := ⟨12, 1⟩) (meth := k12m1) (c := k12c1) (by decide +kernel) rfl rfl rfl (by decide +kernel)
set_option maxRecDepth 65536 in
theorem w_c14 : (Jvm.Cond.code ({ cls := "java/lang/StringLatin1", name := "toBytes", desc := "(C)[B" } : Jvm.MethodName) jdk_43_method_46_code (1 : Nat) (Option.some (Jvm.ClassFile.FieldType.array Jvm.ClassFile.FieldType.byte))).before args0 about1 = true := code_word (m := ⟨12, 3⟩) (meth := k12m3) (c := k12c3) (by decide +kernel) rfl rfl rfl (by decide +kernel)
set_option maxRecDepth 65536 in
theorem w_c15 : (Jvm.Cond.code ({ cls := "java/lang/String", name := "<init>", desc := "([BB)V" } : Jvm.MethodName) jdk_42_method_151_code (3 : Nat) (Option.none : Option Jvm.ClassFile.FieldType)).before args0 about1 = true := code_word (m := ⟨7, 5⟩) (meth := k7m5) (c := k7c5) (by decide +kernel) rfl rfl rfl (by decide +kernel)
set_option maxRecDepth 65536 in
theorem w_c16 : (Jvm.Cond.code ({ cls := "java/lang/StringUTF16", name := "compress", desc := "([CII)[B" } : Jvm.MethodName) jdk_52_method_16_code (6 : Nat) (Option.some (Jvm.ClassFile.FieldType.array Jvm.ClassFile.FieldType.byte))).before args0 about1 = true := code_word (m := ⟨13, 2⟩) (meth := k13m2) (c := k13c2) (by decide +kernel) rfl rfl rfl (by decide +kernel)
set_option maxRecDepth 65536 in
theorem w_c17 : (Jvm.Cond.code ({ cls := "java/lang/StringUTF16", name := "compress", desc := "([CI[BII)I" } : Jvm.MethodName) jdk_52_method_21_code (7 : Nat) (Option.some Jvm.ClassFile.FieldType.int)).before args0 about1 = true := code_word (m := ⟨13, 3⟩) (meth := k13m3) (c := k13c3) (by decide +kernel) rfl rfl rfl (by decide +kernel)
set_option maxRecDepth 65536 in
theorem w_c18 : (Jvm.Cond.code ({ cls := "java/lang/StringUTF16", name := "coderFromArrayLen", desc := "([BI)B" } : Jvm.MethodName) jdk_52_method_15_code (2 : Nat) (Option.some Jvm.ClassFile.FieldType.byte)).before args0 about1 = true := code_word (m := ⟨13, 1⟩) (meth := k13m1) (c := k13c1) (by decide +kernel) rfl rfl rfl (by decide +kernel)
def codes1 : List Jvm.Cond := [Jvm.Cond.code x code maxLocals ret, Jvm.Cond.code ({ cls := "com/example/paramarc/paramarc/TokenIsPinLaw", name := "make", desc := "(ICC)Ljava/lang/String;" } : Jvm.MethodName) method_3_code (3 : Nat) (Option.some (Jvm.ClassFile.FieldType.object "java/lang/String")), Jvm.Cond.code ({ cls := "java/lang/String", name := "<init>", desc := "([C)V" } : Jvm.MethodName) jdk_42_method_3_code (2 : Nat) (Option.none : Option Jvm.ClassFile.FieldType), Jvm.Cond.code ({ cls := "java/lang/String", name := "<init>", desc := "([CIILjava/lang/Void;)V" } : Jvm.MethodName) jdk_42_method_149_code (6 : Nat) (Option.none : Option Jvm.ClassFile.FieldType), Jvm.Cond.code ({ cls := "java/lang/Object", name := "<init>", desc := "()V" } : Jvm.MethodName) object_method_1_code (1 : Nat) (Option.none : Option Jvm.ClassFile.FieldType), Jvm.Cond.code ({ cls := "com/example/paramarc/paramarc/TokenIsPinLaw", name := "kindOf", desc := "(I)Lcom/example/paramarc/paramarc/Token$Kind;" } : Jvm.MethodName) method_2_code (1 : Nat) (Option.some (Jvm.ClassFile.FieldType.object "com/example/paramarc/paramarc/Token$Kind")), Jvm.Cond.code ({ cls := "com/example/paramarc/paramarc/Position", name := "<init>", desc := "(Ljava/lang/String;II)V" } : Jvm.MethodName) prog_4_method_1_code (4 : Nat) (Option.none : Option Jvm.ClassFile.FieldType), Jvm.Cond.code ({ cls := "com/example/paramarc/paramarc/Position", name := "<init>", desc := "(Ljava/lang/String;IILjava/lang/String;)V" } : Jvm.MethodName) prog_4_method_2_code (5 : Nat) (Option.none : Option Jvm.ClassFile.FieldType), Jvm.Cond.code ({ cls := "com/example/paramarc/paramarc/Token", name := "<init>", desc := "(Lcom/example/paramarc/paramarc/Token$Kind;Ljava/lang/String;Lcom/example/paramarc/paramarc/Position;)V" } : Jvm.MethodName) prog_6_method_1_code (4 : Nat) (Option.none : Option Jvm.ClassFile.FieldType), Jvm.Cond.code ({ cls := "com/example/paramarc/paramarc/Token", name := "is", desc := "(Ljava/lang/String;)Z" } : Jvm.MethodName) prog_6_method_5_code (2 : Nat) (Option.some Jvm.ClassFile.FieldType.boolean), Jvm.Cond.code ({ cls := "java/lang/String", name := "equals", desc := "(Ljava/lang/Object;)Z" } : Jvm.MethodName) jdk_42_method_66_code (3 : Nat) (Option.some Jvm.ClassFile.FieldType.boolean), Jvm.Cond.code ({ cls := "java/lang/StringLatin1", name := "equals", desc := "([B[B)Z" } : Jvm.MethodName) jdk_43_method_13_code (3 : Nat) (Option.some Jvm.ClassFile.FieldType.boolean), Jvm.Cond.code ({ cls := "java/lang/String", name := "valueOf", desc := "(C)Ljava/lang/String;" } : Jvm.MethodName) jdk_42_method_139_code (1 : Nat) (Option.some (Jvm.ClassFile.FieldType.object "java/lang/String")), Jvm.Cond.code ({ cls := "java/lang/StringLatin1", name := "canEncode", desc := "(C)Z" } : Jvm.MethodName) jdk_43_method_3_code (1 : Nat) (Option.some Jvm.ClassFile.FieldType.boolean), Jvm.Cond.code ({ cls := "java/lang/StringLatin1", name := "toBytes", desc := "(C)[B" } : Jvm.MethodName) jdk_43_method_46_code (1 : Nat) (Option.some (Jvm.ClassFile.FieldType.array Jvm.ClassFile.FieldType.byte)), Jvm.Cond.code ({ cls := "java/lang/String", name := "<init>", desc := "([BB)V" } : Jvm.MethodName) jdk_42_method_151_code (3 : Nat) (Option.none : Option Jvm.ClassFile.FieldType), Jvm.Cond.code ({ cls := "java/lang/StringUTF16", name := "compress", desc := "([CII)[B" } : Jvm.MethodName) jdk_52_method_16_code (6 : Nat) (Option.some (Jvm.ClassFile.FieldType.array Jvm.ClassFile.FieldType.byte)), Jvm.Cond.code ({ cls := "java/lang/StringUTF16", name := "compress", desc := "([CI[BII)I" } : Jvm.MethodName) jdk_52_method_21_code (7 : Nat) (Option.some Jvm.ClassFile.FieldType.int), Jvm.Cond.code ({ cls := "java/lang/StringUTF16", name := "coderFromArrayLen", desc := "([BI)B" } : Jvm.MethodName) jdk_52_method_15_code (2 : Nat) (Option.some Jvm.ClassFile.FieldType.byte)]
set_option maxRecDepth 65536 in
theorem codes_eq : words1.filter isCode = codes1 := rfl
theorem w_codes : ∀ c ∈ words1.filter isCode, c.before args0 about1 = true := by
  rw [codes_eq]
  intro c hc
  simp only [codes1, List.mem_cons, List.not_mem_nil, or_false] at hc
  rcases hc with rfl | rfl | rfl | rfl | rfl | rfl | rfl | rfl | rfl | rfl | rfl | rfl | rfl | rfl | rfl | rfl | rfl | rfl | rfl
  · exact w_c0
  · exact w_c1
  · exact w_c2
  · exact w_c3
  · exact w_c4
  · exact w_c5
  · exact w_c6
  · exact w_c7
  · exact w_c8
  · exact w_c9
  · exact w_c10
  · exact w_c11
  · exact w_c12
  · exact w_c13
  · exact w_c14
  · exact w_c15
  · exact w_c16
  · exact w_c17
  · exact w_c18
set_option maxRecDepth 65536 in
theorem w_t1 : (words1.take 24).all (fun c => isCode c || c.before args0 about1) = true := by decide +kernel
set_option maxRecDepth 65536 in
theorem w_t2 : ((words1.drop 24).take 24).all (fun c => isCode c || c.before args0 about1) = true := by decide +kernel
set_option maxRecDepth 65536 in
theorem w_t3 : (((words1.drop 24).drop 24).take 24).all (fun c => isCode c || c.before args0 about1) = true := by decide +kernel
set_option maxRecDepth 65536 in
theorem w_t4 : ((((words1.drop 24).drop 24).drop 24).take 24).all (fun c => isCode c || c.before args0 about1) = true := by decide +kernel
set_option maxRecDepth 65536 in
theorem w_t5 : ((((words1.drop 24).drop 24).drop 24).drop 24).all (fun c => isCode c || c.before args0 about1) = true := by decide +kernel
theorem w_tables : (allAtoms (Jvm.Cond.code x code maxLocals ret :: tables_1)).before args0 about1 = true := by
  rw [allAtoms_all]
  show words1.all (fun c => c.before args0 about1) = true
  refine all_split ?_ w_codes
  rw [← List.take_append_drop 24 words1, List.all_append, w_t1, ← List.take_append_drop 24 (words1.drop 24), List.all_append, w_t2, ← List.take_append_drop 24 ((words1.drop 24).drop 24), List.all_append, w_t3, ← List.take_append_drop 24 (((words1.drop 24).drop 24).drop 24), List.all_append, w_t4, w_t5]
  rfl
set_option maxRecDepth 65536 in
theorem w_rest : rest_1_c.before args0 about1 = true := by decide +kernel
set_option maxRecDepth 65536 in
theorem w_case : (Jvm.Cond.and given_1 narrow_1).before args0 about1 = true := by decide +kernel
set_option maxRecDepth 65536 in
theorem w_consts : constsHeld consts_1 about1 := Jvm.Lit.constsHeldB_iff.mp (by decide +kernel)
theorem w_applies : (headSpec (Jvm.Cond.code x code maxLocals ret :: tables_1) room_1).applies x e0.platform about1 = true :=
  (Spec.applies_iff w_frames).mpr ⟨w_running, w_runnable, w_alone, w_named, w_hears, w_ripe, w_room, w_tables⟩
theorem atStart : AtStart classFile x code maxLocals ret World_1 tables_1 room_1 Calls_1 rest_1 Pre_1 launch0 p0 e0 about1 theMethod args0 below0 :=
  ⟨lists_1, trivial, launch0.admits_env _ _ _, launch0.least_env, fairChoices_fair.cas, fairChoices_fair.clock, w_frames, w_args, w_heap, w_applies, ⟨w_consts, trivial⟩, w_rest, w_case⟩
end start1
theorem witness_1 : WitnessClaimed_1 := ⟨start1.p0, start1.e0, start1.about1, start1.theMethod, start1.args0, start1.below0, start1.atStart⟩
end Jvm.Pilot.@@N@@
