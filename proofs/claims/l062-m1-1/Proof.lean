import JvmDerived
import JvmDerived.Pilot.@@N@@Statement
import JvmDerived.Pilot.@@N@@Code
set_option linter.unusedVariables false
set_option linter.unusedSimpArgs false
namespace Jvm.Own
open Jvm Jvm.ClassFile Sem Op Lib Jvm.Free Jvm.Stand Jvm.LawKit Jvm.RoadKit Bundle
/-! OWN LAYER: a wp-style reading of RoadKit's laws. V: the case's view (start state, start arguments, the literals that are held, narrow or wide, the launch). B: a body (name, bytes, max locals, return type, room). K: one invocation. -/
abbrev Vw : Type := State × Array Value × List (String × Nat) × Bool × Launch
abbrev Vw.Z (V : Vw) : State := V.1
abbrev Vw.a0 (V : Vw) : Array Value := V.2.1
abbrev Vw.EL (V : Vw) : List (String × Nat) := V.2.2.1
abbrev Vw.nar (V : Vw) : Bool := V.2.2.2.1
abbrev Vw.l (V : Vw) : Launch := V.2.2.2.2
abbrev Bx : Type := MethodName × ByteArray × Nat × Option FieldType × Room
abbrev Bx.y (B : Bx) : MethodName := B.1
abbrev Bx.code (B : Bx) : ByteArray := B.2.1
abbrev Bx.ml (B : Bx) : Nat := B.2.2.1
abbrev Bx.ret (B : Bx) : Option FieldType := B.2.2.2.1
abbrev Bx.R (B : Bx) : Room := B.2.2.2.2
abbrev Cx : Type := Program × Env × State × MethodId × Array Value × List Frame × Method × Code
abbrev Cx.p (K : Cx) : Program := K.1
abbrev Cx.e (K : Cx) : Env := K.2.1
abbrev Cx.s (K : Cx) : State := K.2.2.1
abbrev Cx.m (K : Cx) : MethodId := K.2.2.2.1
abbrev Cx.args (K : Cx) : Array Value := K.2.2.2.2.1
abbrev Cx.below (K : Cx) : List Frame := K.2.2.2.2.2.1
abbrev Cx.meth (K : Cx) : Method := K.2.2.2.2.2.2.1
abbrev Cx.c (K : Cx) : Code := K.2.2.2.2.2.2.2
abbrev Qt : Type := Option Value → Heap → List Addr → Prop
def ushr (x y : Int32) : Int32 := (x.toUInt32 >>> (y &&& 31).toUInt32).toInt32
def ushrL (x : Int64) (y : Int32) : Int64 := (x.toUInt64 >>> (y &&& 0x3f).toInt64.toUInt64).toInt64
def Fx (K : Cx) (B : Bx) : Prop := K.p.tables.exec = Jvm.exec ∧ K.c.code = B.code ∧ K.c.maxLocals = B.ml ∧ K.meth.sig.returnType = B.ret ∧ K.meth.locks = false ∧ K.meth.name = B.y.name
def Sf (V : Vw) (vm : Vm) (h : Heap) (ps : List Addr) : Prop := ∀ x ∈ ps, x < h.size ∧ Safe V.Z V.EL vm h x
def Std (V : Vw) (K : Cx) (B : Bx) (T : State) (h : Heap) (ps : List Addr) (cs sl : Nat) : Prop :=
  ∃ (locs : List Loc) (vm0 : Vm) (k0 : Nat), Stand K.p V.l K.e B.R (K.s.setVm vm0) K.m K.args K.below K.meth K.c T locs cs sl ∧ T.heap = h ∧ V.Z.Warmed39 vm0 ∧ vm0.findClass B.y.cls = some K.m.cls ∧ K.s.Since vm0 k0 ∧ k0 ≤ h.size ∧
    Fr V.Z.heap.size locs ∧ Ext V.Z.heap h ∧ CHr V.Z V.EL K.s.vm K.s.heap vm0 h ∧ Sf V vm0 h ps ∧ EW V.Z V.a0 V.EL ∧ (V.nar = true → vm0 = K.s.vm ∧ V.EL = []) ∧ Fx K B
def Fnl (V : Vw) (K : Cx) (B : Bx) (Q : Qt) (o : Outcome) (t : State) : Prop :=
  ∃ (v : Option Value) (L : List Loc) (ps : List Addr), o = .returned v ∧ Fr V.Z.heap.size L ∧ Q v t.heap ps ∧ Ext V.Z.heap t.heap ∧ Sf V t.vm t.heap ps ∧ CHr V.Z V.EL K.s.vm K.s.heap t.vm t.heap ∧
    ReturnedEndW K.s o t L B.R.cells B.R.slots ∧ (V.nar = true → FrameEnd K.s o t L B.R.cells B.R.slots)
def Run (V : Vw) (K : Cx) (B : Bx) (Q : Qt) (h : Heap) (ps : List Addr) (cs sl pc : Nat) (L : List Slot) (S : List Value) : Prop :=
  ∀ T, Std V K B T h ps cs sl → ∃ t o, Steps K.p.tables K.e K.below (T.setTop (mkF K.m pc L.toArray S)) t ∧ t.status = .running ∧ Ended t K.below o ∧ Fnl V K B Q o t
/-- the contract of a body, at one heap and for one row of arguments -/
def Con (V : Vw) (B : Bx) (as' : Array Value) (h0 : Heap) (ps : List Addr) (Q : Qt) : Prop :=
  EW V.Z V.a0 V.EL → Ext V.Z.heap h0 → (V.nar = true → V.EL = []) → ∀ ws, MetFree V.l B.y (head1 (Jvm.Cond.code B.y B.code B.ml B.ret :: ws) B.R)
    (fun a U => a = as' ∧ V.Z.Warmed39 U.vm ∧ U.heap = h0 ∧ CHv V.Z V.EL U.vm h0 ∧ Sf V U.vm h0 ps) (fun _ _ _ _ _ => True)
    (fun _ U o U' => ∃ (v : Option Value) (L : List Loc) (ps' : List Addr), o = .returned v ∧ Fr V.Z.heap.size L ∧ Q v U'.heap ps' ∧ Ext V.Z.heap U'.heap ∧ Sf V U'.vm U'.heap ps' ∧ CHr V.Z V.EL U.vm U.heap U'.vm U'.heap ∧
      ReturnedEndW U o U' L B.R.cells B.R.slots ∧ (V.nar = true → FrameEnd U o U' L B.R.cells B.R.slots))
/-- what a call of y gives in the invocation K of B -/
def PreP (B : Bx) (as' : Array Value) (h : Heap) (nc ns : Nat) : Pt → Array Value → Prop := fun A a => a = as' ∧ A.U.heap = h ∧ A.cells + nc ≤ B.R.cells ∧ A.slots + ns ≤ B.R.slots
def PostP (V : Vw) (vm0 : Vm) (h : Heap) (nc ns : Nat) (Q : Qt) : Pt → Array Value → Option Value → Pt → Prop := fun A _ v C =>
  ∃ (L : List Loc) (ps : List Addr), Fr V.Z.heap.size L ∧ Q v C.U.heap ps ∧ Ext V.Z.heap C.U.heap ∧ h.size ≤ C.U.heap.size ∧ Sf V C.U.vm C.U.heap ps ∧ C.locs = A.locs ++ L ∧ C.cells = A.cells + nc ∧ C.slots = A.slots + ns ∧ CHr V.Z V.EL vm0 h C.U.vm C.U.heap
def Pays (V : Vw) (K : Cx) (B : Bx) (y : MethodName) (len W : Nat) (as' : Array Value) (h : Heap) (ps : List Addr) (nc ns : Nat) (Q : Qt) : Prop :=
  ∀ vm0, V.Z.Warmed39 vm0 → CHv V.Z V.EL vm0 h → Sf V vm0 h ps → EW V.Z V.a0 V.EL → Ext V.Z.heap h → (V.nar = true → V.EL = []) →
    (V.nar = true → Back V.l B.R K.p K.e K.below (K.s.setVm vm0) K.args y len W (PreP B as' h nc ns) (PostP V vm0 h nc ns Q)) ∧
    (V.nar = false → BackS V.l B.R K.p K.e K.below (K.s.setVm vm0) K.args y len W (PreP B as' h nc ns) (PostP V vm0 h nc ns Q))
theorem ltN {a n : Nat} (h : a < n) : a < n := h
theorem leN {a n : Nat} (h : a ≤ n) : a ≤ n := h
theorem neN {a b : Nat} (h : a ≠ b) : a < b ∨ b < a := Nat.lt_or_gt_of_ne h
theorem neA {a b : Nat} (h : a < b ∨ b < a) : a ≠ b := fun e => by omega
theorem leA {a b : Nat} (h : a ≤ b) : a ≤ b := h
theorem wd {V : Vw} {Ls : List Jvm.Cond} (hw : ∀ d ∈ Ls, d.before V.a0 V.Z = true) (i : Nat) {d : Jvm.Cond} (h : Ls[i]? = some d) : d.before V.a0 V.Z = true := hw d (List.mem_of_getElem? h)
section Basics
variable {V : Vw} {K : Cx} {B : Bx} {Q : Qt} {T : State} {h h' : Heap} {ps ps' : List Addr} {cs sl pc : Nat} {L : List Slot} {S : List Value}
theorem Sf.nil {vm : Vm} : Sf V vm h [] := fun _ q => nomatch q
theorem Sf.cons {vm : Vm} {x : Addr} (a : x < h.size) (b : Safe V.Z V.EL vm h x) (c : Sf V vm h ps) : Sf V vm h (x :: ps) := fun y q => by
  rcases List.mem_cons.mp q with rfl | q
  · exact ⟨a, b⟩
  · exact c y q
theorem Sf.app {vm : Vm} (c : Sf V vm h ps) (d : Sf V vm h ps') : Sf V vm h (ps ++ ps') := fun y q => (List.mem_append.mp q).elim (c y) (d y)
theorem Sf.sub {vm : Vm} (c : Sf V vm h ps) (d : ∀ x ∈ ps', x ∈ ps) : Sf V vm h ps' := fun y q => c y (d y q)
theorem Sf.go {vm vm1 : Vm} (c : Sf V vm h ps) (A : CHr V.Z V.EL vm h vm1 h') : Sf V vm1 h' ps := fun y q => ⟨Nat.lt_of_lt_of_le (c y q).1 A.2.1, A.safe (c y q).1 (c y q).2⟩
theorem chr0 {Z : State} {vm vm1 : Vm} (q : h.size ≤ h'.size) : CHr Z [] vm h vm1 h' := ⟨(fun _ hp => nomatch hp), q, (fun _ z => by obtain ⟨_, hp, _⟩ := z; exact nomatch hp)⟩
theorem oldWr {Z : State} {a : Addr} {j : Nat} {v : Value} (O : Ext Z.heap h) (W : Wr h h' a j v) (q : Z.heap.size ≤ a) : Ext Z.heap h' := (Old.wr (show Old Z Z.heap.size h from ⟨rfl, O⟩) W q).2
theorem oldKeep {Z : State} {ws : List Addr} (O : Ext Z.heap h) (W : Keep h h' ws) (q : ∀ x ∈ ws, Z.heap.size ≤ x) : Ext Z.heap h' := (Old.keep (show Old Z Z.heap.size h from ⟨rfl, O⟩) W q).2
theorem Ext.trans' {h1 h2 h3 : Heap} (A : Ext h1 h2) (C : Ext h2 h3) : Ext h1 h3 := ⟨Nat.le_trans A.1 C.1, fun a c q => C.2 a c (A.2 a c q)⟩
/-- a step that moves nothing of the heap -/
theorem Run.plain {pc' : Nat} {L' : List Slot} {S' : List Value} (r : Run V K B Q h ps cs sl pc' L' S')
    (st : ∀ T t, At T K.m K.c K.below → K.p.tables.exec = Jvm.exec → K.c.code = B.code → Steps K.p.tables K.e K.below (T.setTop (mkF K.m pc' L'.toArray S')) t → Steps K.p.tables K.e K.below (T.setTop (mkF K.m pc L.toArray S)) t) :
    Run V K B Q h ps cs sl pc L S := fun T hT => by
  obtain ⟨t, o, h1, h2⟩ := r T hT
  obtain ⟨locs, vm0, k0, X, -, -, -, -, -, -, -, -, -, -, -, G⟩ := hT
  exact ⟨t, o, st T t X.here G.1 G.2.1 h1, h2⟩
theorem Run.more {cs' sl' : Nat} (hc : cs ≤ cs') (hs : sl ≤ sl') (r : Run V K B Q h ps cs' sl' pc L S) : Run V K B Q h ps cs sl pc L S := fun T hT => by
  obtain ⟨locs, vm0, k0, X, rest⟩ := hT
  exact r T ⟨locs, vm0, k0, X.more hc hs, rest⟩
theorem Run.less (hs : ∀ x ∈ ps', x ∈ ps) (r : Run V K B Q h ps' cs sl pc L S) : Run V K B Q h ps cs sl pc L S := fun T hT => by
  obtain ⟨locs, vm0, k0, X, e1, e2, e3, e4, e5, e6, e7, e8, e9, e10⟩ := hT
  exact r T ⟨locs, vm0, k0, X, e1, e2, e3, e4, e5, e6, e7, e8, e9.sub hs, e10⟩
/-- what the walk knows at any time: all that stood at the case's start stands -/
theorem Run.old (r : Ext V.Z.heap h → Run V K B Q h ps cs sl pc L S) : Run V K B Q h ps cs sl pc L S := fun T hT => by
  have O : Ext V.Z.heap h := by obtain ⟨locs, vm0, k0, X, e1, e2, e3, e4, e5, e6, e7, e8, e9, e10⟩ := hT; exact e7
  exact r O T hT
/-- a step that moves the state but not the heap -/
theorem Run.still {pc' : Nat} {L' : List Slot} {S' : List Value} (r : Run V K B Q h ps cs sl pc' L' S')
    (st : ∀ T locs vm0, Stand K.p V.l K.e B.R (K.s.setVm vm0) K.m K.args K.below K.meth K.c T locs cs sl → T.heap = h → V.Z.Warmed39 (K.s.setVm vm0).vm → (K.s.setVm vm0).vm.findClass B.y.cls = some K.m.cls → Ext V.Z.heap h → Fx K B →
      ∃ T', Stand K.p V.l K.e B.R (K.s.setVm vm0) K.m K.args K.below K.meth K.c T' locs cs sl ∧ T'.heap = h ∧ ∀ t, Steps K.p.tables K.e K.below (T'.setTop (mkF K.m pc' L'.toArray S')) t → Steps K.p.tables K.e K.below (T.setTop (mkF K.m pc L.toArray S)) t) :
    Run V K B Q h ps cs sl pc L S := fun T hT => by
  obtain ⟨locs, vm0, k0, X, e1, e2, e3, e4, e5, e6, e7, e8, e9, e10, e11, e12⟩ := hT
  obtain ⟨T', X', e', st'⟩ := st T locs vm0 X e1 e2 e3 e7 e12
  obtain ⟨t, o, h1, h2⟩ := r T' ⟨locs, vm0, k0, X', e', e2, e3, e4, e5, e6, e7, e8, e9, e10, e11, e12⟩
  exact ⟨t, o, st' _ h1, h2⟩
/-- a step that writes one slot of a cell that the case has made -/
theorem Run.write {pc' : Nat} {L' : List Slot} {S' : List Value} {a : Addr} {v : Value} {j : Nat} (ha : V.Z.heap.size ≤ a) (hs : ∀ vm, V.Z.vm.Alike vm → Sf V vm h ps → Safe V.Z V.EL vm h a) (r : ∀ h', Wr h h' a j v → Run V K B Q h' ps cs sl pc' L' S')
    (st : ∀ T locs vm0, Stand K.p V.l K.e B.R (K.s.setVm vm0) K.m K.args K.below K.meth K.c T locs cs sl → T.heap = h → V.Z.Warmed39 (K.s.setVm vm0).vm → (K.s.setVm vm0).vm.findClass B.y.cls = some K.m.cls → Fx K B →
      ∃ T' h', Stand K.p V.l K.e B.R (K.s.setVm vm0) K.m K.args K.below K.meth K.c T' (locs ++ [⟨a, j⟩]) cs sl ∧ T'.heap = h' ∧ Wr h h' a j v ∧ ∀ t, Steps K.p.tables K.e K.below (T'.setTop (mkF K.m pc' L'.toArray S')) t → Steps K.p.tables K.e K.below (T.setTop (mkF K.m pc L.toArray S)) t) :
    Run V K B Q h ps cs sl pc L S := fun T hT => by
  obtain ⟨locs, vm0, k0, X, e1, e2, e3, e4, e5, e6, e7, e8, e9, e10, e11, e12⟩ := hT
  obtain ⟨T', h', X', e', W, st'⟩ := st T locs vm0 X e1 e2 e3 e12
  have C := CHr.wr W (hs vm0 e2.alike e9) e8.1
  obtain ⟨t, o, h1, h2⟩ := r h' W T' ⟨_, vm0, k0, X', e', e2, e3, e4, by rw [W.size]; exact e5, Fr.snoc X' e6 ha, oldWr e7 W ha, e8.trans C, e9.go C, e10, e11, e12⟩
  exact ⟨t, o, st' _ h1, h2⟩
/-- a step that makes one cell -/
theorem Run.make {pc' nn : Nat} {L' : List Slot} {S' : Addr → List Value} {P : Heap → Prop} (r : ∀ h', Ext h h' → V.Z.heap.size ≤ h.size → P h' → Run V K B Q h' (h.size :: ps) (cs + 1) (sl + nn) pc' L' (S' h.size))
    (st : ∀ T locs vm0, Stand K.p V.l K.e B.R (K.s.setVm vm0) K.m K.args K.below K.meth K.c T locs cs sl → T.heap = h → V.Z.Warmed39 (K.s.setVm vm0).vm → (K.s.setVm vm0).vm.findClass B.y.cls = some K.m.cls → Fx K B →
      ∃ T' h', Stand K.p V.l K.e B.R (K.s.setVm vm0) K.m K.args K.below K.meth K.c T' locs (cs + 1) (sl + nn) ∧ T'.heap = h' ∧ Ext h h' ∧ h.size < h'.size ∧ P h' ∧ ∀ t, Steps K.p.tables K.e K.below (T'.setTop (mkF K.m pc' L'.toArray (S' h.size))) t → Steps K.p.tables K.e K.below (T.setTop (mkF K.m pc L.toArray S)) t) :
    Run V K B Q h ps cs sl pc L S := fun T hT => by
  obtain ⟨locs, vm0, k0, X, e1, e2, e3, e4, e5, e6, e7, e8, e9, e10, e11, e12⟩ := hT
  obtain ⟨T', h', X', e', E, hlt, hP, st'⟩ := st T locs vm0 X e1 e2 e3 e12
  have C := CHr.ext E e8.1
  obtain ⟨t, o, h1, h2⟩ := r h' E e7.1 hP T' ⟨_, vm0, k0, X', e', e2, e3, e4, Nat.le_trans e5 E.1, e6, Ext.trans' e7 E, e8.trans C, Sf.cons hlt ((Safe.new (Nat.le_refl _)).ext E e8.1) (e9.go C), e10, e11, e12⟩
  exact ⟨t, o, st' _ h1, h2⟩
/-- the way into a body -/
theorem Con.of {as' : Array Value} (hp : plainFor B.y = true) (hl : argsToLocals as' B.ml = L.toArray) (body : ∀ K : Cx, Run V K B Q h ps 0 0 0 L []) : Con V B as' h ps Q := fun hE hO hN ws => by
  refine MetFree.of_bodySF hp hisR ?_
  intro p e s m args below meth c s₁ Bd hml0 hP hK
  obtain ⟨rfl, hZ, hh, hC, hS⟩ := hP
  have X0 : Stand p V.l e B.R s m args below meth c s₁ [] 0 0 := Stand.of_body Bd
  have e0 : s₁.heap = h := by rw [← hh, Bd.state]; rfl
  have hn := (name_of_methodNamed Bd.named Bd.method).1
  obtain ⟨t, o, h1, h2, h3, h4⟩ := body (p, e, s, m, args, below, meth, c) s₁
    ⟨[], s.vm, h.size, X0, e0, hZ, findClass_of_methodNamed Bd.named, (State.WarmedH.refl s).since _, Nat.le_refl _, Fr.nil _, hO, (by show CHr V.Z V.EL s.vm s.heap s.vm h; rw [hh]; exact CHr.refl hC), hS, hE, fun q => ⟨rfl, hN q⟩, Bd.exec, Bd.bytes, hml0, Bd.returns, BodyLoose.notSynchronized Bd, hn⟩
  refine ⟨t, o, ?_, h2, h3, h4⟩
  have q : entryFrame m args B.ml = mkF m 0 L.toArray [] := by simp only [entryFrame, mkF, hl]
  rw [q]; exact h1
/-- a contract pays a call -/
theorem Pays.con {B' : Bx} {as' : Array Value} {len W : Nat} (C : Con V B' as' h ps Q) (wc : (Jvm.Cond.code B'.y B'.code B'.ml B'.ret).before V.a0 V.Z = true) (wz : (Jvm.Cond.initialized B'.y.cls).before V.a0 V.Z = true)
    (hf : B'.R.frames + 1 ≤ B.R.frames) (hl : W + (B'.ml + 11) + B'.R.locals ≤ B.R.locals) : Pays V K B B'.y len W as' h ps B'.R.cells B'.R.slots Q := fun vm0 hZ hC hS hE hO hN => by
  have hM := C hE hO hN []
  refine ⟨fun hn => ?_, fun hn => ?_⟩
  · refine Back.of_free (bytes := B'.code) (maxL := B'.ml) (ret := B'.ret) (E := fun _ first o t L k n => k = B'.R.cells ∧ n = B'.R.slots ∧ ∃ v ps', o = .returned v ∧ Fr V.Z.heap.size L ∧ Q v t.heap ps' ∧ Ext V.Z.heap t.heap ∧ first.heap.size ≤ t.heap.size ∧ Sf V t.vm t.heap ps') hM hf hl
      (fun m meth c A a Y hp => have hU : V.Z.Warmed39 A.U.vm := wtrans (s := K.s.setVm vm0) hZ Y.warmed
        ⟨by show (Cond.and _ .tt).before a A.U = true; rw [Cond.before_and, mv hU wc]; rfl, mv hU wc, mv hU wz, hp.2.2.1, hp.2.2.2⟩)
      (fun m meth c A a g mk Y hp => ?_) (fun _ _ _ _ _ _ _ _ _ => trivial)
      (fun _ _ _ _ ⟨v, L, ps', h1, h2, h3, h4, h5, h6, h7, h8⟩ => ⟨L, _, _, h8 hn, rfl, rfl, v, ps', h1, h2, h3, h4, h6.2.1, h5⟩)
      (fun m meth c A a g mk v t L k n Y hp _ _ ⟨e1, e2, v', ps', e3, e4, e5, e6, e7, e8⟩ => ?_)
    · have A' := CHv.at Y hZ hE hC
      exact ⟨hp.1, wtrans (s := K.s.setVm vm0) hZ Y.warmed, hp.2.1, A'.1, hS.go A'⟩
    · cases e3; subst e1 e2
      have q : h.size ≤ t.heap.size := by rw [← hp.2.1]; exact e7
      exact ⟨L, ps', e4, e5, e6, q, e8, rfl, rfl, rfl, by rw [hN hn]; exact chr0 q⟩
  · refine BackS.of_freeW (bytes := B'.code) (maxL := B'.ml) (ret := B'.ret) (E := fun _ first o t L k n => k = B'.R.cells ∧ n = B'.R.slots ∧ (∃ v ps', o = .returned v ∧ Fr V.Z.heap.size L ∧ Q v t.heap ps' ∧ Ext V.Z.heap t.heap ∧ Sf V t.vm t.heap ps') ∧ CHr V.Z V.EL first.vm first.heap t.vm t.heap) hM hf hl
      (fun m meth c A a Y hp => have hU : V.Z.Warmed39 A.U.vm := wtrans (s := K.s.setVm vm0) hZ Y.warmed
        ⟨by show (Cond.and _ .tt).before a A.U = true; rw [Cond.before_and, mv hU wc]; rfl, mv hU wc, mv hU wz, hp.2.2.1, hp.2.2.2⟩)
      (fun m meth c A a g mk Y hp => ?_) (fun _ _ _ _ _ _ _ _ _ => trivial)
      (fun _ _ _ _ ⟨v, L, ps', h1, h2, h3, h4, h5, h6, h7, h8⟩ => ⟨L, _, _, h7, rfl, rfl, ⟨v, ps', h1, h2, h3, h4, h5⟩, h6⟩)
      (fun m meth c A a g mk v t L k n Y hp _ _ ⟨e1, e2, ⟨v', ps', e3, e4, e5, e6, e8⟩, e7⟩ => ?_)
    · have A' := CHv.at Y hZ hE hC
      exact ⟨hp.1, wtrans (s := K.s.setVm vm0) hZ Y.warmed, hp.2.1, A'.1, hS.go A'⟩
    · cases e3; subst e1 e2
      have q : CHr V.Z V.EL A.U.vm h t.vm t.heap := by rw [← hp.2.1]; exact e7
      exact ⟨L, ps', e4, e5, e6, q.2.1, e8, rfl, rfl, rfl, (CHv.at Y hZ hE hC).trans q⟩
/-- a law that says what it keeps (the pasted laws of the JDK) pays a call -/
theorem Pays.back {y : MethodName} {as' : Array Value} {len W nc ns : Nat} {ws : List Addr} {Q0 : Option Value → Heap → List Loc → Prop}
    (hB : ∀ s : State, V.Z.Warmed39 s.vm → Back V.l B.R K.p K.e K.below s K.args y len W (fun A a => a = as' ∧ A.U.heap = h ∧ A.cells + nc ≤ B.R.cells ∧ A.slots + ns ≤ B.R.slots) (fun A _ v C => ∃ L, Q0 v C.U.heap L ∧ C.locs = A.locs ++ L ∧ C.cells = A.cells + nc ∧ C.slots = A.slots + ns))
    (hQ : ∀ v h' L, Q0 v h' L → Fr V.Z.heap.size L ∧ Keep h h' ws ∧ Q v h' []) (hws : ∀ x ∈ ws, V.Z.heap.size ≤ x) (hsafe : ∀ vm, V.Z.vm.Alike vm → Sf V vm h ps → ∀ x ∈ ws, Safe V.Z V.EL vm h x) :
    Pays V K B y len W as' h ps nc ns Q := fun vm0 hZ hC hS hE hO hN => by
  have hb0 := hB (K.s.setVm vm0) hZ
  have post : ∀ m meth c A a v C, Stand K.p V.l K.e B.R (K.s.setVm vm0) m K.args K.below meth c (Pt.U C) (Pt.locs C) (Pt.cells C) (Pt.slots C) → (∃ L, Q0 v C.U.heap L ∧ C.locs = (Pt.locs A) ++ L ∧ C.cells = (Pt.cells A) + nc ∧ C.slots = (Pt.slots A) + ns) → PostP V vm0 h nc ns Q A a v C := fun m meth c A a v C Y ⟨L, q, r1, r2, r3⟩ => by
    obtain ⟨q1, q2, q3⟩ := hQ _ _ _ q
    have C1 := CHr.keep q2 (hsafe vm0 hZ.alike hS) hC
    exact ⟨L, [], q1, q3, oldKeep hO q2 hws, q2.1, Sf.nil, r1, r2, r3, C1.trans (CHv.at Y hZ hE C1.1)⟩
  refine ⟨fun hn => ?_, fun hn => ?_⟩
  · intro m meth c A g ig mk a X hg hsize hdg hW hn' hp
    obtain ⟨v, C, X', hpost, hst⟩ := hb0 m meth c A g ig mk a X hg hsize hdg hW hn' hp
    exact ⟨v, C, X', post m meth c A a v C X' hpost, hst⟩
  · intro m meth c A g ig mk a X hg hsize hdg hW hn' hp
    obtain ⟨v, C, X', hpost, hst⟩ := hb0 m meth c A g ig mk a X hg hsize hdg hW hn' hp
    have hpo := post m meth c A a v C X' hpost
    refine ⟨v, C, X'.retabled X'.warmed.wide, X'.warmed.since _, ?_, hpo, hst⟩
    rw [hp.2.1]; obtain ⟨L, ps1, -, -, -, q, -⟩ := hpo; exact q
/-- behind a call: the invocation stands again -/
theorem Run.behind {vm0 : Vm} {k0 : Nat} {locs : List Loc} {nc ns : Nat} {Q' : Qt} {v : Option Value} {vm₁ : Vm} {C : Pt} {pc' : Nat} {L' : List Slot} {S' : List Value} {a : Array Value}
    (e2 : V.Z.Warmed39 vm0) (e3 : vm0.findClass B.y.cls = some K.m.cls) (e4 : K.s.Since vm0 k0) (e5 : k0 ≤ h.size) (e6 : Fr V.Z.heap.size locs) (e8 : CHr V.Z V.EL K.s.vm K.s.heap vm0 h) (e9 : Sf V vm0 h ps) (e10 : EW V.Z V.a0 V.EL) (e11 : V.nar = true → vm0 = K.s.vm ∧ V.EL = []) (e12 : Fx K B)
    (X : (V.nar = true ∧ Stand K.p V.l K.e B.R (K.s.setVm vm0) K.m K.args K.below K.meth K.c C.U C.locs C.cells C.slots) ∨ (V.nar = false ∧ Stand K.p V.l K.e B.R ((K.s.setVm vm0).setVm C.U.vm) K.m K.args K.below K.meth K.c C.U C.locs C.cells C.slots ∧ (K.s.setVm vm0).Since C.U.vm C.U.heap.size))
    (hp : PostP V vm0 h nc ns Q' ⟨T.setVm vm₁, locs, cs, sl⟩ a v C) (r : ∀ v h' ps', Q' v h' ps' → h.size ≤ h'.size → Run V K B Q h' (ps' ++ ps) (cs + nc) (sl + ns) pc' L' (v.toList ++ S')) :
    ∃ t o, Steps K.p.tables K.e K.below (C.U.setTop (mkF K.m pc' L'.toArray (v.toList ++ S'))) t ∧ t.status = .running ∧ Ended t K.below o ∧ Fnl V K B Q o t := by
  obtain ⟨Lc, ps', q1, q2, q3, q4, q5, q6, q7, q8, q9⟩ := hp
  rcases X with ⟨hn, X⟩ | ⟨hn, X, hS⟩
  · refine r v _ ps' q2 q4 C.U ⟨_, vm0, k0, by rw [← q7, ← q8]; exact X, rfl, e2, e3, e4, Nat.le_trans e5 q4, by rw [q6]; exact e6.app q1, q3, ?_, ?_, e10, e11, e12⟩
    · rw [(e11 hn).2]; exact chr0 (Nat.le_trans e8.2.1 q4)
    · intro x hx
      refine ⟨?_, by rw [(e11 hn).2]; exact fun ⟨_, hp, _⟩ => nomatch hp⟩
      rcases List.mem_append.mp hx with hx | hx
      · exact (q5 x hx).1
      · exact Nat.lt_of_lt_of_le (e9 x hx).1 q4
  · obtain ⟨X1, S1, W1, F1⟩ := rebS (Z := V.Z) (own := B.y.cls) e4 e5 X hS q4 e2 e3
    exact r v _ ps' q2 q4 C.U ⟨_, C.U.vm, _, by rw [← q7, ← q8]; exact X1, rfl, W1, F1, S1, Nat.le_refl _, by rw [q6]; exact e6.app q1, q3, e8.trans q9, q5.app (e9.go q9), e10, fun q => absurd (hn.symm.trans q) (by decide), e12⟩
end Basics
end Jvm.Own
namespace Jvm.Own
open Jvm Jvm.ClassFile Sem Op Lib Jvm.Free Jvm.Stand Jvm.LawKit Jvm.RoadKit Bundle
section Rules
variable {V : Vw} {K : Cx} {B : Bx} {Q : Qt} {T : State} {h h' : Heap} {ps ps' : List Addr} {cs sl pc : Nat} {L : List Slot} {S : List Value}
theorem r_iload {k : Nat} {v : Int32} (pc' : Nat) (hp : pc + 2 = pc') (hd : decode B.code pc = .ok (.iload k, 2)) (hl : L[k]? = some (.val (.int v))) (r : Run V K B Q h ps cs sl pc' L (.int v :: S)) : Run V K B Q h ps cs sl pc L (S) := by
  subst hp; exact r.plain fun T t hA hx hc st => XS.iload hA hx rfl (hb hc hd) (by show L.toArray[_]? = _; rw [List.getElem?_toArray]; exact hl) st
theorem r_iloadN {k : Fin 4} {v : Int32} (pc' : Nat) (hp : pc + 1 = pc') (hd : decode B.code pc = .ok (.iload_n k, 1)) (hl : L[k.val]? = some (.val (.int v))) (r : Run V K B Q h ps cs sl pc' L (.int v :: S)) : Run V K B Q h ps cs sl pc L (S) := by
  subst hp; exact r.plain fun T t hA hx hc st => XS.iloadN hA hx rfl (hb hc hd) (by show L.toArray[_]? = _; rw [List.getElem?_toArray]; exact hl) st
theorem r_istore {k : Nat} {x : Int32} (L' : List Slot) (pc' : Nat) (hp : pc + 2 = pc') (hd : decode B.code pc = .ok (.istore k, 2)) (hl : storeLocals L.toArray k (.int x) = some L'.toArray) (r : Run V K B Q h ps cs sl pc' L' (S)) : Run V K B Q h ps cs sl pc L (.int x :: S) := by
  subst hp; exact r.plain fun T t hA hx hc st => XS.istore hA hx rfl (hb hc hd) rfl hl st
theorem r_istoreN {k : Fin 4} {x : Int32} (L' : List Slot) (pc' : Nat) (hp : pc + 1 = pc') (hd : decode B.code pc = .ok (.istore_n k, 1)) (hl : storeLocals L.toArray k.val (.int x) = some L'.toArray) (r : Run V K B Q h ps cs sl pc' L' (S)) : Run V K B Q h ps cs sl pc L (.int x :: S) := by
  subst hp; exact r.plain fun T t hA hx hc st => XS.istoreN hA hx rfl (hb hc hd) rfl hl st
theorem r_lload {k : Nat} {v : Int64} (pc' : Nat) (hp : pc + 2 = pc') (hd : decode B.code pc = .ok (.lload k, 2)) (hl : L[k]? = some (.val (.long v))) (r : Run V K B Q h ps cs sl pc' L (.long v :: S)) : Run V K B Q h ps cs sl pc L (S) := by
  subst hp; exact r.plain fun T t hA hx hc st => XS.lload hA hx rfl (hb hc hd) (by show L.toArray[_]? = _; rw [List.getElem?_toArray]; exact hl) st
theorem r_lloadN {k : Fin 4} {v : Int64} (pc' : Nat) (hp : pc + 1 = pc') (hd : decode B.code pc = .ok (.lload_n k, 1)) (hl : L[k.val]? = some (.val (.long v))) (r : Run V K B Q h ps cs sl pc' L (.long v :: S)) : Run V K B Q h ps cs sl pc L (S) := by
  subst hp; exact r.plain fun T t hA hx hc st => XS.lloadN hA hx rfl (hb hc hd) (by show L.toArray[_]? = _; rw [List.getElem?_toArray]; exact hl) st
theorem r_lstore {k : Nat} {x : Int64} (L' : List Slot) (pc' : Nat) (hp : pc + 2 = pc') (hd : decode B.code pc = .ok (.lstore k, 2)) (hl : storeLocals L.toArray k (.long x) = some L'.toArray) (r : Run V K B Q h ps cs sl pc' L' (S)) : Run V K B Q h ps cs sl pc L (.long x :: S) := by
  subst hp; exact r.plain fun T t hA hx hc st => XS.lstore hA hx rfl (hb hc hd) rfl hl st
theorem r_lstoreN {k : Fin 4} {x : Int64} (L' : List Slot) (pc' : Nat) (hp : pc + 1 = pc') (hd : decode B.code pc = .ok (.lstore_n k, 1)) (hl : storeLocals L.toArray k.val (.long x) = some L'.toArray) (r : Run V K B Q h ps cs sl pc' L' (S)) : Run V K B Q h ps cs sl pc L (.long x :: S) := by
  subst hp; exact r.plain fun T t hA hx hc st => XS.lstoreN hA hx rfl (hb hc hd) rfl hl st
theorem r_aload {k : Nat} {v : Value} (pc' : Nat) (hp : pc + 2 = pc') (hd : decode B.code pc = .ok (.aload k, 2)) (hl : L[k]? = some (.val v)) (hv : v.isRef = true) (r : Run V K B Q h ps cs sl pc' L (v :: S)) : Run V K B Q h ps cs sl pc L (S) := by
  subst hp; exact r.plain fun T t hA hx hc st => XS.aload hA hx rfl (hb hc hd) (by show L.toArray[_]? = _; rw [List.getElem?_toArray]; exact hl) hv st
theorem r_aloadN {k : Fin 4} {v : Value} (pc' : Nat) (hp : pc + 1 = pc') (hd : decode B.code pc = .ok (.aload_n k, 1)) (hl : L[k.val]? = some (.val v)) (hv : v.isRef = true) (r : Run V K B Q h ps cs sl pc' L (v :: S)) : Run V K B Q h ps cs sl pc L (S) := by
  subst hp; exact r.plain fun T t hA hx hc st => XS.aloadN hA hx rfl (hb hc hd) (by show L.toArray[_]? = _; rw [List.getElem?_toArray]; exact hl) hv st
theorem r_astore {k : Nat} {x : Value} (L' : List Slot) (pc' : Nat) (hp : pc + 2 = pc') (hd : decode B.code pc = .ok (.astore k, 2)) (hv : x.isRef = true) (hl : storeLocals L.toArray k x = some L'.toArray) (r : Run V K B Q h ps cs sl pc' L' (S)) : Run V K B Q h ps cs sl pc L (x :: S) := by
  subst hp; exact r.plain fun T t hA hx hc st => XS.astore hA hx rfl (hb hc hd) rfl hv hl st
theorem r_astoreN {k : Fin 4} {x : Value} (L' : List Slot) (pc' : Nat) (hp : pc + 1 = pc') (hd : decode B.code pc = .ok (.astore_n k, 1)) (hv : x.isRef = true) (hl : storeLocals L.toArray k.val x = some L'.toArray) (r : Run V K B Q h ps cs sl pc' L' (S)) : Run V K B Q h ps cs sl pc L (x :: S) := by
  subst hp; exact r.plain fun T t hA hx hc st => XS.astoreN hA hx rfl (hb hc hd) rfl hv hl st
theorem r_iconst {i : Int} (v : Int32) (pc' : Nat) (hp : pc + 1 = pc') (hd : decode B.code pc = .ok (.iconst i, 1)) (hv : Int32.ofInt i = v) (r : Run V K B Q h ps cs sl pc' L (.int v :: S)) : Run V K B Q h ps cs sl pc L (S) := by
  subst hp; exact r.plain fun T t hA hx hc st => XT.iconstV hA hx rfl v (hb hc hd) hv st
theorem r_bipush {i : Int} (v : Int32) (pc' : Nat) (hp : pc + 2 = pc') (hd : decode B.code pc = .ok (.bipush i, 2)) (hv : (Int8.ofInt i).toInt32 = v) (r : Run V K B Q h ps cs sl pc' L (.int v :: S)) : Run V K B Q h ps cs sl pc L (S) := by
  subst hp; exact r.plain fun T t hA hx hc st => XT.bipushV hA hx rfl v (hb hc hd) hv st
theorem r_sipush {i : Int} (v : Int32) (pc' : Nat) (hp : pc + 3 = pc') (hd : decode B.code pc = .ok (.sipush i, 3)) (hv : (Int16.ofInt i).toInt32 = v) (r : Run V K B Q h ps cs sl pc' L (.int v :: S)) : Run V K B Q h ps cs sl pc L (S) := by
  subst hp; exact r.plain fun T t hA hx hc st => XT.sipushV hA hx rfl v (hb hc hd) hv st
theorem r_lconst {k : Fin 2} (v : Int64) (pc' : Nat) (hp : pc + 1 = pc') (hd : decode B.code pc = .ok (.lconst k, 1)) (hv : Int64.ofNat k = v) (r : Run V K B Q h ps cs sl pc' L (.long v :: S)) : Run V K B Q h ps cs sl pc L (S) := by
  subst hp; exact r.plain fun T t hA hx hc st => XT.lconstV hA hx rfl v (hb hc hd) hv st
theorem r_null  (pc' : Nat) (hp : pc + 1 = pc') (hd : decode B.code pc = .ok (.aconst_null, 1)) (r : Run V K B Q h ps cs sl pc' L (.null :: S)) : Run V K B Q h ps cs sl pc L (S) := by
  subst hp; exact r.plain fun T t hA hx hc st => XS.aconstNull hA hx rfl (hb hc hd) st
theorem r_iadd {x y : Int32} (pc' : Nat) (hp : pc + 1 = pc') (hd : decode B.code pc = .ok (.iadd, 1)) (r : Run V K B Q h ps cs sl pc' L (.int (x + y) :: S)) : Run V K B Q h ps cs sl pc L (.int y :: .int x :: S) := by
  subst hp; exact r.plain fun T t hA hx hc st => XS.iadd hA hx rfl (hb hc hd) rfl st
theorem r_isub {x y : Int32} (pc' : Nat) (hp : pc + 1 = pc') (hd : decode B.code pc = .ok (.isub, 1)) (r : Run V K B Q h ps cs sl pc' L (.int (x - y) :: S)) : Run V K B Q h ps cs sl pc L (.int y :: .int x :: S) := by
  subst hp; exact r.plain fun T t hA hx hc st => XS.isub hA hx rfl (hb hc hd) rfl st
theorem r_imul {x y : Int32} (pc' : Nat) (hp : pc + 1 = pc') (hd : decode B.code pc = .ok (.imul, 1)) (r : Run V K B Q h ps cs sl pc' L (.int (x * y) :: S)) : Run V K B Q h ps cs sl pc L (.int y :: .int x :: S) := by
  subst hp; exact r.plain fun T t hA hx hc st => XS.imul hA hx rfl (hb hc hd) rfl st
theorem r_iand {x y : Int32} (pc' : Nat) (hp : pc + 1 = pc') (hd : decode B.code pc = .ok (.iand, 1)) (r : Run V K B Q h ps cs sl pc' L (.int (x &&& y) :: S)) : Run V K B Q h ps cs sl pc L (.int y :: .int x :: S) := by
  subst hp; exact r.plain fun T t hA hx hc st => XS.iand hA hx rfl (hb hc hd) rfl st
theorem r_ior {x y : Int32} (pc' : Nat) (hp : pc + 1 = pc') (hd : decode B.code pc = .ok (.ior, 1)) (r : Run V K B Q h ps cs sl pc' L (.int (x ||| y) :: S)) : Run V K B Q h ps cs sl pc L (.int y :: .int x :: S) := by
  subst hp; exact r.plain fun T t hA hx hc st => XS.ior hA hx rfl (hb hc hd) rfl st
theorem r_ixor {x y : Int32} (pc' : Nat) (hp : pc + 1 = pc') (hd : decode B.code pc = .ok (.ixor, 1)) (r : Run V K B Q h ps cs sl pc' L (.int (x ^^^ y) :: S)) : Run V K B Q h ps cs sl pc L (.int y :: .int x :: S) := by
  subst hp; exact r.plain fun T t hA hx hc st => XS.ixor hA hx rfl (hb hc hd) rfl st
theorem r_ishl {x y : Int32} (pc' : Nat) (hp : pc + 1 = pc') (hd : decode B.code pc = .ok (.ishl, 1)) (r : Run V K B Q h ps cs sl pc' L (.int (x <<< (y &&& 31)) :: S)) : Run V K B Q h ps cs sl pc L (.int y :: .int x :: S) := by
  subst hp; exact r.plain fun T t hA hx hc st => XS.ishl hA hx rfl (hb hc hd) rfl st
theorem r_ishr {x y : Int32} (pc' : Nat) (hp : pc + 1 = pc') (hd : decode B.code pc = .ok (.ishr, 1)) (r : Run V K B Q h ps cs sl pc' L (.int (x >>> (y &&& 31)) :: S)) : Run V K B Q h ps cs sl pc L (.int y :: .int x :: S) := by
  subst hp; exact r.plain fun T t hA hx hc st => XS.ishr hA hx rfl (hb hc hd) rfl st
theorem r_iushr {x y : Int32} (pc' : Nat) (hp : pc + 1 = pc') (hd : decode B.code pc = .ok (.iushr, 1)) (r : Run V K B Q h ps cs sl pc' L (.int (ushr x y) :: S)) : Run V K B Q h ps cs sl pc L (.int y :: .int x :: S) := by
  subst hp; exact r.plain fun T t hA hx hc st => XS.iushr hA hx rfl (hb hc hd) rfl st
theorem r_ladd {x y : Int64} (pc' : Nat) (hp : pc + 1 = pc') (hd : decode B.code pc = .ok (.ladd, 1)) (r : Run V K B Q h ps cs sl pc' L (.long (x + y) :: S)) : Run V K B Q h ps cs sl pc L (.long y :: .long x :: S) := by
  subst hp; exact r.plain fun T t hA hx hc st => XS.ladd hA hx rfl (hb hc hd) rfl st
theorem r_lsub {x y : Int64} (pc' : Nat) (hp : pc + 1 = pc') (hd : decode B.code pc = .ok (.lsub, 1)) (r : Run V K B Q h ps cs sl pc' L (.long (x - y) :: S)) : Run V K B Q h ps cs sl pc L (.long y :: .long x :: S) := by
  subst hp; exact r.plain fun T t hA hx hc st => XS.lsub hA hx rfl (hb hc hd) rfl st
theorem r_lmul {x y : Int64} (pc' : Nat) (hp : pc + 1 = pc') (hd : decode B.code pc = .ok (.lmul, 1)) (r : Run V K B Q h ps cs sl pc' L (.long (x * y) :: S)) : Run V K B Q h ps cs sl pc L (.long y :: .long x :: S) := by
  subst hp; exact r.plain fun T t hA hx hc st => XS.lmul hA hx rfl (hb hc hd) rfl st
theorem r_land {x y : Int64} (pc' : Nat) (hp : pc + 1 = pc') (hd : decode B.code pc = .ok (.land, 1)) (r : Run V K B Q h ps cs sl pc' L (.long (x &&& y) :: S)) : Run V K B Q h ps cs sl pc L (.long y :: .long x :: S) := by
  subst hp; exact r.plain fun T t hA hx hc st => XS.land hA hx rfl (hb hc hd) rfl st
theorem r_lor {x y : Int64} (pc' : Nat) (hp : pc + 1 = pc') (hd : decode B.code pc = .ok (.lor, 1)) (r : Run V K B Q h ps cs sl pc' L (.long (x ||| y) :: S)) : Run V K B Q h ps cs sl pc L (.long y :: .long x :: S) := by
  subst hp; exact r.plain fun T t hA hx hc st => XS.lor hA hx rfl (hb hc hd) rfl st
theorem r_lxor {x y : Int64} (pc' : Nat) (hp : pc + 1 = pc') (hd : decode B.code pc = .ok (.lxor, 1)) (r : Run V K B Q h ps cs sl pc' L (.long (x ^^^ y) :: S)) : Run V K B Q h ps cs sl pc L (.long y :: .long x :: S) := by
  subst hp; exact r.plain fun T t hA hx hc st => XS.lxor hA hx rfl (hb hc hd) rfl st
theorem r_lshl {x : Int64} {y : Int32} (pc' : Nat) (hp : pc + 1 = pc') (hd : decode B.code pc = .ok (.lshl, 1)) (r : Run V K B Q h ps cs sl pc' L (.long (x <<< (y &&& 0x3f).toInt64) :: S)) : Run V K B Q h ps cs sl pc L (.int y :: .long x :: S) := by
  subst hp; exact r.plain fun T t hA hx hc st => XS.lshl hA hx rfl (hb hc hd) rfl st
theorem r_lshr {x : Int64} {y : Int32} (pc' : Nat) (hp : pc + 1 = pc') (hd : decode B.code pc = .ok (.lshr, 1)) (r : Run V K B Q h ps cs sl pc' L (.long (x >>> (y &&& 0x3f).toInt64) :: S)) : Run V K B Q h ps cs sl pc L (.int y :: .long x :: S) := by
  subst hp; exact r.plain fun T t hA hx hc st => XS.lshr hA hx rfl (hb hc hd) rfl st
theorem r_lushr {x : Int64} {y : Int32} (pc' : Nat) (hp : pc + 1 = pc') (hd : decode B.code pc = .ok (.lushr, 1)) (r : Run V K B Q h ps cs sl pc' L (.long (ushrL x y) :: S)) : Run V K B Q h ps cs sl pc L (.int y :: .long x :: S) := by
  subst hp; exact r.plain fun T t hA hx hc st => XS.lushr hA hx rfl (hb hc hd) rfl st
theorem r_idiv {x y : Int32} (pc' : Nat) (hp : pc + 1 = pc') (hd : decode B.code pc = .ok (.idiv, 1)) (hy : y ≠ 0) (r : Run V K B Q h ps cs sl pc' L (.int (x / y) :: S)) : Run V K B Q h ps cs sl pc L (.int y :: .int x :: S) := by
  subst hp; exact r.plain fun T t hA hx hc st => XS.idiv hA hx rfl (hb hc hd) rfl hy st
theorem r_irem {x y : Int32} (pc' : Nat) (hp : pc + 1 = pc') (hd : decode B.code pc = .ok (.irem, 1)) (hy : y ≠ 0) (r : Run V K B Q h ps cs sl pc' L (.int (x % y) :: S)) : Run V K B Q h ps cs sl pc L (.int y :: .int x :: S) := by
  subst hp; exact r.plain fun T t hA hx hc st => XS.irem hA hx rfl (hb hc hd) rfl hy (by rw [irem_eq_mod]; exact st)
theorem r_ineg {x : Int32} (pc' : Nat) (hp : pc + 1 = pc') (hd : decode B.code pc = .ok (.ineg, 1)) (r : Run V K B Q h ps cs sl pc' L (.int (-x) :: S)) : Run V K B Q h ps cs sl pc L (.int x :: S) := by
  subst hp; exact r.plain fun T t hA hx hc st => XS.ineg hA hx rfl (hb hc hd) rfl st
theorem r_lneg {x : Int64} (pc' : Nat) (hp : pc + 1 = pc') (hd : decode B.code pc = .ok (.lneg, 1)) (r : Run V K B Q h ps cs sl pc' L (.long (-x) :: S)) : Run V K B Q h ps cs sl pc L (.long x :: S) := by
  subst hp; exact r.plain fun T t hA hx hc st => XS.lneg hA hx rfl (hb hc hd) rfl st
theorem r_lcmp {x y : Int64} (pc' : Nat) (hp : pc + 1 = pc') (hd : decode B.code pc = .ok (.lcmp, 1)) (r : Run V K B Q h ps cs sl pc' L (.int (XT.cmpL x y) :: S)) : Run V K B Q h ps cs sl pc L (.long y :: .long x :: S) := by
  subst hp; exact r.plain fun T t hA hx hc st => XT.lcmp hA hx rfl (hb hc hd) rfl st
theorem r_i2l {x : Int32} (pc' : Nat) (hp : pc + 1 = pc') (hd : decode B.code pc = .ok (.i2l, 1)) (r : Run V K B Q h ps cs sl pc' L (.long x.toInt64 :: S)) : Run V K B Q h ps cs sl pc L (.int x :: S) := by
  subst hp; exact r.plain fun T t hA hx hc st => XS.i2l hA hx rfl (hb hc hd) rfl st
theorem r_i2b {x : Int32} (pc' : Nat) (hp : pc + 1 = pc') (hd : decode B.code pc = .ok (.i2b, 1)) (r : Run V K B Q h ps cs sl pc' L (.int x.toInt8.toInt32 :: S)) : Run V K B Q h ps cs sl pc L (.int x :: S) := by
  subst hp; exact r.plain fun T t hA hx hc st => XS.i2b hA hx rfl (hb hc hd) rfl st
theorem r_i2c {x : Int32} (pc' : Nat) (hp : pc + 1 = pc') (hd : decode B.code pc = .ok (.i2c, 1)) (r : Run V K B Q h ps cs sl pc' L (.int x.toUInt32.toUInt16.toUInt32.toInt32 :: S)) : Run V K B Q h ps cs sl pc L (.int x :: S) := by
  subst hp; exact r.plain fun T t hA hx hc st => XS.i2c hA hx rfl (hb hc hd) rfl st
theorem r_i2s {x : Int32} (pc' : Nat) (hp : pc + 1 = pc') (hd : decode B.code pc = .ok (.i2s, 1)) (r : Run V K B Q h ps cs sl pc' L (.int x.toInt16.toInt32 :: S)) : Run V K B Q h ps cs sl pc L (.int x :: S) := by
  subst hp; exact r.plain fun T t hA hx hc st => XS.i2s hA hx rfl (hb hc hd) rfl st
theorem r_l2i {x : Int64} (pc' : Nat) (hp : pc + 1 = pc') (hd : decode B.code pc = .ok (.l2i, 1)) (r : Run V K B Q h ps cs sl pc' L (.int x.toInt32 :: S)) : Run V K B Q h ps cs sl pc L (.long x :: S) := by
  subst hp; exact r.plain fun T t hA hx hc st => XS.l2i hA hx rfl (hb hc hd) rfl st
theorem r_dup {x : Value} (pc' : Nat) (hp : pc + 1 = pc') (hd : decode B.code pc = .ok (.dup, 1)) (hv : x.category = 1) (r : Run V K B Q h ps cs sl pc' L (x :: x :: S)) : Run V K B Q h ps cs sl pc L (x :: S) := by
  subst hp; exact r.plain fun T t hA hx hc st => XS.dup hA hx rfl (hb hc hd) rfl hv st
theorem r_pop {x : Value} (pc' : Nat) (hp : pc + 1 = pc') (hd : decode B.code pc = .ok (.pop, 1)) (hv : x.category = 1) (r : Run V K B Q h ps cs sl pc' L (S)) : Run V K B Q h ps cs sl pc L (x :: S) := by
  subst hp; exact r.plain fun T t hA hx hc st => XS.pop hA hx rfl (hb hc hd) rfl hv st
theorem r_dup2 {x y : Value} (pc' : Nat) (hp : pc + 1 = pc') (hd : decode B.code pc = .ok (.dup2, 1)) (hv : x.category = 1) (hv' : y.category = 1) (r : Run V K B Q h ps cs sl pc' L (x :: y :: x :: y :: S)) : Run V K B Q h ps cs sl pc L (x :: y :: S) := by
  subst hp; exact r.plain fun T t hA hx hc st => XT.dup2 hA hx rfl (hb hc hd) rfl hv hv' st
theorem r_dup2L {x : Int64} (pc' : Nat) (hp : pc + 1 = pc') (hd : decode B.code pc = .ok (.dup2, 1)) (r : Run V K B Q h ps cs sl pc' L (.long x :: .long x :: S)) : Run V K B Q h ps cs sl pc L (.long x :: S) := by
  subst hp; exact r.plain fun T t hA hx hc st => XT.dup2L hA hx rfl (hb hc hd) rfl st
theorem r_dupX1 {x y : Value} (pc' : Nat) (hp : pc + 1 = pc') (hd : decode B.code pc = .ok (.dup_x1, 1)) (hv : x.category = 1) (hv' : y.category = 1) (r : Run V K B Q h ps cs sl pc' L (x :: y :: x :: S)) : Run V K B Q h ps cs sl pc L (x :: y :: S) := by
  subst hp; exact r.plain fun T t hA hx hc st => XT.dupX1 hA hx rfl (hb hc hd) rfl hv hv' st
theorem r_iinc {k : Nat} {cst : Int} {x : Int32} (v : Int32) (L' : List Slot) (pc' : Nat) (hp : pc + 3 = pc') (hd : decode B.code pc = .ok (.iinc k cst, 3)) (hv : Int32.ofInt cst = v) (hl : L[k]? = some (.val (.int x))) (hl' : storeLocals L.toArray k (.int (x + v)) = some L'.toArray) (r : Run V K B Q h ps cs sl pc' L' (S)) : Run V K B Q h ps cs sl pc L (S) := by
  subst hp; exact r.plain fun T t hA hx hc st => XT.iincV hA hx rfl v (hb hc hd) hv (by show L.toArray[_]? = _; rw [List.getElem?_toArray]; exact hl) hl' st
theorem r_goto {o : Int} (pc' : Nat) (hd : decode B.code pc = .ok (.goto o, 3)) (ho : 0 ≤ (pc : Int) + o) (hp : ((pc : Int) + o).toNat = pc') (r : Run V K B Q h ps cs sl pc' L S) : Run V K B Q h ps cs sl pc L S :=
  r.plain fun T t hA hx hc st => XS.goto hA hx rfl rfl (hb hc hd) ho hp st
theorem r_icmp_eq {o : Int} {x y : Int32} (pc' pc'' : Nat) (hd : decode B.code pc = .ok (.if_icmp .eq o, 3)) (ho : 0 ≤ (pc : Int) + o) (hp : ((pc : Int) + o).toNat = pc') (hp' : pc + 3 = pc'') (t : x = y → Run V K B Q h ps cs sl pc' L S) (f : ¬ x = y → Run V K B Q h ps cs sl pc'' L S) : Run V K B Q h ps cs sl pc L (.int y :: .int x :: S) := by
  subst hp'
  by_cases q : x = y
  · exact (t q).plain fun T t hA hx hc st => XS.icmpYes hA hx rfl rfl (hb hc hd) rfl (XT.ii_eq_t q) ho hp st
  · exact (f q).plain fun T t hA hx hc st => XS.icmpNo hA hx rfl (hb hc hd) rfl (XT.ii_eq_f q) st
theorem r_if_eq {o : Int} {x : Int32} (pc' pc'' : Nat) (hd : decode B.code pc = .ok (.ifCond .eq o, 3)) (ho : 0 ≤ (pc : Int) + o) (hp : ((pc : Int) + o).toNat = pc') (hp' : pc + 3 = pc'') (t : x = 0 → Run V K B Q h ps cs sl pc' L S) (f : ¬ x = 0 → Run V K B Q h ps cs sl pc'' L S) : Run V K B Q h ps cs sl pc L (.int x :: S) := by
  subst hp'
  by_cases q : x = 0
  · exact (t q).plain fun T t hA hx hc st => XS.ifYes hA hx rfl rfl (hb hc hd) rfl (XT.i0_eq_t q) ho hp st
  · exact (f q).plain fun T t hA hx hc st => XS.ifNo hA hx rfl (hb hc hd) rfl (XT.i0_eq_f q) st
theorem r_lcmp_eq {o : Int} {x y : Int64} (pc1 pc' pc'' : Nat) (hd0 : decode B.code pc = .ok (.lcmp, 1)) (h1 : pc + 1 = pc1) (hd : decode B.code pc1 = .ok (.ifCond .eq o, 3)) (ho : 0 ≤ (pc1 : Int) + o) (hp : ((pc1 : Int) + o).toNat = pc') (hp' : pc1 + 3 = pc'') (t : x = y → Run V K B Q h ps cs sl pc' L S) (f : ¬ x = y → Run V K B Q h ps cs sl pc'' L S) : Run V K B Q h ps cs sl pc L (.long y :: .long x :: S) := by
  refine r_lcmp _ h1 hd0 ?_
  subst hp'
  by_cases q : x = y
  · exact (t q).plain fun T t hA hx hc st => XS.ifYes hA hx rfl rfl (hb hc hd) rfl (XT.ll_eq_t q) ho hp st
  · exact (f q).plain fun T t hA hx hc st => XS.ifNo hA hx rfl (hb hc hd) rfl (XT.ll_eq_f q) st
theorem r_icmp_ne {o : Int} {x y : Int32} (pc' pc'' : Nat) (hd : decode B.code pc = .ok (.if_icmp .ne o, 3)) (ho : 0 ≤ (pc : Int) + o) (hp : ((pc : Int) + o).toNat = pc') (hp' : pc + 3 = pc'') (t : ¬ x = y → Run V K B Q h ps cs sl pc' L S) (f : x = y → Run V K B Q h ps cs sl pc'' L S) : Run V K B Q h ps cs sl pc L (.int y :: .int x :: S) := by
  subst hp'
  by_cases q : ¬ x = y
  · exact (t q).plain fun T t hA hx hc st => XS.icmpYes hA hx rfl rfl (hb hc hd) rfl (XT.ii_ne_t q) ho hp st
  · exact (f (Decidable.not_not.mp q)).plain fun T t hA hx hc st => XS.icmpNo hA hx rfl (hb hc hd) rfl (XT.ii_ne_f (Decidable.not_not.mp q)) st
theorem r_if_ne {o : Int} {x : Int32} (pc' pc'' : Nat) (hd : decode B.code pc = .ok (.ifCond .ne o, 3)) (ho : 0 ≤ (pc : Int) + o) (hp : ((pc : Int) + o).toNat = pc') (hp' : pc + 3 = pc'') (t : ¬ x = 0 → Run V K B Q h ps cs sl pc' L S) (f : x = 0 → Run V K B Q h ps cs sl pc'' L S) : Run V K B Q h ps cs sl pc L (.int x :: S) := by
  subst hp'
  by_cases q : ¬ x = 0
  · exact (t q).plain fun T t hA hx hc st => XS.ifYes hA hx rfl rfl (hb hc hd) rfl (XT.i0_ne_t q) ho hp st
  · exact (f (Decidable.not_not.mp q)).plain fun T t hA hx hc st => XS.ifNo hA hx rfl (hb hc hd) rfl (XT.i0_ne_f (Decidable.not_not.mp q)) st
theorem r_lcmp_ne {o : Int} {x y : Int64} (pc1 pc' pc'' : Nat) (hd0 : decode B.code pc = .ok (.lcmp, 1)) (h1 : pc + 1 = pc1) (hd : decode B.code pc1 = .ok (.ifCond .ne o, 3)) (ho : 0 ≤ (pc1 : Int) + o) (hp : ((pc1 : Int) + o).toNat = pc') (hp' : pc1 + 3 = pc'') (t : ¬ x = y → Run V K B Q h ps cs sl pc' L S) (f : x = y → Run V K B Q h ps cs sl pc'' L S) : Run V K B Q h ps cs sl pc L (.long y :: .long x :: S) := by
  refine r_lcmp _ h1 hd0 ?_
  subst hp'
  by_cases q : ¬ x = y
  · exact (t q).plain fun T t hA hx hc st => XS.ifYes hA hx rfl rfl (hb hc hd) rfl (XT.ll_ne_t q) ho hp st
  · exact (f (Decidable.not_not.mp q)).plain fun T t hA hx hc st => XS.ifNo hA hx rfl (hb hc hd) rfl (XT.ll_ne_f (Decidable.not_not.mp q)) st
theorem r_icmp_lt {o : Int} {x y : Int32} (pc' pc'' : Nat) (hd : decode B.code pc = .ok (.if_icmp .lt o, 3)) (ho : 0 ≤ (pc : Int) + o) (hp : ((pc : Int) + o).toNat = pc') (hp' : pc + 3 = pc'') (t : x < y → Run V K B Q h ps cs sl pc' L S) (f : ¬ x < y → Run V K B Q h ps cs sl pc'' L S) : Run V K B Q h ps cs sl pc L (.int y :: .int x :: S) := by
  subst hp'
  by_cases q : x < y
  · exact (t q).plain fun T t hA hx hc st => XS.icmpYes hA hx rfl rfl (hb hc hd) rfl (XT.ii_lt_t q) ho hp st
  · exact (f q).plain fun T t hA hx hc st => XS.icmpNo hA hx rfl (hb hc hd) rfl (XT.ii_lt_f q) st
theorem r_if_lt {o : Int} {x : Int32} (pc' pc'' : Nat) (hd : decode B.code pc = .ok (.ifCond .lt o, 3)) (ho : 0 ≤ (pc : Int) + o) (hp : ((pc : Int) + o).toNat = pc') (hp' : pc + 3 = pc'') (t : x < 0 → Run V K B Q h ps cs sl pc' L S) (f : ¬ x < 0 → Run V K B Q h ps cs sl pc'' L S) : Run V K B Q h ps cs sl pc L (.int x :: S) := by
  subst hp'
  by_cases q : x < 0
  · exact (t q).plain fun T t hA hx hc st => XS.ifYes hA hx rfl rfl (hb hc hd) rfl (XT.i0_lt_t q) ho hp st
  · exact (f q).plain fun T t hA hx hc st => XS.ifNo hA hx rfl (hb hc hd) rfl (XT.i0_lt_f q) st
theorem r_lcmp_lt {o : Int} {x y : Int64} (pc1 pc' pc'' : Nat) (hd0 : decode B.code pc = .ok (.lcmp, 1)) (h1 : pc + 1 = pc1) (hd : decode B.code pc1 = .ok (.ifCond .lt o, 3)) (ho : 0 ≤ (pc1 : Int) + o) (hp : ((pc1 : Int) + o).toNat = pc') (hp' : pc1 + 3 = pc'') (t : x < y → Run V K B Q h ps cs sl pc' L S) (f : ¬ x < y → Run V K B Q h ps cs sl pc'' L S) : Run V K B Q h ps cs sl pc L (.long y :: .long x :: S) := by
  refine r_lcmp _ h1 hd0 ?_
  subst hp'
  by_cases q : x < y
  · exact (t q).plain fun T t hA hx hc st => XS.ifYes hA hx rfl rfl (hb hc hd) rfl (XT.ll_lt_t q) ho hp st
  · exact (f q).plain fun T t hA hx hc st => XS.ifNo hA hx rfl (hb hc hd) rfl (XT.ll_lt_f q) st
theorem r_icmp_ge {o : Int} {x y : Int32} (pc' pc'' : Nat) (hd : decode B.code pc = .ok (.if_icmp .ge o, 3)) (ho : 0 ≤ (pc : Int) + o) (hp : ((pc : Int) + o).toNat = pc') (hp' : pc + 3 = pc'') (t : ¬ x < y → Run V K B Q h ps cs sl pc' L S) (f : x < y → Run V K B Q h ps cs sl pc'' L S) : Run V K B Q h ps cs sl pc L (.int y :: .int x :: S) := by
  subst hp'
  by_cases q : ¬ x < y
  · exact (t q).plain fun T t hA hx hc st => XS.icmpYes hA hx rfl rfl (hb hc hd) rfl (XT.ii_ge_t q) ho hp st
  · exact (f (Decidable.not_not.mp q)).plain fun T t hA hx hc st => XS.icmpNo hA hx rfl (hb hc hd) rfl (XT.ii_ge_f (Decidable.not_not.mp q)) st
theorem r_if_ge {o : Int} {x : Int32} (pc' pc'' : Nat) (hd : decode B.code pc = .ok (.ifCond .ge o, 3)) (ho : 0 ≤ (pc : Int) + o) (hp : ((pc : Int) + o).toNat = pc') (hp' : pc + 3 = pc'') (t : ¬ x < 0 → Run V K B Q h ps cs sl pc' L S) (f : x < 0 → Run V K B Q h ps cs sl pc'' L S) : Run V K B Q h ps cs sl pc L (.int x :: S) := by
  subst hp'
  by_cases q : ¬ x < 0
  · exact (t q).plain fun T t hA hx hc st => XS.ifYes hA hx rfl rfl (hb hc hd) rfl (XT.i0_ge_t q) ho hp st
  · exact (f (Decidable.not_not.mp q)).plain fun T t hA hx hc st => XS.ifNo hA hx rfl (hb hc hd) rfl (XT.i0_ge_f (Decidable.not_not.mp q)) st
theorem r_lcmp_ge {o : Int} {x y : Int64} (pc1 pc' pc'' : Nat) (hd0 : decode B.code pc = .ok (.lcmp, 1)) (h1 : pc + 1 = pc1) (hd : decode B.code pc1 = .ok (.ifCond .ge o, 3)) (ho : 0 ≤ (pc1 : Int) + o) (hp : ((pc1 : Int) + o).toNat = pc') (hp' : pc1 + 3 = pc'') (t : ¬ x < y → Run V K B Q h ps cs sl pc' L S) (f : x < y → Run V K B Q h ps cs sl pc'' L S) : Run V K B Q h ps cs sl pc L (.long y :: .long x :: S) := by
  refine r_lcmp _ h1 hd0 ?_
  subst hp'
  by_cases q : ¬ x < y
  · exact (t q).plain fun T t hA hx hc st => XS.ifYes hA hx rfl rfl (hb hc hd) rfl (XT.ll_ge_t q) ho hp st
  · exact (f (Decidable.not_not.mp q)).plain fun T t hA hx hc st => XS.ifNo hA hx rfl (hb hc hd) rfl (XT.ll_ge_f (Decidable.not_not.mp q)) st
theorem r_icmp_gt {o : Int} {x y : Int32} (pc' pc'' : Nat) (hd : decode B.code pc = .ok (.if_icmp .gt o, 3)) (ho : 0 ≤ (pc : Int) + o) (hp : ((pc : Int) + o).toNat = pc') (hp' : pc + 3 = pc'') (t : y < x → Run V K B Q h ps cs sl pc' L S) (f : ¬ y < x → Run V K B Q h ps cs sl pc'' L S) : Run V K B Q h ps cs sl pc L (.int y :: .int x :: S) := by
  subst hp'
  by_cases q : y < x
  · exact (t q).plain fun T t hA hx hc st => XS.icmpYes hA hx rfl rfl (hb hc hd) rfl (XT.ii_gt_t q) ho hp st
  · exact (f q).plain fun T t hA hx hc st => XS.icmpNo hA hx rfl (hb hc hd) rfl (XT.ii_gt_f q) st
theorem r_if_gt {o : Int} {x : Int32} (pc' pc'' : Nat) (hd : decode B.code pc = .ok (.ifCond .gt o, 3)) (ho : 0 ≤ (pc : Int) + o) (hp : ((pc : Int) + o).toNat = pc') (hp' : pc + 3 = pc'') (t : 0 < x → Run V K B Q h ps cs sl pc' L S) (f : ¬ 0 < x → Run V K B Q h ps cs sl pc'' L S) : Run V K B Q h ps cs sl pc L (.int x :: S) := by
  subst hp'
  by_cases q : 0 < x
  · exact (t q).plain fun T t hA hx hc st => XS.ifYes hA hx rfl rfl (hb hc hd) rfl (XT.i0_gt_t q) ho hp st
  · exact (f q).plain fun T t hA hx hc st => XS.ifNo hA hx rfl (hb hc hd) rfl (XT.i0_gt_f q) st
theorem r_lcmp_gt {o : Int} {x y : Int64} (pc1 pc' pc'' : Nat) (hd0 : decode B.code pc = .ok (.lcmp, 1)) (h1 : pc + 1 = pc1) (hd : decode B.code pc1 = .ok (.ifCond .gt o, 3)) (ho : 0 ≤ (pc1 : Int) + o) (hp : ((pc1 : Int) + o).toNat = pc') (hp' : pc1 + 3 = pc'') (t : y < x → Run V K B Q h ps cs sl pc' L S) (f : ¬ y < x → Run V K B Q h ps cs sl pc'' L S) : Run V K B Q h ps cs sl pc L (.long y :: .long x :: S) := by
  refine r_lcmp _ h1 hd0 ?_
  subst hp'
  by_cases q : y < x
  · exact (t q).plain fun T t hA hx hc st => XS.ifYes hA hx rfl rfl (hb hc hd) rfl (XT.ll_gt_t q) ho hp st
  · exact (f q).plain fun T t hA hx hc st => XS.ifNo hA hx rfl (hb hc hd) rfl (XT.ll_gt_f q) st
theorem r_icmp_le {o : Int} {x y : Int32} (pc' pc'' : Nat) (hd : decode B.code pc = .ok (.if_icmp .le o, 3)) (ho : 0 ≤ (pc : Int) + o) (hp : ((pc : Int) + o).toNat = pc') (hp' : pc + 3 = pc'') (t : ¬ y < x → Run V K B Q h ps cs sl pc' L S) (f : y < x → Run V K B Q h ps cs sl pc'' L S) : Run V K B Q h ps cs sl pc L (.int y :: .int x :: S) := by
  subst hp'
  by_cases q : ¬ y < x
  · exact (t q).plain fun T t hA hx hc st => XS.icmpYes hA hx rfl rfl (hb hc hd) rfl (XT.ii_le_t q) ho hp st
  · exact (f (Decidable.not_not.mp q)).plain fun T t hA hx hc st => XS.icmpNo hA hx rfl (hb hc hd) rfl (XT.ii_le_f (Decidable.not_not.mp q)) st
theorem r_if_le {o : Int} {x : Int32} (pc' pc'' : Nat) (hd : decode B.code pc = .ok (.ifCond .le o, 3)) (ho : 0 ≤ (pc : Int) + o) (hp : ((pc : Int) + o).toNat = pc') (hp' : pc + 3 = pc'') (t : ¬ 0 < x → Run V K B Q h ps cs sl pc' L S) (f : 0 < x → Run V K B Q h ps cs sl pc'' L S) : Run V K B Q h ps cs sl pc L (.int x :: S) := by
  subst hp'
  by_cases q : ¬ 0 < x
  · exact (t q).plain fun T t hA hx hc st => XS.ifYes hA hx rfl rfl (hb hc hd) rfl (XT.i0_le_t q) ho hp st
  · exact (f (Decidable.not_not.mp q)).plain fun T t hA hx hc st => XS.ifNo hA hx rfl (hb hc hd) rfl (XT.i0_le_f (Decidable.not_not.mp q)) st
theorem r_lcmp_le {o : Int} {x y : Int64} (pc1 pc' pc'' : Nat) (hd0 : decode B.code pc = .ok (.lcmp, 1)) (h1 : pc + 1 = pc1) (hd : decode B.code pc1 = .ok (.ifCond .le o, 3)) (ho : 0 ≤ (pc1 : Int) + o) (hp : ((pc1 : Int) + o).toNat = pc') (hp' : pc1 + 3 = pc'') (t : ¬ y < x → Run V K B Q h ps cs sl pc' L S) (f : y < x → Run V K B Q h ps cs sl pc'' L S) : Run V K B Q h ps cs sl pc L (.long y :: .long x :: S) := by
  refine r_lcmp _ h1 hd0 ?_
  subst hp'
  by_cases q : ¬ y < x
  · exact (t q).plain fun T t hA hx hc st => XS.ifYes hA hx rfl rfl (hb hc hd) rfl (XT.ll_le_t q) ho hp st
  · exact (f (Decidable.not_not.mp q)).plain fun T t hA hx hc st => XS.ifNo hA hx rfl (hb hc hd) rfl (XT.ll_le_f (Decidable.not_not.mp q)) st
theorem r_ifnull_t {o : Int} (pc' : Nat) (hd : decode B.code pc = .ok (.ifnull o, 3)) (ho : 0 ≤ (pc : Int) + o) (hp : ((pc : Int) + o).toNat = pc') (r : Run V K B Q h ps cs sl pc' L S) : Run V K B Q h ps cs sl pc L (.null :: S) :=
  r.plain fun T t hA hx hc st => XS.ifnullYes hA hx rfl rfl (hb hc hd) rfl ho hp st
theorem r_ifnull_f {o : Int} {b : Nat} (pc' : Nat) (hp : pc + 3 = pc') (hd : decode B.code pc = .ok (.ifnull o, 3)) (r : Run V K B Q h ps cs sl pc' L S) : Run V K B Q h ps cs sl pc L (.ref b :: S) := by
  subst hp; exact r.plain fun T t hA hx hc st => XS.ifnullNo hA hx rfl (hb hc hd) rfl st
theorem r_ifnonnull_t {o : Int} {b : Nat} (pc' : Nat) (hd : decode B.code pc = .ok (.ifnonnull o, 3)) (ho : 0 ≤ (pc : Int) + o) (hp : ((pc : Int) + o).toNat = pc') (r : Run V K B Q h ps cs sl pc' L S) : Run V K B Q h ps cs sl pc L (.ref b :: S) :=
  r.plain fun T t hA hx hc st => XS.ifnonnullYes hA hx rfl rfl (hb hc hd) rfl ho hp st
theorem r_ifnonnull_f {o : Int} (pc' : Nat) (hp : pc + 3 = pc') (hd : decode B.code pc = .ok (.ifnonnull o, 3)) (r : Run V K B Q h ps cs sl pc' L S) : Run V K B Q h ps cs sl pc L (.null :: S) := by
  subst hp; exact r.plain fun T t hA hx hc st => XS.ifnonnullNo hA hx rfl (hb hc hd) rfl st
theorem r_acmp_eq {o : Int} {x y : Value} (pc' pc'' : Nat) (hd : decode B.code pc = .ok (.if_acmp .eq o, 3)) (hx1 : x.isRef = true) (hy1 : y.isRef = true) (ho : 0 ≤ (pc : Int) + o) (hp : ((pc : Int) + o).toNat = pc') (hp' : pc + 3 = pc'') (t : x = y → Run V K B Q h ps cs sl pc' L S) (f : ¬ x = y → Run V K B Q h ps cs sl pc'' L S) : Run V K B Q h ps cs sl pc L (y :: x :: S) := by
  subst hp'
  by_cases q : x = y
  · exact (t q).plain fun T t hA hx hc st => XT.acmpYes hA hx rfl rfl (hb hc hd) rfl hx1 hy1 (XT.aa_eq_t q) ho hp st
  · exact (f q).plain fun T t hA hx hc st => XT.acmpNo hA hx rfl (hb hc hd) rfl hx1 hy1 (XT.aa_eq_f q) st
theorem r_acmp_ne {o : Int} {x y : Value} (pc' pc'' : Nat) (hd : decode B.code pc = .ok (.if_acmp .ne o, 3)) (hx1 : x.isRef = true) (hy1 : y.isRef = true) (ho : 0 ≤ (pc : Int) + o) (hp : ((pc : Int) + o).toNat = pc') (hp' : pc + 3 = pc'') (t : ¬ x = y → Run V K B Q h ps cs sl pc' L S) (f : x = y → Run V K B Q h ps cs sl pc'' L S) : Run V K B Q h ps cs sl pc L (y :: x :: S) := by
  subst hp'
  by_cases q : ¬ x = y
  · exact (t q).plain fun T t hA hx hc st => XT.acmpYes hA hx rfl rfl (hb hc hd) rfl hx1 hy1 (XT.aa_ne_t q) ho hp st
  · exact (f (Decidable.not_not.mp q)).plain fun T t hA hx hc st => XT.acmpNo hA hx rfl (hb hc hd) rfl hx1 hy1 (XT.aa_ne_f (Decidable.not_not.mp q)) st
theorem r_ldcI {i : Nat} {v : Int32} (pc' : Nat) (hp : pc + 2 = pc') (hd : decode B.code pc = .ok (.ldc i, 2)) (w : (Jvm.Cond.constant B.y.cls i v).before V.a0 V.Z = true) (r : Run V K B Q h ps cs sl pc' L (.int v :: S)) : Run V K B Q h ps cs sl pc L S := by
  subst hp; exact r.still fun T locs vm0 X eT hZ ho O G => ⟨T, X, eT, fun t st => Jvm.Stand.ldcI X G.1 ho (mv hZ w) rfl (hb G.2.1 hd) st⟩
theorem r_ldcWI {i : Nat} {v : Int32} (pc' : Nat) (hp : pc + 3 = pc') (hd : decode B.code pc = .ok (.ldc_w i, 3)) (w : (Jvm.Cond.constant B.y.cls i v).before V.a0 V.Z = true) (r : Run V K B Q h ps cs sl pc' L (.int v :: S)) : Run V K B Q h ps cs sl pc L S := by
  subst hp; exact r.still fun T locs vm0 X eT hZ ho O G => ⟨T, X, eT, fun t st => Jvm.Stand.ldcWI X G.1 ho (mv hZ w) rfl (hb G.2.1 hd) st⟩
theorem r_ldc2J {i : Nat} {v : Int64} (pc' : Nat) (hp : pc + 3 = pc') (hd : decode B.code pc = .ok (.ldc2_w i, 3)) (w : (Jvm.Cond.constantLong B.y.cls i v).before V.a0 V.Z = true) (r : Run V K B Q h ps cs sl pc' L (.long v :: S)) : Run V K B Q h ps cs sl pc L S := by
  subst hp; exact r.still fun T locs vm0 X eT hZ ho O G => ⟨T, X, eT, fun t st => Jvm.Stand.ldc2J X G.1 ho (mv hZ w) rfl (hb G.2.1 hd) st⟩
theorem r_getfield {i : Nat} {O n d : String} {a : Nat} {v : Value} (pc' : Nat) (hp : pc + 3 = pc') (hd : decode B.code pc = .ok (.getfield i, 3)) (w : (Jvm.Cond.fieldLink B.y.cls i O n d).before V.a0 V.Z = true) (F : Fld V.Z h a O n d v) (r : Run V K B Q h ps cs sl pc' L (v :: S)) : Run V K B Q h ps cs sl pc L (.ref a :: S) := by
  subst hp; exact r.still fun T locs vm0 X eT hZ ho O G => getF X G.1 hZ ho (host := "") (Or.inl w) Via.refl eT F (g := mkF K.m pc L.toArray (.ref a :: S)) rfl rfl (hb G.2.1 hd)
theorem r_getstatic {i : Nat} {O n d : String} {v : Value} (pc' : Nat) (hp : pc + 3 = pc') (hd : decode B.code pc = .ok (.getstatic i, 3)) (w : (Jvm.Cond.fieldLink B.y.cls i O n d).before V.a0 V.Z = true) (F : Sta V.Z V.Z.heap O n d v) (r : Run V K B Q h ps cs sl pc' L (v :: S)) : Run V K B Q h ps cs sl pc L S := by
  subst hp; exact r.still fun T locs vm0 X eT hZ ho O G => getS X G.1 hZ ho (host := "") w Via.refl eT (F.ext O) (g := mkF K.m pc L.toArray S) rfl (hb G.2.1 hd)
theorem r_putfield {i kk : Nat} {O n d C : String} {a : Nat} {v old : Value} {ty : FieldType} (pc' : Nat) (hp : pc + 3 = pc') (hd : decode B.code pc = .ok (.putfield i, 3)) (w : (Jvm.Cond.fieldLink B.y.cls i O n d).before V.a0 V.Z = true) (F : Fld V.Z h a O n d old) (E : Exa V.Z h a C)
    (Lw : (Jvm.Cond.lays C O n d).before V.a0 V.Z = true ∨ ((Jvm.Cond.laysFinal C O n d).before V.a0 V.Z = true ∧ B.y.cls = O ∧ B.y.name = "<init>")) (wi : (Jvm.Cond.instantiable C kk).before V.a0 V.Z = true) (hty : parseFieldDescriptor d = some ty) (hn : narrow ty v = v) (hf : fits ty v = true)
    (ha : V.Z.heap.size ≤ a) (hs : C ≠ "java/lang/String" ∧ C ≠ "[B" ∨ a ∈ ps) (r : ∀ h', Wr h h' a (RoadKit.slotOf V.Z O n d) v → Run V K B Q h' ps cs sl pc' L S) : Run V K B Q h ps cs sl pc L (v :: .ref a :: S) := by
  subst hp; exact Run.write ha (fun vm al P => hs.elim (fun q => Safe.exa al E q.1 q.2) (fun q => (P a q).2)) r fun T locs vm0 X eT hZ ho G => putF X G.1 hZ ho (host := "") (Or.inl w) Via.refl eT F E (Lw.imp id fun q => ⟨q.1, q.2.1, G.2.2.2.2.2.trans q.2.2⟩) wi hty hn hf (g := mkF K.m pc L.toArray (v :: .ref a :: S)) rfl rfl (hb G.2.1 hd)
theorem r_new {i n : Nat} {C : String} (pc' : Nat) (hp : pc + 3 = pc') (hd : decode B.code pc = .ok (.new i, 3)) (w : (Jvm.Cond.classLink B.y.cls i C).before V.a0 V.Z = true) (wi : (Jvm.Cond.instantiable C n).before V.a0 V.Z = true) (wz : (Jvm.Cond.initialized C).before V.a0 V.Z = true) (hc : cs + 1 ≤ B.R.cells) (hl : sl + n ≤ B.R.slots)
    (r : ∀ (a : Nat) h', a = h.size → V.Z.heap.size ≤ a → Ext h h' → Exa V.Z h' a C → (∀ {O nm d : String} {ty : FieldType}, RoadKit.Laid V.Z V.a0 C O nm d → parseFieldDescriptor d = some ty → Fld V.Z h' a O nm d (defaultValue ty)) → Run V K B Q h' (a :: ps) (cs + 1) (sl + n) pc' L (.ref a :: S)) : Run V K B Q h ps cs sl pc L S := by
  subst hp; refine Run.make (S' := fun a => .ref a :: S) (P := fun h' => Exa V.Z h' h.size C ∧ ∀ {O nm d : String} {ty : FieldType}, RoadKit.Laid V.Z V.a0 C O nm d → parseFieldDescriptor d = some ty → Fld V.Z h' h.size O nm d (defaultValue ty)) (fun h' E hz q => r _ h' rfl hz E q.1 q.2) fun T locs vm0 X eT hZ ho G => ?_
  obtain ⟨T', h', X', e', E, A, D, -, st⟩ := newO X G.1 hZ ho w wi wz eT (g := mkF K.m pc L.toArray S) rfl (hb G.2.1 hd) hc hl
  exact ⟨T', h', X', e', E, A.lt, ⟨A, D⟩, st⟩
theorem r_newarray {aty : ArrayType} {n : Int32} (cap : Nat) (pc' : Nat) (hp : pc + 2 = pc') (hd : decode B.code pc = .ok (.newarray aty, 2)) (w : (Jvm.Cond.arrayClass (newarray.typeOf aty)).before V.a0 V.Z = true) (hn : ¬ n < 0) (hcap : n.toNatClampNeg ≤ cap) (hbig : cap * 8 ≤ 536870912) (hc : cs + 1 ≤ B.R.cells) (hl : sl + cap ≤ B.R.slots)
    (r : ∀ (a : Nat) h' k, a = h.size → V.Z.heap.size ≤ a → Ext h h' → Arv V.Z h' a k (newarray.typeOf aty) n [] (defaultValue (newarray.typeOf aty)) → Run V K B Q h' (a :: ps) (cs + 1) (sl + cap) pc' L (.ref a :: S)) : Run V K B Q h ps cs sl pc L (.int n :: S) := by
  subst hp; refine Run.make (S' := fun a => .ref a :: S) (P := fun h' => ∃ k, Arv V.Z h' h.size k (newarray.typeOf aty) n [] (defaultValue (newarray.typeOf aty))) (fun h' E hz ⟨k, q⟩ => r _ h' k rfl hz E q) fun T locs vm0 X eT hZ ho G => ?_
  obtain ⟨T', h', cA, X', e', E, A, st⟩ := newP X G.1 hZ w eT (g := mkF K.m pc L.toArray (.int n :: S)) rfl (hb G.2.1 hd) rfl hn hcap hbig hc hl
  exact ⟨T', h', X', e', E, A.lt, ⟨cA, Arv.new A hn⟩, st⟩
theorem r_anewarray {i : Nat} {C : String} {n : Int32} (cap : Nat) (pc' : Nat) (hp : pc + 3 = pc') (hd : decode B.code pc = .ok (.anewarray i, 3)) (w1 : (Jvm.Cond.classLink B.y.cls i C).before V.a0 V.Z = true) (w2 : (Jvm.Cond.arrayOver (.object C)).before V.a0 V.Z = true) (hn : ¬ n < 0) (hcap : n.toNatClampNeg ≤ cap) (hbig : cap * 8 ≤ 536870912) (hc : cs + 1 ≤ B.R.cells) (hl : sl + cap ≤ B.R.slots)
    (r : ∀ (a : Nat) h' k, a = h.size → V.Z.heap.size ≤ a → Ext h h' → Arv V.Z h' a k (.object C) n [] .null → Ovr V.Z k C → Run V K B Q h' (a :: ps) (cs + 1) (sl + cap) pc' L (.ref a :: S)) : Run V K B Q h ps cs sl pc L (.int n :: S) := by
  subst hp; refine Run.make (S' := fun a => .ref a :: S) (P := fun h' => ∃ k, Arv V.Z h' h.size k (.object C) n [] .null ∧ Ovr V.Z k C) (fun h' E hz ⟨k, q, q'⟩ => r _ h' k rfl hz E q q') fun T locs vm0 X eT hZ ho G => ?_
  obtain ⟨T', h', cA, X', e', E, A, O, st⟩ := newR X G.1 hZ ho w1 w2 eT (g := mkF K.m pc L.toArray (.int n :: S)) rfl (hb G.2.1 hd) rfl hn hcap hbig hc hl
  exact ⟨T', h', X', e', E, A.lt, ⟨cA, Arv.new A hn, O⟩, st⟩
theorem r_iaload {a : Nat} {k : ClassId} {z j : Int32} {vs : List Value} {dv v : Value} (pc' : Nat) (hp : pc + 1 = pc') (hd : decode B.code pc = .ok (.iaload, 1)) (A : Arv V.Z h a k .int z vs dv) (hj : ¬ j < 0 ∧ j < z) (hv : vs.getD j.toNatClampNeg dv = v) (r : Run V K B Q h ps cs sl pc' L (v :: S)) : Run V K B Q h ps cs sl pc L (.int j :: .ref a :: S) := by
  subst hp; refine r.still fun T locs vm0 X eT hZ ho O G => ⟨T, X, eT, fun t st => ?_⟩
  obtain ⟨c, A1, q1, S1, N1, H1, G1⟩ := A
  exact X.iaload G.1 (by rw [eT]; exact A1.1) (State.isArrayOf_alike hZ.alike A1.2.1) A1.2.2 (inb_of S1 hj) (H1.at (inb_of S1 hj) hv) (g := mkF K.m pc L.toArray (.int j :: .ref a :: S)) rfl rfl (hb G.2.1 hd) _ st
theorem r_caload {a : Nat} {k : ClassId} {z j : Int32} {vs : List Value} {dv v : Value} (pc' : Nat) (hp : pc + 1 = pc') (hd : decode B.code pc = .ok (.caload, 1)) (A : Arv V.Z h a k .char z vs dv) (hj : ¬ j < 0 ∧ j < z) (hv : vs.getD j.toNatClampNeg dv = v) (r : Run V K B Q h ps cs sl pc' L (v :: S)) : Run V K B Q h ps cs sl pc L (.int j :: .ref a :: S) := by
  subst hp; refine r.still fun T locs vm0 X eT hZ ho O G => ⟨T, X, eT, fun t st => ?_⟩
  obtain ⟨c, A1, q1, S1, N1, H1, G1⟩ := A
  exact X.caload G.1 (by rw [eT]; exact A1.1) (State.isArrayOf_alike hZ.alike A1.2.1) A1.2.2 (inb_of S1 hj) (H1.at (inb_of S1 hj) hv) (g := mkF K.m pc L.toArray (.int j :: .ref a :: S)) rfl rfl (hb G.2.1 hd) _ st
theorem r_baload {a : Nat} {k : ClassId} {z j : Int32} {vs : List Value} {dv v : Value} (pc' : Nat) (hp : pc + 1 = pc') (hd : decode B.code pc = .ok (.baload, 1)) (A : Arv V.Z h a k .byte z vs dv) (hj : ¬ j < 0 ∧ j < z) (hv : vs.getD j.toNatClampNeg dv = v) (r : Run V K B Q h ps cs sl pc' L (v :: S)) : Run V K B Q h ps cs sl pc L (.int j :: .ref a :: S) := by
  subst hp; refine r.still fun T locs vm0 X eT hZ ho O G => ⟨T, X, eT, fun t st => ?_⟩
  obtain ⟨c, A1, q1, S1, N1, H1, G1⟩ := A
  exact X.baloadBytes G.1 (by rw [eT]; exact A1.1) (State.isArrayOf_alike hZ.alike A1.2.1) A1.2.2 (inb_of S1 hj) (H1.at (inb_of S1 hj) hv) (g := mkF K.m pc L.toArray (.int j :: .ref a :: S)) rfl rfl (hb G.2.1 hd) _ st
theorem r_saload {a : Nat} {k : ClassId} {z j : Int32} {vs : List Value} {dv v : Value} (pc' : Nat) (hp : pc + 1 = pc') (hd : decode B.code pc = .ok (.saload, 1)) (A : Arv V.Z h a k .short z vs dv) (hj : ¬ j < 0 ∧ j < z) (hv : vs.getD j.toNatClampNeg dv = v) (r : Run V K B Q h ps cs sl pc' L (v :: S)) : Run V K B Q h ps cs sl pc L (.int j :: .ref a :: S) := by
  subst hp; refine r.still fun T locs vm0 X eT hZ ho O G => ⟨T, X, eT, fun t st => ?_⟩
  obtain ⟨c, A1, q1, S1, N1, H1, G1⟩ := A
  exact X.saload G.1 (by rw [eT]; exact A1.1) (State.isArrayOf_alike hZ.alike A1.2.1) A1.2.2 (inb_of S1 hj) (H1.at (inb_of S1 hj) hv) (g := mkF K.m pc L.toArray (.int j :: .ref a :: S)) rfl rfl (hb G.2.1 hd) _ st
theorem r_laload {a : Nat} {k : ClassId} {z j : Int32} {vs : List Value} {dv v : Value} (pc' : Nat) (hp : pc + 1 = pc') (hd : decode B.code pc = .ok (.laload, 1)) (A : Arv V.Z h a k .long z vs dv) (hj : ¬ j < 0 ∧ j < z) (hv : vs.getD j.toNatClampNeg dv = v) (r : Run V K B Q h ps cs sl pc' L (v :: S)) : Run V K B Q h ps cs sl pc L (.int j :: .ref a :: S) := by
  subst hp; refine r.still fun T locs vm0 X eT hZ ho O G => ⟨T, X, eT, fun t st => ?_⟩
  obtain ⟨c, A1, q1, S1, N1, H1, G1⟩ := A
  exact X.laload G.1 (by rw [eT]; exact A1.1) (State.isArrayOf_alike hZ.alike A1.2.1) A1.2.2 (inb_of S1 hj) (H1.at (inb_of S1 hj) hv) (g := mkF K.m pc L.toArray (.int j :: .ref a :: S)) rfl rfl (hb G.2.1 hd) _ st
theorem r_aaload {a : Nat} {k : ClassId} {ty : FieldType} {z j : Int32} {vs : List Value} {dv v : Value} (pc' : Nat) (hp : pc + 1 = pc') (hd : decode B.code pc = .ok (.aaload, 1)) (A : Arv V.Z h a k ty z vs dv) (hty : ty.isReference = true) (hj : ¬ j < 0 ∧ j < z) (hv : vs.getD j.toNatClampNeg dv = v) (r : Run V K B Q h ps cs sl pc' L (v :: S)) : Run V K B Q h ps cs sl pc L (.int j :: .ref a :: S) := by
  subst hp; refine r.still fun T locs vm0 X eT hZ ho O G => ⟨T, X, eT, fun t st => ?_⟩
  obtain ⟨c, A1, q1, S1, N1, H1, G1⟩ := A
  exact X.aaload G.1 (by rw [eT]; exact A1.1) (State.isArrayOf_alike hZ.alike A1.2.1) hty A1.2.2 (inb_of S1 hj) (H1.at (inb_of S1 hj) hv) (g := mkF K.m pc L.toArray (.int j :: .ref a :: S)) rfl rfl (hb G.2.1 hd) _ st
theorem r_arraylength {a : Nat} {k : ClassId} {ty : FieldType} {z : Int32} {vs : List Value} {dv : Value} (pc' : Nat) (hp : pc + 1 = pc') (hd : decode B.code pc = .ok (.arraylength, 1)) (A : Arv V.Z h a k ty z vs dv) (r : Run V K B Q h ps cs sl pc' L (.int z :: S)) : Run V K B Q h ps cs sl pc L (.ref a :: S) := by
  subst hp; refine r.still fun T locs vm0 X eT hZ ho O G => ⟨T, X, eT, fun t st => ?_⟩
  obtain ⟨c, A1, q1, S1, N1, H1, G1⟩ := A
  exact X.arraylength G.1 (by rw [eT]; exact A1.1) (State.isArrayOf_alike hZ.alike A1.2.1) (g := mkF K.m pc L.toArray (.ref a :: S)) rfl rfl (hb G.2.1 hd) _ (by rw [len_of S1 N1]; exact st)
theorem r_castore {a : Nat} {k : ClassId} {z j x : Int32} {vs : List Value} {dv : Value} (i : Nat) (pc' : Nat) (hp : pc + 1 = pc') (hd : decode B.code pc = .ok (.castore, 1)) (A : Arv V.Z h a k .char z vs dv) (hj : ¬ j < 0 ∧ j < z) (ji : j.toNatClampNeg = i) (hi : i < vs.length) (ha : V.Z.heap.size ≤ a) (x' : Int32) (hx' : nar .char x = x')
    (r : ∀ h', Wr h h' a i (.int x') → Arv V.Z h' a k .char z (vs.set i (.int x')) dv → Run V K B Q h' ps cs sl pc' L S) : Run V K B Q h ps cs sl pc L (.int x :: .int j :: .ref a :: S) := by
  subst hp hx' ji; refine Run.write ha (fun vm al P => Safe.arr al A.choose_spec.1 (by decide)) (fun h' W => r h' W ?_) fun T locs vm0 X eT hZ ho G => ?_
  · obtain ⟨c, A1, q1, S1, N1, H1, G1⟩ := A
    exact Arv.set A1 q1 S1 N1 H1 G1 (fits_nar_char x) W _ rfl hi
  · obtain ⟨c, A1, q1, S1, N1, H1, G1⟩ := A
    exact stC X G.1 hZ eT A1 (inb_of S1 hj) (g := mkF K.m pc L.toArray (.int x :: .int j :: .ref a :: S)) rfl rfl (hb G.2.1 hd)
theorem r_bastore {a : Nat} {k : ClassId} {z j x : Int32} {vs : List Value} {dv : Value} (i : Nat) (pc' : Nat) (hp : pc + 1 = pc') (hd : decode B.code pc = .ok (.bastore, 1)) (A : Arv V.Z h a k .byte z vs dv) (hj : ¬ j < 0 ∧ j < z) (ji : j.toNatClampNeg = i) (hi : i < vs.length) (ha : V.Z.heap.size ≤ a) (hs : a ∈ ps) (x' : Int32) (hx' : x.toInt8.toInt32 = x')
    (r : ∀ h', Wr h h' a i (.int x') → Arv V.Z h' a k .byte z (vs.set i (.int x')) dv → Run V K B Q h' ps cs sl pc' L S) : Run V K B Q h ps cs sl pc L (.int x :: .int j :: .ref a :: S) := by
  subst hp hx' ji; refine Run.write ha (fun vm al P => (P a hs).2) (fun h' W => r h' W ?_) fun T locs vm0 X eT hZ ho G => ?_
  · obtain ⟨c, A1, q1, S1, N1, H1, G1⟩ := A
    exact Arv.set A1 q1 S1 N1 H1 G1 (fits_nar_byte x) W _ rfl hi
  · obtain ⟨c, A1, q1, S1, N1, H1, G1⟩ := A
    exact stB X G.1 hZ eT A1 (inb_of S1 hj) (g := mkF K.m pc L.toArray (.int x :: .int j :: .ref a :: S)) rfl rfl (hb G.2.1 hd)
theorem r_iastore {a : Nat} {k : ClassId} {z j x : Int32} {vs : List Value} {dv : Value} (i : Nat) (pc' : Nat) (hp : pc + 1 = pc') (hd : decode B.code pc = .ok (.iastore, 1)) (A : Arv V.Z h a k .int z vs dv) (hj : ¬ j < 0 ∧ j < z) (ji : j.toNatClampNeg = i) (hi : i < vs.length) (ha : V.Z.heap.size ≤ a) (x' : Int32) (hx' : x = x')
    (r : ∀ h', Wr h h' a i (.int x') → Arv V.Z h' a k .int z (vs.set i (.int x')) dv → Run V K B Q h' ps cs sl pc' L S) : Run V K B Q h ps cs sl pc L (.int x :: .int j :: .ref a :: S) := by
  subst hp hx' ji; refine Run.write ha (fun vm al P => Safe.arr al A.choose_spec.1 (by decide)) (fun h' W => r h' W ?_) fun T locs vm0 X eT hZ ho G => ?_
  · obtain ⟨c, A1, q1, S1, N1, H1, G1⟩ := A
    exact Arv.set A1 q1 S1 N1 H1 G1 (rfl) W _ rfl hi
  · obtain ⟨c, A1, q1, S1, N1, H1, G1⟩ := A
    exact stI X G.1 hZ eT A1 (inb_of S1 hj) (g := mkF K.m pc L.toArray (.int x :: .int j :: .ref a :: S)) rfl rfl (hb G.2.1 hd)
theorem r_aastore {a : Nat} {k : ClassId} {C : String} {z j : Int32} {x : Value} {vs : List Value} {dv : Value} (i : Nat) (pc' : Nat) (hp : pc + 1 = pc') (hd : decode B.code pc = .ok (.aastore, 1)) (A : Arv V.Z h a k (.object C) z vs dv) (F : ∀ c, Arr V.Z h a c (.object C) → c.cls = k → Sto V.Z h a x) (hj : ¬ j < 0 ∧ j < z) (ji : j.toNatClampNeg = i) (hi : i < vs.length) (ha : V.Z.heap.size ≤ a) (hfx : fits (.object C) x = true)
    (r : ∀ h', Wr h h' a i x → Arv V.Z h' a k (.object C) z (vs.set i x) dv → Run V K B Q h' ps cs sl pc' L S) : Run V K B Q h ps cs sl pc L (x :: .int j :: .ref a :: S) := by
  subst hp ji; refine Run.write ha (fun vm al P => Safe.arr al A.choose_spec.1 (by simp)) (fun h' W => r h' W ?_) fun T locs vm0 X eT hZ ho G => ?_
  · obtain ⟨c, A1, q1, S1, N1, H1, G1⟩ := A
    exact Arv.set A1 q1 S1 N1 H1 G1 hfx W _ rfl hi
  · obtain ⟨c, A1, q1, S1, N1, H1, G1⟩ := A
    exact stR X G.1 hZ eT A1 (inb_of S1 hj) rfl (F c A1 q1) (g := mkF K.m pc L.toArray (x :: .int j :: .ref a :: S)) rfl rfl (hb G.2.1 hd)
theorem r_instY {i : Nat} {C : String} {a : Nat} (pc' : Nat) (hp : pc + 3 = pc') (hd : decode B.code pc = .ok (.instanceof i, 3)) (w : (Jvm.Cond.classLink B.y.cls i C).before V.a0 V.Z = true) (F : Ins V.Z h a C true) (r : Run V K B Q h ps cs sl pc' L (.int 1 :: S)) : Run V K B Q h ps cs sl pc L (.ref a :: S) := by
  subst hp; exact r.still fun T locs vm0 X eT hZ ho O G => instY X G.1 hZ ho w eT F (g := mkF K.m pc L.toArray (.ref a :: S)) rfl rfl (hb G.2.1 hd)
theorem r_instNo {i : Nat} {C D : String} {a : Nat} (pc' : Nat) (hp : pc + 3 = pc') (hd : decode B.code pc = .ok (.instanceof i, 3)) (w : (Jvm.Cond.classLink B.y.cls i D).before V.a0 V.Z = true) (E : Exa V.Z h a C) (F : ∃ c t, V.Z.vm.findClass C = some c ∧ V.Z.vm.findClass D = some t ∧ V.Z.vm.assignable c t = false) (r : Run V K B Q h ps cs sl pc' L (.int 0 :: S)) : Run V K B Q h ps cs sl pc L (.ref a :: S) := by
  subst hp; exact r.still fun T locs vm0 X eT hZ ho O G => instNo X G.1 hZ ho w eT E F (g := mkF K.m pc L.toArray (.ref a :: S)) rfl rfl (hb G.2.1 hd)
theorem r_cast {i : Nat} {C : String} {a : Nat} (pc' : Nat) (hp : pc + 3 = pc') (hd : decode B.code pc = .ok (.checkcast i, 3)) (w : (Jvm.Cond.classLink B.y.cls i C).before V.a0 V.Z = true) (F : Ins V.Z h a C true) (r : Run V K B Q h ps cs sl pc' L (.ref a :: S)) : Run V K B Q h ps cs sl pc L (.ref a :: S) := by
  subst hp; exact r.still fun T locs vm0 X eT hZ ho O G => castY X G.1 hZ ho w eT F (g := mkF K.m pc L.toArray (.ref a :: S)) rfl rfl (hb G.2.1 hd)
theorem r_initO {i : Nat} {a : Nat} (W : Nat) (pc' : Nat) (hp : pc + 3 = pc') (hd : decode B.code pc = .ok (.invokespecial i, 3)) (w1 : (Jvm.Cond.methodLink B.y.cls i Lib.objectInit).before V.a0 V.Z = true) (w2 : (Jvm.Cond.instanceMethod Lib.objectInit).before V.a0 V.Z = true) (w3 : (Jvm.Cond.code Lib.objectInit ⟨#[0xb1]⟩ 1 none).before V.a0 V.Z = true) (hsz : L.length = B.ml) (hf : 1 ≤ B.R.frames) (hW : (S.map fun v => v.category).sum ≤ W) (hl : W + 12 ≤ B.R.locals) (r : Run V K B Q h ps cs sl pc' L S) : Run V K B Q h ps cs sl pc L (.ref a :: S) := by
  subst hp; exact r.still fun T locs vm0 X eT hZ ho O G => initO X G.1 hZ ho w1 w2 w3 eT (g := mkF K.m pc L.toArray (.ref a :: S)) rfl (by rw [G.2.2.1]; simpa using hsz) rfl (hb G.2.1 hd) hf (W := W) (by simpa using hW) hl
theorem Run.ret {v : Option Value} (hv : K.meth.sig.returnType = none → v = none) (hc : cs ≤ B.R.cells) (hs : sl ≤ B.R.slots) (qps : List Addr) (hq : ∀ x ∈ qps, x ∈ ps) (q : Q v h qps)
    (st : ∀ T locs vm0 fs, Stand K.p V.l K.e B.R (K.s.setVm vm0) K.m K.args K.below K.meth K.c T locs cs sl → Fx K B → (∀ (f : JFrame) (acts : List Action), f.method = K.m → f.locked = none → f.entered = [] → (doReturn K.e (T.setTop f) acts v).1 = T.setFrames fs) → Steps K.p.tables K.e K.below (T.setTop (mkF K.m pc L.toArray S)) (T.setFrames fs)) :
    Run V K B Q h ps cs sl pc L S := fun T hT => by
  obtain ⟨locs, vm0, k0, X, e1, e2, e3, e4, e5, e6, e7, e8, e9, e10, e11, e12⟩ := hT
  have hl : K.meth.locks = false := e12.2.2.2.2.1
  have C := e8.trans (CHv.at X e2 e10 e8.1)
  have A := CHv.at X e2 e10 e8.1
  cases hn : V.nar
  · obtain ⟨fs, hr, hrun, hend, w1, w2, w3, w4⟩ := X.leaveW e4 (by rw [e1]; exact e5) hv hl
    refine ⟨_, _, st T locs vm0 fs X e12 hr, hrun, hend, v, locs, qps, rfl, e6, by show Q v T.heap qps; rw [e1]; exact q, by show Ext V.Z.heap T.heap; rw [e1]; exact e7, by show Sf V T.vm T.heap qps; rw [e1]; exact (e9.sub hq).go A, by show CHr V.Z V.EL K.s.vm K.s.heap T.vm T.heap; rw [e1]; exact C, ⟨w1, w2, w3, w4.mono hc hs⟩, fun z => absurd (hn.symm.trans z) (by decide)⟩
  · obtain ⟨rfl, -⟩ := e11 hn
    obtain ⟨fs, hr, hrun, hend, w1, w2⟩ := X.leave hv hl
    refine ⟨_, _, st T locs _ fs X e12 hr, hrun, hend, v, locs, qps, rfl, e6, by show Q v T.heap qps; rw [e1]; exact q, by show Ext V.Z.heap T.heap; rw [e1]; exact e7, by show Sf V T.vm T.heap qps; rw [e1]; exact (e9.sub hq).go A, by show CHr V.Z V.EL K.s.vm K.s.heap T.vm T.heap; rw [e1]; exact C, ReturnedEndW.of_narrow ⟨v, rfl⟩ w1 (w2.mono hc hs), fun z => ⟨⟨v, rfl⟩, w1, w2.mono hc hs⟩⟩
theorem r_ret (hr : B.ret = none) (hd : decode B.code pc = .ok (.return_, 1)) (hc : cs ≤ B.R.cells) (hs : sl ≤ B.R.slots) (qps : List Addr) (hq : ∀ x ∈ qps, x ∈ ps) (q : Q none h qps) : Run V K B Q h ps cs sl pc L [] :=
  Run.ret (fun _ => rfl) hc hs qps hq q fun T locs vm0 fs X G hl => X.returnOut G.1 (G.2.2.2.1.trans hr) (hb G.2.1 hd) hl
theorem r_iret {z : Int32} (hr : B.ret = some .int) (hd : decode B.code pc = .ok (.ireturn, 1)) (hc : cs ≤ B.R.cells) (hs : sl ≤ B.R.slots) (qps : List Addr) (hq : ∀ x ∈ qps, x ∈ ps) (q : Q (some (.int z)) h qps) : Run V K B Q h ps cs sl pc L (.int z :: S) := by
  intro T hT; have G : Fx K B := by obtain ⟨locs, vm0, k0, X, e1, e2, e3, e4, e5, e6, e7, e8, e9, e10, e11, e12⟩ := hT; exact e12
  exact Run.ret (fun z => by rw [G.2.2.2.1.trans hr] at z; cases z) hc hs qps hq q (fun T locs vm0 fs X G hl => retOut X G.1 (G.2.2.2.1.trans hr) rfl (Or.inl ⟨rfl, Or.inl rfl, _, rfl⟩) (hb G.2.1 hd) hl) T hT
theorem r_nret {z : Int32} {t : FieldType} (z' : Int32) (hr : B.ret = some t) (ht : t = .boolean ∨ t = .byte ∨ t = .char ∨ t = .short) (hz : RoadKit.nar t z = z') (hd : decode B.code pc = .ok (.ireturn, 1)) (hc : cs ≤ B.R.cells) (hs : sl ≤ B.R.slots) (qps : List Addr) (hq : ∀ x ∈ qps, x ∈ ps) (q : Q (some (.int z')) h qps) : Run V K B Q h ps cs sl pc L (.int z :: S) := by
  subst hz; intro T hT; have G : Fx K B := by obtain ⟨locs, vm0, k0, X, e1, e2, e3, e4, e5, e6, e7, e8, e9, e10, e11, e12⟩ := hT; exact e12
  exact Run.ret (fun z => by rw [G.2.2.2.1.trans hr] at z; cases z) hc hs qps hq q (fun T locs vm0 fs X G hl => retN X G.1 (G.2.2.2.1.trans hr) ht (hb G.2.1 hd) hl) T hT
theorem r_lret {z : Int64} (hr : B.ret = some .long) (hd : decode B.code pc = .ok (.lreturn, 1)) (hc : cs ≤ B.R.cells) (hs : sl ≤ B.R.slots) (qps : List Addr) (hq : ∀ x ∈ qps, x ∈ ps) (q : Q (some (.long z)) h qps) : Run V K B Q h ps cs sl pc L (.long z :: S) := by
  intro T hT; have G : Fx K B := by obtain ⟨locs, vm0, k0, X, e1, e2, e3, e4, e5, e6, e7, e8, e9, e10, e11, e12⟩ := hT; exact e12
  exact Run.ret (fun z => by rw [G.2.2.2.1.trans hr] at z; cases z) hc hs qps hq q (fun T locs vm0 fs X G hl => retOut X G.1 (G.2.2.2.1.trans hr) rfl (Or.inr (Or.inl ⟨rfl, rfl, _, rfl⟩)) (hb G.2.1 hd) hl) T hT
theorem r_aret {x : Value} {t : FieldType} (hr : B.ret = some t) (ht : t.isReference = true) (hx : x.isRef = true) (hd : decode B.code pc = .ok (.areturn, 1)) (hc : cs ≤ B.R.cells) (hs : sl ≤ B.R.slots) (qps : List Addr) (hq : ∀ x ∈ qps, x ∈ ps) (q : Q (some x) h qps) : Run V K B Q h ps cs sl pc L (x :: S) := by
  intro T hT; have G : Fx K B := by obtain ⟨locs, vm0, k0, X, e1, e2, e3, e4, e5, e6, e7, e8, e9, e10, e11, e12⟩ := hT; exact e12
  have hn : narrow t x = x := by rcases ref_cases hx with rfl | ⟨a, rfl⟩ <;> cases t <;> first | rfl | cases ht
  exact Run.ret (fun z => by rw [G.2.2.2.1.trans hr] at z; cases z) hc hs qps hq q (fun T locs vm0 fs X G hl => retOut X G.1 (G.2.2.2.1.trans hr) hn (Or.inr (Or.inr (Or.inr (Or.inr ⟨rfl, ht, hx⟩)))) (hb G.2.1 hd) hl) T hT
theorem r_static {i W nc ns : Nat} {y : MethodName} {Q' : Qt} {bytes : ByteArray} {ml : Nat} {ret : Option FieldType} {argsL S0 : List Value} {as' : Array Value} (pc' : Nat) (hp : pc + 3 = pc') (hd : decode B.code pc = .ok (.invokestatic i, 3)) (w1 : (Jvm.Cond.methodLink B.y.cls i y).before V.a0 V.Z = true) (w2 : (Jvm.Cond.static y).before V.a0 V.Z = true) (w3 : (Jvm.Cond.initialized y.cls).before V.a0 V.Z = true) (w4 : (Jvm.Cond.code y bytes ml ret).before V.a0 V.Z = true)
    (hy : y.cls ≠ "java/lang/invoke/MethodHandle" ∧ y.cls ≠ "java/lang/invoke/VarHandle") (P : Pays V K B y 3 W as' h ps nc ns Q') (hlen : ∀ sig, parseMethodDescriptor y.desc = some sig → argsL.length = sig.parameters.length) (hS : S0 = argsL.reverse ++ S) (ha : argsL.toArray = as') (hsz : L.length = B.ml) (hW : (S.map fun v => v.category).sum ≤ W) (hc : cs + nc ≤ B.R.cells) (hs : sl + ns ≤ B.R.slots) (r : ∀ v h' ps', Q' v h' ps' → h.size ≤ h'.size → Run V K B Q h' (ps' ++ ps) (cs + nc) (sl + ns) pc' L (v.toList ++ S)) : Run V K B Q h ps cs sl pc L S0 := fun T hT => by
  subst hp hS ha
  obtain ⟨locs, vm0, k0, X, e1, e2, e3, e4, e5, e6, e7, e8, e9, e10, e11, e12⟩ := hT
  have P1 := P vm0 e2 e8.1 e9 e10 e7 fun q => (e11 q).2
  have hsize : (mkF K.m pc L.toArray (argsL.reverse ++ S)).locals.size = K.c.maxLocals := by rw [e12.2.2.1]; simpa using hsz
  have hZ : V.Z.Warmed39 (K.s.setVm vm0).vm := e2
  cases hn : V.nar
  · obtain ⟨v, vm₁, C, -, X', hS', -, hpo, st⟩ := callSS X e12.1 e3 (mvT hZ w1) (mvT hZ w2) (mvT hZ w3) (mvT hZ w4) hy (P1.2 hn) (g := mkF K.m pc L.toArray (argsL.reverse ++ S)) rfl hsize hlen rfl (by simpa using hW) (hb e12.2.1 hd) (fun vm₁ _ => ⟨rfl, e1, hc, hs⟩)
    obtain ⟨t, o, s1, s2⟩ := Run.behind e2 e3 e4 e5 e6 e8 e9 e10 e11 e12 (Or.inr ⟨hn, X', hS'⟩) hpo r
    exact ⟨t, o, st.trans s1, s2⟩
  · obtain ⟨v, vm₁, C, -, X', hpo, st⟩ := Jvm.LawKit.callS X e12.1 e3 (mvT hZ w1) (mvT hZ w2) (mvT hZ w3) (mvT hZ w4) hy (P1.1 hn) (g := mkF K.m pc L.toArray (argsL.reverse ++ S)) rfl hsize hlen rfl (by simpa using hW) (hb e12.2.1 hd) (fun vm₁ _ => ⟨rfl, e1, hc, hs⟩)
    obtain ⟨t, o, s1, s2⟩ := Run.behind e2 e3 e4 e5 e6 e8 e9 e10 e11 e12 (Or.inl ⟨hn, X'⟩) hpo r
    exact ⟨t, o, st _ s1, s2⟩
theorem r_special {i W nc ns : Nat} {y : MethodName} {Q' : Qt} {bytes : ByteArray} {ml : Nat} {argsL S0 : List Value} {a : Nat} {as' : Array Value} (pc' : Nat) (hp : pc + 3 = pc') (hd : decode B.code pc = .ok (.invokespecial i, 3)) (hy1 : y.name = "<init>") (w1 : (Jvm.Cond.methodLink B.y.cls i y).before V.a0 V.Z = true) (w2 : (Jvm.Cond.instanceMethod y).before V.a0 V.Z = true) (w4 : (Jvm.Cond.code y bytes ml none).before V.a0 V.Z = true)
    (hy : y.cls ≠ "java/lang/invoke/MethodHandle" ∧ y.cls ≠ "java/lang/invoke/VarHandle") (P : Pays V K B y 3 W as' h ps nc ns Q') (hlen : ∀ sig, parseMethodDescriptor y.desc = some sig → argsL.length = sig.parameters.length) (hS : S0 = argsL.reverse ++ .ref a :: S) (ha : (.ref a :: argsL).toArray = as') (hsz : L.length = B.ml) (hW : (S.map fun v => v.category).sum ≤ W) (hc : cs + nc ≤ B.R.cells) (hs : sl + ns ≤ B.R.slots) (r : ∀ v h' ps', Q' v h' ps' → h.size ≤ h'.size → Run V K B Q h' (ps' ++ ps) (cs + nc) (sl + ns) pc' L (v.toList ++ S)) : Run V K B Q h ps cs sl pc L S0 := fun T hT => by
  subst hp hS ha
  obtain ⟨locs, vm0, k0, X, e1, e2, e3, e4, e5, e6, e7, e8, e9, e10, e11, e12⟩ := hT
  have P1 := P vm0 e2 e8.1 e9 e10 e7 fun q => (e11 q).2
  have hsize : (mkF K.m pc L.toArray (argsL.reverse ++ .ref a :: S)).locals.size = K.c.maxLocals := by rw [e12.2.2.1]; simpa using hsz
  have hZ : V.Z.Warmed39 (K.s.setVm vm0).vm := e2
  cases hn : V.nar
  · obtain ⟨v, vm₁, C, -, X', hS', -, hpo, st⟩ := X.specialBackS e12.1 hy1 e3 (mvT hZ w1) (mvT hZ w2) (mvT hZ w4) hy (P1.2 hn) (g := mkF K.m pc L.toArray (argsL.reverse ++ .ref a :: S)) rfl hsize (Steps.refl _) hlen rfl (by simpa using hW) (hb e12.2.1 hd) (fun vm₁ _ => ⟨rfl, e1, hc, hs⟩)
    obtain ⟨t, o, s1, s2⟩ := Run.behind e2 e3 e4 e5 e6 e8 e9 e10 e11 e12 (Or.inr ⟨hn, X', hS'⟩) hpo r
    exact ⟨t, o, st.trans s1, s2⟩
  · obtain ⟨v, vm₁, C, -, X', hpo, st⟩ := X.specialBack e12.1 hy1 e3 (mvT hZ w1) (mvT hZ w2) (mvT hZ w4) hy (P1.1 hn) (g := mkF K.m pc L.toArray (argsL.reverse ++ .ref a :: S)) rfl hsize (Steps.refl _) hlen rfl (by simpa using hW) (hb e12.2.1 hd) (fun vm₁ _ => ⟨rfl, e1, hc, hs⟩)
    obtain ⟨t, o, s1, s2⟩ := Run.behind e2 e3 e4 e5 e6 e8 e9 e10 e11 e12 (Or.inl ⟨hn, X'⟩) hpo r
    exact ⟨t, o, st.trans s1, s2⟩
theorem nfS {C0 : String} {y : MethodName} (w : (Jvm.Cond.selects C0 y y).before V.a0 V.Z = true) : ∀ s : State, V.Z.Warmed39 s.vm → NotFace s y := fun s hZ => notFace_of_selects (args := #[]) (mvT hZ w)
theorem r_virtual {i W nc ns : Nat} {y : MethodName} {Q' : Qt} {z : MethodName} {C0 : String} {argsL S0 : List Value} {a : Nat} {as' : Array Value} (pc' : Nat) (hp : pc + 3 = pc') (hd : decode B.code pc = .ok (.invokevirtual i, 3)) (w1 : (Jvm.Cond.methodLink B.y.cls i y).before V.a0 V.Z = true) (w2 : (Jvm.Cond.declares y).before V.a0 V.Z = true) (w3 : (Jvm.Cond.selects C0 y z).before V.a0 V.Z = true) (w4 : (Jvm.Cond.instanceMethod z).before V.a0 V.Z = true)
    (hnf : ∀ s : State, V.Z.Warmed39 s.vm → NotFace s y) (hy : y.cls ≠ "java/lang/invoke/MethodHandle" ∧ y.cls ≠ "java/lang/invoke/VarHandle") (E : Exa V.Z h a C0) (P : Pays V K B z 3 W as' h ps nc ns Q') (hlen : ∀ sig, parseMethodDescriptor y.desc = some sig → argsL.length = sig.parameters.length) (hS : S0 = argsL.reverse ++ .ref a :: S) (ha : (.ref a :: argsL).toArray = as') (hsz : L.length = B.ml) (hW : (S.map fun v => v.category).sum ≤ W) (hc : cs + nc ≤ B.R.cells) (hs : sl + ns ≤ B.R.slots) (r : ∀ v h' ps', Q' v h' ps' → h.size ≤ h'.size → Run V K B Q h' (ps' ++ ps) (cs + nc) (sl + ns) pc' L (v.toList ++ S)) : Run V K B Q h ps cs sl pc L S0 := fun T hT => by
  subst hp hS ha
  obtain ⟨locs, vm0, k0, X, e1, e2, e3, e4, e5, e6, e7, e8, e9, e10, e11, e12⟩ := hT
  have P1 := P vm0 e2 e8.1 e9 e10 e7 fun q => (e11 q).2
  have hsize : (mkF K.m pc L.toArray (argsL.reverse ++ .ref a :: S)).locals.size = K.c.maxLocals := by rw [e12.2.2.1]; simpa using hsz
  have hZ : V.Z.Warmed39 (K.s.setVm vm0).vm := e2
  obtain ⟨cq, kq, q1, q2, q3⟩ := isOf (s := K.s.setVm vm0) hZ e1 E
  cases hn : V.nar
  · obtain ⟨v, vm₁, C, -, X', hS', -, hpo, st⟩ := X.virtualBackS e12.1 e3 (mvT hZ w1) (mvT hZ w2) (hnf _ hZ) (mvT hZ w3) (mvT hZ w4) hy (P1.2 hn) q1 q3 (g := mkF K.m pc L.toArray (argsL.reverse ++ .ref a :: S)) rfl hsize (Steps.refl _) hlen rfl (by simpa using hW) (hb e12.2.1 hd) (fun vm₁ _ => ⟨rfl, e1, hc, hs⟩)
    obtain ⟨t, o, s1, s2⟩ := Run.behind e2 e3 e4 e5 e6 e8 e9 e10 e11 e12 (Or.inr ⟨hn, X', hS'⟩) hpo r
    exact ⟨t, o, st.trans s1, s2⟩
  · obtain ⟨v, vm₁, C, -, X', hpo, st⟩ := X.virtualBack e12.1 e3 (mvT hZ w1) (mvT hZ w2) (hnf _ hZ) (mvT hZ w3) (mvT hZ w4) hy (P1.1 hn) q1 q3 (g := mkF K.m pc L.toArray (argsL.reverse ++ .ref a :: S)) rfl hsize (Steps.refl _) hlen rfl (by simpa using hW) (hb e12.2.1 hd) (fun vm₁ _ => ⟨rfl, e1, hc, hs⟩)
    obtain ⟨t, o, s1, s2⟩ := Run.behind e2 e3 e4 e5 e6 e8 e9 e10 e11 e12 (Or.inl ⟨hn, X'⟩) hpo r
    exact ⟨t, o, st.trans s1, s2⟩
theorem r_ldcS {i : Nat} {text : String} (vs : List Value) (z : Int32) (n : Nat) (pc' : Nat) (hp : pc + 2 = pc') (hd : decode B.code pc = .ok (.ldc i, 2)) (w : (Jvm.Cond.stringLink B.y.cls i text).before V.a0 V.Z = true) (wS : ∀ a ∈ Bundle.stringAtoms, a.before V.a0 V.Z = true) (hmem : (B.y.cls, i) ∈ V.EL) (hnar : V.nar = false)
    (ht : (∀ c ∈ text.toList, c.toNat < 256) ∧ text.toList.map (fun c => Value.int (Jvm.Lit.byteI c.toNat.toUInt16)) = vs) (hz : ¬ z < 0) (hl : z.toNatClampNeg = vs.length) (hn : 4 * text.toList.length ≤ n) (hbig : n ≤ 536870912) (hc : cs + 2 ≤ B.R.cells) (hl' : sl + (n + 4) ≤ B.R.slots)
    (r : ∀ (a b : Nat) k h', Ext h h' → Exa V.Z h' a "java/lang/String" → Fld V.Z h' a "java/lang/String" "coder" "B" (.int 0) → Fld V.Z h' a "java/lang/String" "value" "[B" (.ref b) → Arv V.Z h' b k .byte z vs (.int 0) → (∀ x ∈ ps, x ≠ a ∧ x ≠ b) → Run V K B Q h' ps (cs + 2) (sl + (n + 4)) pc' L (.ref a :: S)) : Run V K B Q h ps cs sl pc L S := fun T hT => by
  subst hp
  obtain ⟨locs, vm0, k0, X, e1, e2, e3, e4, e5, e6, e7, e8, e9, e10, e11, e12⟩ := hT
  obtain ⟨a, T', h', k1, b, k, X', q1, q2, q3, q4, q5, q6, q7, q8, q9, q10, q11, q12, q13, q14, q15, st⟩ := ldcCH X e12.1 e2 e3 w wS e1 e4 e5 e10 hmem e8.1 ht hz hl (g := mkF K.m pc L.toArray S) rfl (hb e12.2.1 hd) hn hbig hc hl'
  have S' : Sf V T'.vm h' ps := e9.go q13
  obtain ⟨t, o, s1, s2⟩ := r a b k h' q2 q7 q8 q9 q10 (fun x hx => q15 x (S' x hx).2) T' ⟨_, _, k1, X', q1, q5, q6, q3, q4, e6, Ext.trans' e7 q2, e8.trans q13, S', e10, fun q => absurd (hnar.symm.trans q) (by decide), e12⟩
  exact ⟨t, o, st _ s1, s2⟩
end Rules
end Jvm.Own
namespace Jvm.Own
open Jvm Jvm.ClassFile Sem Op Lib Jvm.Free Jvm.Stand Jvm.LawKit Jvm.RoadKit Bundle
section More
variable {V : Vw} {K : Cx} {B : Bx} {Q : Qt} {T : State} {h h' : Heap} {ps ps' : List Addr} {cs sl pc : Nat} {L : List Slot} {S : List Value}
theorem r_gen {x : Int32} (r : ∀ z, z = x → Run V K B Q h ps cs sl pc L (.int z :: S)) : Run V K B Q h ps cs sl pc L (.int x :: S) := r x rfl
theorem r_genL {x : Int64} (r : ∀ z, z = x → Run V K B Q h ps cs sl pc L (.long z :: S)) : Run V K B Q h ps cs sl pc L (.long x :: S) := r x rfl
theorem layL {as' : Array Value} {n : Nat} {L : List Slot} (h : Jvm.Sym.laidSlots as'.toList ++ List.replicate (n - (Jvm.Sym.laidSlots as'.toList).length) .unset = L) : argsToLocals as' n = L.toArray :=
  Array.toList_inj.mp (by rw [Jvm.Sym.argsToLocals_toList, h])
theorem nc16 (x : Int32) : RoadKit.nar .char x.toUInt32.toUInt16.toUInt32.toInt32 = x.toUInt32.toUInt16.toUInt32.toInt32 := by
  show x.toUInt32.toUInt16.toUInt32.toInt32.toUInt32.toUInt16.toUInt32.toInt32 = _
  simp only [UInt32.toUInt32_toInt32, UInt16.toUInt16_toUInt32]
theorem nc8 (x : Int32) : RoadKit.nar .char (x &&& 255).toUInt32.toUInt16.toUInt32.toInt32 = x &&& 255 := by rw [nc16, i2c_mask]
theorem ncm (x : Int32) : RoadKit.nar .char (x &&& 255) = x &&& 255 := i2c_mask x
/-- 0 to 255 -/
def By (x : Int32) : Prop := ¬ x < 0 ∧ ¬ 255 < x
theorem By.mask (x : Int32) : By (x &&& 255) := by
  have h := c_and x 255 (by decide)
  refine ⟨fun q => ?_, fun q => ?_⟩
  · rw [Int32.lt_iff_toInt_lt] at q; have : (0 : Int32).toInt = 0 := rfl; omega
  · rw [Int32.lt_iff_toInt_lt] at q; have : (255 : Int32).toInt = 255 := rfl; omega
end More
end Jvm.Own
namespace Jvm.Own
open Jvm Jvm.ClassFile Sem Op Lib Jvm.Free Jvm.Stand Jvm.LawKit Jvm.RoadKit Bundle
section More2
variable {V : Vw} {K : Cx} {B : Bx} {Q : Qt} {T : State} {h h' : Heap} {ps ps' : List Addr} {cs sl pc : Nat} {L : List Slot} {S : List Value}
theorem r_instNull {i : Nat} (pc' : Nat) (hp : pc + 3 = pc') (hd : decode B.code pc = .ok (.instanceof i, 3)) (r : Run V K B Q h ps cs sl pc' L (.int 0 :: S)) : Run V K B Q h ps cs sl pc L (.null :: S) := by
  subst hp; exact r.still fun T locs vm0 X eT hZ ho O G => ⟨T, X, eT, fun t st => X.instanceofNull G.1 (g := mkF K.m pc L.toArray (.null :: S)) rfl rfl (hb G.2.1 hd) _ st⟩
theorem noCast {Z : State} {a0 : Array Value} {C S K : String} {n : Nat} (w : (Jvm.Cond.superclass C S).before a0 Z = true) (w0 : (Jvm.Cond.noSuperclass S).before a0 Z = true) (wi : (Jvm.Cond.instantiable K n).before a0 Z = true) (h1 : C ≠ K) (h2 : S ≠ K) : ∃ c t, Z.vm.findClass C = some c ∧ Z.vm.findClass K = some t ∧ Z.vm.assignable c t = false := by
  obtain ⟨t, kt, i1, i2, i3, i4, -⟩ := Cond.instantiable_spec wi
  obtain ⟨cS, kS, s1, s2, s3, -, -⟩ := Cond.noSuperclass_spec w0
  have neS := ids_ne s1 i1 h2
  obtain ⟨c, h0⟩ := found_sup w
  obtain ⟨p, k, kp, q1, q2, q3, q4, q5, -, q7⟩ := Cond.superclass_spec h0 w
  cases q1.symm.trans s1
  have neC := ids_ne h0 i1 h1
  have nS : ∀ f, Z.vm.isSubclassAux f cS t = false := fun f => by
    cases f with
    | zero => rfl
    | succ f => simp [Vm.isSubclassAux, neS, s2, s3]
  have nC : ∀ f, Z.vm.isSubclassAux f c t = false := fun f => by
    cases f with
    | zero => rfl
    | succ f => simp [Vm.isSubclassAux, neC, q2, q4, nS]
  have i5 : kt.isInterface = false := by simp only [Bool.or_eq_false_iff] at i4; exact i4.1
  refine ⟨c, t, h0, i1, ?_⟩
  show Z.vm.assignableAux (255 + 1) c t = false
  simp [Vm.assignableAux, neC, q2, i2, q5, i3, i5, Vm.isSubclass, nC]
end More2
end Jvm.Own
namespace Jvm.Own
open Jvm Jvm.ClassFile Sem Op Lib Jvm.Free Jvm.Stand Jvm.LawKit Jvm.RoadKit Bundle
section More3
variable {V : Vw} {K : Cx} {B : Bx} {Q : Qt} {T : State} {h h' : Heap} {ps ps' : List Addr} {cs sl pc : Nat} {L : List Slot} {S : List Value}
/-- ldc of a String constant, opaque -/
theorem r_ldcO {i : Nat} {text : String} (n : Nat) (pc' : Nat) (hp : pc + 2 = pc') (hd : decode B.code pc = .ok (.ldc i, 2)) (w : (Jvm.Cond.stringLink B.y.cls i text).before V.a0 V.Z = true) (wS : ∀ a ∈ Bundle.stringAtoms, a.before V.a0 V.Z = true) (hnar : V.nar = false)
    (hn : 4 * text.toList.length ≤ n) (hbig : n ≤ 536870912) (hc : cs + 2 ≤ B.R.cells) (hl' : sl + (n + 4) ≤ B.R.slots) (r : ∀ (a : Nat) h', Ext h h' → Run V K B Q h' ps (cs + 2) (sl + (n + 4)) pc' L (.ref a :: S)) : Run V K B Q h ps cs sl pc L S := fun T hT => by
  subst hp
  obtain ⟨locs, vm0, k0, X, e1, e2, e3, e4, e5, e6, e7, e8, e9, e10, e11, e12⟩ := hT
  obtain ⟨a, T', h', k1, X', q1, q2, q3, q4, q5, q6, q13, q14, st⟩ := ldcOH X e12.1 e2 e3 w wS e1 e4 e5 e10 e8.1 (g := mkF K.m pc L.toArray S) rfl (hb e12.2.1 hd) hn hbig hc hl'
  obtain ⟨t, o, s1, s2⟩ := r a h' q2 T' ⟨_, _, k1, X', q1, q5, q6, q3, q4, e6, Ext.trans' e7 q2, e8.trans q13, e9.go q13, e10, fun q => absurd (hnar.symm.trans q) (by decide), e12⟩
  exact ⟨t, o, st _ s1, s2⟩
end More3
end Jvm.Own
/- laws to paste: Road.backV, Road.lenW, Road.eqW, Road.empW, Road.codOf (cut by pick.py; bodies as the Statement names them) -/
namespace Jvm.Pilot.@@N@@
namespace StrChars
open Jvm Sem ClassFile Op Lib Jvm.Stand Jvm.Free.XT Jvm.Free.ALB Jvm.Free.JM Jvm.Free
open Jvm.Lib.Cold (StaticIs)
/-- a char array whose places are chars -/
def Ch (a : Addr) (A : Cell) (U : State) : Prop := Arr .char a A U ∧ Typed .char A
theorem Ch.mv {a : Addr} {A : Cell} {U U' : State} (h : Ch a A U) (hal : U.vm.Alike U'.vm) (hh : U'.heap = U.heap) : Ch a A U' := ⟨h.1.mv hal hh, h.2⟩
theorem Ch.keep {a : Addr} {A : Cell} {U U' : State} (h : Ch a A U) (hal : U.vm.Alike U'.vm) (hk : U'.heap[a]? = some A) : Ch a A U' := ⟨h.1.keep hal hk, h.2⟩
/-- what place i of a char[]'s cell holds -/
def cv (A : Cell) (i : Nat) : Int32 := match A.slots[i]? with | some (.int x) => x | _ => 0
theorem Ch.get {a : Addr} {A : Cell} {U : State} (h : Ch a A U) {i : Nat} (hi : i < A.slots.size) : A.slots[i]? = some (.int (cv A i)) := by
  have e := Array.getElem?_eq_getElem hi
  have f := h.2 i _ e
  unfold cv; rw [e]
  generalize A.slots[i] = v at f
  cases v <;> simp [fits] at f ⊢
/-- the byte that i2b leaves of a char -/
def lo8 (x : Int32) : Int32 := x.toInt8.toInt32
theorem fits_lo8 (y : Int32) : fits .byte (.int (lo8 y)) = true := by
  have h1 := y.toInt8.le_toInt
  have h2 := y.toInt8.toInt_lt
  simp only [lo8, fits, Bool.and_eq_true, decide_eq_true_eq, Int32.le_iff_toInt_le, Int8.toInt_toInt32, show (-128 : Int32).toInt = -128 from by decide, show (127 : Int32).toInt = 127 from by decide]
  omega
/-- A' is A but that each place j of lo .. hi - 1 holds f j -/
def Laid (A A' : Cell) (lo hi : Nat) (f : Nat → Value) : Prop := A'.cls = A.cls ∧ A'.vm = A.vm ∧ A'.slots.size = A.slots.size ∧ ∀ i, A'.slots[i]? = if lo ≤ i ∧ i < hi then some (f i) else A.slots[i]?
theorem Laid.zero (A : Cell) (lo : Nat) (f : Nat → Value) : Laid A A lo (lo + 0) f := ⟨rfl, rfl, rfl, fun i => by rw [if_neg (by omega)]⟩
theorem Laid.step {A Ak : Cell} {lo k : Nat} {f : Nat → Value} {v : Value} (h : Laid A Ak lo k f) (hlo : lo ≤ k) (hk : k < Ak.slots.size) (hv : v = f k) : Laid A (Ak.setSlot k v) lo (k + 1) f := by
  refine ⟨h.1, h.2.1, by simpa [Cell.setSlot] using h.2.2.1, fun i => ?_⟩
  by_cases e : k = i
  · subst e; rw [Cell.slots_setSlot_self v hk, if_pos (by omega), hv]
  · rw [Cell.slots_setSlot_ne v e, h.2.2.2 i]
    by_cases q : lo ≤ i ∧ i < k
    · rw [if_pos q, if_pos (by omega)]
    · rw [if_neg q, if_neg (by omega)]
def U16 : String := "java/lang/StringUTF16"
namespace Cmp5
def yN : MethodName := ⟨"java/lang/StringUTF16", "compress", "([CI[BII)I"⟩
abbrev yB : ByteArray := jdk_52_method_21_code
theorem d0 : decode yB 0 = .ok (.iconst 0, 1) := by decide +kernel
theorem d1 : decode yB 1 = .ok (.istore 5, 2) := by decide +kernel
theorem d3 : decode yB 3 = .ok (.iload 5, 2) := by decide +kernel
theorem d5 : decode yB 5 = .ok (.iload 4, 2) := by decide +kernel
theorem d7 : decode yB 7 = .ok (.if_icmp (.ge) 37, 3) := by decide +kernel
theorem d10 : decode yB 10 = .ok (.aload_n 0, 1) := by decide +kernel
theorem d11 : decode yB 11 = .ok (.iload_n 1, 1) := by decide +kernel
theorem d12 : decode yB 12 = .ok (.caload, 1) := by decide +kernel
theorem d13 : decode yB 13 = .ok (.istore 6, 2) := by decide +kernel
theorem d15 : decode yB 15 = .ok (.iload 6, 2) := by decide +kernel
theorem d17 : decode yB 17 = .ok (.sipush 255, 3) := by decide +kernel
theorem d20 : decode yB 20 = .ok (.if_icmp (.le) 6, 3) := by decide +kernel
theorem d26 : decode yB 26 = .ok (.aload_n 2, 1) := by decide +kernel
theorem d27 : decode yB 27 = .ok (.iload_n 3, 1) := by decide +kernel
theorem d28 : decode yB 28 = .ok (.iload 6, 2) := by decide +kernel
theorem d30 : decode yB 30 = .ok (.i2b, 1) := by decide +kernel
theorem d31 : decode yB 31 = .ok (.bastore, 1) := by decide +kernel
theorem d32 : decode yB 32 = .ok (.iinc 1 1, 3) := by decide +kernel
theorem d35 : decode yB 35 = .ok (.iinc 3 1, 3) := by decide +kernel
theorem d38 : decode yB 38 = .ok (.iinc 5 1, 3) := by decide +kernel
theorem d41 : decode yB 41 = .ok (.goto (-38), 3) := by decide +kernel
theorem d44 : decode yB 44 = .ok (.iload 4, 2) := by decide +kernel
theorem d46 : decode yB 46 = .ok (.ireturn, 1) := by decide +kernel
def site : List Cond := []
def tab : Cond := tabOf yN yB 7 (some .int) site
def P (b : Addr) (A : Cell) (d : Addr) (B : Cell) (o q len : Nat) (args : Array Value) (s : State) : Prop := args = #[.ref b, .int (Int32.ofNat o), .ref d, .int (Int32.ofNat q), .int (Int32.ofNat len)] ∧ Ch b A s ∧ Arr .byte d B s ∧ b ≠ d ∧ o + len ≤ A.slots.size ∧ q + len ≤ B.slots.size ∧ ∀ i, i < len → ¬ 255 < cv A (o + i)
def E (b : Addr) (A : Cell) (d : Addr) (B : Cell) (o q len : Nat) (r : Option Value) (s u : State) : Prop := r = some (.int (Int32.ofNat len)) ∧ ∃ B', Put d B' s u ∧ Laid B B' q (q + len) (fun j => Value.int (lo8 (cv A (o + (j - q)))))
/-- no char of the range above 255: len; the places written hold each char's low byte -/
theorem law (l : Launch) (b : Addr) (A : Cell) (d : Addr) (B : Cell) (o q len : Nat) : Law l yN 5 5 0 0 yB 7 (some .int) site (P b A d B o q len) (E b A d B o q len) (copyLocs d q len) 0 0 := by
  refine Law.of_walk (plainFor_of_name (by decide +kernel)) (by decide +kernel) (by decide +kernel) (by decide) (fun _ _ h => by rw [h.1]; rfl) (fun _ U U' hal hh h => ⟨h.1, h.2.1.mv hal hh, h.2.2.1.mv hal hh, h.2.2.2⟩) (fun r U U' V V' h1 hal h2 h => ⟨h.1, h.2.elim fun B' q => ⟨B', q.1.mv h1 h2, q.2⟩⟩) ?_
  intro p e s m args below meth c s₁ X0 hexec hbytes hml hret hlk hnm hown hh0 W hP
  obtain ⟨rfl, hA, hB, hne, l1, l2, hp⟩ := hP
  have c1 : Steps p.tables e below (s₁.setTop (entryFrame m #[.ref b, .int (Int32.ofNat o), .ref d, .int (Int32.ofNat q), .int (Int32.ofNat len)] 7)) (s₁.setTop (mkF m 0 #[.val (.ref b), .val (.int (Int32.ofNat o)), .val (.ref d), .val (.int (Int32.ofNat q)), .val (.int (Int32.ofNat len)), .unset, .unset] [])) := entry rfl
  have hA0 := hA.1.mv X0.warmed.alike hh0
  have hB0 := hB.mv X0.warmed.alike hh0
  have a31 := hA.1.2.2.2
  have c2 : Steps p.tables e below (s₁.setTop (entryFrame m #[.ref b, .int (Int32.ofNat o), .ref d, .int (Int32.ofNat q), .int (Int32.ofNat len)] 7)) (s₁.setTop (mkF m 3 #[.val (.ref b), .val (.int (Int32.ofNat o)), .val (.ref d), .val (.int (Int32.ofNat q)), .val (.int (Int32.ofNat len)), .val (.int 0), .unset] [])) := c1.trans (by
    refine iconstV X0.here hexec rfl 0 (hb hbytes d0) (by decide) ?_
    refine XS.istore X0.here hexec rfl (hb hbytes d1) rfl rfl ?_
    exact Steps.refl _)
  have loop : ∀ (r i : Nat), i + r = len → ∀ (z : Slot), (z = .unset ∨ ∃ w, z = .val w ∧ w.category = 1) → ∀ (Tl : State) (Bk : Cell), Stand p l e { frames := 0, locals := 0, cells := 0, slots := 0 } s m #[.ref b, .int (Int32.ofNat o), .ref d, .int (Int32.ofNat q), .int (Int32.ofNat len)] below meth c Tl ([] ++ copyLocs d q i) 0 0 → Put d Bk s₁ Tl → Laid B Bk q (q + i) (fun j => Value.int (lo8 (cv A (o + (j - q))))) →
      Steps p.tables e below (s₁.setTop (entryFrame m #[.ref b, .int (Int32.ofNat o), .ref d, .int (Int32.ofNat q), .int (Int32.ofNat len)] 7)) (Tl.setTop (mkF m 3 #[.val (.ref b), .val (.int (Int32.ofNat (o + i))), .val (.ref d), .val (.int (Int32.ofNat (q + i))), .val (.int (Int32.ofNat len)), .val (.int (Int32.ofNat i)), z] [])) → ∃ (T' : State) (B' : Cell) (z' : Slot), Stand p l e { frames := 0, locals := 0, cells := 0, slots := 0 } s m #[.ref b, .int (Int32.ofNat o), .ref d, .int (Int32.ofNat q), .int (Int32.ofNat len)] below meth c T' ([] ++ copyLocs d q len) 0 0 ∧ Put d B' s₁ T' ∧ Laid B B' q (q + len) (fun j => Value.int (lo8 (cv A (o + (j - q))))) ∧
      Steps p.tables e below (s₁.setTop (entryFrame m #[.ref b, .int (Int32.ofNat o), .ref d, .int (Int32.ofNat q), .int (Int32.ofNat len)] 7)) (T'.setTop (mkF m 3 #[.val (.ref b), .val (.int (Int32.ofNat (o + len))), .val (.ref d), .val (.int (Int32.ofNat (q + len))), .val (.int (Int32.ofNat len)), .val (.int (Int32.ofNat len)), z'] [])) := by
    intro r
    induction r with
    | zero =>
      intro i hi z hz Tl Bk Xl pl fl cl
      have hil : i = len := by omega
      rw [hil] at Xl fl cl
      exact ⟨Tl, Bk, z, Xl, pl, fl, cl⟩
    | succ r ih =>
      intro i hi z hz Tl Bk Xl pl fl cl
      have all := X0.warmed.alike.symm.trans Xl.warmed.alike
      have hAl := hA0.keep all (pl.other hne hA0.1)
      have hBk := hB0.like all pl.1 fl.1 fl.2.1 fl.2.2.1
      have hlt : q + i < Bk.slots.size := by rw [fl.2.2.1]; omega
      have c3 : Steps p.tables e below (s₁.setTop (entryFrame m #[.ref b, .int (Int32.ofNat o), .ref d, .int (Int32.ofNat q), .int (Int32.ofNat len)] 7)) (Tl.setTop (mkF m 12 #[.val (.ref b), .val (.int (Int32.ofNat (o + i))), .val (.ref d), .val (.int (Int32.ofNat (q + i))), .val (.int (Int32.ofNat len)), .val (.int (Int32.ofNat i)), z] [.int (Int32.ofNat (o + i)), .ref b])) := cl.trans (by
        refine XS.iload Xl.here hexec rfl (hb hbytes d3) rfl ?_
        refine XS.iload Xl.here hexec rfl (hb hbytes d5) rfl ?_
        refine XS.icmpNo Xl.here hexec rfl (hb hbytes d7) rfl (ii_ge_f (lt32 (by omega) (by omega))) ?_
        refine XS.aloadN Xl.here hexec rfl (hb hbytes d10) rfl rfl ?_
        refine XS.iloadN Xl.here hexec rfl (hb hbytes d11) rfl ?_
        exact Steps.refl _)
      have c4 : Steps p.tables e below (s₁.setTop (entryFrame m #[.ref b, .int (Int32.ofNat o), .ref d, .int (Int32.ofNat q), .int (Int32.ofNat len)] 7)) (Tl.setTop (mkF m 13 #[.val (.ref b), .val (.int (Int32.ofNat (o + i))), .val (.ref d), .val (.int (Int32.ofNat (q + i))), .val (.int (Int32.ofNat len)), .val (.int (Int32.ofNat i)), z] [.int (cv A (o + i))])) := c3.trans (by
        refine Xl.aget hexec hAl rfl (hA.get (i := o + i) (by omega)) rfl rfl (hb hbytes d12) ?_
        exact Steps.refl _)
      have c5 : Steps p.tables e below (s₁.setTop (entryFrame m #[.ref b, .int (Int32.ofNat o), .ref d, .int (Int32.ofNat q), .int (Int32.ofNat len)] 7)) (Tl.setTop (mkF m 15 #[.val (.ref b), .val (.int (Int32.ofNat (o + i))), .val (.ref d), .val (.int (Int32.ofNat (q + i))), .val (.int (Int32.ofNat len)), .val (.int (Int32.ofNat i)), .val (.int (cv A (o + i)))] [])) := c4.trans (by
        refine XS.istoreS Xl.here hexec rfl (hb hbytes d13) rfl rfl hz ?_
        exact Steps.refl _)
      have c6 : Steps p.tables e below (s₁.setTop (entryFrame m #[.ref b, .int (Int32.ofNat o), .ref d, .int (Int32.ofNat q), .int (Int32.ofNat len)] 7)) (Tl.setTop (mkF m 31 #[.val (.ref b), .val (.int (Int32.ofNat (o + i))), .val (.ref d), .val (.int (Int32.ofNat (q + i))), .val (.int (Int32.ofNat len)), .val (.int (Int32.ofNat i)), .val (.int (cv A (o + i)))] [.int (lo8 (cv A (o + i))), .int (Int32.ofNat (q + i)), .ref d])) := c5.trans (by
        refine XS.iload Xl.here hexec rfl (hb hbytes d15) rfl ?_
        refine sipushV Xl.here hexec rfl 255 (hb hbytes d17) (by decide) ?_
        refine XS.icmpYes Xl.here hexec rfl (pc0 := 20) rfl (hb hbytes d20) rfl (ii_le_t (hp i (by omega))) (by decide) rfl ?_
        refine XS.aloadN Xl.here hexec rfl (hb hbytes d26) rfl rfl ?_
        refine XS.iloadN Xl.here hexec rfl (hb hbytes d27) rfl ?_
        refine XS.iload Xl.here hexec rfl (hb hbytes d28) rfl ?_
        refine i2b Xl.here hexec rfl (hb hbytes d30) rfl ?_
        exact Steps.refl _)
      obtain ⟨T7, X7, p7, st7⟩ := Xl.aput hexec hBk rfl hlt rfl (fits_lo8 (cv A (o + i))) (g := (mkF m 31 #[.val (.ref b), .val (.int (Int32.ofNat (o + i))), .val (.ref d), .val (.int (Int32.ofNat (q + i))), .val (.int (Int32.ofNat len)), .val (.int (Int32.ofNat i)), .val (.int (cv A (o + i)))] [.int (lo8 (cv A (o + i))), .int (Int32.ofNat (q + i)), .ref d])) rfl (rest := []) rfl (hb hbytes d31)
      have c8 : Steps p.tables e below (s₁.setTop (entryFrame m #[.ref b, .int (Int32.ofNat o), .ref d, .int (Int32.ofNat q), .int (Int32.ofNat len)] 7)) (T7.setTop (mkF m 32 #[.val (.ref b), .val (.int (Int32.ofNat (o + i))), .val (.ref d), .val (.int (Int32.ofNat (q + i))), .val (.int (Int32.ofNat len)), .val (.int (Int32.ofNat i)), .val (.int (cv A (o + i)))] [])) := c6.trans (st7 _ (Steps.refl _))
      have c9 : Steps p.tables e below (s₁.setTop (entryFrame m #[.ref b, .int (Int32.ofNat o), .ref d, .int (Int32.ofNat q), .int (Int32.ofNat len)] 7)) (T7.setTop (mkF m 3 #[.val (.ref b), .val (.int (Int32.ofNat (o + i) + 1)), .val (.ref d), .val (.int (Int32.ofNat (q + i) + 1)), .val (.int (Int32.ofNat len)), .val (.int (Int32.ofNat i + 1)), .val (.int (cv A (o + i)))] [])) := c8.trans (by
        refine iincV X7.here hexec rfl 1 (hb hbytes d32) (by decide) rfl rfl ?_
        refine iincV X7.here hexec rfl 1 (hb hbytes d35) (by decide) rfl rfl ?_
        refine iincV X7.here hexec rfl 1 (hb hbytes d38) (by decide) rfl rfl ?_
        refine XS.goto X7.here hexec rfl (pc0 := 41) rfl (hb hbytes d41) (by decide) rfl ?_
        exact Steps.refl _)
      have c10 : Steps p.tables e below (s₁.setTop (entryFrame m #[.ref b, .int (Int32.ofNat o), .ref d, .int (Int32.ofNat q), .int (Int32.ofNat len)] 7)) (T7.setTop (mkF m 3 #[.val (.ref b), .val (.int (Int32.ofNat (o + (i + 1)))), .val (.ref d), .val (.int (Int32.ofNat (q + (i + 1)))), .val (.int (Int32.ofNat len)), .val (.int (Int32.ofNat (i + 1))), .val (.int (cv A (o + i)))] [])) := by
        have := c9
        rw [succ32, succ32, succ32] at this
        exact this
      exact ih (i + 1) (by omega) _ (Or.inr ⟨_, rfl, rfl⟩) T7 _ (by rw [copyLocs_step, ← List.append_assoc]; exact X7) (pl.trans p7) (fl.step (by omega) hlt (by simp)) c10
  obtain ⟨T9, B9, z9, X9, p9, f9, g9⟩ := loop len 0 (by omega) .unset (Or.inl rfl) s₁ B (by simpa [copyLocs] using X0) ⟨hB0.1, fun _ _ => rfl, rfl⟩ (Laid.zero _ _ _) c2
  have c11 : Steps p.tables e below (s₁.setTop (entryFrame m #[.ref b, .int (Int32.ofNat o), .ref d, .int (Int32.ofNat q), .int (Int32.ofNat len)] 7)) (T9.setTop (mkF m 46 #[.val (.ref b), .val (.int (Int32.ofNat (o + len))), .val (.ref d), .val (.int (Int32.ofNat (q + len))), .val (.int (Int32.ofNat len)), .val (.int (Int32.ofNat len)), z9] [.int (Int32.ofNat len)])) := g9.trans (by
    refine XS.iload X9.here hexec rfl (hb hbytes d3) rfl ?_
    refine XS.iload X9.here hexec rfl (hb hbytes d5) rfl ?_
    refine XS.icmpYes X9.here hexec rfl (pc0 := 7) rfl (hb hbytes d7) rfl (ii_ge_t (nlt32 (by omega) (Nat.le_refl _))) (by decide) rfl ?_
    refine XS.iload X9.here hexec rfl (hb hbytes d44) rfl ?_
    exact Steps.refl _)
  exact ⟨T9, some (.int (Int32.ofNat len)), _, _, _, X9, by simp, rfl, rfl, (fun h => by cases h), ⟨rfl, B9, p9.from hh0, f9⟩, fun fs hl => c11.trans (X9.ireturnOut hexec hret rfl (Or.inl rfl) (hb hbytes d46) hl)⟩
end Cmp5
namespace Cmp3
def yN : MethodName := ⟨"java/lang/StringUTF16", "compress", "([CII)[B"⟩
abbrev yB : ByteArray := jdk_52_method_16_code
theorem d0 : decode yB 0 = .ok (.iload_n 2, 1) := by decide +kernel
theorem d1 : decode yB 1 = .ok (.newarray .byte, 2) := by decide +kernel
theorem d3 : decode yB 3 = .ok (.astore_n 3, 1) := by decide +kernel
theorem d4 : decode yB 4 = .ok (.aload_n 0, 1) := by decide +kernel
theorem d5 : decode yB 5 = .ok (.iload_n 1, 1) := by decide +kernel
theorem d6 : decode yB 6 = .ok (.aload_n 3, 1) := by decide +kernel
theorem d7 : decode yB 7 = .ok (.iconst 0, 1) := by decide +kernel
theorem d8 : decode yB 8 = .ok (.iload_n 2, 1) := by decide +kernel
theorem d9 : decode yB 9 = .ok (.invokestatic 115, 3) := by decide +kernel
theorem d12 : decode yB 12 = .ok (.istore 4, 2) := by decide +kernel
theorem d14 : decode yB 14 = .ok (.iload 4, 2) := by decide +kernel
theorem d16 : decode yB 16 = .ok (.iload_n 2, 1) := by decide +kernel
theorem d17 : decode yB 17 = .ok (.if_icmp (.eq) 40, 3) := by decide +kernel
theorem d57 : decode yB 57 = .ok (.aload_n 3, 1) := by decide +kernel
theorem d58 : decode yB 58 = .ok (.areturn, 1) := by decide +kernel
def site : List Cond := [.arrayClass .byte, Cmp5.tab] ++ staticW U16 115 Cmp5.yN
def tab : Cond := tabOf yN yB 6 (some (.array .byte)) site
def P (b : Addr) (A : Cell) (o len : Nat) (args : Array Value) (s : State) : Prop := args = #[.ref b, .int (Int32.ofNat o), .int (Int32.ofNat len)] ∧ Ch b A s ∧ o + len ≤ A.slots.size ∧ len ≤ 536870912 ∧ ∀ i, i < len → ¬ 255 < cv A (o + i)
def E (b : Addr) (A : Cell) (o len : Nat) (r : Option Value) (s u : State) : Prop := NewArr .byte "[B" len (fun j => .int (lo8 (cv A (o + j)))) r s u ∧ u.heap.size = s.heap.size + 1
/-- no char of the range above 255: a new byte[] of their low bytes -/
theorem law (l : Launch) (b : Addr) (A : Cell) (o len : Nat) : Law l yN 3 3 1 18 yB 6 (some (.array .byte)) site (P b A o len) (E b A o len) [] 1 len := by
  refine Law.of_walk (plainFor_of_name (by decide +kernel)) (by decide +kernel) (by decide +kernel) (by decide) (fun _ _ h => by rw [h.1]; rfl) (fun _ U U' hal hh h => ⟨h.1, h.2.1.mv hal hh, h.2.2⟩) (fun r U U' V V' h1 hal h2 h => ⟨NewArr.mv r U U' V V' h1 hal h2 h.1, by rw [h1, h2]; exact h.2⟩) ?_
  intro p e s m args below meth c s₁ X0 hexec hbytes hml hret hlk hnm hown hh0 W hP
  obtain ⟨rfl, hA, l1, l2, hp⟩ := hP
  have a31 := hA.1.2.2.2
  have c1 : Steps p.tables e below (s₁.setTop (entryFrame m #[.ref b, .int (Int32.ofNat o), .int (Int32.ofNat len)] 6)) (s₁.setTop (mkF m 0 #[.val (.ref b), .val (.int (Int32.ofNat o)), .val (.int (Int32.ofNat len)), .unset, .unset, .unset] [])) := entry rfl
  have c2 : Steps p.tables e below (s₁.setTop (entryFrame m #[.ref b, .int (Int32.ofNat o), .int (Int32.ofNat len)] 6)) (s₁.setTop (mkF m 1 #[.val (.ref b), .val (.int (Int32.ofNat o)), .val (.int (Int32.ofNat len)), .unset, .unset, .unset] [.int (Int32.ofNat len)])) := c1.trans (by
    refine XS.iloadN X0.here hexec rfl (hb hbytes d0) rfl ?_
    exact Steps.refl _)
  obtain ⟨T3, B3, X3, ba3, bs3, bv3, bh3, bf3, st3⟩ := X0.anew hexec (atype := .byte) (wk W (.arrayClass .byte)) rfl (by show len * 1 ≤ _; omega) (by omega) (g := (mkF m 1 #[.val (.ref b), .val (.int (Int32.ofNat o)), .val (.int (Int32.ofNat len)), .unset, .unset, .unset] [.int (Int32.ofNat len)])) rfl (hb hbytes d1) (rest := []) rfl (Nat.le_refl _) (by show 0 + len ≤ len; omega)
  rw [hh0] at ba3 st3
  have kp3 : XT.Kept s T3 := (XT.Kept.of_eq hh0).push bh3
  have hA3 := hA.keep X3.warmed.alike (kp3 _ _ hA.1.1)
  have hne : b ≠ s.heap.size := hA.1.ne
  have c4 : Steps p.tables e below (s₁.setTop (entryFrame m #[.ref b, .int (Int32.ofNat o), .int (Int32.ofNat len)] 6)) (T3.setTop (mkF m 3 #[.val (.ref b), .val (.int (Int32.ofNat o)), .val (.int (Int32.ofNat len)), .unset, .unset, .unset] [.ref s.heap.size])) := c2.trans (st3 _ (Steps.refl _))
  have c5 : Steps p.tables e below (s₁.setTop (entryFrame m #[.ref b, .int (Int32.ofNat o), .int (Int32.ofNat len)] 6)) (T3.setTop (mkF m 9 #[.val (.ref b), .val (.int (Int32.ofNat o)), .val (.int (Int32.ofNat len)), .val (.ref s.heap.size), .unset, .unset] [.int (Int32.ofNat len), .int 0, .ref s.heap.size, .int (Int32.ofNat o), .ref b])) := c4.trans (by
    refine XS.astoreN X3.here hexec rfl (hb hbytes d3) rfl rfl rfl ?_
    refine XS.aloadN X3.here hexec rfl (hb hbytes d4) rfl rfl ?_
    refine XS.iloadN X3.here hexec rfl (hb hbytes d5) rfl ?_
    refine XS.aloadN X3.here hexec rfl (hb hbytes d6) rfl rfl ?_
    refine iconstV X3.here hexec rfl 0 (hb hbytes d7) (by decide) ?_
    refine XS.iloadN X3.here hexec rfl (hb hbytes d8) rfl ?_
    exact Steps.refl _)
  obtain ⟨v6, T6, X6, E6, g6⟩ := X3.callS hexec (Cmp5.law l b A s.heap.size B3 o 0 len) hown (wks W (staticW U16 115 Cmp5.yN)) (wk W Cmp5.tab) (W := 0) (Nat.le_of_ble_eq_true rfl) (Nat.le_of_ble_eq_true rfl) (Nat.le_refl _) (by show 0 + len + 0 ≤ len; omega) (g := (mkF m 9 #[.val (.ref b), .val (.int (Int32.ofNat o)), .val (.int (Int32.ofNat len)), .val (.ref s.heap.size), .unset, .unset] [.int (Int32.ofNat len), .int (Int32.ofNat 0), .ref s.heap.size, .int (Int32.ofNat o), .ref b])) rfl (by rw [hml]; rfl) c5 (argsL := [.ref b, .int (Int32.ofNat o), .ref s.heap.size, .int (Int32.ofNat 0), .int (Int32.ofNat len)]) (rest := []) rfl rfl (by show 2 * 0 + 0 ≤ _; decide) (hb hbytes d9) (⟨rfl, hA3, ba3, hne, l1, by rw [bs3]; simp, hp⟩)
  obtain ⟨rfl, B6, p6, f6⟩ := E6
  have c7 : Steps p.tables e below (s₁.setTop (entryFrame m #[.ref b, .int (Int32.ofNat o), .int (Int32.ofNat len)] 6)) (T6.setTop (mkF m 12 #[.val (.ref b), .val (.int (Int32.ofNat o)), .val (.int (Int32.ofNat len)), .val (.ref s.heap.size), .unset, .unset] [.int (Int32.ofNat len)])) := g6
  have c8 : Steps p.tables e below (s₁.setTop (entryFrame m #[.ref b, .int (Int32.ofNat o), .int (Int32.ofNat len)] 6)) (T6.setTop (mkF m 58 #[.val (.ref b), .val (.int (Int32.ofNat o)), .val (.int (Int32.ofNat len)), .val (.ref s.heap.size), .val (.int (Int32.ofNat len)), .unset] [.ref s.heap.size])) := c7.trans (by
    refine XS.istore X6.here hexec rfl (hb hbytes d12) rfl rfl ?_
    refine XS.iload X6.here hexec rfl (hb hbytes d14) rfl ?_
    refine XS.iloadN X6.here hexec rfl (hb hbytes d16) rfl ?_
    refine XS.icmpYes X6.here hexec rfl (pc0 := 17) rfl (hb hbytes d17) rfl (ii_eq_t rfl) (by decide) rfl ?_
    refine XS.aloadN X6.here hexec rfl (hb hbytes d57) rfl rfl ?_
    exact Steps.refl _)
  have X8 := X6.wide (L' := []) (cells' := 1) (slots' := len) (fun x hx hlt => by
    simp only [List.nil_append, copyLocs, List.mem_map, List.mem_range] at hx
    obtain ⟨i, -, rfl⟩ := hx
    exact absurd hlt (Nat.lt_irrefl _)) (Nat.le_refl _) (by omega)
  exact ⟨T6, some (.ref s.heap.size), _, _, _, X8, rfl, rfl, rfl, (fun h => by cases h), ⟨⟨rfl, B6, ba3.like (X3.warmed.alike.symm.trans X6.warmed.alike) p6.1 f6.1 f6.2.1 f6.2.2.1, f6.2.1.trans bv3, by rw [X6.warmed.alike.findClass, f6.1]; exact bf3, by rw [f6.2.2.1, bs3]; simp, fun j hj => by rw [f6.2.2.2 j, if_pos (by omega)]; rfl, kp3.put p6 (Nat.le_refl _)⟩, by rw [p6.2.2, bh3, hh0]; simp⟩, fun fs hl => c8.trans (X8.areturnOut hexec rfl hret rfl (hb hbytes d58) hl)⟩
end Cmp3
namespace CodL
def yN : MethodName := ⟨"java/lang/StringUTF16", "coderFromArrayLen", "([BI)B"⟩
abbrev yB : ByteArray := jdk_52_method_15_code
theorem d0 : decode yB 0 = .ok (.iload_n 1, 1) := by decide +kernel
theorem d1 : decode yB 1 = .ok (.aload_n 0, 1) := by decide +kernel
theorem d2 : decode yB 2 = .ok (.arraylength, 1) := by decide +kernel
theorem d3 : decode yB 3 = .ok (.isub, 1) := by decide +kernel
theorem d4 : decode yB 4 = .ok (.bipush 31, 2) := by decide +kernel
theorem d6 : decode yB 6 = .ok (.iushr, 1) := by decide +kernel
theorem d7 : decode yB 7 = .ok (.i2b, 1) := by decide +kernel
theorem d8 : decode yB 8 = .ok (.ireturn, 1) := by decide +kernel
def site : List Cond := []
def tab : Cond := tabOf yN yB 2 (some .byte) site
def P (d : Addr) (B : Cell) (args : Array Value) (s : State) : Prop := args = #[.ref d, .int (Int32.ofNat B.slots.size)] ∧ Arr .byte d B s
def E (r : Option Value) (s u : State) : Prop := XT.PureE (some (.int 0)) r s u
/-- an array as long as the number of chars: LATIN1 -/
theorem law (l : Launch) (d : Addr) (B : Cell) : Law l yN 2 2 0 0 yB 2 (some .byte) site (P d B) E [] 0 0 := by
  refine Law.of_walk (plainFor_of_name (by decide +kernel)) (by decide +kernel) (by decide +kernel) (by decide) (fun _ _ h => by rw [h.1]; rfl) (fun _ U U' hal hh h => ⟨h.1, h.2.mv hal hh⟩) (fun r U U' V V' h1 hal h2 h => XT.PureE.mv r U U' V V' h1 hal h2 h) ?_
  intro p e s m args below meth c s₁ X0 hexec hbytes hml hret hlk hnm hown hh0 W hP
  obtain ⟨rfl, hB⟩ := hP
  have hB0 := hB.mv X0.warmed.alike hh0
  have c1 : Steps p.tables e below (s₁.setTop (entryFrame m #[.ref d, .int (Int32.ofNat B.slots.size)] 2)) (s₁.setTop (mkF m 0 #[.val (.ref d), .val (.int (Int32.ofNat B.slots.size))] [])) := entry rfl
  have c2 : Steps p.tables e below (s₁.setTop (entryFrame m #[.ref d, .int (Int32.ofNat B.slots.size)] 2)) (s₁.setTop (mkF m 2 #[.val (.ref d), .val (.int (Int32.ofNat B.slots.size))] [.ref d, .int (Int32.ofNat B.slots.size)])) := c1.trans (by
    refine XS.iloadN X0.here hexec rfl (hb hbytes d0) rfl ?_
    refine XS.aloadN X0.here hexec rfl (hb hbytes d1) rfl rfl ?_
    exact Steps.refl _)
  have c3 : Steps p.tables e below (s₁.setTop (entryFrame m #[.ref d, .int (Int32.ofNat B.slots.size)] 2)) (s₁.setTop (mkF m 8 #[.val (.ref d), .val (.int (Int32.ofNat B.slots.size))] [.int (lo8 (ushr (Int32.ofNat B.slots.size - Int32.ofNat B.slots.size) 31))])) := c2.trans (by
    refine X0.alen hexec hB0 rfl rfl (hb hbytes d2) ?_
    refine XS.isub X0.here hexec rfl (hb hbytes d3) rfl ?_
    refine bipushV X0.here hexec rfl 31 (hb hbytes d4) (by decide) ?_
    refine iushr X0.here hexec rfl (hb hbytes d6) rfl ?_
    refine i2b X0.here hexec rfl (hb hbytes d7) rfl ?_
    exact Steps.refl _)
  have e0 : lo8 (ushr (Int32.ofNat B.slots.size - Int32.ofNat B.slots.size) 31) = 0 := by rw [Int32.sub_self]; decide
  rw [e0] at c3
  exact ⟨s₁, some (.int 0), _, _, _, X0, rfl, rfl, rfl, (fun h => by cases h), ⟨rfl, hh0⟩, fun fs hl => c3.trans (X0.ireturnOut hexec hret rfl (Or.inr (Or.inr (Or.inl rfl))) (hb hbytes d8) hl)⟩
end CodL
/-- the String at a is Latin-1 over a new byte[] (the heap's one new cell): the low bytes of the len chars of A from o on; every cell but a is kept -/
def Got (a : Addr) (D : Cell) (fV fC : Field) (A : Cell) (o len : Nat) (r : Option Value) (s u : State) : Prop := r = none ∧ ∃ D' V : Cell, Blank "java/lang/String" a D' u ∧ Same D D' [fV.slot, fC.slot] ∧ D'.slots[fV.slot]? = some (.ref s.heap.size) ∧ D'.slots[fC.slot]? = some (.int 0) ∧ Arr .byte s.heap.size V u ∧ V.vm = .none ∧ u.vm.findClass "[B" = some V.cls ∧ V.slots.size = len ∧ (∀ j, j < len → V.slots[j]? = some (.int (lo8 (cv A (o + j))))) ∧ (∀ (y : Addr) (c : Cell), y ≠ a → s.heap[y]? = some c → u.heap[y]? = some c) ∧ u.heap.size = s.heap.size + 1
theorem Got.mv {a : Addr} {D A : Cell} {fV fC : Field} {o len : Nat} : ∀ r (U U' V V' : State), U'.heap = U.heap → V.vm.Alike V'.vm → V'.heap = V.heap → Got a D fV fC A o len r U V → Got a D fV fC A o len r U' V' :=
  fun r U U' V V' h1 hal h2 ⟨e0, D', X, a1, a2, a3, a4, a5, a6, a7, a8, a9, a10, a11⟩ => ⟨e0, D', X, a1.mv hal h2, a2, by rw [h1]; exact a3, a4, by rw [h1]; exact a5.mv hal h2, a6, by rw [hal.findClass]; exact a7, a8, a9, by rw [h1, h2]; exact a10, by rw [h1, h2]; exact a11⟩
namespace New4
def yN : MethodName := ⟨"java/lang/String", "<init>", "([CIILjava/lang/Void;)V"⟩
abbrev yB : ByteArray := jdk_42_method_149_code
theorem d0 : decode yB 0 = .ok (.aload_n 0, 1) := by decide +kernel
theorem d1 : decode yB 1 = .ok (.invokespecial 1, 3) := by decide +kernel
theorem d4 : decode yB 4 = .ok (.iload_n 3, 1) := by decide +kernel
theorem d5 : decode yB 5 = .ok (.ifCond (.ne) 22, 3) := by decide +kernel
theorem d27 : decode yB 27 = .ok (.getstatic 38, 3) := by decide +kernel
theorem d30 : decode yB 30 = .ok (.ifCond (.eq) 28, 3) := by decide +kernel
theorem d33 : decode yB 33 = .ok (.aload_n 1, 1) := by decide +kernel
theorem d34 : decode yB 34 = .ok (.iload_n 2, 1) := by decide +kernel
theorem d35 : decode yB 35 = .ok (.iload_n 3, 1) := by decide +kernel
theorem d36 : decode yB 36 = .ok (.invokestatic 177, 3) := by decide +kernel
theorem d39 : decode yB 39 = .ok (.astore 5, 2) := by decide +kernel
theorem d41 : decode yB 41 = .ok (.aload_n 0, 1) := by decide +kernel
theorem d42 : decode yB 42 = .ok (.aload 5, 2) := by decide +kernel
theorem d44 : decode yB 44 = .ok (.iload_n 3, 1) := by decide +kernel
theorem d45 : decode yB 45 = .ok (.invokestatic 47, 3) := by decide +kernel
theorem d48 : decode yB 48 = .ok (.putfield 15, 3) := by decide +kernel
theorem d51 : decode yB 51 = .ok (.aload_n 0, 1) := by decide +kernel
theorem d52 : decode yB 52 = .ok (.aload 5, 2) := by decide +kernel
theorem d54 : decode yB 54 = .ok (.putfield 9, 3) := by decide +kernel
theorem d57 : decode yB 57 = .ok (.return_, 1) := by decide +kernel
def site : List Cond := [.fieldLink "java/lang/String" 38 "java/lang/String" "COMPACT_STRINGS" "Z", Cmp3.tab, CodL.tab, .laysFinal "java/lang/String" "java/lang/String" "value" "[B", .fieldLink "java/lang/String" 9 "java/lang/String" "value" "[B", .laysFinal "java/lang/String" "java/lang/String" "coder" "B", .fieldLink "java/lang/String" 15 "java/lang/String" "coder" "B"] ++ objW "java/lang/String" 1 ++ staticW "java/lang/String" 177 Cmp3.yN ++ staticW "java/lang/String" 47 CodL.yN
def tab : Cond := tabOf yN yB 6 none site
def P (a : Addr) (D : Cell) (fV fC : Field) (b : Addr) (A : Cell) (z : Int32) (o len : Nat) (args : Array Value) (s : State) : Prop := args = #[.ref a, .ref b, .int (Int32.ofNat o), .int (Int32.ofNat len), .null] ∧ Blank "java/lang/String" a D s ∧ Found "java/lang/String" "value" "[B" fV s ∧ Found "java/lang/String" "coder" "B" fC s ∧ Ch b A s ∧ StaticIs s "java/lang/String" "COMPACT_STRINGS" "Z" (.int z) ∧ ¬ z = 0 ∧ 0 < len ∧ o + len ≤ A.slots.size ∧ len ≤ 536870912 ∧ ∀ i, i < len → ¬ 255 < cv A (o + i)
def E (a : Addr) (D : Cell) (fV fC : Field) (A : Cell) (o len : Nat) (r : Option Value) (s u : State) : Prop := Got a D fV fC A o len r s u
/-- len > 0, no char of the range above 255: a Latin-1 String of their low bytes -/
theorem law (l : Launch) (a : Addr) (D : Cell) (fV fC : Field) (b : Addr) (A : Cell) (z : Int32) (o len : Nat) : Law l yN 5 4 2 35 yB 6 none site (P a D fV fC b A z o len) (E a D fV fC A o len) [⟨a, fC.slot⟩, ⟨a, fV.slot⟩] 1 len := by
  refine Law.of_walk (plainFor_of_name (by decide +kernel)) (by decide +kernel) (by decide +kernel) (by decide) (fun _ _ h => by rw [h.1]; rfl) (fun _ U U' hal hh h => ⟨h.1, h.2.1.mv hal hh, h.2.2.1.al hal, h.2.2.2.1.al hal, h.2.2.2.2.1.mv hal hh, h.2.2.2.2.2.1.there hal hh, h.2.2.2.2.2.2⟩) (fun r U U' V V' h1 hal h2 h => Got.mv r U U' V V' h1 hal h2 h) ?_
  intro p e s m args below meth c s₁ X0 hexec hbytes hml hret hlk hnm hown hh0 W hP
  obtain ⟨rfl, hB, f1, f2, hA, s1, hz, l0, l1, l2, hp⟩ := hP
  have a31 := hA.1.2.2.2
  have c1 : Steps p.tables e below (s₁.setTop (entryFrame m #[.ref a, .ref b, .int (Int32.ofNat o), .int (Int32.ofNat len), .null] 6)) (s₁.setTop (mkF m 0 #[.val (.ref a), .val (.ref b), .val (.int (Int32.ofNat o)), .val (.int (Int32.ofNat len)), .val .null, .unset] [])) := entry rfl
  have c2 : Steps p.tables e below (s₁.setTop (entryFrame m #[.ref a, .ref b, .int (Int32.ofNat o), .int (Int32.ofNat len), .null] 6)) (s₁.setTop (mkF m 1 #[.val (.ref a), .val (.ref b), .val (.int (Int32.ofNat o)), .val (.int (Int32.ofNat len)), .val .null, .unset] [.ref a])) := c1.trans (by
    refine XS.aloadN X0.here hexec rfl (hb hbytes d0) rfl rfl ?_
    exact Steps.refl _)
  obtain ⟨T3, X3, q3, st3⟩ := X0.oinit hexec hown (wks W (objW "java/lang/String" 1)) (g := (mkF m 1 #[.val (.ref a), .val (.ref b), .val (.int (Int32.ofNat o)), .val (.int (Int32.ofNat len)), .val .null, .unset] [.ref a])) rfl (by rw [hml]; rfl) (rest := []) rfl (hb hbytes d1) (W := 0) (by show 2 * 0 + 0 ≤ _; decide) (Nat.le_of_ble_eq_true rfl) (Nat.le_of_ble_eq_true rfl)
  have hh3 := q3.trans hh0
  have c4 : Steps p.tables e below (s₁.setTop (entryFrame m #[.ref a, .ref b, .int (Int32.ofNat o), .int (Int32.ofNat len), .null] 6)) (T3.setTop (mkF m 27 #[.val (.ref a), .val (.ref b), .val (.int (Int32.ofNat o)), .val (.int (Int32.ofNat len)), .val .null, .unset] [])) := (c2.trans (st3 _ (Steps.refl _))).trans (by
    refine XS.iloadN X3.here hexec rfl (hb hbytes d4) rfl ?_
    refine XS.ifYes X3.here hexec rfl (pc0 := 5) rfl (hb hbytes d5) rfl (i0_ne_t (nz32 (by omega) l0)) (by decide) rfl ?_
    exact Steps.refl _)
  obtain ⟨T5, X5, q5, st5⟩ := X3.sget hexec hown (wk W (.fieldLink "java/lang/String" 38 "java/lang/String" "COMPACT_STRINGS" "Z")) s1 (fun _ _ h => by rw [hh3]; exact h) (g := (mkF m 27 #[.val (.ref a), .val (.ref b), .val (.int (Int32.ofNat o)), .val (.int (Int32.ofNat len)), .val .null, .unset] [])) rfl (hb hbytes d27)
  have hh5 := q5.trans hh3
  have c6 : Steps p.tables e below (s₁.setTop (entryFrame m #[.ref a, .ref b, .int (Int32.ofNat o), .int (Int32.ofNat len), .null] 6)) (T5.setTop (mkF m 30 #[.val (.ref a), .val (.ref b), .val (.int (Int32.ofNat o)), .val (.int (Int32.ofNat len)), .val .null, .unset] [.int z])) := c4.trans (st5 _ (Steps.refl _))
  have c7 : Steps p.tables e below (s₁.setTop (entryFrame m #[.ref a, .ref b, .int (Int32.ofNat o), .int (Int32.ofNat len), .null] 6)) (T5.setTop (mkF m 36 #[.val (.ref a), .val (.ref b), .val (.int (Int32.ofNat o)), .val (.int (Int32.ofNat len)), .val .null, .unset] [.int (Int32.ofNat len), .int (Int32.ofNat o), .ref b])) := c6.trans (by
    refine XS.ifNo X5.here hexec rfl (hb hbytes d30) rfl (i0_eq_f hz) ?_
    refine XS.aloadN X5.here hexec rfl (hb hbytes d33) rfl rfl ?_
    refine XS.iloadN X5.here hexec rfl (hb hbytes d34) rfl ?_
    refine XS.iloadN X5.here hexec rfl (hb hbytes d35) rfl ?_
    exact Steps.refl _)
  obtain ⟨v8, T8, X8, E8, g8⟩ := X5.callS hexec (Cmp3.law l b A o len) hown (wks W (staticW "java/lang/String" 177 Cmp3.yN)) (wk W Cmp3.tab) (W := 0) (Nat.le_of_ble_eq_true rfl) (Nat.le_of_ble_eq_true rfl) (Nat.le_refl _) (by show 0 + len ≤ len; omega) (g := (mkF m 36 #[.val (.ref a), .val (.ref b), .val (.int (Int32.ofNat o)), .val (.int (Int32.ofNat len)), .val .null, .unset] [.int (Int32.ofNat len), .int (Int32.ofNat o), .ref b])) rfl (by rw [hml]; rfl) c7 (argsL := [.ref b, .int (Int32.ofNat o), .int (Int32.ofNat len)]) (rest := []) rfl rfl (by show 2 * 0 + 0 ≤ _; decide) (hb hbytes d36) (⟨rfl, hA.mv X5.warmed.alike hh5, l1, l2, hp⟩)
  obtain ⟨e8, z8⟩ := E8
  obtain ⟨rfl, N, n1, n2, n3, n4, n5, n6⟩ := NewArr.mv _ T5 s _ _ hh5.symm (Vm.Alike.refl _) rfl e8
  rw [hh5] at z8
  have hB1 := hB.keep X8.warmed.alike (n6 _ _ hB.1)
  have hne : s.heap.size ≠ a := (Nat.ne_of_lt (Array.getElem?_eq_some_iff.mp hB.1).1).symm
  have c9 : Steps p.tables e below (s₁.setTop (entryFrame m #[.ref a, .ref b, .int (Int32.ofNat o), .int (Int32.ofNat len), .null] 6)) (T8.setTop (mkF m 39 #[.val (.ref a), .val (.ref b), .val (.int (Int32.ofNat o)), .val (.int (Int32.ofNat len)), .val .null, .unset] [.ref s.heap.size])) := g8
  have c10 : Steps p.tables e below (s₁.setTop (entryFrame m #[.ref a, .ref b, .int (Int32.ofNat o), .int (Int32.ofNat len), .null] 6)) (T8.setTop (mkF m 45 #[.val (.ref a), .val (.ref b), .val (.int (Int32.ofNat o)), .val (.int (Int32.ofNat len)), .val .null, .val (.ref s.heap.size)] [.int (Int32.ofNat N.slots.size), .ref s.heap.size, .ref a])) := by
    have hc : Steps p.tables e below (s₁.setTop (entryFrame m #[.ref a, .ref b, .int (Int32.ofNat o), .int (Int32.ofNat len), .null] 6)) (T8.setTop (mkF m 45 #[.val (.ref a), .val (.ref b), .val (.int (Int32.ofNat o)), .val (.int (Int32.ofNat len)), .val .null, .val (.ref s.heap.size)] [.int (Int32.ofNat len), .ref s.heap.size, .ref a])) := c9.trans (by
      refine XS.astore X8.here hexec rfl (hb hbytes d39) rfl rfl rfl ?_
      refine XS.aloadN X8.here hexec rfl (hb hbytes d41) rfl rfl ?_
      refine XS.aload X8.here hexec rfl (hb hbytes d42) rfl rfl ?_
      refine XS.iloadN X8.here hexec rfl (hb hbytes d44) rfl ?_
      exact Steps.refl _)
    rw [n4]; exact hc
  obtain ⟨v11, T11, X11, E11, g11⟩ := X8.callS hexec (CodL.law l s.heap.size N) hown (wks W (staticW "java/lang/String" 47 CodL.yN)) (wk W CodL.tab) (W := 1) (Nat.le_of_ble_eq_true rfl) (Nat.le_of_ble_eq_true rfl) (Nat.le_refl _) (by show 0 + len + 0 ≤ len; omega) (g := (mkF m 45 #[.val (.ref a), .val (.ref b), .val (.int (Int32.ofNat o)), .val (.int (Int32.ofNat len)), .val .null, .val (.ref s.heap.size)] [.int (Int32.ofNat N.slots.size), .ref s.heap.size, .ref a])) rfl (by rw [hml]; rfl) c10 (argsL := [.ref s.heap.size, .int (Int32.ofNat N.slots.size)]) (rest := [.ref a]) rfl rfl (by show 2 * 0 + (1 + 0) ≤ _; decide) (hb hbytes d45) (⟨rfl, n1⟩)
  obtain ⟨rfl, q11⟩ := E11
  have hB11 := hB1.mv (X8.warmed.alike.symm.trans X11.warmed.alike) q11
  have c12 : Steps p.tables e below (s₁.setTop (entryFrame m #[.ref a, .ref b, .int (Int32.ofNat o), .int (Int32.ofNat len), .null] 6)) (T11.setTop (mkF m 48 #[.val (.ref a), .val (.ref b), .val (.int (Int32.ofNat o)), .val (.int (Int32.ofNat len)), .val .null, .val (.ref s.heap.size)] [.int 0, .ref a])) := g11
  obtain ⟨T13, X13, p13, bl13, sl13, st13⟩ := X11.finit hexec hown (wk W (.fieldLink "java/lang/String" 15 "java/lang/String" "coder" "B")) (Or.inr ⟨_, (wk W (.laysFinal "java/lang/String" "java/lang/String" "coder" "B"))⟩) (Or.inl ⟨rfl, hnm⟩) f2 (Or.inl rfl) hB11 (t := .byte) (by decide +kernel) rfl (g := (mkF m 48 #[.val (.ref a), .val (.ref b), .val (.int (Int32.ofNat o)), .val (.int (Int32.ofNat len)), .val .null, .val (.ref s.heap.size)] [.int 0, .ref a])) rfl (rest := []) rfl (hb hbytes d48)
  have c14 : Steps p.tables e below (s₁.setTop (entryFrame m #[.ref a, .ref b, .int (Int32.ofNat o), .int (Int32.ofNat len), .null] 6)) (T13.setTop (mkF m 54 #[.val (.ref a), .val (.ref b), .val (.int (Int32.ofNat o)), .val (.int (Int32.ofNat len)), .val .null, .val (.ref s.heap.size)] [.ref s.heap.size, .ref a])) := (c12.trans (st13 _ (Steps.refl _))).trans (by
    refine XS.aloadN X13.here hexec rfl (hb hbytes d51) rfl rfl ?_
    refine XS.aload X13.here hexec rfl (hb hbytes d52) rfl rfl ?_
    exact Steps.refl _)
  obtain ⟨T15, X15, p15, bl15, sl15, st15⟩ := X13.finit hexec hown (wk W (.fieldLink "java/lang/String" 9 "java/lang/String" "value" "[B")) (Or.inr ⟨_, (wk W (.laysFinal "java/lang/String" "java/lang/String" "value" "[B"))⟩) (Or.inl ⟨rfl, hnm⟩) f1 (Or.inl rfl) bl13 (t := (.array .byte)) (by decide +kernel) rfl (g := (mkF m 54 #[.val (.ref a), .val (.ref b), .val (.int (Int32.ofNat o)), .val (.int (Int32.ofNat len)), .val .null, .val (.ref s.heap.size)] [.ref s.heap.size, .ref a])) rfl (rest := []) rfl (hb hbytes d54)
  have c16 : Steps p.tables e below (s₁.setTop (entryFrame m #[.ref a, .ref b, .int (Int32.ofNat o), .int (Int32.ofNat len), .null] 6)) (T15.setTop (mkF m 57 #[.val (.ref a), .val (.ref b), .val (.int (Int32.ofNat o)), .val (.int (Int32.ofNat len)), .val .null, .val (.ref s.heap.size)] [])) := c14.trans (st15 _ (Steps.refl _))
  have ap := apart (Or.inr ⟨_, (wk W (.laysFinal "java/lang/String" "java/lang/String" "value" "[B"))⟩) (Or.inr ⟨_, (wk W (.laysFinal "java/lang/String" "java/lang/String" "coder" "B"))⟩) f1 f2 (t₁ := .array .byte) (t₂ := .byte) (by decide +kernel) (by decide +kernel) (by decide)
  have al := X8.warmed.alike.symm.trans X15.warmed.alike
  have n7 : T11.heap[s.heap.size]? = some N := by rw [q11]; exact n1.1
  exact ⟨T15, none, _, _, _, X15, by simp, rfl, by omega, (fun _ => rfl), ⟨rfl, _, N, bl15, ((Same.refl D _).set _ (by simp)).set _ (by simp), sl15, (Cell.slots_setSlot_ne _ ap).trans sl13, n1.keep al (p15.other hne (p13.other hne n7)), n2, by rw [al.findClass]; exact n3, n4, n5, fun y c h1 h2 => p15.other h1 (p13.other h1 (by rw [q11]; exact n6 y c h2)), by rw [p15.2.2, p13.2.2, q11]; exact z8⟩, fun fs hl => c16.trans (X15.returnOut hexec hret (hb hbytes d57) hl)⟩
end New4
namespace New1
def yN : MethodName := ⟨"java/lang/String", "<init>", "([C)V"⟩
abbrev yB : ByteArray := jdk_42_method_3_code
theorem d0 : decode yB 0 = .ok (.aload_n 0, 1) := by decide +kernel
theorem d1 : decode yB 1 = .ok (.aload_n 1, 1) := by decide +kernel
theorem d2 : decode yB 2 = .ok (.iconst 0, 1) := by decide +kernel
theorem d3 : decode yB 3 = .ok (.aload_n 1, 1) := by decide +kernel
theorem d4 : decode yB 4 = .ok (.arraylength, 1) := by decide +kernel
theorem d5 : decode yB 5 = .ok (.aconst_null, 1) := by decide +kernel
theorem d6 : decode yB 6 = .ok (.invokespecial 27, 3) := by decide +kernel
theorem d9 : decode yB 9 = .ok (.return_, 1) := by decide +kernel
def site : List Cond := [New4.tab] ++ initW "java/lang/String" 27 New4.yN
def tab : Cond := tabOf yN yB 2 none site
def P (a : Addr) (D : Cell) (fV fC : Field) (b : Addr) (A : Cell) (z : Int32) (args : Array Value) (s : State) : Prop := args = #[.ref a, .ref b] ∧ Blank "java/lang/String" a D s ∧ Found "java/lang/String" "value" "[B" fV s ∧ Found "java/lang/String" "coder" "B" fC s ∧ Ch b A s ∧ StaticIs s "java/lang/String" "COMPACT_STRINGS" "Z" (.int z) ∧ ¬ z = 0 ∧ 0 < A.slots.size ∧ A.slots.size ≤ 536870912 ∧ ∀ i, i < A.slots.size → ¬ 255 < cv A i
def E (a : Addr) (D : Cell) (fV fC : Field) (A : Cell) (r : Option Value) (s u : State) : Prop := Got a D fV fC A 0 A.slots.size r s u
/-- new String(chars), not empty, no char above 255: a Latin-1 String of their low bytes -/
theorem law (l : Launch) (a : Addr) (D : Cell) (fV fC : Field) (b : Addr) (A : Cell) (z : Int32) : Law l yN 2 1 3 52 yB 2 none site (P a D fV fC b A z) (E a D fV fC A) [⟨a, fC.slot⟩, ⟨a, fV.slot⟩] 1 A.slots.size := by
  refine Law.of_walk (plainFor_of_name (by decide +kernel)) (by decide +kernel) (by decide +kernel) (by decide) (fun _ _ h => by rw [h.1]; rfl) (fun _ U U' hal hh h => ⟨h.1, h.2.1.mv hal hh, h.2.2.1.al hal, h.2.2.2.1.al hal, h.2.2.2.2.1.mv hal hh, h.2.2.2.2.2.1.there hal hh, h.2.2.2.2.2.2⟩) (fun r U U' V V' h1 hal h2 h => Got.mv r U U' V V' h1 hal h2 h) ?_
  intro p e s m args below meth c s₁ X0 hexec hbytes hml hret hlk hnm hown hh0 W hP
  obtain ⟨rfl, hB, f1, f2, hA, s1, hz, l0, l2, hp⟩ := hP
  have c1 : Steps p.tables e below (s₁.setTop (entryFrame m #[.ref a, .ref b] 2)) (s₁.setTop (mkF m 0 #[.val (.ref a), .val (.ref b)] [])) := entry rfl
  have c2 : Steps p.tables e below (s₁.setTop (entryFrame m #[.ref a, .ref b] 2)) (s₁.setTop (mkF m 6 #[.val (.ref a), .val (.ref b)] [.null, .int (Int32.ofNat A.slots.size), .int 0, .ref b, .ref a])) := c1.trans (by
    refine XS.aloadN X0.here hexec rfl (hb hbytes d0) rfl rfl ?_
    refine XS.aloadN X0.here hexec rfl (hb hbytes d1) rfl rfl ?_
    refine iconstV X0.here hexec rfl 0 (hb hbytes d2) (by decide) ?_
    refine XS.aloadN X0.here hexec rfl (hb hbytes d3) rfl rfl ?_
    refine X0.alen hexec (hA.1.mv X0.warmed.alike hh0) rfl rfl (hb hbytes d4) ?_
    refine XS.aconstNull X0.here hexec rfl (hb hbytes d5) ?_
    exact Steps.refl _)
  obtain ⟨v3, T3, X3, E3, g3⟩ := X0.callN hexec (New4.law l a D fV fC b A z 0 A.slots.size) rfl hown (wks W (initW "java/lang/String" 27 New4.yN)) (W New4.tab (by simp only [site, List.mem_cons, List.mem_append, true_or, or_true])) (W := 0) (Nat.le_of_ble_eq_true rfl) (Nat.le_of_ble_eq_true rfl) (Nat.le_refl _) (by show 0 + A.slots.size ≤ A.slots.size; omega) (g := (mkF m 6 #[.val (.ref a), .val (.ref b)] [.null, .int (Int32.ofNat A.slots.size), .int (Int32.ofNat 0), .ref b, .ref a])) rfl (by rw [hml]; rfl) c2 (argsL := [.ref b, .int (Int32.ofNat 0), .int (Int32.ofNat A.slots.size), .null]) (rest := []) rfl rfl (by show 2 * 0 + 0 ≤ _; decide) (hb hbytes d6) (⟨rfl, hB.mv X0.warmed.alike hh0, f1.al X0.warmed.alike, f2.al X0.warmed.alike, hA.mv X0.warmed.alike hh0, s1.there X0.warmed.alike hh0, hz, l0, by omega, l2, fun i hi => by rw [Nat.zero_add]; exact hp i hi⟩)
  have e0 := Got.mv _ s₁ s _ _ hh0.symm (Vm.Alike.refl _) rfl E3
  obtain rfl := e0.1
  have c4 : Steps p.tables e below (s₁.setTop (entryFrame m #[.ref a, .ref b] 2)) (T3.setTop (mkF m 9 #[.val (.ref a), .val (.ref b)] [])) := g3
  exact ⟨T3, none, _, _, _, X3, by simp, rfl, by omega, (fun _ => rfl), e0, fun fs hl => c4.trans (X3.returnOut hexec hret (hb hbytes d9) hl)⟩
theorem pays {l : Launch} {R : Room} {p : Program} {e : Env} {below : List Frame} {s : State} {sargs : Array Value} {len W : Nat} (a : Addr) (D : Cell) (fV fC : Field) (b : Addr) (A : Cell) (z : Int32) (htab : tab.before sargs s = true) (hfr : 4 ≤ R.frames) (hlo : W + 65 ≤ R.locals) :
    Back l R p e below s sargs yN len W (fun A₁ a₁ => A₁.cells + 1 ≤ R.cells ∧ A₁.slots + A.slots.size ≤ R.slots ∧ P a D fV fC b A z a₁ A₁.U) (fun A₁ _ v₁ B₁ => E a D fV fC A v₁ A₁.U B₁.U ∧ B₁.locs = A₁.locs ++ [⟨a, fC.slot⟩, ⟨a, fV.slot⟩] ∧ B₁.cells = A₁.cells + 1 ∧ B₁.slots = A₁.slots + A.slots.size) :=
  (law l a D fV fC b A z).pays htab hfr (by omega)
end New1
/-- the byte, read back as charAt reads it, is the char -/
theorem lo8_mask {x : Int32} (h0 : ¬ x < 0) (h1 : ¬ 255 < x) : lo8 x &&& 255 = x := by
  have t : ∀ k : Fin 256, lo8 (Int32.ofNat k.val) &&& 255 = Int32.ofNat k.val := by decide +kernel
  rw [Int32.lt_iff_toInt_lt] at h0 h1
  have e0 : (0 : Int32).toInt = 0 := rfl
  have e1 : (255 : Int32).toInt = 255 := rfl
  obtain ⟨k, hk⟩ : ∃ k : Nat, x.toInt = k := ⟨x.toInt.toNat, by omega⟩
  have hx : x = Int32.ofNat k := Int32.toInt_inj.mp (by rw [hk, Int32.toInt_ofNat_small (by omega)])
  rw [hx]
  exact t ⟨k, by omega⟩
end StrChars
namespace StrChars.Road
open Jvm Sem ClassFile Op Lib Jvm.Stand Jvm.Free Jvm.Free.XT
open Jvm.Lib.Cold (StaticIs)
abbrev ST : String := "java/lang/String"
/-- every table word that New1's law asks, flat -/
abbrev words : List Jvm.Cond := [.code New1.yN New1.yB 2 none, .initialized ST, .methodLink ST 27 New4.yN, .instanceMethod New4.yN,
  .code New4.yN New4.yB 6 none, .fieldLink ST 38 ST "COMPACT_STRINGS" "Z", .laysFinal ST ST "value" "[B", .fieldLink ST 9 ST "value" "[B", .laysFinal ST ST "coder" "B", .fieldLink ST 15 ST "coder" "B",
  .methodLink ST 1 Lib.objectInit, .instanceMethod Lib.objectInit, .code Lib.objectInit ⟨#[0xb1]⟩ 1 none, .methodLink ST 177 Cmp3.yN, .static Cmp3.yN, .methodLink ST 47 CodL.yN, .static CodL.yN,
  .code Cmp3.yN Cmp3.yB 6 (some (.array .byte)), .initialized U16, .arrayClass .byte, .methodLink U16 115 Cmp5.yN, .static Cmp5.yN, .code Cmp5.yN Cmp5.yB 7 (some .int), .code CodL.yN CodL.yB 2 (some .byte)]
theorem tab_of {a : Array Value} {s : State} (h : ∀ w ∈ words, w.before a s = true) : New1.tab.before a s = true := by
  have h5 : Cmp5.tab.before a s = true := unparts (wk h (.code Cmp5.yN Cmp5.yB 7 (some .int))) (wks h (.initialized Cmp5.yN.cls :: Cmp5.site))
  have hc : CodL.tab.before a s = true := unparts (wk h (.code CodL.yN CodL.yB 2 (some .byte))) (wks h (.initialized CodL.yN.cls :: CodL.site))
  have q5 : ∀ w ∈ Cmp5.tab :: words, w.before a s = true := fun w hw => (List.mem_cons.mp hw).elim (fun e => e ▸ h5) (h w)
  have h3 : Cmp3.tab.before a s = true := unparts (wk q5 (.code Cmp3.yN Cmp3.yB 6 (some (.array .byte)))) (wks q5 (.initialized Cmp3.yN.cls :: Cmp3.site))
  have q3 : ∀ w ∈ Cmp3.tab :: CodL.tab :: words, w.before a s = true := fun w hw => (List.mem_cons.mp hw).elim (fun e => e ▸ h3) fun hw => (List.mem_cons.mp hw).elim (fun e => e ▸ hc) (h w)
  have h4 : New4.tab.before a s = true := unparts (wk q3 (.code New4.yN New4.yB 6 none)) (wks q3 (.initialized New4.yN.cls :: New4.site))
  have q4 : ∀ w ∈ New4.tab :: words, w.before a s = true := fun w hw => (List.mem_cons.mp hw).elim (fun e => e ▸ h4) (h w)
  exact unparts (wk q4 (.code New1.yN New1.yB 2 none)) (wks q4 (.initialized New1.yN.cls :: New1.site))
/-- the words ride from the start Z to the walk's own state -/
theorem moved {Z s : State} {a0 args : Array Value} (hZ : Z.Warmed39 s.vm) (hw : ∀ d ∈ words, d.before a0 Z = true) : ∀ d ∈ words, d.before args s = true := fun d hd => by
  have q := hw d hd
  have t : ∀ d ∈ words, d = .arrayClass .byte ∨ (d.onTables && d.keepsFace) = true := by decide +kernel
  rcases t d hd with rfl | t
  · exact RoadKit.mvA hZ q
  · exact RoadKit.mv hZ q t
/-- WHAT COMES BACK, over the tables of the start Z: h the heap at the call, h' behind it -/
def Q (Z : State) (x : Addr) (A : Cell) (h : Heap) (v : Option Value) (h' : Heap) (L : List Loc) : Prop := v = none ∧ (∀ y ∈ L, y.base = x) ∧ RoadKit.Keep h h' [x] ∧ h'.size = h.size + 1 ∧ RoadKit.Exa Z h' x ST ∧ RoadKit.Fld Z h' x ST "value" "[B" (.ref h.size) ∧ RoadKit.Fld Z h' x ST "coder" "B" (.int 0) ∧
  (∃ V : Cell, RoadKit.Arr Z h' h.size V .byte ∧ V.vm = .none ∧ Z.vm.findClass "[B" = some V.cls ∧ V.slots.size = A.slots.size ∧ ∀ j, j < A.slots.size → V.slots[j]? = some (.int (lo8 (cv A j)))) ∧
  ∀ (O n d : String) (w : Value), RoadKit.Fld Z h x O n d w → RoadKit.slotOf Z O n d ≠ RoadKit.slotOf Z ST "value" "[B" → RoadKit.slotOf Z O n d ≠ RoadKit.slotOf Z ST "coder" "B" → RoadKit.Fld Z h' x O n d w
/-- **new String(chars) AT A CALL, IN THE ROAD'S FORM**: for specialBack behind newO: x the fresh String, b the char[] with the cell A -/
theorem back {p : Program} {l : Launch} {e : Env} {R : Room} {s : State} {args : Array Value} {below : List Frame} {len W : Nat} {Z : State} {a0 : Array Value} {h : Heap} (hZ : Z.Warmed39 s.vm) (hw : ∀ d ∈ words, d.before a0 Z = true) {kI : Nat} (wi : (Jvm.Cond.instantiable ST kI).before a0 Z = true)
    {x b : Addr} {A : Cell} {z : Int32} {v0 c0 : Value} (E : RoadKit.Exa Z h x ST) (V : RoadKit.Fld Z h x ST "value" "[B" v0) (C : RoadKit.Fld Z h x ST "coder" "B" c0) (K : RoadKit.Arr Z h b A .char) (hty : Typed .char A) (S : RoadKit.Sta Z h ST "COMPACT_STRINGS" "Z" (.int z)) (hz : ¬ z = 0)
    (l0 : 0 < A.slots.size) (l2 : A.slots.size ≤ 536870912) (hp : ∀ i, i < A.slots.size → ¬ 255 < cv A i) (hfr : 4 ≤ R.frames) (hlo : W + 65 ≤ R.locals) :
    Back l R p e below s args New1.yN len W (fun P a => a = #[.ref x, .ref b] ∧ P.U.heap = h ∧ P.cells + 1 ≤ R.cells ∧ P.slots + A.slots.size ≤ R.slots)
      (fun P _ v B => ∃ L, Q Z x A h v B.U.heap L ∧ B.locs = P.locs ++ L ∧ B.cells = P.cells + 1 ∧ B.slots = P.slots + A.slots.size) := by
  intro m meth c P g ig mk a X hg hsize hdg hW hn hp'
  obtain ⟨rfl, rfl, r1, r2⟩ := hp'
  have al : Z.vm.Alike P.U.vm := hZ.alike.trans X.warmed.alike
  obtain ⟨D, cfV, kV, iV, fV, hD, gV, stV, knV, obV, asV, slV⟩ := id V
  obtain ⟨D', cfC, kC, iC, fC, hD', gC, stC, -, -, asC, slC⟩ := id C
  cases hD.symm.trans hD'
  obtain ⟨D2, kD, e1, e2, e3, e4, e5⟩ := id E
  cases hD.symm.trans e1
  obtain ⟨c2, k2, i1, i2, i3, -⟩ := Cond.instantiable_spec wi
  cases e2.symm.trans i1
  cases e3.symm.trans i2
  obtain ⟨kU, u1, u2⟩ := al.2.2 _ _ e3
  have hB : Blank ST x D P.U := ⟨hD, ⟨knV, fun q hq => by rw [hq] at obV; cases obV⟩, by rw [al.findClass]; exact e2, kU, u1, by rw [u2]; exact i3, by rw [u2]; exact e5 i3⟩
  have F1 : Found ST "value" "[B" fV P.U := ⟨SBG.found_only al ⟨cfV, kV, iV, gV⟩, stV⟩
  have F2 : Found ST "coder" "B" fC P.U := ⟨SBG.found_only al ⟨cfC, kC, iC, gC⟩, stC⟩
  have hA : Ch b A P.U := ⟨⟨K.1, State.isArrayOf_alike al K.2.1, K.2.2, by omega⟩, hty⟩
  have hS : StaticIs P.U ST "COMPACT_STRINGS" "Z" (.int z) := by
    obtain ⟨cfS, iS, kS, fS, st, cS, t1, t2, t3, t4, t5, t6, t7⟩ := S
    exact StaticIs.there (s := { Z with heap := P.U.heap }) ⟨cfS, iS, kS, fS, st, cS, t1, t2, t3, t4, t5, (fun q => by rw [q] at t6; cases t6), t7⟩ al rfl
  obtain ⟨v, B, X', ⟨⟨hv, E', V', q1, q2, q3, q4, q5, q6, q7, q8, q9, q10, q11⟩, hl, hc, hs⟩, st⟩ := New1.pays x D fV fC b A z (tab_of (moved hZ hw)) hfr hlo m meth c P g ig mk _ X hg hsize hdg hW hn ⟨r1, r2, rfl, hB, F1, F2, hA, hS, hz, l0, l2, hp⟩
  have al' : Z.vm.Alike B.U.vm := hZ.alike.trans X'.warmed.alike
  have hsz : E'.slots.size = D.slots.size := by
    obtain ⟨-, -, -, kB, w1, w2, w3⟩ := q1
    obtain ⟨kB', y1, y2⟩ := al'.2.2 _ _ e3
    rw [q2.2.1] at w1
    cases w1.symm.trans y1
    rw [w3, e5 i3, y2]
  refine ⟨v, B, X', ⟨_, ⟨hv, ?_, ⟨by omega, fun y cy hy hn' => q10 y cy (by simpa using hn') hy, fun y cy hy => ?_⟩, q11, ⟨E', _, q1.1, by rw [q2.2.1]; exact e2, by rw [q2.2.1]; exact e3, by rw [q2.1]; exact obV, fun _ => by rw [hsz]; exact e5 i3⟩,
    ⟨E', cfV, kV, iV, fV, q1.1, gV, stV, by rw [q2.1]; exact knV, by rw [q2.1]; exact obV, by rw [q2.2.1]; exact asV, q3⟩, ⟨E', cfC, kC, iC, fC, q1.1, gC, stC, by rw [q2.1]; exact knV, by rw [q2.1]; exact obV, by rw [q2.2.1]; exact asC, q4⟩,
    ⟨V', ⟨q5.1, State.isArrayOf_alike al'.symm q5.2.1, q5.2.2.1⟩, q6, by rw [← al'.findClass]; exact q7, q8, fun j hj => by have := q9 j hj; rwa [Nat.zero_add] at this⟩, fun O n d w F n1 n2 => ?_⟩, hl, hc, hs⟩, st⟩
  · intro y hy
    simp only [List.mem_cons, List.not_mem_nil, or_false] at hy
    rcases hy with rfl | rfl <;> rfl
  · by_cases q : y = x
    · subst q
      cases hD.symm.trans hy
      exact ⟨E', q1.1, q2.2.1, q2.1, hsz⟩
    · exact ⟨cy, q10 y cy q hy, rfl, rfl, rfl⟩
  · obtain ⟨D3, cf, k, i, f, g1, g2, g3, g4, g5, g6, g7⟩ := F
    cases hD.symm.trans g1
    simp only [RoadKit.slotOf, g2, gV, gC, Option.map_some, Option.getD_some] at n1 n2
    exact ⟨E', cf, k, i, f, q1.1, g2, g3, by rw [q2.1]; exact g4, by rw [q2.1]; exact g5, by rw [q2.2.1]; exact g6, by rw [q2.2.2 f.slot (by simp [n1, n2])]; exact g7⟩
end StrChars.Road
namespace StrChars.Road
open Jvm Sem ClassFile Op Lib Jvm.Stand Jvm.Free Jvm.Free.XT
/-- WHAT COMES BACK, the byte[] as a list of values -/
def QA (Z : State) (x : Addr) (zn : Int32) (cs : List Int32) (h : Heap) (v : Option Value) (h' : Heap) (L : List Loc) : Prop := v = none ∧ (∀ y ∈ L, y.base = x) ∧ RoadKit.Keep h h' [x] ∧ h'.size = h.size + 1 ∧ RoadKit.Exa Z h' x ST ∧ RoadKit.Fld Z h' x ST "value" "[B" (.ref h.size) ∧ RoadKit.Fld Z h' x ST "coder" "B" (.int 0) ∧
  (∃ kb, Z.vm.findClass "[B" = some kb ∧ RoadKit.Arv Z h' h.size kb .byte zn (cs.map fun c => .int (lo8 c)) (.int 0)) ∧
  ∀ (O n d : String) (w : Value), RoadKit.Fld Z h x O n d w → RoadKit.slotOf Z O n d ≠ RoadKit.slotOf Z ST "value" "[B" → RoadKit.slotOf Z O n d ≠ RoadKit.slotOf Z ST "coder" "B" → RoadKit.Fld Z h' x O n d w
/-- **new String(chars) AT A CALL, THE ARRAYS AS LISTS**: the char[] at b holds cs, not empty, no char above 255 -/
theorem backArv {p : Program} {l : Launch} {e : Env} {R : Room} {s : State} {args : Array Value} {below : List Frame} {len W : Nat} {Z : State} {a0 : Array Value} {h : Heap} (hZ : Z.Warmed39 s.vm) (hw : ∀ d ∈ words, d.before a0 Z = true) {kI : Nat} (wi : (Jvm.Cond.instantiable ST kI).before a0 Z = true)
    {x b : Addr} {k : ClassId} {zn z : Int32} {cs : List Int32} {dv v0 c0 : Value} (E : RoadKit.Exa Z h x ST) (V : RoadKit.Fld Z h x ST "value" "[B" v0) (C : RoadKit.Fld Z h x ST "coder" "B" c0) (K : RoadKit.Arv Z h b k .char zn (cs.map Value.int) dv) (S : RoadKit.Sta Z h ST "COMPACT_STRINGS" "Z" (.int z)) (hz : ¬ z = 0)
    (hlen : zn.toNatClampNeg = cs.length) (h0 : 0 < cs.length) (hbig : cs.length ≤ 536870912) (hall : ∀ c ∈ cs, ¬ 255 < c) (hfr : 4 ≤ R.frames) (hlo : W + 65 ≤ R.locals) :
    Back l R p e below s args New1.yN len W (fun P a => a = #[.ref x, .ref b] ∧ P.U.heap = h ∧ P.cells + 1 ≤ R.cells ∧ P.slots + cs.length ≤ R.slots)
      (fun P _ v B => ∃ L, QA Z x zn cs h v B.U.heap L ∧ B.locs = P.locs ++ L ∧ B.cells = P.cells + 1 ∧ B.slots = P.slots + cs.length) := by
  obtain ⟨A, K1, K2, K3, K4, K5, K6⟩ := K
  have e : A.slots.size = cs.length := K3.trans hlen
  have hat : ∀ (i : Nat) (hi : i < cs.length), A.slots[i]? = some (.int cs[i]) := fun i hi => by rw [K5 i (by omega)]; simp [List.getD_eq_getElem?_getD, hi]
  have hcv : ∀ (i : Nat) (hi : i < cs.length), cv A i = cs[i] := fun i hi => by unfold cv; rw [hat i hi]
  have hty : Typed .char A := fun i v hv => by
    have hi : i < A.slots.size := (Array.getElem?_eq_some_iff.mp hv).1
    have q := K5 i hi
    rw [hv] at q
    rw [Option.some.inj q]
    exact K6 i hi
  refine Back.mono (back hZ hw wi E V C K1 hty S hz (by omega) (by omega) (fun i hi => by rw [hcv i (by omega)]; exact hall _ (List.getElem_mem _)) hfr hlo) (fun P a hp => ⟨hp.1, hp.2.1, hp.2.2.1, by rw [e]; exact hp.2.2.2⟩) (fun P a v B hp hq => ?_)
  obtain ⟨L, ⟨q1, q2, q3, q4, q5, q6, q7, ⟨V', v1, v2, v3, v4, v5⟩, q9⟩, hl, hc, hs⟩ := hq
  refine ⟨L, ⟨q1, q2, q3, q4, q5, q6, q7, ⟨V'.cls, v3, V', v1, rfl, by rw [v4, e, hlen], K4, fun i hi => ?_, fun i hi => ?_⟩, q9⟩, hl, hc, by rw [hs, e]⟩
  · have hi' : i < cs.length := by omega
    rw [v5 i (by omega), hcv i hi']; simp [List.getD_eq_getElem?_getD, hi']
  · have hi' : i < cs.length := by omega
    simp only [List.getD_eq_getElem?_getD, List.getElem?_map, List.getElem?_eq_getElem hi', Option.map_some, Option.getD_some]
    exact fits_lo8 _
end StrChars.Road
namespace StrChars.Road
open Jvm Sem ClassFile Op Lib Jvm.Stand Jvm.Free Jvm.Free.XT
/-- WHAT COMES BACK, in the writer's own shape -/
def QV (Z : State) (x : Addr) (N : Int32) (bs : List Int32) (h : Heap) (n0 : Nat) (v : Option Value) (h' : Heap) (L : List Loc) : Prop := v = none ∧ RoadKit.Fr n0 L ∧ RoadKit.Keep h h' [x] ∧ RoadKit.Exa Z h' x ST ∧ RoadKit.Fld Z h' x ST "coder" "B" (.int 0) ∧
  ∃ (t : Addr) (kb : ClassId), n0 ≤ t ∧ h.size ≤ t ∧ ¬ t = x ∧ RoadKit.Fld Z h' x ST "value" "[B" (.ref t) ∧ RoadKit.Arv Z h' t kb .byte N (bs.map Value.int) (.int 0)
/-- **new String(chars) AT A CALL, FOR THE WRITER**: a char[] of n known ints, each 0 to 255 -/
theorem backV {p : Program} {l : Launch} {e : Env} {R : Room} {s : State} {args : Array Value} {below : List Frame} {len W : Nat} {Z : State} {a0 : Array Value} {h : Heap} (hZ : Z.Warmed39 s.vm) (hw : ∀ d ∈ words, d.before a0 Z = true) {kI : Nat} (wi : (Jvm.Cond.instantiable ST kI).before a0 Z = true)
    {x b : Addr} {kC : ClassId} {cs bs : List Int32} {d v0 c0 : Value} {z N : Int32} {n n0 : Nat} (hx0 : n0 ≤ x) (hh0 : n0 ≤ h.size) (E : RoadKit.Exa Z h x ST) (V : RoadKit.Fld Z h x ST "value" "[B" v0) (C : RoadKit.Fld Z h x ST "coder" "B" c0) (K : RoadKit.Arv Z h b kC .char N (cs.map Value.int) d) (S : RoadKit.Sta Z h ST "COMPACT_STRINGS" "Z" (.int z)) (hz : ¬ z = 0)
    (hn : cs.length = n) (hN : N = Int32.ofNat n) (l0 : 0 < n) (l2 : n ≤ 4000) (hp : ∀ c ∈ cs, ¬ c < 0 ∧ ¬ (255 : Int32) < c) (hb : bs = cs.map (fun c => c.toInt8.toInt32)) (hfr : 4 ≤ R.frames) (hlo : W + 65 ≤ R.locals) :
    Back l R p e below s args (⟨"java/lang/String", "<init>", "([C)V"⟩ : MethodName) len W (fun P a => a = #[.ref x, .ref b] ∧ P.U.heap = h ∧ P.cells + 1 ≤ R.cells ∧ P.slots + n ≤ R.slots)
      (fun P _ v B => ∃ L, QV Z x N bs h n0 v B.U.heap L ∧ B.locs = P.locs ++ L ∧ B.cells = P.cells + 1 ∧ B.slots = P.slots + n) := by
  subst hn hN hb
  refine Back.mono (backArv hZ hw wi E V C K S hz (n32 (by omega)) l0 (by omega) (fun c hc => (hp c hc).2) hfr hlo) (fun P a hp => hp) (fun P a v B hp hq => ?_)
  obtain ⟨L, ⟨q1, q2, q3, q4, q5, q6, q7, ⟨kb, v1, v2⟩, q9⟩, hl, hc, hs⟩ := hq
  exact ⟨L, ⟨q1, fun y hy => by rw [q2 y hy]; exact hx0, q3, q5, q7, h.size, kb, hh0, Nat.le_refl _, Nat.ne_of_gt E.lt, q6, by rw [List.map_map]; exact v2⟩, hl, hc, hs⟩
end StrChars.Road
namespace StrChars
open Jvm Sem ClassFile Op Lib Jvm.Stand Jvm.Free.XT Jvm.Free.ALB Jvm.Free.JM Jvm.Free
open Jvm.Lib.Cold (StaticIs)
def hi8 (x : Int32) : Int32 := lo8 (x >>> ((8 : Int32) &&& 31))
/-- what StringUTF16.getChar makes of two bytes -/
def pairCh (u v : Int32) : Int32 := (((u &&& 255) <<< ((0 : Int32) &&& 31)) ||| ((v &&& 255) <<< ((8 : Int32) &&& 31))).toUInt32.toUInt16.toUInt32.toInt32
theorem shr0 (c : Int32) : c >>> ((0 : Int32) &&& 31) = c := by
  have e : ((0 : Int32) &&& 31) = 0 := by decide
  rw [e]
  apply Int32.toBitVec_inj.mp
  rw [Int32.toBitVec_shiftRight]
  have e1 : ((0 : Int32).toBitVec.smod 32) = 0#32 := by decide
  rw [e1, BitVec.sshiftRight_eq']
  exact BitVec.sshiftRight_zero
theorem lo8_and (x : Int32) : (lo8 x &&& 255).toBitVec.toNat = x.toBitVec.toNat % 256 := by
  have h : (lo8 x).toBitVec = (x.toBitVec.signExtend 8).signExtend 32 := by rw [lo8, Int8.toBitVec_toInt32, Int32.toBitVec_toInt8]
  rw [Int32.toBitVec_and, BitVec.toNat_and, h]
  have e : ((x.toBitVec.signExtend 8).signExtend 32).toNat % 256 = x.toBitVec.toNat % 256 := by
    rw [BitVec.toNat_signExtend]
    have hlt := x.toBitVec.isLt
    simp only [BitVec.toNat_setWidth, BitVec.toNat_signExtend]
    split <;> split <;> omega
  rw [← e]
  exact Nat.and_two_pow_sub_one_eq_mod _ 8
theorem pair_says {c : Int32} (h0 : ¬ c < 0) (h1 : ¬ 65535 < c) : pairCh (lo8 c) (hi8 c) = c := by
  rw [Int32.lt_iff_toInt_lt] at h0 h1
  have e0 : (0 : Int32).toInt = 0 := rfl
  have e1 : (65535 : Int32).toInt = 65535 := rfl
  have hc : c.toInt = c.toBitVec.toNat := by
    have := c.toBitVec.isLt
    have e : c.toInt = c.toBitVec.toInt := rfl
    rw [e] at h0 h1
    rw [e]
    rw [BitVec.toInt_eq_toNat_cond] at h0 h1 ⊢
    split at h0 <;> split <;> omega
  have hn : c.toBitVec.toNat < 65536 := by omega
  have a1 := lo8_and c
  have a2 : (hi8 c &&& 255).toBitVec.toNat = c.toBitVec.toNat / 256 := by
    rw [hi8, lo8_and]
    have e : ((8 : Int32) &&& 31) = 8 := by decide
    rw [e, Int32.toBitVec_shiftRight]
    have e2 : ((8 : Int32).toBitVec.smod 32) = 8#32 := by decide
    rw [e2, BitVec.sshiftRight_eq', BitVec.toNat_sshiftRight_of_msb_false (by rw [BitVec.msb_eq_false_iff_two_mul_lt]; omega)]
    show c.toBitVec.toNat >>> 8 % 256 = _
    rw [Nat.shiftRight_eq_div_pow]
    omega
  unfold pairCh
  apply Int32.toBitVec_inj.mp
  apply BitVec.eq_of_toNat_eq
  have f0 : ((0 : Int32) &&& 31) = 0 := by decide
  have f8 : ((8 : Int32) &&& 31) = 8 := by decide
  rw [f0, f8]
  have g : (((lo8 c &&& 255) <<< (0 : Int32)) ||| ((hi8 c &&& 255) <<< (8 : Int32))).toBitVec.toNat = c.toBitVec.toNat := by
    rw [Int32.toBitVec_or, Int32.toBitVec_shiftLeft, Int32.toBitVec_shiftLeft]
    have s0 : ((0 : Int32).toBitVec.smod 32) = 0#32 := by decide
    have s8 : ((8 : Int32).toBitVec.smod 32) = 8#32 := by decide
    rw [s0, s8, BitVec.toNat_or]
    simp only [BitVec.shiftLeft_eq', BitVec.toNat_shiftLeft, a1, a2]
    show (c.toBitVec.toNat % 256) <<< 0 % 2 ^ 32 ||| (c.toBitVec.toNat / 256) <<< 8 % 2 ^ 32 = _
    rw [Nat.shiftLeft_zero, Nat.mod_eq_of_lt (show c.toBitVec.toNat % 256 < 2 ^ 32 by omega), Nat.mod_eq_of_lt (show (c.toBitVec.toNat / 256) <<< 8 < 2 ^ 32 by rw [Nat.shiftLeft_eq]; omega), Nat.or_comm, ← Nat.shiftLeft_add_eq_or_of_lt (by omega), Nat.shiftLeft_eq]
    omega
  show BitVec.toNat (((((lo8 c &&& 255) <<< (0 : Int32)) ||| ((hi8 c &&& 255) <<< (8 : Int32))).toBitVec.setWidth 16).setWidth 32) = _
  rw [BitVec.toNat_setWidth, BitVec.toNat_setWidth, g]
  omega
end StrChars
namespace StrChars
open Jvm Sem ClassFile Op Lib Jvm.Stand Jvm.Free.XT Jvm.Free.ALB Jvm.Free.JM Jvm.Free
open Jvm.Lib.Cold (StaticIs)
theorem shr1 {n : Nat} (h : 2 * n < 2 ^ 31) : Int32.ofNat (2 * n) >>> ((1 : Int32) &&& 31) = Int32.ofNat n := by
  have e : ((1 : Int32) &&& 31) = 1 := by decide
  rw [e]
  apply Int32.toBitVec_inj.mp
  rw [Int32.toBitVec_shiftRight]
  have e1 : ((1 : Int32).toBitVec.smod 32) = 1#32 := by decide
  have hm : (BitVec.ofNat 32 (2 * n)).toNat = 2 * n := by rw [BitVec.toNat_ofNat, Nat.mod_eq_of_lt (by omega)]
  rw [e1, BitVec.sshiftRight_eq']
  apply BitVec.eq_of_toNat_eq
  show ((BitVec.ofNat 32 (2 * n)).sshiftRight 1).toNat = (BitVec.ofNat 32 n).toNat
  rw [BitVec.toNat_sshiftRight_of_msb_false (by rw [BitVec.msb_eq_false_iff_two_mul_lt, hm]; omega), hm, BitVec.toNat_ofNat, Nat.shiftRight_eq_div_pow]
  omega
/-- the array's cell V codes the n chars f 0 .. f (n - 1) by the coder cd, as the JDK does: coder 1 just where some char is above 255 -/
def Cod (cd : Int32) (n : Nat) (f : Nat → Int32) (V : Cell) : Prop := (cd = 0 ∧ V.slots.size = n ∧ ∀ j, j < n → V.slots[j]? = some (.int (lo8 (f j))) ∧ ¬ 255 < f j) ∨ (cd = 1 ∧ V.slots.size = 2 * n ∧ (∀ j, j < n → V.slots[2 * j]? = some (.int (lo8 (f j))) ∧ V.slots[2 * j + 1]? = some (.int (hi8 (f j)))) ∧ ∃ j, j < n ∧ 255 < f j)
theorem Cod.cd {cd : Int32} {n : Nat} {f : Nat → Int32} {V : Cell} (h : Cod cd n f V) : cd = 0 ∨ cd = 1 := h.imp (fun q => q.1) fun q => q.1
theorem Cod.len {cd : Int32} {n : Nat} {f : Nat → Int32} {V : Cell} (h : Cod cd n f V) (hs : V.slots.size < 2 ^ 31) : Int32.ofNat V.slots.size >>> (cd &&& 31) = Int32.ofNat n := by
  rcases h with ⟨rfl, h, -⟩ | ⟨rfl, h, -⟩
  · rw [shr0, h]
  · rw [h, shr1 (by omega)]
/-- **x is a String of the n chars f 0 .. f (n - 1)**, Latin-1 or UTF-16; its array at t has the cell V -/
def Txt (x t : Addr) (V : Cell) (cd : Int32) (n : Nat) (f : Nat → Int32) (U : State) : Prop := Exact "java/lang/String" x U ∧ Has x "java/lang/String" "value" "[B" (.ref t) U ∧ Has x "java/lang/String" "coder" "B" (.int cd) U ∧ XT.Arr .byte t V U ∧ Cod cd n f V ∧ ∀ j, j < n → ¬ f j < 0 ∧ ¬ 65535 < f j
theorem Txt.mv {x t : Addr} {V : Cell} {cd : Int32} {n : Nat} {f : Nat → Int32} {U U' : State} (h : Txt x t V cd n f U) (hal : U.vm.Alike U'.vm) (hh : U'.heap = U.heap) : Txt x t V cd n f U' := ⟨h.1.mv hal hh, h.2.1.mv hal hh, h.2.2.1.mv hal hh, h.2.2.2.1.mv hal hh, h.2.2.2.2⟩
namespace Cdr
def yN : MethodName := ⟨"java/lang/String", "coder", "()B"⟩
abbrev yB : ByteArray := jdk_42_method_152_code
theorem d0 : decode yB 0 = .ok (.getstatic 38, 3) := by decide +kernel
theorem d3 : decode yB 3 = .ok (.ifCond (.eq) 10, 3) := by decide +kernel
theorem d6 : decode yB 6 = .ok (.aload_n 0, 1) := by decide +kernel
theorem d7 : decode yB 7 = .ok (.getfield 15, 3) := by decide +kernel
theorem d10 : decode yB 10 = .ok (.goto 4, 3) := by decide +kernel
theorem d14 : decode yB 14 = .ok (.ireturn, 1) := by decide +kernel
def site : List Cond := [.fieldLink "java/lang/String" 38 "java/lang/String" "COMPACT_STRINGS" "Z", .fieldLink "java/lang/String" 15 "java/lang/String" "coder" "B"]
def tab : Cond := tabOf yN yB 1 (some .byte) site
def P (x : Addr) (cd z : Int32) (args : Array Value) (s : State) : Prop := args = #[.ref x] ∧ Has x "java/lang/String" "coder" "B" (.int cd) s ∧ (cd = 0 ∨ cd = 1) ∧ StaticIs s "java/lang/String" "COMPACT_STRINGS" "Z" (.int z) ∧ ¬ z = 0
def E (cd : Int32) (r : Option Value) (s u : State) : Prop := XT.PureE (some (.int cd)) r s u
theorem law (l : Launch) (x : Addr) (cd z : Int32) : Law l yN 1 0 0 0 yB 1 (some .byte) site (P x cd z) (E cd) [] 0 0 := by
  refine Law.of_walk (plainFor_of_name (by decide +kernel)) (by decide +kernel) (by decide +kernel) (by decide) (fun _ _ h => by rw [h.1]; rfl) (fun _ U U' hal hh h => ⟨h.1, h.2.1.mv hal hh, h.2.2.1, h.2.2.2.1.there hal hh, h.2.2.2.2⟩) (fun r U U' V V' h1 hal h2 h => XT.PureE.mv r U U' V V' h1 hal h2 h) ?_
  intro p e s m args below meth c s₁ X0 hexec hbytes hml hret hlk hnm hown hh0 W hP
  obtain ⟨rfl, hx, hc, s1, hz⟩ := hP
  have c1 : Steps p.tables e below (s₁.setTop (entryFrame m #[.ref x] 1)) (s₁.setTop (mkF m 0 #[.val (.ref x)] [])) := entry rfl
  obtain ⟨T2, X2, q2, st2⟩ := X0.sget hexec hown (wk W (.fieldLink "java/lang/String" 38 "java/lang/String" "COMPACT_STRINGS" "Z")) s1 (fun _ _ h => by rw [hh0]; exact h) (g := (mkF m 0 #[.val (.ref x)] [])) rfl (hb hbytes d0)
  have hh2 := q2.trans hh0
  have c3 : Steps p.tables e below (s₁.setTop (entryFrame m #[.ref x] 1)) (T2.setTop (mkF m 7 #[.val (.ref x)] [.ref x])) := (c1.trans (st2 _ (Steps.refl _))).trans (by
    refine XS.ifNo X2.here hexec rfl (hb hbytes d3) rfl (i0_eq_f hz) ?_
    refine XS.aloadN X2.here hexec rfl (hb hbytes d6) rfl rfl ?_
    exact Steps.refl _)
  obtain ⟨T4, X4, q4, st4⟩ := X2.hget hexec hown (wk W (.fieldLink "java/lang/String" 15 "java/lang/String" "coder" "B")) (hx.mv X2.warmed.alike hh2) (g := (mkF m 7 #[.val (.ref x)] [.ref x])) rfl (rest := []) rfl (hb hbytes d7)
  have c5 : Steps p.tables e below (s₁.setTop (entryFrame m #[.ref x] 1)) (T4.setTop (mkF m 14 #[.val (.ref x)] [.int cd])) := (c3.trans (st4 _ (Steps.refl _))).trans (by
    refine XS.goto X4.here hexec rfl (pc0 := 10) rfl (hb hbytes d10) (by decide) rfl ?_
    exact Steps.refl _)
  exact ⟨T4, some (.int cd), _, _, _, X4, rfl, rfl, rfl, (fun h => by cases h), ⟨rfl, q4.trans hh2⟩, fun fs hl => c5.trans (X4.ireturnOut hexec hret (by rcases hc with rfl | rfl <;> rfl) (Or.inr (Or.inr (Or.inl rfl))) (hb hbytes d14) hl)⟩
end Cdr
namespace Len
def yN : MethodName := ⟨"java/lang/String", "length", "()I"⟩
abbrev yB : ByteArray := jdk_42_method_54_code
theorem d0 : decode yB 0 = .ok (.aload_n 0, 1) := by decide +kernel
theorem d1 : decode yB 1 = .ok (.getfield 9, 3) := by decide +kernel
theorem d4 : decode yB 4 = .ok (.arraylength, 1) := by decide +kernel
theorem d5 : decode yB 5 = .ok (.aload_n 0, 1) := by decide +kernel
theorem d6 : decode yB 6 = .ok (.invokevirtual 335, 3) := by decide +kernel
theorem d9 : decode yB 9 = .ok (.ishr, 1) := by decide +kernel
theorem d10 : decode yB 10 = .ok (.ireturn, 1) := by decide +kernel
def site : List Cond := [.fieldLink "java/lang/String" 9 "java/lang/String" "value" "[B", Cdr.tab] ++ virtW "java/lang/String" 335 "java/lang/String" Cdr.yN Cdr.yN
def tab : Cond := tabOf yN yB 1 (some .int) site
def P (x t : Addr) (V : Cell) (cd : Int32) (n : Nat) (f : Nat → Int32) (z : Int32) (args : Array Value) (s : State) : Prop := args = #[.ref x] ∧ Txt x t V cd n f s ∧ StaticIs s "java/lang/String" "COMPACT_STRINGS" "Z" (.int z) ∧ ¬ z = 0
def E (n : Nat) (r : Option Value) (s u : State) : Prop := XT.PureE (some (.int (Int32.ofNat n))) r s u
/-- length() of a String of n chars, in either coding -/
theorem law (l : Launch) (x t : Addr) (V : Cell) (cd : Int32) (n : Nat) (f : Nat → Int32) (z : Int32) : Law l yN 1 0 1 13 yB 1 (some .int) site (P x t V cd n f z) (E n) [] 0 0 := by
  refine Law.of_walk (plainFor_of_name (by decide +kernel)) (by decide +kernel) (by decide +kernel) (by decide) (fun _ _ h => by rw [h.1]; rfl) (fun _ U U' hal hh h => ⟨h.1, h.2.1.mv hal hh, h.2.2.1.there hal hh, h.2.2.2⟩) (fun r U U' V V' h1 hal h2 h => XT.PureE.mv r U U' V V' h1 hal h2 h) ?_
  intro p e s m args below meth c s₁ X0 hexec hbytes hml hret hlk hnm hown hh0 W hP
  obtain ⟨rfl, hx, s1, hz⟩ := hP
  have v31 := hx.2.2.2.1.2.2.2
  have c1 : Steps p.tables e below (s₁.setTop (entryFrame m #[.ref x] 1)) (s₁.setTop (mkF m 1 #[.val (.ref x)] [.ref x])) := Steps.trans (entry rfl) (by
    show Steps p.tables e below (s₁.setTop (mkF m 0 #[.val (.ref x)] [])) _
    refine XS.aloadN X0.here hexec rfl (hb hbytes d0) rfl rfl ?_
    exact Steps.refl _)
  obtain ⟨T2, X2, q2, st2⟩ := X0.hget hexec hown (wk W (.fieldLink "java/lang/String" 9 "java/lang/String" "value" "[B")) (hx.mv X0.warmed.alike hh0).2.1 (g := (mkF m 1 #[.val (.ref x)] [.ref x])) rfl (rest := []) rfl (hb hbytes d1)
  have hh2 := q2.trans hh0
  have hx2 := hx.mv X2.warmed.alike hh2
  have c3 : Steps p.tables e below (s₁.setTop (entryFrame m #[.ref x] 1)) (T2.setTop (mkF m 6 #[.val (.ref x)] [.ref x, .int (Int32.ofNat V.slots.size)])) := (c1.trans (st2 _ (Steps.refl _))).trans (by
    refine X2.alen hexec hx2.2.2.2.1 rfl rfl (hb hbytes d4) ?_
    refine XS.aloadN X2.here hexec rfl (hb hbytes d5) rfl rfl ?_
    exact Steps.refl _)
  obtain ⟨v4, T4, X4, E4, g4⟩ := X2.callV hexec (Cdr.law l x cd z) hown (wks W (virtW "java/lang/String" 335 "java/lang/String" Cdr.yN Cdr.yN)) rfl (by decide) (wk W Cdr.tab) (W := 1) (Nat.le_of_ble_eq_true rfl) (Nat.le_of_ble_eq_true rfl) (Nat.le_refl _) (Nat.le_refl _) (hx2.1.fc X2.warmed.alike) hx2.1.is (g := (mkF m 6 #[.val (.ref x)] [.ref x, .int (Int32.ofNat V.slots.size)])) rfl (by rw [hml]; rfl) c3 (argsL := []) (rest := [.int (Int32.ofNat V.slots.size)]) rfl rfl (by show 2 * 0 + (1 + 0) ≤ _; decide) (hb hbytes d6) (⟨rfl, hx2.2.2.1, hx.2.2.2.2.1.cd, s1.there X2.warmed.alike hh2, hz⟩)
  obtain ⟨rfl, q4⟩ := E4
  have c5 : Steps p.tables e below (s₁.setTop (entryFrame m #[.ref x] 1)) (T4.setTop (mkF m 10 #[.val (.ref x)] [.int (Int32.ofNat V.slots.size >>> (cd &&& 31))])) := Steps.trans g4 (by
    refine ishr X4.here hexec rfl (hb hbytes d9) rfl ?_
    exact Steps.refl _)
  rw [hx.2.2.2.2.1.len v31] at c5
  exact ⟨T4, some (.int (Int32.ofNat n)), _, _, _, X4, rfl, rfl, rfl, (fun h => by cases h), ⟨rfl, q4.trans hh2⟩, fun fs hl => c5.trans (X4.ireturnOut hexec hret rfl (Or.inl rfl) (hb hbytes d10) hl)⟩
theorem pays {l : Launch} {R : Room} {p : Program} {e : Env} {below : List Frame} {s : State} {sargs : Array Value} {len W : Nat} (x t : Addr) (V : Cell) (cd : Int32) (n : Nat) (f : Nat → Int32) (z : Int32) (htab : tab.before sargs s = true) (hfr : 2 ≤ R.frames) (hlo : W + 25 ≤ R.locals) :
    Back l R p e below s sargs yN len W (fun A₁ a₁ => A₁.cells + 0 ≤ R.cells ∧ A₁.slots + 0 ≤ R.slots ∧ P x t V cd n f z a₁ A₁.U) (fun A₁ _ v₁ B₁ => E n v₁ A₁.U B₁.U ∧ B₁.locs = A₁.locs ++ [] ∧ B₁.cells = A₁.cells + 0 ∧ B₁.slots = A₁.slots + 0) :=
  (law l x t V cd n f z).pays htab hfr (by omega)
end Len
end StrChars
namespace StrChars.Road
open Jvm Sem ClassFile Op Lib Jvm.Stand Jvm.Free Jvm.Free.XT
open Jvm.Lib.Cold (StaticIs)
theorem consq {a : Array Value} {s : State} {c : Jvm.Cond} {L : List Jvm.Cond} (h0 : c.before a s = true) (h : ∀ w ∈ L, w.before a s = true) : ∀ w ∈ c :: L, w.before a s = true := fun w hw => (List.mem_cons.mp hw).elim (fun e => e ▸ h0) (h w)
/-- the words of String.length(), either coding -/
abbrev wordsLen : List Jvm.Cond := [.code Len.yN Len.yB 1 (some .int), .initialized ST, .fieldLink ST 9 ST "value" "[B", .fieldLink ST 38 ST "COMPACT_STRINGS" "Z", .fieldLink ST 15 ST "coder" "B", .code Cdr.yN Cdr.yB 1 (some .byte), .methodLink ST 335 Cdr.yN, .declares Cdr.yN, .selects ST Cdr.yN Cdr.yN, .instanceMethod Cdr.yN]
theorem tabLen_of {a : Array Value} {s : State} (h : ∀ w ∈ wordsLen, w.before a s = true) : Len.tab.before a s = true := by
  have hc : Cdr.tab.before a s = true := unparts (wk h (.code Cdr.yN Cdr.yB 1 (some .byte))) (wks h (.initialized Cdr.yN.cls :: Cdr.site))
  have q := consq hc h
  exact unparts (wk q (.code Len.yN Len.yB 1 (some .int))) (wks q (.initialized Len.yN.cls :: Len.site))
theorem movedLen {Z s : State} {a0 args : Array Value} (hZ : Z.Warmed39 s.vm) (hw : ∀ d ∈ wordsLen, d.before a0 Z = true) : ∀ d ∈ wordsLen, d.before args s = true := fun d hd => by
  have q := hw d hd
  have t : ∀ d ∈ wordsLen, d = .arrayClass .byte ∨ (d.onTables && d.keepsFace) = true := by decide +kernel
  rcases t d hd with rfl | t
  · exact RoadKit.mvA hZ q
  · exact RoadKit.mv hZ q t
/-- the bytes of the chars cs, low before high -/
def wideBytes : List Int32 → List Value
  | [] => []
  | c :: cs => .int (lo8 c) :: .int (hi8 c) :: wideBytes cs
theorem wide_lo (d : Value) : ∀ (cs : List Int32) (j : Nat), j < cs.length → (wideBytes cs).getD (2 * j) d = .int (lo8 (cs.getD j 0))
  | [], j, h => absurd h (Nat.not_lt_zero j)
  | c :: cs, 0, _ => rfl
  | c :: cs, j + 1, h => by
    have q := wide_lo d cs j (by simpa using h)
    rw [show 2 * (j + 1) = 2 * j + 1 + 1 from by omega]
    simpa [wideBytes] using q
theorem wide_hi (d : Value) : ∀ (cs : List Int32) (j : Nat), j < cs.length → (wideBytes cs).getD (2 * j + 1) d = .int (hi8 (cs.getD j 0))
  | [], j, h => absurd h (Nat.not_lt_zero j)
  | c :: cs, 0, _ => rfl
  | c :: cs, j + 1, h => by
    have q := wide_hi d cs j (by simpa using h)
    rw [show 2 * (j + 1) + 1 = 2 * j + 1 + 1 + 1 from by omega]
    simpa [wideBytes] using q
theorem low_at (d : Value) (cs : List Int32) (j : Nat) (h : j < cs.length) : (cs.map fun c => Value.int (lo8 c)).getD j d = .int (lo8 (cs.getD j 0)) := by
  simp [List.getD_eq_getElem?_getD, h]
/-- an array of N2 bytes vs codes the chars cs by the coder cd -/
def CodA (cs : List Int32) (cd N2 : Int32) (vs : List Value) : Prop := (cd = 0 ∧ N2 = Int32.ofNat cs.length ∧ vs = (cs.map fun c => Value.int (lo8 c)) ∧ ∀ c ∈ cs, ¬ 255 < c) ∨ (cd = 1 ∧ N2 = Int32.ofNat (2 * cs.length) ∧ vs = wideBytes cs ∧ ∃ c ∈ cs, 255 < c)
theorem CodA.cod {cs : List Int32} {cd N2 : Int32} {vs : List Value} {V : Cell} (h : CodA cs cd N2 vs) (hn : 2 * cs.length < 2 ^ 31) (hs : V.slots.size = N2.toNatClampNeg) (hv : RoadKit.Has V vs (.int 0)) : Cod cd cs.length (fun j => cs.getD j 0) V := by
  rcases h with ⟨rfl, rfl, rfl, h⟩ | ⟨rfl, rfl, rfl, c, hc, hw⟩
  · rw [n32 (by omega)] at hs
    exact Or.inl ⟨rfl, hs, fun j hj => ⟨by rw [hv j (by omega), low_at _ _ _ hj], by
      have e : cs.getD j 0 = cs[j] := by simp [List.getD_eq_getElem?_getD, hj]
      show ¬ 255 < cs.getD j 0
      rw [e]; exact h _ (List.getElem_mem _)⟩⟩
  · rw [n32 (by omega)] at hs
    obtain ⟨j, hj, rfl⟩ := List.getElem_of_mem hc
    exact Or.inr ⟨rfl, hs, fun j hj => ⟨by rw [hv _ (by omega), wide_lo _ _ _ hj], by rw [hv _ (by omega), wide_hi _ _ _ hj]⟩, j, hj, by
      have e : cs.getD j 0 = cs[j] := by simp [List.getD_eq_getElem?_getD, hj]
      show 255 < cs.getD j 0
      rw [e]; exact hw⟩
/-- an object of exactly java/lang/String, its two fields found: as the laws ask it -/
theorem strObj {Z U : State} {a0 : Array Value} {kI : Nat} (wi : (Jvm.Cond.instantiable ST kI).before a0 Z = true) (al : Z.vm.Alike U.vm) {x : Addr} {v0 c0 : Value} (E : RoadKit.Exa Z U.heap x ST) (V : RoadKit.Fld Z U.heap x ST "value" "[B" v0) (C : RoadKit.Fld Z U.heap x ST "coder" "B" c0) :
    ∃ (D : Cell) (fV fC : Field), Blank ST x D U ∧ Found ST "value" "[B" fV U ∧ Found ST "coder" "B" fC U ∧ D.slots[fV.slot]? = some v0 ∧ D.slots[fC.slot]? = some c0 ∧ RoadKit.slotOf Z ST "value" "[B" = fV.slot ∧ RoadKit.slotOf Z ST "coder" "B" = fC.slot := by
  obtain ⟨D, cfV, kV, iV, fV, hD, gV, stV, knV, obV, asV, slV⟩ := V
  obtain ⟨D', cfC, kC, iC, fC, hD', gC, stC, -, -, asC, slC⟩ := C
  cases hD.symm.trans hD'
  obtain ⟨D2, kD, e1, e2, e3, e4, e5⟩ := E
  cases hD.symm.trans e1
  obtain ⟨c2, k2, i1, i2, i3, -⟩ := Cond.instantiable_spec wi
  cases e2.symm.trans i1
  cases e3.symm.trans i2
  obtain ⟨kU, u1, u2⟩ := al.2.2 _ _ e3
  exact ⟨D, fV, fC, ⟨hD, ⟨knV, fun q hq => by rw [hq] at obV; cases obV⟩, by rw [al.findClass]; exact e2, kU, u1, by rw [u2]; exact i3, by rw [u2]; exact e5 i3⟩, ⟨SBG.found_only al ⟨cfV, kV, iV, gV⟩, stV⟩, ⟨SBG.found_only al ⟨cfC, kC, iC, gC⟩, stC⟩, slV, slC, by simp [RoadKit.slotOf, gV], by simp [RoadKit.slotOf, gC]⟩
theorem sta_is {Z U : State} (al : Z.vm.Alike U.vm) {C n d : String} {v : Value} (S : RoadKit.Sta Z U.heap C n d v) : StaticIs U C n d v := by
  obtain ⟨cfS, iS, kS, fS, st, cS, t1, t2, t3, t4, t5, t6, t7⟩ := S
  exact StaticIs.there (s := { Z with heap := U.heap }) ⟨cfS, iS, kS, fS, st, cS, t1, t2, t3, t4, t5, (fun q => by rw [q] at t6; cases t6), t7⟩ al rfl
/-- **length() OF SUCH A STRING** -/
theorem lenW {p : Program} {l : Launch} {e : Env} {R : Room} {s : State} {args : Array Value} {below : List Frame} {len W : Nat} {Z : State} {a0 : Array Value} {h : Heap} (hZ : Z.Warmed39 s.vm) (hw : ∀ d ∈ wordsLen, d.before a0 Z = true) {kI : Nat} (wi : (Jvm.Cond.instantiable ST kI).before a0 Z = true)
    {x t : Addr} {kb : ClassId} {cs : List Int32} {cd N2 z : Int32} {vs : List Value} (E : RoadKit.Exa Z h x ST) (V : RoadKit.Fld Z h x ST "value" "[B" (.ref t)) (C : RoadKit.Fld Z h x ST "coder" "B" (.int cd)) (K : RoadKit.Arv Z h t kb .byte N2 vs (.int 0)) (hc : CodA cs cd N2 vs) (hb : ∀ c ∈ cs, ¬ c < 0 ∧ ¬ (65535 : Int32) < c)
    (S : RoadKit.Sta Z h ST "COMPACT_STRINGS" "Z" (.int z)) (hz : ¬ z = 0) (l2 : cs.length ≤ 4000) (hfr : 2 ≤ R.frames) (hlo : W + 25 ≤ R.locals) :
    Back l R p e below s args (⟨"java/lang/String", "length", "()I"⟩ : MethodName) len W (fun P a => a = #[.ref x] ∧ P.U.heap = h ∧ P.cells + 0 ≤ R.cells ∧ P.slots + 0 ≤ R.slots)
      (fun P _ v B => ∃ L, (v = some (.int (Int32.ofNat cs.length)) ∧ L = [] ∧ B.U.heap = h) ∧ B.locs = P.locs ++ L ∧ B.cells = P.cells + 0 ∧ B.slots = P.slots + 0) := by
  obtain ⟨A, K1, K2, K3, K4, K5, K6⟩ := K
  have hcod := hc.cod (by omega) K3 K5
  intro m meth c P g ig mk a X hg hsize hdg hW hn hp'
  obtain ⟨rfl, rfl, r1, r2⟩ := hp'
  have al : Z.vm.Alike P.U.vm := hZ.alike.trans X.warmed.alike
  obtain ⟨D, fV, fC, hB, F1, F2, g1, g2, -, -⟩ := strObj wi al E V C
  have hx : Txt x t A cd cs.length (fun j => cs.getD j 0) P.U := ⟨⟨_, hB.2.2.1, D, hB.1, rfl, by cases q : D.vm <;> first | rfl | exact absurd q (hB.2.1.2 _)⟩, Has.of hB F1 g1, Has.of hB F2 g2, ⟨K1.1, State.isArrayOf_alike al K1.2.1, K1.2.2, by rcases hcod with ⟨-, q, -⟩ | ⟨-, q, -⟩ <;> omega⟩, hcod, fun j hj => by
    have e : cs.getD j 0 = cs[j] := by simp [List.getD_eq_getElem?_getD, hj]
    show ¬ cs.getD j 0 < 0 ∧ ¬ 65535 < cs.getD j 0
    rw [e]; exact hb _ (List.getElem_mem _)⟩
  obtain ⟨v, B, X', ⟨⟨hv, hh⟩, hl, hk, hs⟩, st⟩ := Len.pays x t A cd cs.length (fun j => cs.getD j 0) z (tabLen_of (movedLen hZ hw)) hfr hlo m meth c P g ig mk _ X hg hsize hdg hW hn ⟨r1, r2, rfl, hx, sta_is al S, hz⟩
  exact ⟨v, B, X', ⟨[], ⟨hv, rfl, hh⟩, hl, hk, hs⟩, st⟩
end StrChars.Road
namespace StrChars
open Jvm Sem ClassFile Op Lib Jvm.Stand Jvm.Free.XT Jvm.Free.ALB Jvm.Free.JM Jvm.Free
open Jvm.Lib.Cold (StaticIs)
namespace Emp
def yN : MethodName := ⟨"java/lang/String", "isEmpty", "()Z"⟩
abbrev yB : ByteArray := jdk_42_method_55_code
theorem d0 : decode yB 0 = .ok (.aload_n 0, 1) := by decide +kernel
theorem d1 : decode yB 1 = .ok (.getfield 9, 3) := by decide +kernel
theorem d4 : decode yB 4 = .ok (.arraylength, 1) := by decide +kernel
theorem d5 : decode yB 5 = .ok (.ifCond (.ne) 7, 3) := by decide +kernel
theorem d8 : decode yB 8 = .ok (.iconst 1, 1) := by decide +kernel
theorem d9 : decode yB 9 = .ok (.goto 4, 3) := by decide +kernel
theorem d12 : decode yB 12 = .ok (.iconst 0, 1) := by decide +kernel
theorem d13 : decode yB 13 = .ok (.ireturn, 1) := by decide +kernel
def site : List Cond := [.fieldLink "java/lang/String" 9 "java/lang/String" "value" "[B"]
def tab : Cond := tabOf yN yB 1 (some .boolean) site
def P (x t : Addr) (V : Cell) (cd : Int32) (n : Nat) (f : Nat → Int32) (args : Array Value) (s : State) : Prop := args = #[.ref x] ∧ Txt x t V cd n f s
def E (n : Nat) (r : Option Value) (s u : State) : Prop := XT.PureE (some (.int (if n = 0 then 1 else 0))) r s u
/-- isEmpty() of a String of n chars -/
theorem law (l : Launch) (x t : Addr) (V : Cell) (cd : Int32) (n : Nat) (f : Nat → Int32) : Law l yN 1 0 0 0 yB 1 (some .boolean) site (P x t V cd n f) (E n) [] 0 0 := by
  refine Law.of_walk (plainFor_of_name (by decide +kernel)) (by decide +kernel) (by decide +kernel) (by decide) (fun _ _ h => by rw [h.1]; rfl) (fun _ U U' hal hh h => ⟨h.1, h.2.mv hal hh⟩) (fun r U U' V V' h1 hal h2 h => XT.PureE.mv r U U' V V' h1 hal h2 h) ?_
  intro p e s m args below meth c s₁ X0 hexec hbytes hml hret hlk hnm hown hh0 W hP
  obtain ⟨rfl, hx⟩ := hP
  have v31 := hx.2.2.2.1.2.2.2
  have c1 : Steps p.tables e below (s₁.setTop (entryFrame m #[.ref x] 1)) (s₁.setTop (mkF m 1 #[.val (.ref x)] [.ref x])) := Steps.trans (entry rfl) (by
    show Steps p.tables e below (s₁.setTop (mkF m 0 #[.val (.ref x)] [])) _
    refine XS.aloadN X0.here hexec rfl (hb hbytes d0) rfl rfl ?_
    exact Steps.refl _)
  obtain ⟨T2, X2, q2, st2⟩ := X0.hget hexec hown (wk W (.fieldLink "java/lang/String" 9 "java/lang/String" "value" "[B")) (hx.mv X0.warmed.alike hh0).2.1 (g := (mkF m 1 #[.val (.ref x)] [.ref x])) rfl (rest := []) rfl (hb hbytes d1)
  have hh2 := q2.trans hh0
  have hx2 := hx.mv X2.warmed.alike hh2
  have c3 : Steps p.tables e below (s₁.setTop (entryFrame m #[.ref x] 1)) (T2.setTop (mkF m 5 #[.val (.ref x)] [.int (Int32.ofNat V.slots.size)])) := (c1.trans (st2 _ (Steps.refl _))).trans (by
    refine X2.alen hexec hx2.2.2.2.1 rfl rfl (hb hbytes d4) ?_
    exact Steps.refl _)
  have hz : V.slots.size = 0 ↔ n = 0 := by
    rcases hx.2.2.2.2.1 with ⟨-, q, -⟩ | ⟨-, q, -⟩ <;> omega
  by_cases h0 : n = 0
  · have c4 : Steps p.tables e below (s₁.setTop (entryFrame m #[.ref x] 1)) (T2.setTop (mkF m 13 #[.val (.ref x)] [.int 1])) := c3.trans (by
      refine XS.ifNo X2.here hexec rfl (hb hbytes d5) rfl (i0_ne_f (by rw [hz.mpr h0]; rfl)) ?_
      refine iconstV X2.here hexec rfl 1 (hb hbytes d8) (by decide) ?_
      refine XS.goto X2.here hexec rfl (pc0 := 9) rfl (hb hbytes d9) (by decide) rfl ?_
      exact Steps.refl _)
    exact ⟨T2, some (.int 1), _, _, _, X2, rfl, rfl, rfl, (fun h => by cases h), ⟨by rw [if_pos h0], hh2⟩, fun fs hl => c4.trans (X2.ireturnOut hexec hret rfl (Or.inr (Or.inl rfl)) (hb hbytes d13) hl)⟩
  · have c4 : Steps p.tables e below (s₁.setTop (entryFrame m #[.ref x] 1)) (T2.setTop (mkF m 13 #[.val (.ref x)] [.int 0])) := c3.trans (by
      refine XS.ifYes X2.here hexec rfl (pc0 := 5) rfl (hb hbytes d5) rfl (i0_ne_t (nz32 v31 (by omega))) (by decide) rfl ?_
      refine iconstV X2.here hexec rfl 0 (hb hbytes d12) (by decide) ?_
      exact Steps.refl _)
    exact ⟨T2, some (.int 0), _, _, _, X2, rfl, rfl, rfl, (fun h => by cases h), ⟨by rw [if_neg h0], hh2⟩, fun fs hl => c4.trans (X2.ireturnOut hexec hret rfl (Or.inr (Or.inl rfl)) (hb hbytes d13) hl)⟩
theorem pays {l : Launch} {R : Room} {p : Program} {e : Env} {below : List Frame} {s : State} {sargs : Array Value} {len W : Nat} (x t : Addr) (V : Cell) (cd : Int32) (n : Nat) (f : Nat → Int32) (htab : tab.before sargs s = true) (hfr : 1 ≤ R.frames) (hlo : W + 12 ≤ R.locals) :
    Back l R p e below s sargs yN len W (fun A₁ a₁ => A₁.cells + 0 ≤ R.cells ∧ A₁.slots + 0 ≤ R.slots ∧ P x t V cd n f a₁ A₁.U) (fun A₁ _ v₁ B₁ => E n v₁ A₁.U B₁.U ∧ B₁.locs = A₁.locs ++ [] ∧ B₁.cells = A₁.cells + 0 ∧ B₁.slots = A₁.slots + 0) :=
  (law l x t V cd n f).pays htab hfr (by omega)
end Emp
/-- what place i of a byte[]'s cell holds -/
def yv (A : Cell) (i : Nat) : Int32 := match A.slots[i]? with | some (.int x) => x | _ => 0
theorem yv_get {a : Addr} {A : Cell} {U : State} (h : XT.Arr .byte a A U) (ht : Typed .byte A) {i : Nat} (hi : i < A.slots.size) : A.slots[i]? = some (.int (yv A i)) := by
  have e := Array.getElem?_eq_getElem hi
  have f := ht i _ e
  unfold yv; rw [e]
  generalize A.slots[i] = v at f
  cases v <;> simp [fits] at f ⊢
/-- the two arrays are equal, place for place -/
def EqC (A B : Cell) : Prop := A.slots.size = B.slots.size ∧ ∀ i, i < A.slots.size → yv A i = yv B i
/-- a boolean that says whether p -/
def Says01 (q : Prop) (r : Option Value) (s u : State) : Prop := ∃ v : Int32, r = some (.int v) ∧ u.heap = s.heap ∧ ((v = 1 ∧ q) ∨ (v = 0 ∧ ¬ q))
theorem Says01.mv {q : Prop} : ∀ r (U U' V V' : State), U'.heap = U.heap → V.vm.Alike V'.vm → V'.heap = V.heap → Says01 q r U V → Says01 q r U' V' :=
  fun r U U' V V' h1 _ h2 ⟨v, a, b, c⟩ => ⟨v, a, by rw [h1, h2]; exact b, c⟩
namespace LEq
def yN : MethodName := ⟨"java/lang/StringLatin1", "equals", "([B[B)Z"⟩
abbrev yB : ByteArray := jdk_43_method_13_code
theorem d0 : decode yB 0 = .ok (.aload_n 0, 1) := by decide +kernel
theorem d1 : decode yB 1 = .ok (.arraylength, 1) := by decide +kernel
theorem d2 : decode yB 2 = .ok (.aload_n 1, 1) := by decide +kernel
theorem d3 : decode yB 3 = .ok (.arraylength, 1) := by decide +kernel
theorem d4 : decode yB 4 = .ok (.if_icmp (.ne) 30, 3) := by decide +kernel
theorem d7 : decode yB 7 = .ok (.iconst 0, 1) := by decide +kernel
theorem d8 : decode yB 8 = .ok (.istore_n 2, 1) := by decide +kernel
theorem d9 : decode yB 9 = .ok (.iload_n 2, 1) := by decide +kernel
theorem d10 : decode yB 10 = .ok (.aload_n 0, 1) := by decide +kernel
theorem d11 : decode yB 11 = .ok (.arraylength, 1) := by decide +kernel
theorem d12 : decode yB 12 = .ok (.if_icmp (.ge) 20, 3) := by decide +kernel
theorem d15 : decode yB 15 = .ok (.aload_n 0, 1) := by decide +kernel
theorem d16 : decode yB 16 = .ok (.iload_n 2, 1) := by decide +kernel
theorem d17 : decode yB 17 = .ok (.baload, 1) := by decide +kernel
theorem d18 : decode yB 18 = .ok (.aload_n 1, 1) := by decide +kernel
theorem d19 : decode yB 19 = .ok (.iload_n 2, 1) := by decide +kernel
theorem d20 : decode yB 20 = .ok (.baload, 1) := by decide +kernel
theorem d21 : decode yB 21 = .ok (.if_icmp (.eq) 5, 3) := by decide +kernel
theorem d24 : decode yB 24 = .ok (.iconst 0, 1) := by decide +kernel
theorem d25 : decode yB 25 = .ok (.ireturn, 1) := by decide +kernel
theorem d26 : decode yB 26 = .ok (.iinc 2 1, 3) := by decide +kernel
theorem d29 : decode yB 29 = .ok (.goto (-20), 3) := by decide +kernel
theorem d32 : decode yB 32 = .ok (.iconst 1, 1) := by decide +kernel
theorem d33 : decode yB 33 = .ok (.ireturn, 1) := by decide +kernel
theorem d34 : decode yB 34 = .ok (.iconst 0, 1) := by decide +kernel
theorem d35 : decode yB 35 = .ok (.ireturn, 1) := by decide +kernel
def site : List Cond := []
def tab : Cond := tabOf yN yB 3 (some .boolean) site
def P (a : Addr) (A : Cell) (b : Addr) (B : Cell) (args : Array Value) (s : State) : Prop := args = #[.ref a, .ref b] ∧ XT.Arr .byte a A s ∧ Typed .byte A ∧ XT.Arr .byte b B s ∧ Typed .byte B
/-- whether two byte[] are equal, place for place -/
theorem law (l : Launch) (a : Addr) (A : Cell) (b : Addr) (B : Cell) : Law l yN 2 2 0 0 yB 3 (some .boolean) site (P a A b B) (Says01 (EqC A B)) [] 0 0 := by
  refine Law.of_walk (plainFor_of_name (by decide +kernel)) (by decide +kernel) (by decide +kernel) (by decide) (fun _ _ h => by rw [h.1]; rfl) (fun _ U U' hal hh h => ⟨h.1, h.2.1.mv hal hh, h.2.2.1, h.2.2.2.1.mv hal hh, h.2.2.2.2⟩) (fun r U U' V V' h1 hal h2 h => Says01.mv r U U' V V' h1 hal h2 h) ?_
  intro p e s m args below meth c s₁ X0 hexec hbytes hml hret hlk hnm hown hh0 W hP
  obtain ⟨rfl, hA, tA, hB, tB⟩ := hP
  have a31 := hA.2.2.2
  have b31 := hB.2.2.2
  have hA0 := hA.mv X0.warmed.alike hh0
  have hB0 := hB.mv X0.warmed.alike hh0
  have c1 : Steps p.tables e below (s₁.setTop (entryFrame m #[.ref a, .ref b] 3)) (s₁.setTop (mkF m 0 #[.val (.ref a), .val (.ref b), .unset] [])) := entry rfl
  have c2 : Steps p.tables e below (s₁.setTop (entryFrame m #[.ref a, .ref b] 3)) (s₁.setTop (mkF m 4 #[.val (.ref a), .val (.ref b), .unset] [.int (Int32.ofNat B.slots.size), .int (Int32.ofNat A.slots.size)])) := c1.trans (by
    refine XS.aloadN X0.here hexec rfl (hb hbytes d0) rfl rfl ?_
    refine X0.alen hexec hA0 rfl rfl (hb hbytes d1) ?_
    refine XS.aloadN X0.here hexec rfl (hb hbytes d2) rfl rfl ?_
    refine X0.alen hexec hB0 rfl rfl (hb hbytes d3) ?_
    exact Steps.refl _)
  by_cases hs : A.slots.size = B.slots.size
  · have c3 : Steps p.tables e below (s₁.setTop (entryFrame m #[.ref a, .ref b] 3)) (s₁.setTop (mkF m 9 #[.val (.ref a), .val (.ref b), .val (.int 0)] [])) := c2.trans (by
      refine XS.icmpNo X0.here hexec rfl (hb hbytes d4) rfl (ii_ne_f (by rw [hs])) ?_
      refine iconstV X0.here hexec rfl 0 (hb hbytes d7) (by decide) ?_
      refine XS.istoreN X0.here hexec rfl (hb hbytes d8) rfl rfl ?_
      exact Steps.refl _)
    have loop : ∀ (r i : Nat), i + r = A.slots.size → (∀ j, j < i → yv A j = yv B j) → Steps p.tables e below (s₁.setTop (entryFrame m #[.ref a, .ref b] 3)) (s₁.setTop (mkF m 9 #[.val (.ref a), .val (.ref b), .val (.int (Int32.ofNat i))] [])) → ∃ (pc : Nat) (Ls : Array Slot) (v : Int32), (pc = 25 ∨ pc = 33) ∧ ((v = 1 ∧ EqC A B) ∨ (v = 0 ∧ ¬ EqC A B)) ∧ Steps p.tables e below (s₁.setTop (entryFrame m #[.ref a, .ref b] 3)) (s₁.setTop (mkF m pc Ls [.int v])) := by
      intro r
      induction r with
      | zero =>
        intro i hi he cl
        exact ⟨33, _, 1, Or.inr rfl, Or.inl ⟨rfl, hs, fun j hj => he j (by omega)⟩, cl.trans (by
          refine XS.iloadN X0.here hexec rfl (hb hbytes d9) rfl ?_
          refine XS.aloadN X0.here hexec rfl (hb hbytes d10) rfl rfl ?_
          refine X0.alen hexec hA0 rfl rfl (hb hbytes d11) ?_
          refine XS.icmpYes X0.here hexec rfl (pc0 := 12) rfl (hb hbytes d12) rfl (ii_ge_t (nlt32 (by omega) (by omega))) (by decide) rfl ?_
          refine iconstV X0.here hexec rfl 1 (hb hbytes d32) (by decide) ?_
          exact Steps.refl _)⟩
      | succ r ih =>
        intro i hi he cl
        have c4 : Steps p.tables e below (s₁.setTop (entryFrame m #[.ref a, .ref b] 3)) (s₁.setTop (mkF m 21 #[.val (.ref a), .val (.ref b), .val (.int (Int32.ofNat i))] [.int (yv B i), .int (yv A i)])) := cl.trans (by
          refine XS.iloadN X0.here hexec rfl (hb hbytes d9) rfl ?_
          refine XS.aloadN X0.here hexec rfl (hb hbytes d10) rfl rfl ?_
          refine X0.alen hexec hA0 rfl rfl (hb hbytes d11) ?_
          refine XS.icmpNo X0.here hexec rfl (hb hbytes d12) rfl (ii_ge_f (lt32 (by omega) (by omega))) ?_
          refine XS.aloadN X0.here hexec rfl (hb hbytes d15) rfl rfl ?_
          refine XS.iloadN X0.here hexec rfl (hb hbytes d16) rfl ?_
          refine X0.aget hexec hA0 rfl (yv_get hA tA (i := i) (by omega)) rfl rfl (hb hbytes d17) ?_
          refine XS.aloadN X0.here hexec rfl (hb hbytes d18) rfl rfl ?_
          refine XS.iloadN X0.here hexec rfl (hb hbytes d19) rfl ?_
          refine X0.aget hexec hB0 rfl (yv_get hB tB (i := i) (by omega)) rfl rfl (hb hbytes d20) ?_
          exact Steps.refl _)
        by_cases hv : yv A i = yv B i
        · have c5 : Steps p.tables e below (s₁.setTop (entryFrame m #[.ref a, .ref b] 3)) (s₁.setTop (mkF m 9 #[.val (.ref a), .val (.ref b), .val (.int (Int32.ofNat i + 1))] [])) := c4.trans (by
            refine XS.icmpYes X0.here hexec rfl (pc0 := 21) rfl (hb hbytes d21) rfl (ii_eq_t hv) (by decide) rfl ?_
            refine iincV X0.here hexec rfl 1 (hb hbytes d26) (by decide) rfl rfl ?_
            refine XS.goto X0.here hexec rfl (pc0 := 29) rfl (hb hbytes d29) (by decide) rfl ?_
            exact Steps.refl _)
          rw [succ32] at c5
          exact ih (i + 1) (by omega) (fun j hj => by
            by_cases e : j = i
            · rw [e]; exact hv
            · exact he j (by omega)) c5
        · exact ⟨25, _, 0, Or.inl rfl, Or.inr ⟨rfl, fun q => hv (q.2 i (by omega))⟩, c4.trans (by
            refine XS.icmpNo X0.here hexec rfl (hb hbytes d21) rfl (ii_eq_f hv) ?_
            refine iconstV X0.here hexec rfl 0 (hb hbytes d24) (by decide) ?_
            exact Steps.refl _)⟩
    obtain ⟨pc, Ls, v, hpc, hv, cz⟩ := loop A.slots.size 0 (by omega) (fun j hj => absurd hj (Nat.not_lt_zero j)) c3
    have nv : narrow .boolean (.int v) = .int v := by rcases hv with ⟨rfl, -⟩ | ⟨rfl, -⟩ <;> rfl
    rcases hpc with rfl | rfl
    · exact ⟨s₁, some (.int v), _, _, _, X0, rfl, rfl, rfl, (fun h => by cases h), ⟨v, rfl, hh0, hv⟩, fun fs hl => cz.trans (X0.ireturnOut hexec hret nv (Or.inr (Or.inl rfl)) (hb hbytes d25) hl)⟩
    · exact ⟨s₁, some (.int v), _, _, _, X0, rfl, rfl, rfl, (fun h => by cases h), ⟨v, rfl, hh0, hv⟩, fun fs hl => cz.trans (X0.ireturnOut hexec hret nv (Or.inr (Or.inl rfl)) (hb hbytes d33) hl)⟩
  · have c3 : Steps p.tables e below (s₁.setTop (entryFrame m #[.ref a, .ref b] 3)) (s₁.setTop (mkF m 35 #[.val (.ref a), .val (.ref b), .unset] [.int 0])) := c2.trans (by
      refine XS.icmpYes X0.here hexec rfl (pc0 := 4) rfl (hb hbytes d4) rfl (ii_ne_t (ne32 a31 b31 hs)) (by decide) rfl ?_
      refine iconstV X0.here hexec rfl 0 (hb hbytes d34) (by decide) ?_
      exact Steps.refl _)
    exact ⟨s₁, some (.int 0), _, _, _, X0, rfl, rfl, rfl, (fun h => by cases h), ⟨0, rfl, hh0, Or.inr ⟨rfl, fun q => hs q.1⟩⟩, fun fs hl => c3.trans (X0.ireturnOut hexec hret rfl (Or.inr (Or.inl rfl)) (hb hbytes d35) hl)⟩
end LEq
theorem Cod.ty {cd : Int32} {n : Nat} {f : Nat → Int32} {V : Cell} (h : Cod cd n f V) : Typed .byte V := fun i v hv => by
  have hi : i < V.slots.size := (Array.getElem?_eq_some_iff.mp hv).1
  rcases h with ⟨-, k1, k2⟩ | ⟨-, k1, k2, -⟩
  · rw [(k2 i (by omega)).1] at hv; cases hv; exact fits_lo8 _
  · rcases Nat.mod_two_eq_zero_or_one i with e | e
    · obtain ⟨j, rfl⟩ : ∃ j, i = 2 * j := ⟨i / 2, by omega⟩
      rw [(k2 j (by omega)).1] at hv; cases hv; exact fits_lo8 _
    · obtain ⟨j, rfl⟩ : ∃ j, i = 2 * j + 1 := ⟨i / 2, by omega⟩
      rw [(k2 j (by omega)).2] at hv; cases hv; exact fits_lo8 _
/-- the same text -/
def SameT (n : Nat) (f : Nat → Int32) (k : Nat) (g : Nat → Int32) : Prop := n = k ∧ ∀ j, j < n → f j = g j
theorem lo8_inj {x y : Int32} (h0 : ¬ x < 0) (h1 : ¬ 255 < x) (k0 : ¬ y < 0) (k1 : ¬ 255 < y) (h : lo8 x = lo8 y) : x = y := by
  rw [← lo8_mask h0 h1, ← lo8_mask k0 k1, h]
/-- arrays coded by one coder are equal just where the texts are -/
theorem Cod.eqv {cd : Int32} {n k : Nat} {f g : Nat → Int32} {V V' : Cell} (h : Cod cd n f V) (h' : Cod cd k g V') (hf : ∀ j, j < n → ¬ f j < 0 ∧ ¬ 65535 < f j) (hg : ∀ j, j < k → ¬ g j < 0 ∧ ¬ 65535 < g j) : EqC V V' ↔ SameT n f k g := by
  have yvv : ∀ {W : Cell} {i : Nat} {x : Int32}, W.slots[i]? = some (.int x) → yv W i = x := fun q => by unfold yv; rw [q]
  rcases h with ⟨rfl, k1, k2⟩ | ⟨rfl, k1, k2, -⟩
  · rcases h' with ⟨-, m1, m2⟩ | ⟨e, -⟩
    · constructor
      · rintro ⟨e1, e2⟩
        refine ⟨by omega, fun j hj => ?_⟩
        have q := e2 j (by omega)
        rw [yvv (k2 j hj).1, yvv (m2 j (by omega)).1] at q
        exact lo8_inj (hf j hj).1 (k2 j hj).2 (hg j (by omega)).1 (m2 j (by omega)).2 q
      · rintro ⟨rfl, e2⟩
        refine ⟨by omega, fun j hj => ?_⟩
        rw [yvv (k2 j (by omega)).1, yvv (m2 j (by omega)).1, e2 j (by omega)]
    · exact absurd e (by decide)
  · rcases h' with ⟨e, -⟩ | ⟨-, m1, m2, -⟩
    · exact absurd e (by decide)
    · constructor
      · rintro ⟨e1, e2⟩
        refine ⟨by omega, fun j hj => ?_⟩
        have q1 := e2 (2 * j) (by omega)
        have q2 := e2 (2 * j + 1) (by omega)
        rw [yvv (k2 j hj).1, yvv (m2 j (by omega)).1] at q1
        rw [yvv (k2 j hj).2, yvv (m2 j (by omega)).2] at q2
        rw [← pair_says (hf j hj).1 (hf j hj).2, ← pair_says (hg j (by omega)).1 (hg j (by omega)).2, q1, q2]
      · rintro ⟨rfl, e2⟩
        refine ⟨by omega, fun i hi => ?_⟩
        rcases Nat.mod_two_eq_zero_or_one i with e | e
        · obtain ⟨j, rfl⟩ : ∃ j, i = 2 * j := ⟨i / 2, by omega⟩
          rw [yvv (k2 j (by omega)).1, yvv (m2 j (by omega)).1, e2 j (by omega)]
        · obtain ⟨j, rfl⟩ : ∃ j, i = 2 * j + 1 := ⟨i / 2, by omega⟩
          rw [yvv (k2 j (by omega)).2, yvv (m2 j (by omega)).2, e2 j (by omega)]
/-- two codings differ: so do the texts -/
theorem Cod.dif {cd cd' : Int32} {n k : Nat} {f g : Nat → Int32} {V V' : Cell} (h : Cod cd n f V) (h' : Cod cd' k g V') (hne : ¬ cd = cd') : ¬ SameT n f k g := by
  rintro ⟨rfl, e⟩
  rcases h with ⟨rfl, -, k2⟩ | ⟨rfl, -, -, j, hj, hw⟩
  · rcases h' with ⟨rfl, -⟩ | ⟨-, -, -, j, hj, hw⟩
    · exact hne rfl
    · exact (k2 j hj).2 (by rw [e j hj]; exact hw)
  · rcases h' with ⟨-, -, m2⟩ | ⟨rfl, -⟩
    · exact (m2 j hj).2 (by rw [← e j hj]; exact hw)
    · exact hne rfl
/-- an object of exactly C is an instance of C -/
theorem cinst {p : Program} {l : Launch} {e : Env} {R : Room} {s : State} {m : MethodId} {args : Array Value} {below : List Frame} {meth : Method} {c : Code} {T : State} {locs : List Loc} {cells slots : Nat} (X : Stand p l e R s m args below meth c T locs cells slots) (hexec : p.tables.exec = Jvm.exec) {own C : String} {index : Nat} (hown : s.vm.findClass own = some m.cls) (hlink : (Cond.classLink own index C).before args s = true) {a : Addr} (hE : Exact C a T)
    {g : JFrame} (hg : g.method = m) {rest : List Value} (hstack : g.stack = .ref a :: rest) (hdg : decode c.code g.pc = .ok (.instanceof index, 3)) :
    ∃ T', Stand p l e R s m args below meth c T' locs cells slots ∧ T'.heap = T.heap ∧ ∀ target, Steps p.tables e below (T'.setTop { g with pc := g.pc + 3, stack := .int 1 :: rest }) target → Steps p.tables e below (T.setTop g) target := by
  obtain ⟨cB, h1, D, h2, h3, h4⟩ := hE
  have h1' : s.vm.findClass C = some cB := by rw [← X.warmed.alike.findClass]; exact h1
  obtain ⟨vm', X', st⟩ := X.instanceofYes hexec hown hlink h2 h4 h1' (by rw [h3]; exact Jvm.Free.SB.assignable_self _ _) hg hstack hdg
  exact ⟨_, X', rfl, st⟩
theorem cself {p : Program} {l : Launch} {e : Env} {R : Room} {s : State} {m : MethodId} {args : Array Value} {below : List Frame} {meth : Method} {c : Code} {T : State} {locs : List Loc} {cells slots : Nat} (X : Stand p l e R s m args below meth c T locs cells slots) (hexec : p.tables.exec = Jvm.exec) {own C : String} {index : Nat} (hown : s.vm.findClass own = some m.cls) (hlink : (Cond.classLink own index C).before args s = true) {a : Addr} (hE : Exact C a T)
    {g : JFrame} (hg : g.method = m) {rest : List Value} (hstack : g.stack = .ref a :: rest) (hdg : decode c.code g.pc = .ok (.checkcast index, 3)) :
    ∃ T', Stand p l e R s m args below meth c T' locs cells slots ∧ T'.heap = T.heap ∧ ∀ target, Steps p.tables e below (T'.setTop { g with pc := g.pc + 3, stack := .ref a :: rest }) target → Steps p.tables e below (T.setTop g) target := by
  obtain ⟨cB, h1, D, h2, h3, h4⟩ := hE
  have h1' : s.vm.findClass C = some cB := by rw [← X.warmed.alike.findClass]; exact h1
  obtain ⟨vm', X', st⟩ := X.checkcastYes hexec hown hlink h2 h4 h1' (by rw [h3]; exact Jvm.Free.SB.assignable_self _ _) hg hstack hdg
  exact ⟨_, X', rfl, fun t h => st t (by rw [← hstack] at h; exact h)⟩
namespace SEq
def yN : MethodName := ⟨"java/lang/String", "equals", "(Ljava/lang/Object;)Z"⟩
abbrev yB : ByteArray := jdk_42_method_66_code
theorem d0 : decode yB 0 = .ok (.aload_n 0, 1) := by decide +kernel
theorem d1 : decode yB 1 = .ok (.aload_n 1, 1) := by decide +kernel
theorem d2 : decode yB 2 = .ok (.if_acmp (.ne) 5, 3) := by decide +kernel
theorem d5 : decode yB 5 = .ok (.iconst 1, 1) := by decide +kernel
theorem d6 : decode yB 6 = .ok (.ireturn, 1) := by decide +kernel
theorem d7 : decode yB 7 = .ok (.aload_n 1, 1) := by decide +kernel
theorem d8 : decode yB 8 = .ok (.instanceof 10, 3) := by decide +kernel
theorem d11 : decode yB 11 = .ok (.ifCond (.eq) 43, 3) := by decide +kernel
theorem d14 : decode yB 14 = .ok (.aload_n 1, 1) := by decide +kernel
theorem d15 : decode yB 15 = .ok (.checkcast 10, 3) := by decide +kernel
theorem d18 : decode yB 18 = .ok (.astore_n 2, 1) := by decide +kernel
theorem d19 : decode yB 19 = .ok (.getstatic 38, 3) := by decide +kernel
theorem d22 : decode yB 22 = .ok (.ifCond (.eq) 14, 3) := by decide +kernel
theorem d25 : decode yB 25 = .ok (.aload_n 0, 1) := by decide +kernel
theorem d26 : decode yB 26 = .ok (.getfield 15, 3) := by decide +kernel
theorem d29 : decode yB 29 = .ok (.aload_n 2, 1) := by decide +kernel
theorem d30 : decode yB 30 = .ok (.getfield 15, 3) := by decide +kernel
theorem d33 : decode yB 33 = .ok (.if_icmp (.ne) 21, 3) := by decide +kernel
theorem d36 : decode yB 36 = .ok (.aload_n 0, 1) := by decide +kernel
theorem d37 : decode yB 37 = .ok (.getfield 9, 3) := by decide +kernel
theorem d40 : decode yB 40 = .ok (.aload_n 2, 1) := by decide +kernel
theorem d41 : decode yB 41 = .ok (.getfield 9, 3) := by decide +kernel
theorem d44 : decode yB 44 = .ok (.invokestatic 541, 3) := by decide +kernel
theorem d47 : decode yB 47 = .ok (.ifCond (.eq) 7, 3) := by decide +kernel
theorem d50 : decode yB 50 = .ok (.iconst 1, 1) := by decide +kernel
theorem d51 : decode yB 51 = .ok (.goto 4, 3) := by decide +kernel
theorem d54 : decode yB 54 = .ok (.iconst 0, 1) := by decide +kernel
theorem d55 : decode yB 55 = .ok (.ireturn, 1) := by decide +kernel
def site : List Cond := [.classLink "java/lang/String" 10 "java/lang/String", .fieldLink "java/lang/String" 38 "java/lang/String" "COMPACT_STRINGS" "Z", .fieldLink "java/lang/String" 15 "java/lang/String" "coder" "B", .fieldLink "java/lang/String" 9 "java/lang/String" "value" "[B", LEq.tab] ++ staticW "java/lang/String" 541 LEq.yN
def tab : Cond := tabOf yN yB 3 (some .boolean) site
def P (x t : Addr) (V : Cell) (cd : Int32) (n : Nat) (f : Nat → Int32) (y t' : Addr) (V' : Cell) (cd' : Int32) (k : Nat) (g : Nat → Int32) (z : Int32) (args : Array Value) (s : State) : Prop := args = #[.ref x, .ref y] ∧ Txt x t V cd n f s ∧ Txt y t' V' cd' k g s ∧ StaticIs s "java/lang/String" "COMPACT_STRINGS" "Z" (.int z) ∧ ¬ z = 0
/-- equals(Object) of two Strings: whether the texts are the same -/
theorem law (l : Launch) (x t : Addr) (V : Cell) (cd : Int32) (n : Nat) (f : Nat → Int32) (y t' : Addr) (V' : Cell) (cd' : Int32) (k : Nat) (g : Nat → Int32) (z : Int32) : Law l yN 2 1 1 14 yB 3 (some .boolean) site (P x t V cd n f y t' V' cd' k g z) (Says01 (SameT n f k g)) [] 0 0 := by
  refine Law.of_walk (plainFor_of_name (by decide +kernel)) (by decide +kernel) (by decide +kernel) (by decide) (fun _ _ h => by rw [h.1]; rfl) (fun _ U U' hal hh h => ⟨h.1, h.2.1.mv hal hh, h.2.2.1.mv hal hh, h.2.2.2.1.there hal hh, h.2.2.2.2⟩) (fun r U U' V V' h1 hal h2 h => Says01.mv r U U' V V' h1 hal h2 h) ?_
  intro p e s m args below meth c s₁ X0 hexec hbytes hml hret hlk hnm hown hh0 W hP
  obtain ⟨rfl, hx, hy, s1, hz⟩ := hP
  have c1 : Steps p.tables e below (s₁.setTop (entryFrame m #[.ref x, .ref y] 3)) (s₁.setTop (mkF m 2 #[.val (.ref x), .val (.ref y), .unset] [.ref y, .ref x])) := Steps.trans (entry rfl) (by
    show Steps p.tables e below (s₁.setTop (mkF m 0 #[.val (.ref x), .val (.ref y), .unset] [])) _
    refine XS.aloadN X0.here hexec rfl (hb hbytes d0) rfl rfl ?_
    refine XS.aloadN X0.here hexec rfl (hb hbytes d1) rfl rfl ?_
    exact Steps.refl _)
  by_cases hxy : x = y
  · have c2 : Steps p.tables e below (s₁.setTop (entryFrame m #[.ref x, .ref y] 3)) (s₁.setTop (mkF m 6 #[.val (.ref x), .val (.ref y), .unset] [.int 1])) := c1.trans (by
      refine acmpNo X0.here hexec rfl (hb hbytes d2) rfl rfl rfl (by simp [acmp, hxy]) ?_
      refine iconstV X0.here hexec rfl 1 (hb hbytes d5) (by decide) ?_
      exact Steps.refl _)
    subst hxy
    have ec : cd = cd' := by
      obtain ⟨D, fd, a1, a2, a3⟩ := hx.2.2.1
      obtain ⟨D', fd', b1, b2, b3⟩ := hy.2.2.1
      cases a1.symm.trans b1
      obtain ⟨q1, q2, q3, q4⟩ := a2.1
      obtain ⟨r1, r2, r3, r4⟩ := b2.1
      cases q4.symm.trans r4
      cases a3.symm.trans b3; rfl
    have et : t = t' := by
      obtain ⟨D, fd, a1, a2, a3⟩ := hx.2.1
      obtain ⟨D', fd', b1, b2, b3⟩ := hy.2.1
      cases a1.symm.trans b1
      obtain ⟨q1, q2, q3, q4⟩ := a2.1
      obtain ⟨r1, r2, r3, r4⟩ := b2.1
      cases q4.symm.trans r4
      cases a3.symm.trans b3; rfl
    subst ec et
    have ev : V = V' := by cases hx.2.2.2.1.1.symm.trans hy.2.2.2.1.1; rfl
    subst ev
    have hs : SameT n f k g := (Cod.eqv hx.2.2.2.2.1 hy.2.2.2.2.1 hx.2.2.2.2.2 hy.2.2.2.2.2).mp ⟨rfl, fun _ _ => rfl⟩
    exact ⟨s₁, some (.int 1), _, _, _, X0, rfl, rfl, rfl, (fun h => by cases h), ⟨1, rfl, hh0, Or.inl ⟨rfl, hs⟩⟩, fun fs hl => c2.trans (X0.ireturnOut hexec hret rfl (Or.inr (Or.inl rfl)) (hb hbytes d6) hl)⟩
  · have c2 : Steps p.tables e below (s₁.setTop (entryFrame m #[.ref x, .ref y] 3)) (s₁.setTop (mkF m 8 #[.val (.ref x), .val (.ref y), .unset] [.ref y])) := c1.trans (by
      refine acmpYes X0.here hexec rfl (pc0 := 2) rfl (hb hbytes d2) rfl rfl rfl (by simp [acmp, hxy]) (by decide) rfl ?_
      refine XS.aloadN X0.here hexec rfl (hb hbytes d7) rfl rfl ?_
      exact Steps.refl _)
    obtain ⟨T3, X3, q3, st3⟩ := cinst X0 hexec hown (wk W (.classLink "java/lang/String" 10 "java/lang/String")) (hy.mv X0.warmed.alike hh0).1 (g := (mkF m 8 #[.val (.ref x), .val (.ref y), .unset] [.ref y])) rfl (rest := []) rfl (hb hbytes d8)
    have hh3 := q3.trans hh0
    have c4 : Steps p.tables e below (s₁.setTop (entryFrame m #[.ref x, .ref y] 3)) (T3.setTop (mkF m 15 #[.val (.ref x), .val (.ref y), .unset] [.ref y])) := (c2.trans (st3 _ (Steps.refl _))).trans (by
      refine XS.ifNo X3.here hexec rfl (hb hbytes d11) rfl (i0_eq_f (by decide)) ?_
      refine XS.aloadN X3.here hexec rfl (hb hbytes d14) rfl rfl ?_
      exact Steps.refl _)
    obtain ⟨T5, X5, q5, st5⟩ := cself X3 hexec hown (wk W (.classLink "java/lang/String" 10 "java/lang/String")) (hy.mv X3.warmed.alike hh3).1 (g := (mkF m 15 #[.val (.ref x), .val (.ref y), .unset] [.ref y])) rfl (rest := []) rfl (hb hbytes d15)
    have hh5 := q5.trans hh3
    have c6 : Steps p.tables e below (s₁.setTop (entryFrame m #[.ref x, .ref y] 3)) (T5.setTop (mkF m 19 #[.val (.ref x), .val (.ref y), .val (.ref y)] [])) := (c4.trans (st5 _ (Steps.refl _))).trans (by
      refine XS.astoreN X5.here hexec rfl (hb hbytes d18) rfl rfl rfl ?_
      exact Steps.refl _)
    obtain ⟨T7, X7, q7, st7⟩ := X5.sget hexec hown (wk W (.fieldLink "java/lang/String" 38 "java/lang/String" "COMPACT_STRINGS" "Z")) s1 (fun _ _ h => by rw [hh5]; exact h) (g := (mkF m 19 #[.val (.ref x), .val (.ref y), .val (.ref y)] [])) rfl (hb hbytes d19)
    have hh7 := q7.trans hh5
    have c8 : Steps p.tables e below (s₁.setTop (entryFrame m #[.ref x, .ref y] 3)) (T7.setTop (mkF m 26 #[.val (.ref x), .val (.ref y), .val (.ref y)] [.ref x])) := (c6.trans (st7 _ (Steps.refl _))).trans (by
      refine XS.ifNo X7.here hexec rfl (hb hbytes d22) rfl (i0_eq_f hz) ?_
      refine XS.aloadN X7.here hexec rfl (hb hbytes d25) rfl rfl ?_
      exact Steps.refl _)
    obtain ⟨T9, X9, q9, st9⟩ := X7.hget hexec hown (wk W (.fieldLink "java/lang/String" 15 "java/lang/String" "coder" "B")) (hx.mv X7.warmed.alike hh7).2.2.1 (g := (mkF m 26 #[.val (.ref x), .val (.ref y), .val (.ref y)] [.ref x])) rfl (rest := []) rfl (hb hbytes d26)
    have hh9 := q9.trans hh7
    have c10 : Steps p.tables e below (s₁.setTop (entryFrame m #[.ref x, .ref y] 3)) (T9.setTop (mkF m 30 #[.val (.ref x), .val (.ref y), .val (.ref y)] [.ref y, .int cd])) := (c8.trans (st9 _ (Steps.refl _))).trans (by
      refine XS.aloadN X9.here hexec rfl (hb hbytes d29) rfl rfl ?_
      exact Steps.refl _)
    obtain ⟨T11, X11, q11, st11⟩ := X9.hget hexec hown (wk W (.fieldLink "java/lang/String" 15 "java/lang/String" "coder" "B")) (hy.mv X9.warmed.alike hh9).2.2.1 (g := (mkF m 30 #[.val (.ref x), .val (.ref y), .val (.ref y)] [.ref y, .int cd])) rfl (rest := [.int cd]) rfl (hb hbytes d30)
    have hh11 := q11.trans hh9
    have c12 : Steps p.tables e below (s₁.setTop (entryFrame m #[.ref x, .ref y] 3)) (T11.setTop (mkF m 33 #[.val (.ref x), .val (.ref y), .val (.ref y)] [.int cd', .int cd])) := c10.trans (st11 _ (Steps.refl _))
    by_cases hcd : cd = cd'
    · subst hcd
      have c13 : Steps p.tables e below (s₁.setTop (entryFrame m #[.ref x, .ref y] 3)) (T11.setTop (mkF m 37 #[.val (.ref x), .val (.ref y), .val (.ref y)] [.ref x])) := c12.trans (by
        refine XS.icmpNo X11.here hexec rfl (hb hbytes d33) rfl (ii_ne_f rfl) ?_
        refine XS.aloadN X11.here hexec rfl (hb hbytes d36) rfl rfl ?_
        exact Steps.refl _)
      obtain ⟨T14, X14, q14, st14⟩ := X11.hget hexec hown (wk W (.fieldLink "java/lang/String" 9 "java/lang/String" "value" "[B")) (hx.mv X11.warmed.alike hh11).2.1 (g := (mkF m 37 #[.val (.ref x), .val (.ref y), .val (.ref y)] [.ref x])) rfl (rest := []) rfl (hb hbytes d37)
      have hh14 := q14.trans hh11
      have c15 : Steps p.tables e below (s₁.setTop (entryFrame m #[.ref x, .ref y] 3)) (T14.setTop (mkF m 41 #[.val (.ref x), .val (.ref y), .val (.ref y)] [.ref y, .ref t])) := (c13.trans (st14 _ (Steps.refl _))).trans (by
        refine XS.aloadN X14.here hexec rfl (hb hbytes d40) rfl rfl ?_
        exact Steps.refl _)
      obtain ⟨T16, X16, q16, st16⟩ := X14.hget hexec hown (wk W (.fieldLink "java/lang/String" 9 "java/lang/String" "value" "[B")) (hy.mv X14.warmed.alike hh14).2.1 (g := (mkF m 41 #[.val (.ref x), .val (.ref y), .val (.ref y)] [.ref y, .ref t])) rfl (rest := [.ref t]) rfl (hb hbytes d41)
      have hh16 := q16.trans hh14
      have c17 : Steps p.tables e below (s₁.setTop (entryFrame m #[.ref x, .ref y] 3)) (T16.setTop (mkF m 44 #[.val (.ref x), .val (.ref y), .val (.ref y)] [.ref t', .ref t])) := c15.trans (st16 _ (Steps.refl _))
      obtain ⟨v18, T18, X18, E18, g18⟩ := X16.callS hexec (LEq.law l t V t' V') hown (wks W (staticW "java/lang/String" 541 LEq.yN)) (wk W LEq.tab) (W := 0) (Nat.le_of_ble_eq_true rfl) (Nat.le_of_ble_eq_true rfl) (Nat.le_refl _) (Nat.le_refl _) (g := (mkF m 44 #[.val (.ref x), .val (.ref y), .val (.ref y)] [.ref t', .ref t])) rfl (by rw [hml]; rfl) c17 (argsL := [.ref t, .ref t']) (rest := []) rfl rfl (by show 2 * 0 + 0 ≤ _; decide) (hb hbytes d44) (⟨rfl, hx.2.2.2.1.mv X16.warmed.alike hh16, hx.2.2.2.2.1.ty, hy.2.2.2.1.mv X16.warmed.alike hh16, hy.2.2.2.2.1.ty⟩)
      obtain ⟨v, rfl, q18, hv⟩ := E18
      have iff := Cod.eqv hx.2.2.2.2.1 hy.2.2.2.2.1 hx.2.2.2.2.2 hy.2.2.2.2.2
      rcases hv with ⟨rfl, he⟩ | ⟨rfl, he⟩
      · have c19 : Steps p.tables e below (s₁.setTop (entryFrame m #[.ref x, .ref y] 3)) (T18.setTop (mkF m 55 #[.val (.ref x), .val (.ref y), .val (.ref y)] [.int 1])) := Steps.trans g18 (by
          refine XS.ifNo X18.here hexec rfl (hb hbytes d47) rfl (i0_eq_f (by decide)) ?_
          refine iconstV X18.here hexec rfl 1 (hb hbytes d50) (by decide) ?_
          refine XS.goto X18.here hexec rfl (pc0 := 51) rfl (hb hbytes d51) (by decide) rfl ?_
          exact Steps.refl _)
        exact ⟨T18, some (.int 1), _, _, _, X18, rfl, rfl, rfl, (fun h => by cases h), ⟨1, rfl, q18.trans hh16, Or.inl ⟨rfl, iff.mp he⟩⟩, fun fs hl => c19.trans (X18.ireturnOut hexec hret rfl (Or.inr (Or.inl rfl)) (hb hbytes d55) hl)⟩
      · have c19 : Steps p.tables e below (s₁.setTop (entryFrame m #[.ref x, .ref y] 3)) (T18.setTop (mkF m 55 #[.val (.ref x), .val (.ref y), .val (.ref y)] [.int 0])) := Steps.trans g18 (by
          refine XS.ifYes X18.here hexec rfl (pc0 := 47) rfl (hb hbytes d47) rfl (i0_eq_t rfl) (by decide) rfl ?_
          refine iconstV X18.here hexec rfl 0 (hb hbytes d54) (by decide) ?_
          exact Steps.refl _)
        exact ⟨T18, some (.int 0), _, _, _, X18, rfl, rfl, rfl, (fun h => by cases h), ⟨0, rfl, q18.trans hh16, Or.inr ⟨rfl, fun q => he (iff.mpr q)⟩⟩, fun fs hl => c19.trans (X18.ireturnOut hexec hret rfl (Or.inr (Or.inl rfl)) (hb hbytes d55) hl)⟩
    · have c13 : Steps p.tables e below (s₁.setTop (entryFrame m #[.ref x, .ref y] 3)) (T11.setTop (mkF m 55 #[.val (.ref x), .val (.ref y), .val (.ref y)] [.int 0])) := c12.trans (by
        refine XS.icmpYes X11.here hexec rfl (pc0 := 33) rfl (hb hbytes d33) rfl (ii_ne_t hcd) (by decide) rfl ?_
        refine iconstV X11.here hexec rfl 0 (hb hbytes d54) (by decide) ?_
        exact Steps.refl _)
      exact ⟨T11, some (.int 0), _, _, _, X11, rfl, rfl, rfl, (fun h => by cases h), ⟨0, rfl, hh11, Or.inr ⟨rfl, Cod.dif hx.2.2.2.2.1 hy.2.2.2.2.1 hcd⟩⟩, fun fs hl => c13.trans (X11.ireturnOut hexec hret rfl (Or.inr (Or.inl rfl)) (hb hbytes d55) hl)⟩
theorem pays {l : Launch} {R : Room} {p : Program} {e : Env} {below : List Frame} {s : State} {sargs : Array Value} {len W : Nat} (x t : Addr) (V : Cell) (cd : Int32) (n : Nat) (f : Nat → Int32) (y t' : Addr) (V' : Cell) (cd' : Int32) (k : Nat) (g : Nat → Int32) (z : Int32) (htab : tab.before sargs s = true) (hfr : 2 ≤ R.frames) (hlo : W + 28 ≤ R.locals) :
    Back l R p e below s sargs yN len W (fun A₁ a₁ => A₁.cells + 0 ≤ R.cells ∧ A₁.slots + 0 ≤ R.slots ∧ P x t V cd n f y t' V' cd' k g z a₁ A₁.U) (fun A₁ _ v₁ B₁ => Says01 (SameT n f k g) v₁ A₁.U B₁.U ∧ B₁.locs = A₁.locs ++ [] ∧ B₁.cells = A₁.cells + 0 ∧ B₁.slots = A₁.slots + 0) :=
  (law l x t V cd n f y t' V' cd' k g z).pays htab hfr (by omega)
end SEq
end StrChars
namespace StrChars.Road
open Jvm Sem ClassFile Op Lib Jvm.Stand Jvm.Free Jvm.Free.XT
open Jvm.Lib.Cold (StaticIs)
/-- the words of String.isEmpty() -/
abbrev wordsEmp : List Jvm.Cond := [.code Emp.yN Emp.yB 1 (some .boolean), .initialized ST, .fieldLink ST 9 ST "value" "[B"]
theorem tabEmp_of {a : Array Value} {s : State} (h : ∀ w ∈ wordsEmp, w.before a s = true) : Emp.tab.before a s = true := unparts (wk h (.code Emp.yN Emp.yB 1 (some .boolean))) (wks h (.initialized Emp.yN.cls :: Emp.site))
theorem movedEmp {Z s : State} {a0 args : Array Value} (hZ : Z.Warmed39 s.vm) (hw : ∀ d ∈ wordsEmp, d.before a0 Z = true) : ∀ d ∈ wordsEmp, d.before args s = true := fun d hd => by
  have t : ∀ d ∈ wordsEmp, (d.onTables && d.keepsFace) = true := by decide +kernel
  exact RoadKit.mv hZ (hw d hd) (t d hd)
/-- the words of String.equals(Object) -/
abbrev wordsEq : List Jvm.Cond := [.code SEq.yN SEq.yB 3 (some .boolean), .initialized ST, .classLink ST 10 ST, .fieldLink ST 38 ST "COMPACT_STRINGS" "Z", .fieldLink ST 15 ST "coder" "B", .fieldLink ST 9 ST "value" "[B", .methodLink ST 541 LEq.yN, .static LEq.yN, .code LEq.yN LEq.yB 3 (some .boolean), .initialized "java/lang/StringLatin1"]
theorem tabEq_of {a : Array Value} {s : State} (h : ∀ w ∈ wordsEq, w.before a s = true) : SEq.tab.before a s = true := by
  have hl : LEq.tab.before a s = true := unparts (wk h (.code LEq.yN LEq.yB 3 (some .boolean))) (wks h (.initialized LEq.yN.cls :: LEq.site))
  have q := consq hl h
  exact unparts (wk q (.code SEq.yN SEq.yB 3 (some .boolean))) (wks q (.initialized SEq.yN.cls :: SEq.site))
theorem movedEq {Z s : State} {a0 args : Array Value} (hZ : Z.Warmed39 s.vm) (hw : ∀ d ∈ wordsEq, d.before a0 Z = true) : ∀ d ∈ wordsEq, d.before args s = true := fun d hd => by
  have t : ∀ d ∈ wordsEq, (d.onTables && d.keepsFace) = true := by decide +kernel
  exact RoadKit.mv hZ (hw d hd) (t d hd)
/-- the road's facts of a String, as the laws ask it -/
theorem txt_of {Z U : State} {a0 : Array Value} {kI : Nat} (wi : (Jvm.Cond.instantiable ST kI).before a0 Z = true) (al : Z.vm.Alike U.vm) {x t : Addr} {kb : ClassId} {cs : List Int32} {cd N2 : Int32} {vs : List Value} (E : RoadKit.Exa Z U.heap x ST) (V : RoadKit.Fld Z U.heap x ST "value" "[B" (.ref t)) (C : RoadKit.Fld Z U.heap x ST "coder" "B" (.int cd)) (K : RoadKit.Arv Z U.heap t kb .byte N2 vs (.int 0)) (hc : CodA cs cd N2 vs) (hb : ∀ c ∈ cs, ¬ c < 0 ∧ ¬ (65535 : Int32) < c) (l2 : cs.length ≤ 4000) :
    ∃ A, Txt x t A cd cs.length (fun j => cs.getD j 0) U := by
  obtain ⟨A, K1, K2, K3, K4, K5, K6⟩ := K
  have hcod := hc.cod (by omega) K3 K5
  obtain ⟨D, fV, fC, hB, F1, F2, g1, g2, -, -⟩ := strObj wi al E V C
  exact ⟨A, ⟨_, hB.2.2.1, D, hB.1, rfl, by cases q : D.vm <;> first | rfl | exact absurd q (hB.2.1.2 _)⟩, Has.of hB F1 g1, Has.of hB F2 g2, ⟨K1.1, State.isArrayOf_alike al K1.2.1, K1.2.2, by rcases hcod with ⟨-, q, -⟩ | ⟨-, q, -⟩ <;> omega⟩, hcod, fun j hj => by
    have e : cs.getD j 0 = cs[j] := by simp [List.getD_eq_getElem?_getD, hj]
    show ¬ cs.getD j 0 < 0 ∧ ¬ 65535 < cs.getD j 0
    rw [e]; exact hb _ (List.getElem_mem _)⟩
theorem same_list (cs ds : List Int32) : SameT cs.length (fun j => cs.getD j 0) ds.length (fun j => ds.getD j 0) ↔ cs = ds := by
  constructor
  · rintro ⟨e, q⟩
    refine List.ext_getElem e fun j h1 h2 => ?_
    have := q j h1
    simpa [List.getD_eq_getElem?_getD, h1, h2] using this
  · rintro rfl
    exact ⟨rfl, fun _ _ => rfl⟩
/-- **isEmpty() OF SUCH A STRING** -/
theorem empW {p : Program} {l : Launch} {e : Env} {R : Room} {s : State} {args : Array Value} {below : List Frame} {len W : Nat} {Z : State} {a0 : Array Value} {h : Heap} (hZ : Z.Warmed39 s.vm) (hw : ∀ d ∈ wordsEmp, d.before a0 Z = true) {kI : Nat} (wi : (Jvm.Cond.instantiable ST kI).before a0 Z = true)
    {x t : Addr} {kb : ClassId} {cs : List Int32} {cd N2 : Int32} {vs : List Value} (E : RoadKit.Exa Z h x ST) (V : RoadKit.Fld Z h x ST "value" "[B" (.ref t)) (C : RoadKit.Fld Z h x ST "coder" "B" (.int cd)) (K : RoadKit.Arv Z h t kb .byte N2 vs (.int 0)) (hc : CodA cs cd N2 vs) (hb : ∀ c ∈ cs, ¬ c < 0 ∧ ¬ (65535 : Int32) < c) (l2 : cs.length ≤ 4000) (hfr : 1 ≤ R.frames) (hlo : W + 12 ≤ R.locals) :
    Back l R p e below s args (⟨"java/lang/String", "isEmpty", "()Z"⟩ : MethodName) len W (fun P a => a = #[.ref x] ∧ P.U.heap = h ∧ P.cells + 0 ≤ R.cells ∧ P.slots + 0 ≤ R.slots)
      (fun P _ v B => ∃ L, (v = some (.int (if cs.length = 0 then 1 else 0)) ∧ L = [] ∧ B.U.heap = h) ∧ B.locs = P.locs ++ L ∧ B.cells = P.cells + 0 ∧ B.slots = P.slots + 0) := by
  intro m meth c P g ig mk a X hg hsize hdg hW hn hp'
  obtain ⟨rfl, rfl, r1, r2⟩ := hp'
  have al : Z.vm.Alike P.U.vm := hZ.alike.trans X.warmed.alike
  obtain ⟨A, hx⟩ := txt_of wi al E V C K hc hb l2
  obtain ⟨v, B, X', ⟨⟨hv, hh⟩, hl, hk, hs⟩, st⟩ := Emp.pays x t A cd cs.length (fun j => cs.getD j 0) (tabEmp_of (movedEmp hZ hw)) hfr hlo m meth c P g ig mk _ X hg hsize hdg hW hn ⟨r1, r2, rfl, hx⟩
  exact ⟨v, B, X', ⟨[], ⟨hv, rfl, hh⟩, hl, hk, hs⟩, st⟩
/-- **equals(Object) OF TWO SUCH STRINGS**: 1 just where the chars are the same -/
theorem eqW {p : Program} {l : Launch} {e : Env} {R : Room} {s : State} {args : Array Value} {below : List Frame} {len W : Nat} {Z : State} {a0 : Array Value} {h : Heap} (hZ : Z.Warmed39 s.vm) (hw : ∀ d ∈ wordsEq, d.before a0 Z = true) {kI : Nat} (wi : (Jvm.Cond.instantiable ST kI).before a0 Z = true)
    {x t : Addr} {kb : ClassId} {cs : List Int32} {cd N2 : Int32} {vs : List Value} (E : RoadKit.Exa Z h x ST) (V : RoadKit.Fld Z h x ST "value" "[B" (.ref t)) (C : RoadKit.Fld Z h x ST "coder" "B" (.int cd)) (K : RoadKit.Arv Z h t kb .byte N2 vs (.int 0)) (hc : CodA cs cd N2 vs) (hb : ∀ c ∈ cs, ¬ c < 0 ∧ ¬ (65535 : Int32) < c) (l2 : cs.length ≤ 4000)
    {y t' : Addr} {kb' : ClassId} {ds : List Int32} {cd' N2' : Int32} {vs' : List Value} (E' : RoadKit.Exa Z h y ST) (V' : RoadKit.Fld Z h y ST "value" "[B" (.ref t')) (C' : RoadKit.Fld Z h y ST "coder" "B" (.int cd')) (K' : RoadKit.Arv Z h t' kb' .byte N2' vs' (.int 0)) (hc' : CodA ds cd' N2' vs') (hb' : ∀ c ∈ ds, ¬ c < 0 ∧ ¬ (65535 : Int32) < c) (l2' : ds.length ≤ 4000)
    {z : Int32} (S : RoadKit.Sta Z h ST "COMPACT_STRINGS" "Z" (.int z)) (hz : ¬ z = 0) (hfr : 2 ≤ R.frames) (hlo : W + 28 ≤ R.locals) :
    Back l R p e below s args (⟨"java/lang/String", "equals", "(Ljava/lang/Object;)Z"⟩ : MethodName) len W (fun P a => a = #[.ref x, .ref y] ∧ P.U.heap = h ∧ P.cells + 0 ≤ R.cells ∧ P.slots + 0 ≤ R.slots)
      (fun P _ v B => ∃ L, (((v = some (.int 1) ∧ cs = ds) ∨ (v = some (.int 0) ∧ ¬ cs = ds)) ∧ L = [] ∧ B.U.heap = h) ∧ B.locs = P.locs ++ L ∧ B.cells = P.cells + 0 ∧ B.slots = P.slots + 0) := by
  intro m meth c P g ig mk a X hg hsize hdg hW hn hp'
  obtain ⟨rfl, rfl, r1, r2⟩ := hp'
  have al : Z.vm.Alike P.U.vm := hZ.alike.trans X.warmed.alike
  obtain ⟨A, hx⟩ := txt_of wi al E V C K hc hb l2
  obtain ⟨A', hy⟩ := txt_of wi al E' V' C' K' hc' hb' l2'
  obtain ⟨v, B, X', ⟨⟨w, hv, hh, hq⟩, hl, hk, hs⟩, st⟩ := SEq.pays x t A cd cs.length (fun j => cs.getD j 0) y t' A' cd' ds.length (fun j => ds.getD j 0) z (tabEq_of (movedEq hZ hw)) hfr hlo m meth c P g ig mk _ X hg hsize hdg hW hn ⟨r1, r2, rfl, hx, hy, sta_is al S, hz⟩
  refine ⟨v, B, X', ⟨[], ⟨?_, rfl, hh⟩, hl, hk, hs⟩, st⟩
  rcases hq with ⟨rfl, q⟩ | ⟨rfl, q⟩
  · exact Or.inl ⟨hv, (same_list cs ds).mp q⟩
  · exact Or.inr ⟨hv, fun e => q ((same_list cs ds).mpr e)⟩
end StrChars.Road
namespace StrChars.Road
open Jvm Sem ClassFile Op Lib Jvm.Stand Jvm.Free Jvm.Free.XT
open Jvm.Lib.Cold (StaticIs)
/-- what backV says of its String, as the contracts of this text ask it: cs's low bytes, coder 0 -/
theorem codOf {cs : List Int32} {n : Nat} (hn : cs.length = n) (hb : ∀ c ∈ cs, ¬ 255 < c) : CodA cs 0 (Int32.ofNat n) ((cs.map lo8).map Value.int) := Or.inl ⟨rfl, by rw [hn], by simp [List.map_map, Function.comp_def], hb⟩
end StrChars.Road
end Jvm.Pilot.@@N@@
set_option maxRecDepth 65536
set_option maxHeartbeats 40000000
namespace Jvm.Pilot.@@N@@
open Jvm Jvm.ClassFile Sem Op Lib Jvm.Free Jvm.Stand Jvm.LawKit Jvm.RoadKit Bundle Jvm.Own Jvm.Pilot.@@N@@.Jvm.D
theorem pn_0 : plainName "com/example/frontier/frontier/crawllog/CrawlLogEntryEqualsPinLaw" = true := by first | (simp [plainName, overriddenIn]; done) | decide +kernel
theorem pd_0 : parseMethodDescriptor "(JJ)J" = some ⟨[.long, .long], some .long⟩ := by decide +kernel
theorem pn_1 : plainName "java/lang/String" = true := by first | (simp [plainName, overriddenIn]; done) | decide +kernel
theorem pd_1 : parseMethodDescriptor "()Z" = some ⟨[], some .boolean⟩ := by decide +kernel
theorem pd_2 : parseMethodDescriptor "(II)I" = some ⟨[.int, .int], some .int⟩ := by decide +kernel
theorem pn_2 : plainName "java/lang/StringLatin1" = true := by first | (simp [plainName, overriddenIn]; done) | decide +kernel
theorem pd_3 : parseMethodDescriptor "(I)Z" = some ⟨[.int], some .boolean⟩ := by decide +kernel
theorem pd_4 : parseMethodDescriptor "([BIII)I" = some ⟨[(.array .byte), .int, .int, .int], some .int⟩ := by decide +kernel
theorem pd_5 : parseMethodDescriptor "()I" = some ⟨[], some .int⟩ := by decide +kernel
theorem pd_6 : parseMethodDescriptor "(I)I" = some ⟨[.int], some .int⟩ := by decide +kernel
theorem pn_3 : plainName "com/example/frontier/frontier/crawllog/CrawlLogEntry" = true := by first | (simp [plainName, overriddenIn]; done) | decide +kernel
theorem pd_7 : parseMethodDescriptor "(J)I" = some ⟨[.long], some .int⟩ := by decide +kernel
theorem pn_4 : plainName "java/util/Objects" = true := by first | (simp [plainName, overriddenIn]; done) | decide +kernel
theorem pd_8 : parseMethodDescriptor "(Ljava/lang/Object;Ljava/lang/String;)Ljava/lang/Object;" = some ⟨[(.object "java/lang/Object"), (.object "java/lang/String")], some (.object "java/lang/Object")⟩ := by decide +kernel
theorem pd_9 : parseMethodDescriptor "(Ljava/lang/String;Ljava/lang/String;)V" = some ⟨[(.object "java/lang/String"), (.object "java/lang/String")], none⟩ := by decide +kernel
theorem pd_10 : parseMethodDescriptor "(JJIJLjava/lang/String;Ljava/lang/String;)V" = some ⟨[.long, .long, .int, .long, (.object "java/lang/String"), (.object "java/lang/String")], none⟩ := by decide +kernel
theorem pd_11 : parseMethodDescriptor "(I)C" = some ⟨[.int], some .char⟩ := by decide +kernel
theorem pd_12 : parseMethodDescriptor "(Ljava/lang/Object;)Z" = some ⟨[(.object "java/lang/Object")], some .boolean⟩ := by decide +kernel
theorem pd_13 : parseMethodDescriptor "([C)V" = some ⟨[(.array .char)], none⟩ := by decide +kernel

def Str (V : Vw) (h : Heap) (m : Nat) (x : Nat) (cs : List Int32) : Prop := ∃ (t : Nat) (kb : ClassId) (cd N2 : Int32) (vs : List Value), x < m ∧ t < m ∧ m ≤ h.size ∧ Exa V.Z h x "java/lang/String" ∧ Fld V.Z h x "java/lang/String" "value" "[B" (.ref t) ∧ Fld V.Z h x "java/lang/String" "coder" "B" (.int cd) ∧ Arv V.Z h t kb .byte N2 vs (.int 0) ∧ StrChars.Road.CodA cs cd N2 vs ∧ (∀ c ∈ cs, ¬ c < 0 ∧ ¬ (65535 : Int32) < c) ∧ cs.length ≤ 4000
theorem Str.ext {V : Vw} {h h' : Heap} {m : Nat} {x : Nat} {cs : List Int32} (E : Ext h h') (S : Str V h m x cs) : Str V h' m x cs := by
  obtain ⟨t, kb, cd, N2, vs, a1, a2, a3, a4, a5, a6, a7, a8⟩ := S
  exact ⟨t, kb, cd, N2, vs, a1, a2, Nat.le_trans a3 E.1, a4.ext E, a5.ext E, a6.ext E, a7.ext E, a8⟩
theorem Str.up {V : Vw} {h : Heap} {m m' : Nat} {x : Nat} {cs : List Int32} (S : Str V h m x cs) (q : m ≤ m') (r : m' ≤ h.size) : Str V h m' x cs := by
  obtain ⟨t, kb, cd, N2, vs, a1, a2, a3, a8⟩ := S
  exact ⟨t, kb, cd, N2, vs, by omega, by omega, r, a8⟩
theorem Str.keep {V : Vw} {h h' : Heap} {ws : List Addr} {m : Nat} {x : Nat} {cs : List Int32} (K : Keep h h' ws) (q : ∀ w ∈ ws, m ≤ w) (S : Str V h m x cs) : Str V h' m x cs := by
  obtain ⟨t, kb, cd, N2, vs, a1, a2, a3, a4, a5, a6, a7, a8⟩ := S
  have nx : x ∉ ws := fun z => absurd (q x z) (by omega)
  have nt : t ∉ ws := fun z => absurd (q t z) (by omega)
  exact ⟨t, kb, cd, N2, vs, a1, a2, Nat.le_trans a3 K.1, a4.keep K, a5.keep K nx, a6.keep K nx, a7.keep K nt, a8⟩
theorem Str.keepE {V : Vw} {h h' : Heap} {a : Nat} {C : String} {n m : Nat} {x : Nat} {cs : List Int32} (K : Keep h h' [a]) (E : Exa V.Z h a C) (hC : C ≠ "java/lang/String") (wi : (Jvm.Cond.instantiable C n).before V.a0 V.Z = true) (S : Str V h m x cs) : Str V h' m x cs := by
  obtain ⟨t, kb, cd, N2, vs, a1, a2, a3, a4, a5, a6, a7, a8⟩ := S
  have nx : x ∉ [a] := ninS (a4.ne E (Ne.symm hC)) nin0
  have nt : t ∉ [a] := ninS (Ne.symm (E.neArv a7 wi)) nin0
  exact ⟨t, kb, cd, N2, vs, a1, a2, Nat.le_trans a3 K.1, a4.keep K, a5.keep K nx, a6.keep K nx, a7.keep K nt, a8⟩
theorem Arr.neTy {Z : State} {h : Heap} {a b : Nat} {c d : Cell} {ty ty' : FieldType} (A : RoadKit.Arr Z h a c ty) (D : RoadKit.Arr Z h b d ty') (q : ty ≠ ty') : a ≠ b := fun e => by
  subst e
  cases A.1.symm.trans D.1
  obtain ⟨-, k1, h1, c1, g1⟩ := A.2.1
  obtain ⟨-, k2, h2, c2, g2⟩ := D.2.1
  cases h1.symm.trans h2
  rw [g1] at g2
  injection g2 with _ g3
  exact q g3
theorem Str.keepA {V : Vw} {h h' : Heap} {a : Nat} {k : ClassId} {ty : FieldType} {z : Int32} {us : List Value} {dv : Value} {n m : Nat} {x : Nat} {cs : List Int32} (K : Keep h h' [a]) (A : Arv V.Z h a k ty z us dv) (hty : ty ≠ .byte) (wi : (Jvm.Cond.instantiable "java/lang/String" n).before V.a0 V.Z = true) (S : Str V h m x cs) : Str V h' m x cs := by
  obtain ⟨t, kb, cd, N2, vs, a1, a2, a3, a4, a5, a6, a7, a8⟩ := S
  have nx : x ∉ [a] := ninS (a4.neArv A wi) nin0
  have nt : t ∉ [a] := ninS (fun e => by obtain ⟨c1, A1, -⟩ := A; obtain ⟨c2, A2, -⟩ := a7; exact Arr.neTy A1 A2 hty e.symm) nin0
  exact ⟨t, kb, cd, N2, vs, a1, a2, Nat.le_trans a3 K.1, a4.keep K, a5.keep K nx, a6.keep K nx, a7.keep K nt, a8⟩
theorem Str.exa {V : Vw} {h : Heap} {m : Nat} {x : Nat} {cs : List Int32} (S : Str V h m x cs) : Exa V.Z h x "java/lang/String" := by
  obtain ⟨t, kb, cd, N2, vs, a1, a2, a3, a4, -⟩ := S; exact a4
theorem Str.lt {V : Vw} {h : Heap} {m : Nat} {x : Nat} {cs : List Int32} (S : Str V h m x cs) : x < m ∧ m ≤ h.size := by
  obtain ⟨t, kb, cd, N2, vs, a1, a2, a3, a4, -⟩ := S; exact ⟨a1, a3⟩
theorem up16 {cs : List Int32} (h : ∀ c ∈ cs, By c) : ∀ c ∈ cs, ¬ c < 0 ∧ ¬ (65535 : Int32) < c := fun c hc => ⟨(h c hc).1, fun q => (h c hc).2 (by
  rw [Int32.lt_iff_toInt_lt] at q ⊢; have e1 : (65535 : Int32).toInt = 65535 := rfl; have e2 : (255 : Int32).toInt = 255 := rfl; omega)⟩

def Qsm (q : Prop) (h0 : Heap) : Qt := fun v h _ => ∃ b : Int32, v = some (.int b) ∧ h = h0 ∧ (b = 1 ∧ q ∨ b = 0 ∧ ¬ q)
theorem bt {b : Int32} {q : Prop} (h : b = 1 ∧ q ∨ b = 0 ∧ ¬ q) (c : ¬ b = 0) : q := h.elim (fun x => x.2) (fun x => absurd x.1 c)
theorem bf {b : Int32} {q : Prop} (h : b = 1 ∧ q ∨ b = 0 ∧ ¬ q) (c : b = 0) : ¬ q := h.elim (fun x => absurd (x.1.symm.trans c) (by decide)) (fun x => x.2)
theorem beq {b c : Int32} {q r : Prop} (h : b = 1 ∧ q ∨ b = 0 ∧ ¬ q) (k : c = 1 ∧ r ∨ c = 0 ∧ ¬ r) (e : q ↔ r) : b = c := by
  rcases h with ⟨rfl, x⟩ | ⟨rfl, x⟩ <;> rcases k with ⟨rfl, y⟩ | ⟨rfl, y⟩ <;> first | rfl | exact absurd (e.mp x) y | exact absurd (e.mpr y) x
theorem bnar {b : Int32} {q : Prop} (h : b = 1 ∧ q ∨ b = 0 ∧ ¬ q) : RoadKit.nar .boolean b = b := by rcases h with ⟨rfl, x⟩ | ⟨rfl, x⟩ <;> rfl
def Qmk (V : Vw) (cs : List Int32) (h0 : Heap) : Qt := fun v h _ => ∃ x : Nat, v = some (.ref x) ∧ Ext h0 h ∧ Str V h h.size x cs
theorem Keep.ext0 {h h1 h2 : Heap} {ws : List Addr} (E : Ext h h1) (K : Keep h1 h2 ws) (q : ∀ w ∈ ws, h.size ≤ w) : Ext h h2 := ⟨Nat.le_trans E.1 K.1, fun a c hc => K.2.1 a c (E.2 a c hc) fun z => absurd (Array.getElem?_eq_some_iff.mp hc).1 (Nat.not_lt.mpr (q a z))⟩
theorem Ext.wr0 {h h1 h2 : Heap} {a : Nat} {j : Nat} {v : Value} (E : Ext h h1) (W : Wr h1 h2 a j v) (q : h.size ≤ a) : Ext h h2 := Keep.ext0 E (Keep.of_wr W) (fun w hw => by cases List.mem_singleton.mp hw; exact q)
theorem Ext.refl0 (h : Heap) : Ext h h := ⟨Nat.le_refl _, fun _ _ q => q⟩
theorem nby {c : Int32} (h : By c) : RoadKit.nar .char c = c := by
  have f := c_i2c c
  obtain ⟨a, b⟩ := h
  rw [Int32.lt_iff_toInt_lt] at a b
  have e0 : (0 : Int32).toInt = 0 := rfl
  have e1 : (255 : Int32).toInt = 255 := rfl
  show c.toUInt32.toUInt16.toUInt32.toInt32 = c
  rw [← Int32.toInt_inj]; omega
theorem by0 : ∀ c ∈ ([] : List Int32), By c := fun _ q => nomatch q
theorem by1 {a : Int32} (h : By a) : ∀ c ∈ [a], By c := fun c hc => by cases List.mem_singleton.mp hc; exact h
theorem byS {a : Int32} {l : List Int32} (h : By a) (t : ∀ c ∈ l, By c) : ∀ c ∈ a :: l, By c := fun c hc => by rcases List.mem_cons.mp hc with rfl | hc; exact h; exact t c hc
def Qn (V : Vw) (x : Nat) (cs : List Int32) (h0 : Heap) : Qt := fun v h _ => v = none ∧ Keep h0 h [x] ∧ Str V h h.size x cs
theorem wds (V : Vw) (hw : ∀ d ∈ tables_1, d.before V.a0 V.Z = true) (ws : List Jvm.Cond) (h : ∀ d ∈ ws, d ∈ tables_1) : ∀ d ∈ ws, d.before V.a0 V.Z = true := fun d hd => hw d (h d hd)
theorem pay_newN (V : Vw) (hw : ∀ d ∈ tables_1, d.before V.a0 V.Z = true) (K : Cx) (B : Bx) (W : Nat) (x b : Nat) (kC : ClassId) (cs : List Int32) (N : Int32) (h : Heap) (ps : List Addr) (d v0 c0 : Value) (zx : V.Z.heap.size ≤ x) (zh : V.Z.heap.size ≤ h.size) (E : Exa V.Z h x "java/lang/String") (Fv : Fld V.Z h x "java/lang/String" "value" "[B" v0) (Fc : Fld V.Z h x "java/lang/String" "coder" "B" c0) (A : Arv V.Z h b kC .char N (cs.map Value.int) d) (O : Ext V.Z.heap h) (cz : Int32) (hCS : Sta V.Z V.Z.heap "java/lang/String" "COMPACT_STRINGS" "Z" (.int cz)) (hcz : ¬ cz = 0) (hN : N = Int32.ofNat cs.length) (l0 : 0 < cs.length) (l2 : cs.length ≤ 4000) (hp : ∀ c ∈ cs, By c) (hxp : x ∈ ps) (hfr : 4 ≤ B.R.frames) (hlo : W + 65 ≤ B.R.locals) :
    Pays V K B (⟨"java/lang/String", "<init>", "([C)V"⟩ : MethodName) 3 W #[.ref x, .ref b] h ps 1 cs.length (Qn V x cs h) :=
  Pays.back (ws := [x]) (fun s hZ => StrChars.Road.backV (W := W) hZ (wds V hw _ (by decide +kernel)) (kI := 4) (wd hw 16 rfl) (cs := cs) (bs := cs.map (fun c => c.toInt8.toInt32)) (n := cs.length) zx zh E Fv Fc A (hCS.ext O) hcz rfl hN l0 l2 hp rfl hfr hlo)
    (fun v h' L q => by
      obtain ⟨q1, q2, q3, q4, q5, t, kb, q6, q7, q8, q9, q10⟩ := q
      exact ⟨q2, q3, q1, q3, t, kb, 0, N, _, q4.lt, q10.lt, Nat.le_refl _, q4, q9, q5, q10, Or.inl ⟨rfl, hN, by simp [List.map_map, Function.comp_def, StrChars.lo8], fun c hc => (hp c hc).2⟩, up16 hp, l2⟩)
    (by simpa using zx) (fun vm al P y hy => by cases List.mem_singleton.mp hy; exact (P _ hxp).2)
theorem satoms (V : Vw) (hw : ∀ d ∈ tables_1, d.before V.a0 V.Z = true) : ∀ a ∈ Bundle.stringAtoms, a.before V.a0 V.Z = true := wds V hw _ (by decide +kernel)
theorem pay_len (V : Vw) (hw : ∀ d ∈ tables_1, d.before V.a0 V.Z = true) (K : Cx) (B : Bx) (W : Nat) (x : Nat) (m : Nat) (cs : List Int32) (h : Heap) (ps : List Addr) (S : Str V h m x cs) (O : Ext V.Z.heap h) (cz : Int32) (hCS : Sta V.Z V.Z.heap "java/lang/String" "COMPACT_STRINGS" "Z" (.int cz)) (hcz : ¬ cz = 0) (hfr : 2 ≤ B.R.frames) (hlo : W + 25 ≤ B.R.locals) : Pays V K B (⟨"java/lang/String", "length", "()I"⟩ : MethodName) 3 W #[.ref x] h ps 0 0 (fun v h' _ => v = some (.int (Int32.ofNat cs.length)) ∧ h' = h) := by
  obtain ⟨t, kb, cd, N2, vs, a1, a2, a3, a4, a5, a6, a7, a8, a9, a10⟩ := S
  exact Pays.back (ws := []) (Q0 := fun v h' L => v = some (.int (Int32.ofNat cs.length)) ∧ L = [] ∧ h' = h) (fun s hZ => StrChars.Road.lenW (W := W) hZ (wds V hw _ (by decide +kernel)) (kI := 4) (wd hw 16 rfl) a4 a5 a6 a7 a8 a9 (hCS.ext O) hcz a10 hfr hlo) (fun v h' L q => ⟨by rw [q.2.1]; exact Fr.nil _, by rw [q.2.2]; exact Keep.refl _ _, q.1, q.2.2⟩) all0 (fun vm al P => all0)
theorem pay_eq (V : Vw) (hw : ∀ d ∈ tables_1, d.before V.a0 V.Z = true) (K : Cx) (B : Bx) (W : Nat) (x y : Nat) (m m' : Nat) (cs ds : List Int32) (h : Heap) (ps : List Addr) (S : Str V h m x cs) (S' : Str V h m' y ds) (O : Ext V.Z.heap h) (cz : Int32) (hCS : Sta V.Z V.Z.heap "java/lang/String" "COMPACT_STRINGS" "Z" (.int cz)) (hcz : ¬ cz = 0) (hfr : 2 ≤ B.R.frames) (hlo : W + 28 ≤ B.R.locals) : Pays V K B (⟨"java/lang/String", "equals", "(Ljava/lang/Object;)Z"⟩ : MethodName) 3 W #[.ref x, .ref y] h ps 0 0 (Qsm (cs = ds) h) := by
  obtain ⟨t, kb, cd, N2, vs, a1, a2, a3, a4, a5, a6, a7, a8, a9, a10⟩ := S
  obtain ⟨t', kb', cd', N2', vs', b1, b2, b3, b4, b5, b6, b7, b8, b9, b10⟩ := S'
  exact Pays.back (ws := []) (Q0 := fun v h' L => ((v = some (.int 1) ∧ cs = ds) ∨ (v = some (.int 0) ∧ ¬ cs = ds)) ∧ L = [] ∧ h' = h) (fun s hZ => StrChars.Road.eqW (W := W) hZ (wds V hw _ (by decide +kernel)) (kI := 4) (wd hw 16 rfl) a4 a5 a6 a7 a8 a9 a10 b4 b5 b6 b7 b8 b9 b10 (hCS.ext O) hcz hfr hlo) (fun v h' L q => ⟨by rw [q.2.1]; exact Fr.nil _, by rw [q.2.2]; exact Keep.refl _ _, q.1.elim (fun z => ⟨1, z.1, q.2.2, Or.inl ⟨rfl, z.2⟩⟩) (fun z => ⟨0, z.1, q.2.2, Or.inr ⟨rfl, z.2⟩⟩)⟩) all0 (fun vm al P => all0)
theorem pay_emp (V : Vw) (hw : ∀ d ∈ tables_1, d.before V.a0 V.Z = true) (K : Cx) (B : Bx) (W : Nat) (x : Nat) (m : Nat) (cs : List Int32) (h : Heap) (ps : List Addr) (S : Str V h m x cs) (hfr : 1 ≤ B.R.frames) (hlo : W + 12 ≤ B.R.locals) : Pays V K B (⟨"java/lang/String", "isEmpty", "()Z"⟩ : MethodName) 3 W #[.ref x] h ps 0 0 (fun v h' _ => v = some (.int (if cs.length = 0 then 1 else 0)) ∧ h' = h) := by
  obtain ⟨t, kb, cd, N2, vs, a1, a2, a3, a4, a5, a6, a7, a8, a9, a10⟩ := S
  exact Pays.back (ws := []) (Q0 := fun v h' L => v = some (.int (if cs.length = 0 then 1 else 0)) ∧ L = [] ∧ h' = h) (fun s hZ => StrChars.Road.empW (W := W) hZ (wds V hw _ (by decide +kernel)) (kI := 4) (wd hw 16 rfl) a4 a5 a6 a7 a8 a9 a10 hfr hlo) (fun v h' L q => ⟨by rw [q.2.1]; exact Fr.nil _, by rw [q.2.2]; exact Keep.refl _ _, q.1, q.2.2⟩) all0 (fun vm al P => all0)
theorem d0_0 : decode jdk_29_method_70_code 0 = .ok (.lload_n 0, 1) := by decide +kernel
theorem d0_1 : decode jdk_29_method_70_code 1 = .ok (.lload_n 2, 1) := by decide +kernel
theorem d0_2 : decode jdk_29_method_70_code 2 = .ok (.lcmp, 1) := by decide +kernel
theorem d0_3 : decode jdk_29_method_70_code 3 = .ok (.ifCond .gt 7, 3) := by decide +kernel
theorem d0_6 : decode jdk_29_method_70_code 6 = .ok (.lload_n 0, 1) := by decide +kernel
theorem d0_7 : decode jdk_29_method_70_code 7 = .ok (.goto 4, 3) := by decide +kernel
theorem d0_10 : decode jdk_29_method_70_code 10 = .ok (.lload_n 2, 1) := by decide +kernel
theorem d0_11 : decode jdk_29_method_70_code 11 = .ok (.lreturn, 1) := by decide +kernel
abbrev b_minJ : Bx := (⟨"java/lang/Math", "min", "(JJ)J"⟩, jdk_29_method_70_code, 4, some .long, { frames := 0, cells := 0, slots := 0, locals := 0 })
def mnJ (a b : Int64) : Int64 := if b < a then b else a
theorem c_minJ (V : Vw) (hw : ∀ d ∈ tables_1, d.before V.a0 V.Z = true) (a b : Int64) (h : Heap) (ps : List Addr) : Con V b_minJ #[.long a, .long b] h ps (fun v h' _ => v = some (.long (mnJ a b)) ∧ h' = h) := Con.of (by decide +kernel) (L := [.val (.long a), .second, .val (.long b), .second]) rfl fun K => by
  refine r_lloadN 1 rfl d0_0 rfl ?_
  refine r_lloadN 2 rfl d0_1 rfl ?_
  refine r_lcmp_gt 3 10 6 d0_2 rfl d0_3 (by decide) rfl rfl (fun c1 => ?_) (fun c1 => ?_)
  · refine r_lloadN 11 rfl d0_10 rfl ?_
    refine r_lret rfl d0_11 (by decide) (by decide) [] (fun _ q => nomatch q) ?_
    exact ⟨by rw [show mnJ a b = b from if_pos c1], rfl⟩
  · refine r_lloadN 7 rfl d0_6 rfl ?_
    refine r_goto 11 d0_7 (by decide) rfl ?_
    refine r_lret rfl d0_11 (by decide) (by decide) [] (fun _ q => nomatch q) ?_
    exact ⟨by rw [show mnJ a b = a from if_neg c1], rfl⟩
theorem d1_0 : decode jdk_29_method_66_code 0 = .ok (.lload_n 0, 1) := by decide +kernel
theorem d1_1 : decode jdk_29_method_66_code 1 = .ok (.lload_n 2, 1) := by decide +kernel
theorem d1_2 : decode jdk_29_method_66_code 2 = .ok (.lcmp, 1) := by decide +kernel
theorem d1_3 : decode jdk_29_method_66_code 3 = .ok (.ifCond .lt 7, 3) := by decide +kernel
theorem d1_6 : decode jdk_29_method_66_code 6 = .ok (.lload_n 0, 1) := by decide +kernel
theorem d1_7 : decode jdk_29_method_66_code 7 = .ok (.goto 4, 3) := by decide +kernel
theorem d1_10 : decode jdk_29_method_66_code 10 = .ok (.lload_n 2, 1) := by decide +kernel
theorem d1_11 : decode jdk_29_method_66_code 11 = .ok (.lreturn, 1) := by decide +kernel
abbrev b_maxJ : Bx := (⟨"java/lang/Math", "max", "(JJ)J"⟩, jdk_29_method_66_code, 4, some .long, { frames := 0, cells := 0, slots := 0, locals := 0 })
def mxJ (a b : Int64) : Int64 := if a < b then b else a
theorem c_maxJ (V : Vw) (hw : ∀ d ∈ tables_1, d.before V.a0 V.Z = true) (a b : Int64) (h : Heap) (ps : List Addr) : Con V b_maxJ #[.long a, .long b] h ps (fun v h' _ => v = some (.long (mxJ a b)) ∧ h' = h) := Con.of (by decide +kernel) (L := [.val (.long a), .second, .val (.long b), .second]) rfl fun K => by
  refine r_lloadN 1 rfl d1_0 rfl ?_
  refine r_lloadN 2 rfl d1_1 rfl ?_
  refine r_lcmp_lt 3 10 6 d1_2 rfl d1_3 (by decide) rfl rfl (fun c2 => ?_) (fun c2 => ?_)
  · refine r_lloadN 11 rfl d1_10 rfl ?_
    refine r_lret rfl d1_11 (by decide) (by decide) [] (fun _ q => nomatch q) ?_
    exact ⟨by rw [show mxJ a b = b from if_pos c2], rfl⟩
  · refine r_lloadN 7 rfl d1_6 rfl ?_
    refine r_goto 11 d1_7 (by decide) rfl ?_
    refine r_lret rfl d1_11 (by decide) (by decide) [] (fun _ q => nomatch q) ?_
    exact ⟨by rw [show mxJ a b = a from if_neg c2], rfl⟩
theorem ofN_nat {n : Nat} (h : n < 2 ^ 31) : (Int32.ofNat n).toNatClampNeg = n := by
  have q : (Int32.ofNat n).toInt = n := Int32.toInt_ofNat_small h
  simp only [Int32.toNatClampNeg, q]; omega
theorem ofN_lt {n k : Nat} (h : n < 2 ^ 31) (g : k < 2 ^ 31) : Int32.ofNat n < Int32.ofNat k ↔ n < k := by
  have q : (Int32.ofNat n).toInt = n := Int32.toInt_ofNat_small h
  have r : (Int32.ofNat k).toInt = k := Int32.toInt_ofNat_small g
  rw [Int32.lt_iff_toInt_lt, q, r]; omega
theorem ofN_nn {n : Nat} (h : n < 2 ^ 31) : ¬ Int32.ofNat n < 0 := by
  have q : (Int32.ofNat n).toInt = n := Int32.toInt_ofNat_small h
  rw [Int32.lt_iff_toInt_lt, q]; have : (0 : Int32).toInt = 0 := rfl; omega
theorem ofN_s (n : Nat) : Int32.ofNat n + 1 = Int32.ofNat (n + 1) := (Int32.ofNat_add n 1).symm
theorem by_int {x : Int32} (h : By x) : 0 ≤ x.toInt ∧ x.toInt ≤ 255 := by
  obtain ⟨a, b⟩ := h
  rw [Int32.lt_iff_toInt_lt] at a b
  have e0 : (0 : Int32).toInt = 0 := rfl
  have e1 : (255 : Int32).toInt = 255 := rfl
  omega
theorem lo8_by {x y : Int32} (hx : By x) (hy : By y) (e : x.toInt8.toInt32 = y.toInt8.toInt32) : x = y := by
  have a := c_i2b x
  have b := c_i2b y
  have c := by_int hx
  have d := by_int hy
  rw [e] at a
  rw [← Int32.toInt_inj]; omega
theorem vsGet (cs : List Int32) (i : Nat) (h : i < cs.length) : ((cs.map fun c => Value.int (StrChars.lo8 c))).getD i (.int 0) = .int ((cs.getD i 0).toInt8.toInt32) := by
  simp [List.getD_eq_getElem?_getD, h, StrChars.lo8]

theorem d2_0 : decode jdk_42_method_154_code 0 = .ok (.getstatic 38, 3) := by decide +kernel
theorem d2_3 : decode jdk_42_method_154_code 3 = .ok (.ifCond .eq 14, 3) := by decide +kernel
theorem d2_6 : decode jdk_42_method_154_code 6 = .ok (.aload_n 0, 1) := by decide +kernel
theorem d2_7 : decode jdk_42_method_154_code 7 = .ok (.getfield 15, 3) := by decide +kernel
theorem d2_10 : decode jdk_42_method_154_code 10 = .ok (.ifCond .ne 7, 3) := by decide +kernel
theorem d2_13 : decode jdk_42_method_154_code 13 = .ok (.iconst 1, 1) := by decide +kernel
theorem d2_14 : decode jdk_42_method_154_code 14 = .ok (.goto 4, 3) := by decide +kernel
theorem d2_17 : decode jdk_42_method_154_code 17 = .ok (.iconst 0, 1) := by decide +kernel
theorem d2_18 : decode jdk_42_method_154_code 18 = .ok (.ireturn, 1) := by decide +kernel
abbrev b_isL : Bx := (⟨"java/lang/String", "isLatin1", "()Z"⟩, jdk_42_method_154_code, 1, some .boolean, { frames := 0, cells := 0, slots := 0, locals := 0 })
theorem c_isL (V : Vw) (hw : ∀ d ∈ tables_1, d.before V.a0 V.Z = true) (cz : Int32) (hCS : Sta V.Z V.Z.heap "java/lang/String" "COMPACT_STRINGS" "Z" (.int cz)) (hcz : ¬ cz = 0) (x : Nat) (h : Heap) (ps : List Addr) (F : Fld V.Z h x "java/lang/String" "coder" "B" (.int 0)) : Con V b_isL #[.ref x] h ps (fun v h' _ => v = some (.int 1) ∧ h' = h) := Con.of (plainFor_of_name pn_1) (L := [.val (.ref x)]) rfl fun K => by
  refine r_getstatic 3 rfl d2_0 (wd hw 29 rfl) hCS ?_
  refine r_if_eq 17 6 d2_3 (by decide) rfl rfl (fun c3 => ?_) (fun c3 => ?_)
  · exact absurd c3 hcz
  refine r_aloadN 7 rfl d2_6 rfl rfl ?_
  refine r_getfield 10 rfl d2_7 (wd hw 41 rfl) F ?_
  refine r_if_ne 17 13 d2_10 (by decide) rfl rfl (fun c4 => ?_) (fun c4 => ?_)
  · exact absurd rfl c4
  refine r_iconst (1 : Int32) 14 rfl d2_13 rfl ?_
  refine r_goto 18 d2_14 (by decide) rfl ?_
  refine r_nret (t := .boolean) (1 : Int32) rfl (by simp) rfl d2_18 (by decide) (by decide) [] (fun _ q => nomatch q) ?_
  exact ⟨rfl, rfl⟩
def Qi (z : Int32) (h0 : Heap) : Qt := fun v h _ => v = some (.int z) ∧ h = h0
theorem d3_0 : decode jdk_29_method_65_code 0 = .ok (.iload_n 0, 1) := by decide +kernel
theorem d3_1 : decode jdk_29_method_65_code 1 = .ok (.iload_n 1, 1) := by decide +kernel
theorem d3_2 : decode jdk_29_method_65_code 2 = .ok (.if_icmp .lt 7, 3) := by decide +kernel
theorem d3_5 : decode jdk_29_method_65_code 5 = .ok (.iload_n 0, 1) := by decide +kernel
theorem d3_6 : decode jdk_29_method_65_code 6 = .ok (.goto 4, 3) := by decide +kernel
theorem d3_9 : decode jdk_29_method_65_code 9 = .ok (.iload_n 1, 1) := by decide +kernel
theorem d3_10 : decode jdk_29_method_65_code 10 = .ok (.ireturn, 1) := by decide +kernel
abbrev b_max : Bx := (⟨"java/lang/Math", "max", "(II)I"⟩, jdk_29_method_65_code, 2, some .int, { frames := 0, cells := 0, slots := 0, locals := 0 })
def mx2 (a b : Int32) : Int32 := if a < b then b else a
theorem c_max (V : Vw) (hw : ∀ d ∈ tables_1, d.before V.a0 V.Z = true) (a b : Int32) (h : Heap) (ps : List Addr) : Con V b_max #[.int a, .int b] h ps (Qi (mx2 a b) h) := Con.of (by decide +kernel) (L := [.val (.int a), .val (.int b)]) rfl fun K => by
  refine r_iloadN 1 rfl d3_0 rfl ?_
  refine r_iloadN 2 rfl d3_1 rfl ?_
  refine r_icmp_lt 9 5 d3_2 (by decide) rfl rfl (fun c5 => ?_) (fun c5 => ?_)
  · refine r_iloadN 10 rfl d3_9 rfl ?_
    refine r_iret rfl d3_10 (by decide) (by decide) [] (fun _ q => nomatch q) ?_
    exact ⟨by rw [show mx2 a b = b from if_pos c5], rfl⟩
  · refine r_iloadN 6 rfl d3_5 rfl ?_
    refine r_goto 10 d3_6 (by decide) rfl ?_
    refine r_iret rfl d3_10 (by decide) (by decide) [] (fun _ q => nomatch q) ?_
    exact ⟨by rw [show mx2 a b = a from if_neg c5], rfl⟩
theorem d4_0 : decode jdk_29_method_69_code 0 = .ok (.iload_n 0, 1) := by decide +kernel
theorem d4_1 : decode jdk_29_method_69_code 1 = .ok (.iload_n 1, 1) := by decide +kernel
theorem d4_2 : decode jdk_29_method_69_code 2 = .ok (.if_icmp .gt 7, 3) := by decide +kernel
theorem d4_5 : decode jdk_29_method_69_code 5 = .ok (.iload_n 0, 1) := by decide +kernel
theorem d4_6 : decode jdk_29_method_69_code 6 = .ok (.goto 4, 3) := by decide +kernel
theorem d4_9 : decode jdk_29_method_69_code 9 = .ok (.iload_n 1, 1) := by decide +kernel
theorem d4_10 : decode jdk_29_method_69_code 10 = .ok (.ireturn, 1) := by decide +kernel
abbrev b_min : Bx := (⟨"java/lang/Math", "min", "(II)I"⟩, jdk_29_method_69_code, 2, some .int, { frames := 0, cells := 0, slots := 0, locals := 0 })
def mn2 (a b : Int32) : Int32 := if b < a then b else a
theorem c_min (V : Vw) (hw : ∀ d ∈ tables_1, d.before V.a0 V.Z = true) (a b : Int32) (h : Heap) (ps : List Addr) : Con V b_min #[.int a, .int b] h ps (Qi (mn2 a b) h) := Con.of (by decide +kernel) (L := [.val (.int a), .val (.int b)]) rfl fun K => by
  refine r_iloadN 1 rfl d4_0 rfl ?_
  refine r_iloadN 2 rfl d4_1 rfl ?_
  refine r_icmp_gt 9 5 d4_2 (by decide) rfl rfl (fun c6 => ?_) (fun c6 => ?_)
  · refine r_iloadN 10 rfl d4_9 rfl ?_
    refine r_iret rfl d4_10 (by decide) (by decide) [] (fun _ q => nomatch q) ?_
    exact ⟨by rw [show mn2 a b = b from if_pos c6], rfl⟩
  · refine r_iloadN 6 rfl d4_5 rfl ?_
    refine r_goto 10 d4_6 (by decide) rfl ?_
    refine r_iret rfl d4_10 (by decide) (by decide) [] (fun _ q => nomatch q) ?_
    exact ⟨by rw [show mn2 a b = a from if_neg c6], rfl⟩
def Qix (ch : Int32) (cs : List Int32) (h0 : Heap) : Qt := fun v h _ => ∃ r : Int32, v = some (.int r) ∧ h = h0 ∧ (¬ r < 0 ↔ ch ∈ cs)
theorem d5_0 : decode jdk_43_method_4_code 0 = .ok (.iload_n 0, 1) := by decide +kernel
theorem d5_1 : decode jdk_43_method_4_code 1 = .ok (.ifCond .lt 14, 3) := by decide +kernel
theorem d5_4 : decode jdk_43_method_4_code 4 = .ok (.iload_n 0, 1) := by decide +kernel
theorem d5_5 : decode jdk_43_method_4_code 5 = .ok (.sipush 255, 3) := by decide +kernel
theorem d5_8 : decode jdk_43_method_4_code 8 = .ok (.if_icmp .gt 7, 3) := by decide +kernel
theorem d5_11 : decode jdk_43_method_4_code 11 = .ok (.iconst 1, 1) := by decide +kernel
theorem d5_12 : decode jdk_43_method_4_code 12 = .ok (.goto 4, 3) := by decide +kernel
theorem d5_15 : decode jdk_43_method_4_code 15 = .ok (.iconst 0, 1) := by decide +kernel
theorem d5_16 : decode jdk_43_method_4_code 16 = .ok (.ireturn, 1) := by decide +kernel
abbrev b_canI : Bx := (⟨"java/lang/StringLatin1", "canEncode", "(I)Z"⟩, jdk_43_method_4_code, 1, some .boolean, { frames := 0, cells := 0, slots := 0, locals := 0 })
theorem c_canI (V : Vw) (hw : ∀ d ∈ tables_1, d.before V.a0 V.Z = true) (c : Int32) (hc : By c) (h : Heap) (ps : List Addr) : Con V b_canI #[.int c] h ps (Qi 1 h) := Con.of (plainFor_of_name pn_2) (L := [.val (.int c)]) rfl fun K => by
  refine r_iloadN 1 rfl d5_0 rfl ?_
  refine r_if_lt 15 4 d5_1 (by decide) rfl rfl (fun c7 => ?_) (fun c7 => ?_)
  · exact absurd c7 hc.1
  refine r_iloadN 5 rfl d5_4 rfl ?_
  refine r_sipush (255 : Int32) 8 rfl d5_5 rfl ?_
  refine r_icmp_gt 15 11 d5_8 (by decide) rfl rfl (fun c8 => ?_) (fun c8 => ?_)
  · exact absurd c8 hc.2
  refine r_iconst (1 : Int32) 12 rfl d5_11 rfl ?_
  refine r_goto 16 d5_12 (by decide) rfl ?_
  refine r_nret (t := .boolean) (1 : Int32) rfl (by simp) rfl d5_16 (by decide) (by decide) [] (fun _ q => nomatch q) ?_
  exact ⟨rfl, rfl⟩
theorem d6_0 : decode jdk_43_method_23_code 0 = .ok (.iload_n 1, 1) := by decide +kernel
theorem d6_1 : decode jdk_43_method_23_code 1 = .ok (.i2b, 1) := by decide +kernel
theorem d6_2 : decode jdk_43_method_23_code 2 = .ok (.istore 4, 2) := by decide +kernel
theorem d6_4 : decode jdk_43_method_23_code 4 = .ok (.iload_n 2, 1) := by decide +kernel
theorem d6_5 : decode jdk_43_method_23_code 5 = .ok (.istore 5, 2) := by decide +kernel
theorem d6_7 : decode jdk_43_method_23_code 7 = .ok (.iload 5, 2) := by decide +kernel
theorem d6_9 : decode jdk_43_method_23_code 9 = .ok (.iload_n 3, 1) := by decide +kernel
theorem d6_10 : decode jdk_43_method_23_code 10 = .ok (.if_icmp .ge 21, 3) := by decide +kernel
theorem d6_13 : decode jdk_43_method_23_code 13 = .ok (.aload_n 0, 1) := by decide +kernel
theorem d6_14 : decode jdk_43_method_23_code 14 = .ok (.iload 5, 2) := by decide +kernel
theorem d6_16 : decode jdk_43_method_23_code 16 = .ok (.baload, 1) := by decide +kernel
theorem d6_17 : decode jdk_43_method_23_code 17 = .ok (.iload 4, 2) := by decide +kernel
theorem d6_19 : decode jdk_43_method_23_code 19 = .ok (.if_icmp .ne 6, 3) := by decide +kernel
theorem d6_22 : decode jdk_43_method_23_code 22 = .ok (.iload 5, 2) := by decide +kernel
theorem d6_24 : decode jdk_43_method_23_code 24 = .ok (.ireturn, 1) := by decide +kernel
theorem d6_25 : decode jdk_43_method_23_code 25 = .ok (.iinc 5 1, 3) := by decide +kernel
theorem d6_28 : decode jdk_43_method_23_code 28 = .ok (.goto (-21), 3) := by decide +kernel
theorem d6_31 : decode jdk_43_method_23_code 31 = .ok (.iconst (-1), 1) := by decide +kernel
theorem d6_32 : decode jdk_43_method_23_code 32 = .ok (.ireturn, 1) := by decide +kernel
abbrev b_iofc : Bx := (⟨"java/lang/StringLatin1", "indexOfChar", "([BIII)I"⟩, jdk_43_method_23_code, 6, some .int, { frames := 0, cells := 0, slots := 0, locals := 0 })
theorem c_iofc (V : Vw) (hw : ∀ d ∈ tables_1, d.before V.a0 V.Z = true) (t : Nat) (kt : ClassId) (cs : List Int32) (hb : ∀ c ∈ cs, By c) (hl : cs.length ≤ 4000) (ch : Int32) (hc : By ch) (h : Heap) (ps : List Addr) (A : Arv V.Z h t kt .byte (Int32.ofNat cs.length) (cs.map fun c => Value.int (StrChars.lo8 c)) (.int 0)) : Con V b_iofc #[.ref t, .int ch, .int 0, .int (Int32.ofNat cs.length)] h ps (Qix ch cs h) := Con.of (plainFor_of_name pn_2) (L := [.val (.ref t), .val (.int ch), .val (.int (0 : Int32)), .val (.int (Int32.ofNat cs.length)), .unset, .unset]) rfl fun K => by
  have loop : ∀ k i, i + k = cs.length → (∀ j, j < i → cs.getD j 0 ≠ ch) → Own.Run V K b_iofc (Qix ch cs h) h ps 0 0 7 [.val (.ref t), .val (.int ch), .val (.int 0), .val (.int (Int32.ofNat cs.length)), .val (.int ch.toInt8.toInt32), .val (.int (Int32.ofNat i))] [] := by
    intro k
    induction k with
    | zero =>
      intro i hi hj
      refine r_iload 9 rfl d6_7 rfl ?_
      refine r_iloadN 10 rfl d6_9 rfl ?_
      refine r_icmp_ge 31 13 d6_10 (by decide) rfl rfl (fun c9 => ?_) (fun c9 => ?_)
      rotate_left
      · exact absurd ((ofN_lt (by omega) (by omega)).mp c9) (by omega)
      refine r_iconst (-1 : Int32) 32 rfl d6_31 rfl ?_
      refine r_iret rfl d6_32 (by decide) (by decide) [] (fun _ q => nomatch q) ?_
      exact ⟨_, rfl, rfl, ⟨fun q => absurd (by decide) q, fun q => by
        obtain ⟨j, hj1, hj2⟩ := List.getElem_of_mem q
        exact absurd (by simp [List.getD_eq_getElem?_getD, hj1, hj2]) (hj j (by omega))⟩⟩
    | succ k ih =>
      intro i hi hj
      have hlt : i < cs.length := by omega
      have hm : cs.getD i 0 ∈ cs := by simp [List.getD_eq_getElem?_getD, hlt]
      refine r_iload 9 rfl d6_7 rfl ?_
      refine r_iloadN 10 rfl d6_9 rfl ?_
      refine r_icmp_ge 31 13 d6_10 (by decide) rfl rfl (fun c10 => ?_) (fun c10 => ?_)
      · exact absurd ((ofN_lt (by omega) (by omega)).mpr hlt) c10
      refine r_aloadN 14 rfl d6_13 rfl rfl ?_
      refine r_iload 16 rfl d6_14 rfl ?_
      refine r_baload (v := .int ((cs.getD i 0).toInt8.toInt32)) 17 rfl d6_16 A ⟨ofN_nn (by omega), (ofN_lt (by omega) (by omega)).mpr hlt⟩ (by rw [ofN_nat (by omega)]; exact vsGet cs i hlt) ?_
      refine r_iload 19 rfl d6_17 rfl ?_
      refine r_icmp_ne 25 22 d6_19 (by decide) rfl rfl (fun c11 => ?_) (fun c11 => ?_)
      · refine r_iinc (1) [.val (.ref t), .val (.int ch), .val (.int (0 : Int32)), .val (.int (Int32.ofNat cs.length)), .val (.int ch.toInt8.toInt32), .val (.int ((Int32.ofNat i) + (1 : Int32)))] 28 rfl d6_25 rfl rfl rfl ?_
        refine r_goto 7 d6_28 (by decide) rfl ?_
        rw [ofN_s]
        exact ih (i + 1) (by omega) (fun j hj' => by rcases Nat.lt_succ_iff_lt_or_eq.mp hj' with q | rfl; exact hj j q; exact fun e => c11 (by rw [e]))
      · refine r_iload 24 rfl d6_22 rfl ?_
        refine r_iret rfl d6_24 (by decide) (by decide) [] (fun _ q => nomatch q) ?_
        exact ⟨_, rfl, rfl, ⟨fun _ => by rw [← lo8_by (hb _ hm) hc c11]; exact hm, fun _ => ofN_nn (by omega)⟩⟩
  refine r_iloadN 1 rfl d6_0 rfl ?_
  refine r_i2b 2 rfl d6_1 ?_
  refine r_istore [.val (.ref t), .val (.int ch), .val (.int (0 : Int32)), .val (.int (Int32.ofNat cs.length)), .val (.int ch.toInt8.toInt32), .unset] 4 rfl d6_2 rfl ?_
  refine r_iloadN 5 rfl d6_4 rfl ?_
  refine r_istore [.val (.ref t), .val (.int ch), .val (.int (0 : Int32)), .val (.int (Int32.ofNat cs.length)), .val (.int ch.toInt8.toInt32), .val (.int (0 : Int32))] 7 rfl d6_5 rfl ?_
  exact loop cs.length 0 (by omega) (fun j hj => absurd hj (Nat.not_lt_zero j))
theorem d7_0 : decode jdk_43_method_22_code 0 = .ok (.iload_n 1, 1) := by decide +kernel
theorem d7_1 : decode jdk_43_method_22_code 1 = .ok (.invokestatic 88, 3) := by decide +kernel
theorem d7_4 : decode jdk_43_method_22_code 4 = .ok (.ifCond .ne 5, 3) := by decide +kernel
theorem d7_7 : decode jdk_43_method_22_code 7 = .ok (.iconst (-1), 1) := by decide +kernel
theorem d7_8 : decode jdk_43_method_22_code 8 = .ok (.ireturn, 1) := by decide +kernel
theorem d7_9 : decode jdk_43_method_22_code 9 = .ok (.iload_n 2, 1) := by decide +kernel
theorem d7_10 : decode jdk_43_method_22_code 10 = .ok (.iconst 0, 1) := by decide +kernel
theorem d7_11 : decode jdk_43_method_22_code 11 = .ok (.invokestatic 92, 3) := by decide +kernel
theorem d7_14 : decode jdk_43_method_22_code 14 = .ok (.istore_n 2, 1) := by decide +kernel
theorem d7_15 : decode jdk_43_method_22_code 15 = .ok (.iload_n 3, 1) := by decide +kernel
theorem d7_16 : decode jdk_43_method_22_code 16 = .ok (.aload_n 0, 1) := by decide +kernel
theorem d7_17 : decode jdk_43_method_22_code 17 = .ok (.arraylength, 1) := by decide +kernel
theorem d7_18 : decode jdk_43_method_22_code 18 = .ok (.invokestatic 38, 3) := by decide +kernel
theorem d7_21 : decode jdk_43_method_22_code 21 = .ok (.istore_n 3, 1) := by decide +kernel
theorem d7_22 : decode jdk_43_method_22_code 22 = .ok (.iload_n 2, 1) := by decide +kernel
theorem d7_23 : decode jdk_43_method_22_code 23 = .ok (.iload_n 3, 1) := by decide +kernel
theorem d7_24 : decode jdk_43_method_22_code 24 = .ok (.if_icmp .lt 5, 3) := by decide +kernel
theorem d7_27 : decode jdk_43_method_22_code 27 = .ok (.iconst (-1), 1) := by decide +kernel
theorem d7_28 : decode jdk_43_method_22_code 28 = .ok (.ireturn, 1) := by decide +kernel
theorem d7_29 : decode jdk_43_method_22_code 29 = .ok (.aload_n 0, 1) := by decide +kernel
theorem d7_30 : decode jdk_43_method_22_code 30 = .ok (.iload_n 1, 1) := by decide +kernel
theorem d7_31 : decode jdk_43_method_22_code 31 = .ok (.iload_n 2, 1) := by decide +kernel
theorem d7_32 : decode jdk_43_method_22_code 32 = .ok (.iload_n 3, 1) := by decide +kernel
theorem d7_33 : decode jdk_43_method_22_code 33 = .ok (.invokestatic 95, 3) := by decide +kernel
theorem d7_36 : decode jdk_43_method_22_code 36 = .ok (.ireturn, 1) := by decide +kernel
abbrev b_liof : Bx := (⟨"java/lang/StringLatin1", "indexOf", "([BIII)I"⟩, jdk_43_method_22_code, 4, some .int, { frames := 1, cells := 0, slots := 0, locals := 20 })
theorem c_liof (V : Vw) (hw : ∀ d ∈ tables_1, d.before V.a0 V.Z = true) (t : Nat) (kt : ClassId) (cs : List Int32) (hb : ∀ c ∈ cs, By c) (hl : cs.length ≤ 4000) (ch : Int32) (hc : By ch) (h : Heap) (ps : List Addr) (A : Arv V.Z h t kt .byte (Int32.ofNat cs.length) (cs.map fun c => Value.int (StrChars.lo8 c)) (.int 0)) : Con V b_liof #[.ref t, .int ch, .int 0, .int (Int32.ofNat cs.length)] h ps (Qix ch cs h) := Con.of (plainFor_of_name pn_2) (L := [.val (.ref t), .val (.int ch), .val (.int (0 : Int32)), .val (.int (Int32.ofNat cs.length))]) rfl fun K => by
  refine r_iloadN 1 rfl d7_0 rfl ?_
  refine r_static 4 rfl d7_1 (wd hw 101 rfl) (wd hw 102 rfl) (wd hw 99 rfl) (wd hw 103 rfl) (by decide) (Pays.con (K := K) (B := b_liof) (c_canI V hw ch hc h _) (wd hw 103 rfl) (wd hw 99 rfl) (by decide) (by decide)) (W := 0) (argsL := [.int ch]) (lenOf pd_3 rfl) rfl rfl rfl (Nat.le_of_eq rfl) (Nat.le_of_ble_eq_true rfl) (Nat.le_of_ble_eq_true rfl) fun v15 h16 ps12 q14 z13 => ?_
  obtain ⟨rfl, es17⟩ := q14
  subst h16
  show Own.Run V K b_liof _ h _ 0 0 4 [.val (.ref t), .val (.int ch), .val (.int (0 : Int32)), .val (.int (Int32.ofNat cs.length))] [.int (1 : Int32)]
  refine r_if_ne 9 7 d7_4 (by decide) rfl rfl (fun c18 => ?_) (fun c18 => ?_)
  rotate_left
  · exact absurd c18 (by decide)
  refine r_iloadN 10 rfl d7_9 rfl ?_
  refine r_iconst (0 : Int32) 11 rfl d7_10 rfl ?_
  refine r_static 14 rfl d7_11 (wd hw 104 rfl) (wd hw 105 rfl) (wd hw 3 rfl) (wd hw 106 rfl) (by decide) (Pays.con (K := K) (B := b_liof) (c_max V hw 0 0 h _) (wd hw 106 rfl) (wd hw 3 rfl) (by decide) (by decide)) (W := 0) (argsL := [.int (0 : Int32), .int (0 : Int32)]) (lenOf pd_2 rfl) rfl rfl rfl (Nat.le_of_eq rfl) (Nat.le_of_ble_eq_true rfl) (Nat.le_of_ble_eq_true rfl) fun v22 h23 ps19 q21 z20 => ?_
  obtain ⟨rfl, es24⟩ := q21
  subst h23
  show Own.Run V K b_liof _ h _ 0 0 14 [.val (.ref t), .val (.int ch), .val (.int (0 : Int32)), .val (.int (Int32.ofNat cs.length))] [.int (0 : Int32)]
  refine r_istoreN [.val (.ref t), .val (.int ch), .val (.int (0 : Int32)), .val (.int (Int32.ofNat cs.length))] 15 rfl d7_14 rfl ?_
  refine r_iloadN 16 rfl d7_15 rfl ?_
  refine r_aloadN 17 rfl d7_16 rfl rfl ?_
  refine r_arraylength 18 rfl d7_17 A ?_
  refine r_static 21 rfl d7_18 (wd hw 107 rfl) (wd hw 108 rfl) (wd hw 3 rfl) (wd hw 109 rfl) (by decide) (Pays.con (K := K) (B := b_liof) (c_min V hw (Int32.ofNat cs.length) (Int32.ofNat cs.length) h _) (wd hw 109 rfl) (wd hw 3 rfl) (by decide) (by decide)) (W := 0) (argsL := [.int (Int32.ofNat cs.length), .int (Int32.ofNat cs.length)]) (lenOf pd_2 rfl) rfl rfl rfl (Nat.le_of_eq rfl) (Nat.le_of_ble_eq_true rfl) (Nat.le_of_ble_eq_true rfl) fun v28 h29 ps25 q27 z26 => ?_
  obtain ⟨rfl, es30⟩ := q27
  subst h29
  show Own.Run V K b_liof _ h _ 0 0 21 [.val (.ref t), .val (.int ch), .val (.int (0 : Int32)), .val (.int (Int32.ofNat cs.length))] [.int (mn2 (Int32.ofNat cs.length) (Int32.ofNat cs.length))]
  rw [show mn2 (Int32.ofNat cs.length) (Int32.ofNat cs.length) = Int32.ofNat cs.length from ite_self _]
  refine r_istoreN [.val (.ref t), .val (.int ch), .val (.int (0 : Int32)), .val (.int (Int32.ofNat cs.length))] 22 rfl d7_21 rfl ?_
  refine r_iloadN 23 rfl d7_22 rfl ?_
  refine r_iloadN 24 rfl d7_23 rfl ?_
  refine r_icmp_lt 29 27 d7_24 (by decide) rfl rfl (fun c31 => ?_) (fun c31 => ?_)
  · refine r_aloadN 30 rfl d7_29 rfl rfl ?_
    refine r_iloadN 31 rfl d7_30 rfl ?_
    refine r_iloadN 32 rfl d7_31 rfl ?_
    refine r_iloadN 33 rfl d7_32 rfl ?_
    refine r_static 36 rfl d7_33 (wd hw 110 rfl) (wd hw 111 rfl) (wd hw 99 rfl) (wd hw 112 rfl) (by decide) (Pays.con (K := K) (B := b_liof) (c_iofc V hw t kt cs hb hl ch hc h _ A) (wd hw 112 rfl) (wd hw 99 rfl) (by decide) (by decide)) (W := 0) (argsL := [.ref t, .int ch, .int (0 : Int32), .int (Int32.ofNat cs.length)]) (lenOf pd_4 rfl) rfl rfl rfl (Nat.le_of_eq rfl) (Nat.le_of_ble_eq_true rfl) (Nat.le_of_ble_eq_true rfl) fun v35 h36 ps32 q34 z33 => ?_
    obtain ⟨r, rfl, es37, hr⟩ := q34
    subst h36
    show Own.Run V K b_liof _ h _ 0 0 36 [.val (.ref t), .val (.int ch), .val (.int (0 : Int32)), .val (.int (Int32.ofNat cs.length))] [.int r]
    refine r_iret rfl d7_36 (by decide) (by decide) [] (fun _ q => nomatch q) ?_
    exact ⟨_, rfl, rfl, hr⟩
  · refine r_iconst (-1 : Int32) 28 rfl d7_27 rfl ?_
    refine r_iret rfl d7_28 (by decide) (by decide) [] (fun _ q => nomatch q) ?_
    exact ⟨_, rfl, rfl, ⟨fun q => absurd (by decide) q, fun q => absurd ((ofN_lt (n := 0) (by omega) (by omega)).mpr (List.length_pos_of_mem q)) c31⟩⟩
theorem d8_0 : decode jdk_42_method_80_code 0 = .ok (.aload_n 0, 1) := by decide +kernel
theorem d8_1 : decode jdk_42_method_80_code 1 = .ok (.invokevirtual 492, 3) := by decide +kernel
theorem d8_4 : decode jdk_42_method_80_code 4 = .ok (.ifCond .eq 19, 3) := by decide +kernel
theorem d8_7 : decode jdk_42_method_80_code 7 = .ok (.aload_n 0, 1) := by decide +kernel
theorem d8_8 : decode jdk_42_method_80_code 8 = .ok (.getfield 9, 3) := by decide +kernel
theorem d8_11 : decode jdk_42_method_80_code 11 = .ok (.iload_n 1, 1) := by decide +kernel
theorem d8_12 : decode jdk_42_method_80_code 12 = .ok (.iload_n 2, 1) := by decide +kernel
theorem d8_13 : decode jdk_42_method_80_code 13 = .ok (.aload_n 0, 1) := by decide +kernel
theorem d8_14 : decode jdk_42_method_80_code 14 = .ok (.invokevirtual 505, 3) := by decide +kernel
theorem d8_17 : decode jdk_42_method_80_code 17 = .ok (.invokestatic 637, 3) := by decide +kernel
theorem d8_20 : decode jdk_42_method_80_code 20 = .ok (.goto 16, 3) := by decide +kernel
theorem d8_23 : decode jdk_42_method_80_code 23 = .ok (.aload_n 0, 1) := by decide +kernel
theorem d8_24 : decode jdk_42_method_80_code 24 = .ok (.getfield 9, 3) := by decide +kernel
theorem d8_27 : decode jdk_42_method_80_code 27 = .ok (.iload_n 1, 1) := by decide +kernel
theorem d8_28 : decode jdk_42_method_80_code 28 = .ok (.iload_n 2, 1) := by decide +kernel
theorem d8_29 : decode jdk_42_method_80_code 29 = .ok (.aload_n 0, 1) := by decide +kernel
theorem d8_30 : decode jdk_42_method_80_code 30 = .ok (.invokevirtual 505, 3) := by decide +kernel
theorem d8_33 : decode jdk_42_method_80_code 33 = .ok (.invokestatic 640, 3) := by decide +kernel
theorem d8_36 : decode jdk_42_method_80_code 36 = .ok (.ireturn, 1) := by decide +kernel
abbrev b_iof2 : Bx := (⟨"java/lang/String", "indexOf", "(II)I"⟩, jdk_42_method_80_code, 3, some .int, { frames := 2, cells := 0, slots := 0, locals := 45 })
theorem c_iof2 (V : Vw) (hw : ∀ d ∈ tables_1, d.before V.a0 V.Z = true) (cz : Int32) (hCS : Sta V.Z V.Z.heap "java/lang/String" "COMPACT_STRINGS" "Z" (.int cz)) (hcz : ¬ cz = 0) (x : Nat) (m : Nat) (cs : List Int32) (hb : ∀ c ∈ cs, By c) (ch : Int32) (hc : By ch) (h : Heap) (ps : List Addr) (S : Str V h m x cs) : Con V b_iof2 #[.ref x, .int ch, .int 0] h ps (Qix ch cs h) := Con.of (plainFor_of_name pn_1) (L := [.val (.ref x), .val (.int ch), .val (.int (0 : Int32))]) rfl fun K => by
  refine Run.old fun OX => ?_
  obtain ⟨t, kb, cd, N2, vs, a1, a2, a3, a4, a5, a6, a7, a8, a9, a10⟩ := id S
  obtain ⟨rfl, rfl, rfl, -⟩ : cd = 0 ∧ N2 = Int32.ofNat cs.length ∧ vs = (cs.map fun c => Value.int (StrChars.lo8 c)) ∧ True := by
    rcases a8 with q | ⟨-, -, -, c, hc, hq⟩
    · exact ⟨q.1, q.2.1, q.2.2.1, trivial⟩
    · exact absurd hq (hb c hc).2
  refine r_aloadN 1 rfl d8_0 rfl rfl ?_
  refine r_virtual 4 rfl d8_1 (wd hw 82 rfl) (wd hw 83 rfl) (wd hw 85 rfl) (wd hw 84 rfl) (nfS (wd hw 85 rfl)) (by decide) a4 (Pays.con (K := K) (B := b_iof2) (c_isL V hw cz hCS hcz x h _ a6) (wd hw 86 rfl) (wd hw 17 rfl) (by decide) (by decide)) (W := 0) (argsL := []) (lenOf pd_1 rfl) rfl rfl rfl (Nat.le_of_eq rfl) (Nat.le_of_ble_eq_true rfl) (Nat.le_of_ble_eq_true rfl) fun v41 h42 ps38 q40 z39 => ?_
  obtain ⟨rfl, es43⟩ := q40
  subst h42
  show Own.Run V K b_iof2 _ h _ 0 0 4 [.val (.ref x), .val (.int ch), .val (.int (0 : Int32))] [.int (1 : Int32)]
  refine r_if_eq 23 7 d8_4 (by decide) rfl rfl (fun c44 => ?_) (fun c44 => ?_)
  · exact absurd c44 (by decide)
  refine r_aloadN 8 rfl d8_7 rfl rfl ?_
  refine r_getfield 11 rfl d8_8 (wd hw 43 rfl) a5 ?_
  refine r_iloadN 12 rfl d8_11 rfl ?_
  refine r_iloadN 13 rfl d8_12 rfl ?_
  refine r_aloadN 14 rfl d8_13 rfl rfl ?_
  refine r_virtual 17 rfl d8_14 (wd hw 87 rfl) (wd hw 88 rfl) (wd hw 90 rfl) (wd hw 89 rfl) (nfS (wd hw 90 rfl)) (by decide) a4 (pay_len V hw K b_iof2 3 x m cs h _ S OX cz hCS hcz (by decide) (by decide)) (W := 3) (argsL := []) (lenOf pd_5 rfl) rfl rfl rfl (Nat.le_of_eq rfl) (Nat.le_of_ble_eq_true rfl) (Nat.le_of_ble_eq_true rfl) fun v48 h49 ps45 q47 z46 => ?_
  obtain ⟨rfl, es50⟩ := q47
  subst h49
  show Own.Run V K b_iof2 _ h _ 0 0 17 [.val (.ref x), .val (.int ch), .val (.int (0 : Int32))] [.int (Int32.ofNat cs.length), .int (0 : Int32), .int ch, .ref t]
  refine r_static 20 rfl d8_17 (wd hw 97 rfl) (wd hw 98 rfl) (wd hw 99 rfl) (wd hw 100 rfl) (by decide) (Pays.con (K := K) (B := b_iof2) (c_liof V hw t _ cs hb a10 ch hc h _ a7) (wd hw 100 rfl) (wd hw 99 rfl) (by decide) (by decide)) (W := 0) (argsL := [.ref t, .int ch, .int (0 : Int32), .int (Int32.ofNat cs.length)]) (lenOf pd_4 rfl) rfl rfl rfl (Nat.le_of_eq rfl) (Nat.le_of_ble_eq_true rfl) (Nat.le_of_ble_eq_true rfl) fun v54 h55 ps51 q53 z52 => ?_
  obtain ⟨r, rfl, es56, hr⟩ := q53
  subst h55
  show Own.Run V K b_iof2 _ h _ 0 0 20 [.val (.ref x), .val (.int ch), .val (.int (0 : Int32))] [.int r]
  refine r_goto 36 d8_20 (by decide) rfl ?_
  refine r_iret rfl d8_36 (by decide) (by decide) [] (fun _ q => nomatch q) ?_
  exact ⟨_, rfl, rfl, hr⟩
theorem d9_0 : decode jdk_42_method_79_code 0 = .ok (.aload_n 0, 1) := by decide +kernel
theorem d9_1 : decode jdk_42_method_79_code 1 = .ok (.iload_n 1, 1) := by decide +kernel
theorem d9_2 : decode jdk_42_method_79_code 2 = .ok (.iconst 0, 1) := by decide +kernel
theorem d9_3 : decode jdk_42_method_79_code 3 = .ok (.invokevirtual 633, 3) := by decide +kernel
theorem d9_6 : decode jdk_42_method_79_code 6 = .ok (.ireturn, 1) := by decide +kernel
abbrev b_iof : Bx := (⟨"java/lang/String", "indexOf", "(I)I"⟩, jdk_42_method_79_code, 2, some .int, { frames := 3, cells := 0, slots := 0, locals := 60 })
theorem c_iof (V : Vw) (hw : ∀ d ∈ tables_1, d.before V.a0 V.Z = true) (cz : Int32) (hCS : Sta V.Z V.Z.heap "java/lang/String" "COMPACT_STRINGS" "Z" (.int cz)) (hcz : ¬ cz = 0) (x : Nat) (m : Nat) (cs : List Int32) (hb : ∀ c ∈ cs, By c) (ch : Int32) (hc : By ch) (h : Heap) (ps : List Addr) (S : Str V h m x cs) : Con V b_iof #[.ref x, .int ch] h ps (Qix ch cs h) := Con.of (plainFor_of_name pn_1) (L := [.val (.ref x), .val (.int ch)]) rfl fun K => by
  refine r_aloadN 1 rfl d9_0 rfl rfl ?_
  refine r_iloadN 2 rfl d9_1 rfl ?_
  refine r_iconst (0 : Int32) 3 rfl d9_2 rfl ?_
  refine r_virtual 6 rfl d9_3 (wd hw 77 rfl) (wd hw 78 rfl) (wd hw 80 rfl) (wd hw 79 rfl) (nfS (wd hw 80 rfl)) (by decide) S.exa (Pays.con (K := K) (B := b_iof) (c_iof2 V hw cz hCS hcz x m cs hb ch hc h _ S) (wd hw 81 rfl) (wd hw 17 rfl) (by decide) (by decide)) (W := 0) (argsL := [.int ch, .int (0 : Int32)]) (lenOf pd_2 rfl) rfl rfl rfl (Nat.le_of_eq rfl) (Nat.le_of_ble_eq_true rfl) (Nat.le_of_ble_eq_true rfl) fun v60 h61 ps57 q59 z58 => ?_
  obtain ⟨r, rfl, es62, hr⟩ := q59
  subst h61
  show Own.Run V K b_iof _ h _ 0 0 6 [.val (.ref x), .val (.int ch)] [.int r]
  refine r_iret rfl d9_6 (by decide) (by decide) [] (fun _ q => nomatch q) ?_
  exact ⟨_, rfl, rfl, hr⟩
def Gd (cs : List Int32) : Prop := 0 < cs.length ∧ (∀ c ∈ cs, By c) ∧ ¬ (9 : Int32) ∈ cs ∧ ¬ (13 : Int32) ∈ cs ∧ ¬ (10 : Int32) ∈ cs
def StOk (z : Int32) : Prop := z = 0 ∨ (¬ z < 100 ∧ ¬ 999 < z)
theorem by9 : By 9 := ⟨by decide, by decide⟩
theorem by13 : By 13 := ⟨by decide, by decide⟩
theorem by10 : By 10 := ⟨by decide, by decide⟩
theorem d10_0 : decode prog_4_method_14_code 0 = .ok (.lload_n 0, 1) := by decide +kernel
theorem d10_1 : decode prog_4_method_14_code 1 = .ok (.lconst 0, 1) := by decide +kernel
theorem d10_2 : decode prog_4_method_14_code 2 = .ok (.lcmp, 1) := by decide +kernel
theorem d10_3 : decode prog_4_method_14_code 3 = .ok (.ifCond .eq 33, 3) := by decide +kernel
theorem d10_6 : decode prog_4_method_14_code 6 = .ok (.lload_n 0, 1) := by decide +kernel
theorem d10_7 : decode prog_4_method_14_code 7 = .ok (.ldc2_w 115, 3) := by decide +kernel
theorem d10_10 : decode prog_4_method_14_code 10 = .ok (.lcmp, 1) := by decide +kernel
theorem d10_11 : decode prog_4_method_14_code 11 = .ok (.ifCond .lt 11, 3) := by decide +kernel
theorem d10_14 : decode prog_4_method_14_code 14 = .ok (.lload_n 0, 1) := by decide +kernel
theorem d10_15 : decode prog_4_method_14_code 15 = .ok (.ldc2_w 117, 3) := by decide +kernel
theorem d10_18 : decode prog_4_method_14_code 18 = .ok (.lcmp, 1) := by decide +kernel
theorem d10_19 : decode prog_4_method_14_code 19 = .ok (.ifCond .le 17, 3) := by decide +kernel
theorem d10_22 : decode prog_4_method_14_code 22 = .ok (.new 7, 3) := by decide +kernel
theorem d10_25 : decode prog_4_method_14_code 25 = .ok (.dup, 1) := by decide +kernel
theorem d10_26 : decode prog_4_method_14_code 26 = .ok (.lload_n 0, 1) := by decide +kernel
theorem d10_27 : decode prog_4_method_14_code 27 = .ok (.invokedynamic 119, 5) := by decide +kernel
theorem d10_32 : decode prog_4_method_14_code 32 = .ok (.invokespecial 13, 3) := by decide +kernel
theorem d10_35 : decode prog_4_method_14_code 35 = .ok (.athrow, 1) := by decide +kernel
theorem d10_36 : decode prog_4_method_14_code 36 = .ok (.lload_n 0, 1) := by decide +kernel
theorem d10_37 : decode prog_4_method_14_code 37 = .ok (.l2i, 1) := by decide +kernel
theorem d10_38 : decode prog_4_method_14_code 38 = .ok (.ireturn, 1) := by decide +kernel
abbrev b_rst : Bx := (⟨"com/example/frontier/frontier/crawllog/CrawlLogEntry", "requireStatus", "(J)I"⟩, prog_4_method_14_code, 2, some .int, { frames := 0, cells := 0, slots := 0, locals := 0 })
theorem c_rst (V : Vw) (hw : ∀ d ∈ tables_1, d.before V.a0 V.Z = true) (z : Int32) (hz : StOk z) (h : Heap) (ps : List Addr) : Con V b_rst #[.long z.toInt64] h ps (fun v h' _ => (∃ r : Int32, v = some (.int r)) ∧ h' = h) := Con.of (plainFor_of_name pn_3) (L := [.val (.long z.toInt64), .second]) rfl fun K => by
  have hz1 : z.toInt64 = 0 ∨ (¬ z.toInt64 < 100 ∧ ¬ 999 < z.toInt64) := by
    rcases hz with rfl | ⟨a, b⟩
    · exact Or.inl rfl
    · rw [Int32.lt_iff_toInt_lt] at a b; rw [Int64.lt_iff_toInt_lt, Int64.lt_iff_toInt_lt, c_i2l]
      have e1 : (100 : Int32).toInt = 100 := rfl; have e2 : (999 : Int32).toInt = 999 := rfl; have e3 : (100 : Int64).toInt = 100 := rfl; have e4 : (999 : Int64).toInt = 999 := rfl
      exact Or.inr ⟨by omega, by omega⟩
  refine r_lloadN 1 rfl d10_0 rfl ?_
  refine r_lconst (0 : Int64) 2 rfl d10_1 rfl ?_
  refine r_lcmp_eq 3 36 6 d10_2 rfl d10_3 (by decide) rfl rfl (fun c63 => ?_) (fun c63 => ?_)
  · refine r_lloadN 37 rfl d10_36 rfl ?_
    refine r_l2i 38 rfl d10_37 ?_
    refine r_iret rfl d10_38 (by decide) (by decide) [] (fun _ q => nomatch q) ?_
    exact ⟨⟨_, rfl⟩, rfl⟩
  refine r_lloadN 7 rfl d10_6 rfl ?_
  refine r_ldc2J 10 rfl d10_7 (wd hw 55 rfl) ?_
  refine r_lcmp_lt 11 22 14 d10_10 rfl d10_11 (by decide) rfl rfl (fun c64 => ?_) (fun c64 => ?_)
  · exact absurd c64 (hz1.elim (fun q => absurd q c63) (fun q => q.1))
  refine r_lloadN 15 rfl d10_14 rfl ?_
  refine r_ldc2J 18 rfl d10_15 (wd hw 56 rfl) ?_
  refine r_lcmp_le 19 36 22 d10_18 rfl d10_19 (by decide) rfl rfl (fun c65 => ?_) (fun c65 => ?_)
  · refine r_lloadN 37 rfl d10_36 rfl ?_
    refine r_l2i 38 rfl d10_37 ?_
    refine r_iret rfl d10_38 (by decide) (by decide) [] (fun _ q => nomatch q) ?_
    exact ⟨⟨_, rfl⟩, rfl⟩
  · exact absurd c65 (hz1.elim (fun q => absurd q c63) (fun q => q.2))
theorem d11_0 : decode jdk_31_method_11_code 0 = .ok (.aload_n 0, 1) := by decide +kernel
theorem d11_1 : decode jdk_31_method_11_code 1 = .ok (.ifnonnull 12, 3) := by decide +kernel
theorem d11_4 : decode jdk_31_method_11_code 4 = .ok (.new 84, 3) := by decide +kernel
theorem d11_7 : decode jdk_31_method_11_code 7 = .ok (.dup, 1) := by decide +kernel
theorem d11_8 : decode jdk_31_method_11_code 8 = .ok (.aload_n 1, 1) := by decide +kernel
theorem d11_9 : decode jdk_31_method_11_code 9 = .ok (.invokespecial 87, 3) := by decide +kernel
theorem d11_12 : decode jdk_31_method_11_code 12 = .ok (.athrow, 1) := by decide +kernel
theorem d11_13 : decode jdk_31_method_11_code 13 = .ok (.aload_n 0, 1) := by decide +kernel
theorem d11_14 : decode jdk_31_method_11_code 14 = .ok (.areturn, 1) := by decide +kernel
abbrev b_rnn : Bx := (⟨"java/util/Objects", "requireNonNull", "(Ljava/lang/Object;Ljava/lang/String;)Ljava/lang/Object;"⟩, jdk_31_method_11_code, 2, some (.object "java/lang/Object"), { frames := 0, cells := 0, slots := 0, locals := 0 })
theorem c_rnn (V : Vw) (hw : ∀ d ∈ tables_1, d.before V.a0 V.Z = true) (x y : Nat) (h : Heap) (ps : List Addr) : Con V b_rnn #[.ref x, .ref y] h ps (fun v h' _ => v = some (.ref x) ∧ h' = h) := Con.of (plainFor_of_name pn_4) (L := [.val (.ref x), .val (.ref y)]) rfl fun K => by
  refine r_aloadN 1 rfl d11_0 rfl rfl ?_
  refine r_ifnonnull_t 13 d11_1 (by decide) rfl ?_
  refine r_aloadN 14 rfl d11_13 rfl rfl ?_
  refine r_aret (t := (.object "java/lang/Object")) rfl rfl rfl d11_14 (by decide) (by decide) [] (fun _ q => nomatch q) ?_
  exact ⟨rfl, rfl⟩
theorem d12_0 : decode prog_4_method_15_code 0 = .ok (.aload_n 1, 1) := by decide +kernel
theorem d12_1 : decode prog_4_method_15_code 1 = .ok (.aload_n 0, 1) := by decide +kernel
theorem d12_2 : decode prog_4_method_15_code 2 = .ok (.invokestatic 120, 3) := by decide +kernel
theorem d12_5 : decode prog_4_method_15_code 5 = .ok (.pop, 1) := by decide +kernel
theorem d12_6 : decode prog_4_method_15_code 6 = .ok (.aload_n 1, 1) := by decide +kernel
theorem d12_7 : decode prog_4_method_15_code 7 = .ok (.invokevirtual 124, 3) := by decide +kernel
theorem d12_10 : decode prog_4_method_15_code 10 = .ok (.ifCond .eq 17, 3) := by decide +kernel
theorem d12_13 : decode prog_4_method_15_code 13 = .ok (.new 7, 3) := by decide +kernel
theorem d12_16 : decode prog_4_method_15_code 16 = .ok (.dup, 1) := by decide +kernel
theorem d12_17 : decode prog_4_method_15_code 17 = .ok (.aload_n 0, 1) := by decide +kernel
theorem d12_18 : decode prog_4_method_15_code 18 = .ok (.invokedynamic 128, 5) := by decide +kernel
theorem d12_23 : decode prog_4_method_15_code 23 = .ok (.invokespecial 13, 3) := by decide +kernel
theorem d12_26 : decode prog_4_method_15_code 26 = .ok (.athrow, 1) := by decide +kernel
theorem d12_27 : decode prog_4_method_15_code 27 = .ok (.aload_n 1, 1) := by decide +kernel
theorem d12_28 : decode prog_4_method_15_code 28 = .ok (.bipush 9, 2) := by decide +kernel
theorem d12_30 : decode prog_4_method_15_code 30 = .ok (.invokevirtual 131, 3) := by decide +kernel
theorem d12_33 : decode prog_4_method_15_code 33 = .ok (.ifCond .ge 21, 3) := by decide +kernel
theorem d12_36 : decode prog_4_method_15_code 36 = .ok (.aload_n 1, 1) := by decide +kernel
theorem d12_37 : decode prog_4_method_15_code 37 = .ok (.bipush 13, 2) := by decide +kernel
theorem d12_39 : decode prog_4_method_15_code 39 = .ok (.invokevirtual 131, 3) := by decide +kernel
theorem d12_42 : decode prog_4_method_15_code 42 = .ok (.ifCond .ge 12, 3) := by decide +kernel
theorem d12_45 : decode prog_4_method_15_code 45 = .ok (.aload_n 1, 1) := by decide +kernel
theorem d12_46 : decode prog_4_method_15_code 46 = .ok (.bipush 10, 2) := by decide +kernel
theorem d12_48 : decode prog_4_method_15_code 48 = .ok (.invokevirtual 131, 3) := by decide +kernel
theorem d12_51 : decode prog_4_method_15_code 51 = .ok (.ifCond .lt 18, 3) := by decide +kernel
theorem d12_54 : decode prog_4_method_15_code 54 = .ok (.new 7, 3) := by decide +kernel
theorem d12_57 : decode prog_4_method_15_code 57 = .ok (.dup, 1) := by decide +kernel
theorem d12_58 : decode prog_4_method_15_code 58 = .ok (.aload_n 0, 1) := by decide +kernel
theorem d12_59 : decode prog_4_method_15_code 59 = .ok (.aload_n 1, 1) := by decide +kernel
theorem d12_60 : decode prog_4_method_15_code 60 = .ok (.invokedynamic 135, 5) := by decide +kernel
theorem d12_65 : decode prog_4_method_15_code 65 = .ok (.invokespecial 13, 3) := by decide +kernel
theorem d12_68 : decode prog_4_method_15_code 68 = .ok (.athrow, 1) := by decide +kernel
theorem d12_69 : decode prog_4_method_15_code 69 = .ok (.return_, 1) := by decide +kernel
abbrev b_rf : Bx := (⟨"com/example/frontier/frontier/crawllog/CrawlLogEntry", "requireField", "(Ljava/lang/String;Ljava/lang/String;)V"⟩, prog_4_method_15_code, 2, none, { frames := 4, cells := 0, slots := 0, locals := 76 })
theorem c_rf (V : Vw) (hw : ∀ d ∈ tables_1, d.before V.a0 V.Z = true) (cz : Int32) (hCS : Sta V.Z V.Z.heap "java/lang/String" "COMPACT_STRINGS" "Z" (.int cz)) (hcz : ¬ cz = 0) (nm x : Nat) (m : Nat) (cs : List Int32) (hg : Gd cs) (h : Heap) (ps : List Addr) (S : Str V h m x cs) : Con V b_rf #[.ref nm, .ref x] h ps (fun v h' _ => v = none ∧ h' = h) := Con.of (plainFor_of_name pn_3) (L := [.val (.ref nm), .val (.ref x)]) rfl fun K => by
  refine r_aloadN 1 rfl d12_0 rfl rfl ?_
  refine r_aloadN 2 rfl d12_1 rfl rfl ?_
  refine r_static 5 rfl d12_2 (wd hw 63 rfl) (wd hw 64 rfl) (wd hw 65 rfl) (wd hw 66 rfl) (by decide) (Pays.con (K := K) (B := b_rf) (c_rnn V hw x nm h _) (wd hw 66 rfl) (wd hw 65 rfl) (by decide) (by decide)) (W := 0) (argsL := [.ref x, .ref nm]) (lenOf pd_8 rfl) rfl rfl rfl (Nat.le_of_eq rfl) (Nat.le_of_ble_eq_true rfl) (Nat.le_of_ble_eq_true rfl) fun v69 h70 ps66 q68 z67 => ?_
  obtain ⟨rfl, es71⟩ := q68
  subst h70
  show Own.Run V K b_rf _ h _ 0 0 5 [.val (.ref nm), .val (.ref x)] [.ref x]
  refine r_pop 6 rfl d12_5 rfl ?_
  refine r_aloadN 7 rfl d12_6 rfl rfl ?_
  refine r_virtual 10 rfl d12_7 (wd hw 67 rfl) (wd hw 68 rfl) (wd hw 70 rfl) (wd hw 69 rfl) (nfS (wd hw 70 rfl)) (by decide) S.exa (pay_emp V hw K b_rf 0 x m cs h _ S (by decide) (by decide)) (W := 0) (argsL := []) (lenOf pd_1 rfl) rfl rfl rfl (Nat.le_of_eq rfl) (Nat.le_of_ble_eq_true rfl) (Nat.le_of_ble_eq_true rfl) fun v75 h76 ps72 q74 z73 => ?_
  obtain ⟨rfl, es77⟩ := q74
  subst h76
  show Own.Run V K b_rf _ h _ 0 0 10 [.val (.ref nm), .val (.ref x)] [.int (if cs.length = 0 then 1 else 0)]
  refine r_if_eq 27 13 d12_10 (by decide) rfl rfl (fun c78 => ?_) (fun c78 => ?_)
  rotate_left
  · exact absurd (if_neg (by have := hg.1; omega)) c78
  refine r_aloadN 28 rfl d12_27 rfl rfl ?_
  refine r_bipush (9 : Int32) 30 rfl d12_28 rfl ?_
  refine r_virtual 33 rfl d12_30 (wd hw 72 rfl) (wd hw 73 rfl) (wd hw 75 rfl) (wd hw 74 rfl) (nfS (wd hw 75 rfl)) (by decide) S.exa (Pays.con (K := K) (B := b_rf) (c_iof V hw cz hCS hcz x m cs hg.2.1 9 by9 h _ S) (wd hw 76 rfl) (wd hw 17 rfl) (by decide) (by decide)) (W := 0) (argsL := [.int (9 : Int32)]) (lenOf pd_6 rfl) rfl rfl rfl (Nat.le_of_eq rfl) (Nat.le_of_ble_eq_true rfl) (Nat.le_of_ble_eq_true rfl) fun v82 h83 ps79 q81 z80 => ?_
  obtain ⟨r0, rfl, es84, hr0⟩ := q81
  subst h83
  show Own.Run V K b_rf _ h _ 0 0 33 [.val (.ref nm), .val (.ref x)] [.int r0]
  refine r_if_ge 54 36 d12_33 (by decide) rfl rfl (fun c85 => ?_) (fun c85 => ?_)
  · exact absurd (hr0.mp c85) hg.2.2.1
  refine r_aloadN 37 rfl d12_36 rfl rfl ?_
  refine r_bipush (13 : Int32) 39 rfl d12_37 rfl ?_
  refine r_virtual 42 rfl d12_39 (wd hw 72 rfl) (wd hw 73 rfl) (wd hw 75 rfl) (wd hw 74 rfl) (nfS (wd hw 75 rfl)) (by decide) S.exa (Pays.con (K := K) (B := b_rf) (c_iof V hw cz hCS hcz x m cs hg.2.1 13 by13 h _ S) (wd hw 76 rfl) (wd hw 17 rfl) (by decide) (by decide)) (W := 0) (argsL := [.int (13 : Int32)]) (lenOf pd_6 rfl) rfl rfl rfl (Nat.le_of_eq rfl) (Nat.le_of_ble_eq_true rfl) (Nat.le_of_ble_eq_true rfl) fun v89 h90 ps86 q88 z87 => ?_
  obtain ⟨r1, rfl, es91, hr1⟩ := q88
  subst h90
  show Own.Run V K b_rf _ h _ 0 0 42 [.val (.ref nm), .val (.ref x)] [.int r1]
  refine r_if_ge 54 45 d12_42 (by decide) rfl rfl (fun c92 => ?_) (fun c92 => ?_)
  · exact absurd (hr1.mp c92) hg.2.2.2.1
  refine r_aloadN 46 rfl d12_45 rfl rfl ?_
  refine r_bipush (10 : Int32) 48 rfl d12_46 rfl ?_
  refine r_virtual 51 rfl d12_48 (wd hw 72 rfl) (wd hw 73 rfl) (wd hw 75 rfl) (wd hw 74 rfl) (nfS (wd hw 75 rfl)) (by decide) S.exa (Pays.con (K := K) (B := b_rf) (c_iof V hw cz hCS hcz x m cs hg.2.1 10 by10 h _ S) (wd hw 76 rfl) (wd hw 17 rfl) (by decide) (by decide)) (W := 0) (argsL := [.int (10 : Int32)]) (lenOf pd_6 rfl) rfl rfl rfl (Nat.le_of_eq rfl) (Nat.le_of_ble_eq_true rfl) (Nat.le_of_ble_eq_true rfl) fun v96 h97 ps93 q95 z94 => ?_
  obtain ⟨r2, rfl, es98, hr2⟩ := q95
  subst h97
  show Own.Run V K b_rf _ h _ 0 0 51 [.val (.ref nm), .val (.ref x)] [.int r2]
  refine r_if_lt 69 54 d12_51 (by decide) rfl rfl (fun c99 => ?_) (fun c99 => ?_)
  rotate_left
  · exact absurd (hr2.mp c99) hg.2.2.2.2
  refine r_ret rfl d12_69 (by decide) (by decide) [] (fun _ q => nomatch q) ?_
  exact ⟨rfl, rfl⟩
theorem d13_0 : decode prog_4_method_1_code 0 = .ok (.aload_n 0, 1) := by decide +kernel
theorem d13_1 : decode prog_4_method_1_code 1 = .ok (.invokespecial 1, 3) := by decide +kernel
theorem d13_4 : decode prog_4_method_1_code 4 = .ok (.lload_n 1, 1) := by decide +kernel
theorem d13_5 : decode prog_4_method_1_code 5 = .ok (.lconst 0, 1) := by decide +kernel
theorem d13_6 : decode prog_4_method_1_code 6 = .ok (.lcmp, 1) := by decide +kernel
theorem d13_7 : decode prog_4_method_1_code 7 = .ok (.ifCond .ge 17, 3) := by decide +kernel
theorem d13_10 : decode prog_4_method_1_code 10 = .ok (.new 7, 3) := by decide +kernel
theorem d13_13 : decode prog_4_method_1_code 13 = .ok (.dup, 1) := by decide +kernel
theorem d13_14 : decode prog_4_method_1_code 14 = .ok (.lload_n 1, 1) := by decide +kernel
theorem d13_15 : decode prog_4_method_1_code 15 = .ok (.invokedynamic 9, 5) := by decide +kernel
theorem d13_20 : decode prog_4_method_1_code 20 = .ok (.invokespecial 13, 3) := by decide +kernel
theorem d13_23 : decode prog_4_method_1_code 23 = .ok (.athrow, 1) := by decide +kernel
theorem d13_24 : decode prog_4_method_1_code 24 = .ok (.lload_n 3, 1) := by decide +kernel
theorem d13_25 : decode prog_4_method_1_code 25 = .ok (.lload_n 1, 1) := by decide +kernel
theorem d13_26 : decode prog_4_method_1_code 26 = .ok (.lcmp, 1) := by decide +kernel
theorem d13_27 : decode prog_4_method_1_code 27 = .ok (.ifCond .ge 18, 3) := by decide +kernel
theorem d13_30 : decode prog_4_method_1_code 30 = .ok (.new 7, 3) := by decide +kernel
theorem d13_33 : decode prog_4_method_1_code 33 = .ok (.dup, 1) := by decide +kernel
theorem d13_34 : decode prog_4_method_1_code 34 = .ok (.lload_n 3, 1) := by decide +kernel
theorem d13_35 : decode prog_4_method_1_code 35 = .ok (.lload_n 1, 1) := by decide +kernel
theorem d13_36 : decode prog_4_method_1_code 36 = .ok (.invokedynamic 16, 5) := by decide +kernel
theorem d13_41 : decode prog_4_method_1_code 41 = .ok (.invokespecial 13, 3) := by decide +kernel
theorem d13_44 : decode prog_4_method_1_code 44 = .ok (.athrow, 1) := by decide +kernel
theorem d13_45 : decode prog_4_method_1_code 45 = .ok (.iload 5, 2) := by decide +kernel
theorem d13_47 : decode prog_4_method_1_code 47 = .ok (.i2l, 1) := by decide +kernel
theorem d13_48 : decode prog_4_method_1_code 48 = .ok (.invokestatic 19, 3) := by decide +kernel
theorem d13_51 : decode prog_4_method_1_code 51 = .ok (.pop, 1) := by decide +kernel
theorem d13_52 : decode prog_4_method_1_code 52 = .ok (.lload 6, 2) := by decide +kernel
theorem d13_54 : decode prog_4_method_1_code 54 = .ok (.lconst 0, 1) := by decide +kernel
theorem d13_55 : decode prog_4_method_1_code 55 = .ok (.lcmp, 1) := by decide +kernel
theorem d13_56 : decode prog_4_method_1_code 56 = .ok (.ifCond .ge 18, 3) := by decide +kernel
theorem d13_59 : decode prog_4_method_1_code 59 = .ok (.new 7, 3) := by decide +kernel
theorem d13_62 : decode prog_4_method_1_code 62 = .ok (.dup, 1) := by decide +kernel
theorem d13_63 : decode prog_4_method_1_code 63 = .ok (.lload 6, 2) := by decide +kernel
theorem d13_65 : decode prog_4_method_1_code 65 = .ok (.invokedynamic 25, 5) := by decide +kernel
theorem d13_70 : decode prog_4_method_1_code 70 = .ok (.invokespecial 13, 3) := by decide +kernel
theorem d13_73 : decode prog_4_method_1_code 73 = .ok (.athrow, 1) := by decide +kernel
theorem d13_74 : decode prog_4_method_1_code 74 = .ok (.ldc 26, 2) := by decide +kernel
theorem d13_76 : decode prog_4_method_1_code 76 = .ok (.aload 8, 2) := by decide +kernel
theorem d13_78 : decode prog_4_method_1_code 78 = .ok (.invokestatic 28, 3) := by decide +kernel
theorem d13_81 : decode prog_4_method_1_code 81 = .ok (.ldc 32, 2) := by decide +kernel
theorem d13_83 : decode prog_4_method_1_code 83 = .ok (.aload 9, 2) := by decide +kernel
theorem d13_85 : decode prog_4_method_1_code 85 = .ok (.invokestatic 28, 3) := by decide +kernel
theorem d13_88 : decode prog_4_method_1_code 88 = .ok (.aload_n 0, 1) := by decide +kernel
theorem d13_89 : decode prog_4_method_1_code 89 = .ok (.lload_n 1, 1) := by decide +kernel
theorem d13_90 : decode prog_4_method_1_code 90 = .ok (.putfield 34, 3) := by decide +kernel
theorem d13_93 : decode prog_4_method_1_code 93 = .ok (.aload_n 0, 1) := by decide +kernel
theorem d13_94 : decode prog_4_method_1_code 94 = .ok (.lload_n 3, 1) := by decide +kernel
theorem d13_95 : decode prog_4_method_1_code 95 = .ok (.putfield 38, 3) := by decide +kernel
theorem d13_98 : decode prog_4_method_1_code 98 = .ok (.aload_n 0, 1) := by decide +kernel
theorem d13_99 : decode prog_4_method_1_code 99 = .ok (.iload 5, 2) := by decide +kernel
theorem d13_101 : decode prog_4_method_1_code 101 = .ok (.putfield 41, 3) := by decide +kernel
theorem d13_104 : decode prog_4_method_1_code 104 = .ok (.aload_n 0, 1) := by decide +kernel
theorem d13_105 : decode prog_4_method_1_code 105 = .ok (.lload 6, 2) := by decide +kernel
theorem d13_107 : decode prog_4_method_1_code 107 = .ok (.putfield 45, 3) := by decide +kernel
theorem d13_110 : decode prog_4_method_1_code 110 = .ok (.aload_n 0, 1) := by decide +kernel
theorem d13_111 : decode prog_4_method_1_code 111 = .ok (.aload 8, 2) := by decide +kernel
theorem d13_113 : decode prog_4_method_1_code 113 = .ok (.putfield 48, 3) := by decide +kernel
theorem d13_116 : decode prog_4_method_1_code 116 = .ok (.aload_n 0, 1) := by decide +kernel
theorem d13_117 : decode prog_4_method_1_code 117 = .ok (.aload 9, 2) := by decide +kernel
theorem d13_119 : decode prog_4_method_1_code 119 = .ok (.putfield 52, 3) := by decide +kernel
theorem d13_122 : decode prog_4_method_1_code 122 = .ok (.return_, 1) := by decide +kernel
abbrev b_ei : Bx := (⟨"com/example/frontier/frontier/crawllog/CrawlLogEntry", "<init>", "(JJIJLjava/lang/String;Ljava/lang/String;)V"⟩, prog_4_method_1_code, 10, none, { frames := 5, cells := 4, slots := 36, locals := 112 })
def En (V : Vw) (h : Heap) (e : Nat) (s t : Int64) (st : Int32) (bd : Int64) (u n : Nat) : Prop := Exa V.Z h e "com/example/frontier/frontier/crawllog/CrawlLogEntry" ∧ Fld V.Z h e "com/example/frontier/frontier/crawllog/CrawlLogEntry" "startMillis" "J" (.long s) ∧ Fld V.Z h e "com/example/frontier/frontier/crawllog/CrawlLogEntry" "endMillis" "J" (.long t) ∧ Fld V.Z h e "com/example/frontier/frontier/crawllog/CrawlLogEntry" "status" "I" (.int st) ∧ Fld V.Z h e "com/example/frontier/frontier/crawllog/CrawlLogEntry" "bodyBytes" "J" (.long bd) ∧ Fld V.Z h e "com/example/frontier/frontier/crawllog/CrawlLogEntry" "url" "Ljava/lang/String;" (.ref u) ∧ Fld V.Z h e "com/example/frontier/frontier/crawllog/CrawlLogEntry" "note" "Ljava/lang/String;" (.ref n)
theorem En.ext {V : Vw} {h h' : Heap} {e u n : Nat} {s t bd : Int64} {st : Int32} (E : Ext h h') (H : En V h e s t st bd u n) : En V h' e s t st bd u n := ⟨H.1.ext E, H.2.1.ext E, H.2.2.1.ext E, H.2.2.2.1.ext E, H.2.2.2.2.1.ext E, H.2.2.2.2.2.1.ext E, H.2.2.2.2.2.2.ext E⟩
theorem En.keep {V : Vw} {h h' : Heap} {e u n : Nat} {s t bd : Int64} {st : Int32} {ws : List Addr} (K : Keep h h' ws) (q : e ∉ ws) (H : En V h e s t st bd u n) : En V h' e s t st bd u n := ⟨H.1.keep K, H.2.1.keep K q, H.2.2.1.keep K q, H.2.2.2.1.keep K q, H.2.2.2.2.1.keep K q, H.2.2.2.2.2.1.keep K q, H.2.2.2.2.2.2.keep K q⟩
def Qei (V : Vw) (e : Nat) (s t : Int64) (st : Int32) (bd : Int64) (u n : Nat) (h0 : Heap) : Qt := fun v h _ => v = none ∧ Keep h0 h [e] ∧ En V h e s t st bd u n
def EnOk (s t : Int64) (st : Int32) (bd : Int64) : Prop := ¬ s < 0 ∧ ¬ t < s ∧ StOk st ∧ ¬ bd < 0
theorem c_ei (V : Vw) (hw : ∀ d ∈ tables_1, d.before V.a0 V.Z = true) (hn : V.nar = false) (cz : Int32) (hCS : Sta V.Z V.Z.heap "java/lang/String" "COMPACT_STRINGS" "Z" (.int cz)) (hcz : ¬ cz = 0) (e u n : Nat) (s t bd : Int64) (st : Int32) (ok : EnOk s t st bd) (mu mn : Nat) (cu cn : List Int32) (gu : Gd cu) (gn : Gd cn) (h : Heap) (ps : List Addr) (ze : V.Z.heap.size ≤ e) (E : Exa V.Z h e "com/example/frontier/frontier/crawllog/CrawlLogEntry") (F0 : Fld V.Z h e "com/example/frontier/frontier/crawllog/CrawlLogEntry" "startMillis" "J" (.long 0)) (F1 : Fld V.Z h e "com/example/frontier/frontier/crawllog/CrawlLogEntry" "endMillis" "J" (.long 0)) (F2 : Fld V.Z h e "com/example/frontier/frontier/crawllog/CrawlLogEntry" "status" "I" (.int 0)) (F3 : Fld V.Z h e "com/example/frontier/frontier/crawllog/CrawlLogEntry" "bodyBytes" "J" (.long 0)) (F4 : Fld V.Z h e "com/example/frontier/frontier/crawllog/CrawlLogEntry" "url" "Ljava/lang/String;" .null) (F5 : Fld V.Z h e "com/example/frontier/frontier/crawllog/CrawlLogEntry" "note" "Ljava/lang/String;" .null) (Su : Str V h mu u cu) (Sn : Str V h mn n cn) : Con V b_ei #[.ref e, .long s, .long t, .int st, .long bd, .ref u, .ref n] h ps (Qei V e s t st bd u n h) := Con.of (plainFor_of_name pn_3) (L := [.val (.ref e), .val (.long s), .second, .val (.long t), .second, .val (.int st), .val (.long bd), .second, .val (.ref u), .val (.ref n)]) (layL (by simp [Jvm.Sym.laidSlots, Bx.ml, maxLocals, Value.category, List.replicate])) fun K => by
  have le := ltN E.lt
  have bu := Su.lt
  have bn := Sn.lt
  refine r_aloadN 1 rfl d13_0 rfl rfl ?_
  refine r_initO 0 4 rfl d13_1 (wd hw 51 rfl) (wd hw 27 rfl) (wd hw 28 rfl) rfl (by decide) (Nat.le_of_eq rfl) (by decide) ?_
  refine r_lloadN 5 rfl d13_4 rfl ?_
  refine r_lconst (0 : Int64) 6 rfl d13_5 rfl ?_
  refine r_lcmp_ge 7 24 10 d13_6 rfl d13_7 (by decide) rfl rfl (fun c100 => ?_) (fun c100 => ?_)
  rotate_left
  · exact absurd c100 ok.1
  refine r_lloadN 25 rfl d13_24 rfl ?_
  refine r_lloadN 26 rfl d13_25 rfl ?_
  refine r_lcmp_ge 27 45 30 d13_26 rfl d13_27 (by decide) rfl rfl (fun c101 => ?_) (fun c101 => ?_)
  rotate_left
  · exact absurd c101 ok.2.1
  refine r_iload 47 rfl d13_45 rfl ?_
  refine r_i2l 48 rfl d13_47 ?_
  refine r_static 51 rfl d13_48 (wd hw 52 rfl) (wd hw 53 rfl) (wd hw 47 rfl) (wd hw 54 rfl) (by decide) (Pays.con (K := K) (B := b_ei) (c_rst V hw st ok.2.2.1 h _) (wd hw 54 rfl) (wd hw 47 rfl) (by decide) (by decide)) (W := 0) (argsL := [.long st.toInt64]) (lenOf pd_7 rfl) rfl rfl rfl (Nat.le_of_eq rfl) (Nat.le_of_ble_eq_true rfl) (Nat.le_of_ble_eq_true rfl) fun v105 h106 ps102 q104 z103 => ?_
  obtain ⟨⟨r, rfl⟩, es107⟩ := q104
  subst h106
  show Own.Run V K b_ei _ h _ 0 0 51 [.val (.ref e), .val (.long s), .second, .val (.long t), .second, .val (.int st), .val (.long bd), .second, .val (.ref u), .val (.ref n)] [.int r]
  refine r_pop 52 rfl d13_51 rfl ?_
  refine r_lload 54 rfl d13_52 rfl ?_
  refine r_lconst (0 : Int64) 55 rfl d13_54 rfl ?_
  refine r_lcmp_ge 56 74 59 d13_55 rfl d13_56 (by decide) rfl rfl (fun c108 => ?_) (fun c108 => ?_)
  rotate_left
  · exact absurd c108 ok.2.2.2
  refine r_ldcO 12 76 rfl d13_74 (wd hw 57 rfl) (satoms V hw) hn (by decide) (by decide) (by decide) (by decide) fun a109 h110 Eh110 => ?_
  have f111 := Str.ext Eh110 Su
  have f112 := Str.ext Eh110 Sn
  have f113 := Exa.ext Eh110 E
  have f114 := Fld.ext Eh110 F0
  have f115 := Fld.ext Eh110 F1
  have f116 := Fld.ext Eh110 F2
  have f117 := Fld.ext Eh110 F3
  have f118 := Fld.ext Eh110 F4
  have f119 := Fld.ext Eh110 F5
  have sh110 := Eh110.1
  refine r_aload 78 rfl d13_76 rfl rfl ?_
  refine r_static 81 rfl d13_78 (wd hw 60 rfl) (wd hw 61 rfl) (wd hw 47 rfl) (wd hw 62 rfl) (by decide) (Pays.con (K := K) (B := b_ei) (c_rf V hw cz hCS hcz a109 u mu cu gu h110 _ f111) (wd hw 62 rfl) (wd hw 47 rfl) (by decide) (by decide)) (W := 0) (argsL := [.ref a109, .ref u]) (lenOf pd_9 rfl) rfl rfl rfl (Nat.le_of_eq rfl) (Nat.le_of_ble_eq_true rfl) (Nat.le_of_ble_eq_true rfl) fun v123 h124 ps120 q122 z121 => ?_
  obtain ⟨rfl, es125⟩ := q122
  subst h124
  show Own.Run V K b_ei _ h110 _ 2 16 81 [.val (.ref e), .val (.long s), .second, .val (.long t), .second, .val (.int st), .val (.long bd), .second, .val (.ref u), .val (.ref n)] []
  refine r_ldcO 16 83 rfl d13_81 (wd hw 113 rfl) (satoms V hw) hn (by decide) (by decide) (by decide) (by decide) fun a126 h127 Eh127 => ?_
  have f128 := Str.ext Eh127 f111
  have f129 := Str.ext Eh127 f112
  have f130 := Exa.ext Eh127 f113
  have f131 := Fld.ext Eh127 f114
  have f132 := Fld.ext Eh127 f115
  have f133 := Fld.ext Eh127 f116
  have f134 := Fld.ext Eh127 f117
  have f135 := Fld.ext Eh127 f118
  have f136 := Fld.ext Eh127 f119
  have sh127 := Eh127.1
  refine r_aload 85 rfl d13_83 rfl rfl ?_
  refine r_static 88 rfl d13_85 (wd hw 60 rfl) (wd hw 61 rfl) (wd hw 47 rfl) (wd hw 62 rfl) (by decide) (Pays.con (K := K) (B := b_ei) (c_rf V hw cz hCS hcz a126 n mn cn gn h127 _ f129) (wd hw 62 rfl) (wd hw 47 rfl) (by decide) (by decide)) (W := 0) (argsL := [.ref a126, .ref n]) (lenOf pd_9 rfl) rfl rfl rfl (Nat.le_of_eq rfl) (Nat.le_of_ble_eq_true rfl) (Nat.le_of_ble_eq_true rfl) fun v140 h141 ps137 q139 z138 => ?_
  obtain ⟨rfl, es142⟩ := q139
  subst h141
  show Own.Run V K b_ei _ h127 _ 4 36 88 [.val (.ref e), .val (.long s), .second, .val (.long t), .second, .val (.int st), .val (.long bd), .second, .val (.ref u), .val (.ref n)] []
  refine r_aloadN 89 rfl d13_88 rfl rfl ?_
  refine r_lloadN 90 rfl d13_89 rfl ?_
  refine r_putfield 93 rfl d13_90 (wd hw 114 rfl) f131 f130 (Or.inr ⟨wd hw 115 rfl, rfl, rfl⟩) (wd hw 46 rfl) (ty := .long) (by decide) rfl rfl ze (Or.inl (by decide)) fun h143 Wh143 => ?_
  have sh143 := Wh143.size
  have f144 := Exa.wr Wh143 f130
  have f145 := Fld.same Wh143 f131
  have f146 := Fld.other Wh143 f132 (Or.inr (slot_ne (C := "com/example/frontier/frontier/crawllog/CrawlLogEntry") (Or.inr (wd hw 117 rfl)) (Or.inr (wd hw 115 rfl)) (by decide) (t := .long) (by decide) (t' := .long) (by decide)))
  have f147 := Fld.other Wh143 f133 (Or.inr (slot_ne (C := "com/example/frontier/frontier/crawllog/CrawlLogEntry") (Or.inr (wd hw 119 rfl)) (Or.inr (wd hw 115 rfl)) (by decide) (t := .int) (by decide) (t' := .long) (by decide)))
  have f148 := Fld.other Wh143 f134 (Or.inr (slot_ne (C := "com/example/frontier/frontier/crawllog/CrawlLogEntry") (Or.inr (wd hw 121 rfl)) (Or.inr (wd hw 115 rfl)) (by decide) (t := .long) (by decide) (t' := .long) (by decide)))
  have f149 := Fld.other Wh143 f135 (Or.inr (slot_ne (C := "com/example/frontier/frontier/crawllog/CrawlLogEntry") (Or.inr (wd hw 123 rfl)) (Or.inr (wd hw 115 rfl)) (by decide) (t := (.object "java/lang/String")) (by decide) (t' := .long) (by decide)))
  have f150 := Fld.other Wh143 f136 (Or.inr (slot_ne (C := "com/example/frontier/frontier/crawllog/CrawlLogEntry") (Or.inr (wd hw 125 rfl)) (Or.inr (wd hw 115 rfl)) (by decide) (t := (.object "java/lang/String")) (by decide) (t' := .long) (by decide)))
  refine r_aloadN 94 rfl d13_93 rfl rfl ?_
  refine r_lloadN 95 rfl d13_94 rfl ?_
  refine r_putfield 98 rfl d13_95 (wd hw 116 rfl) f146 f144 (Or.inr ⟨wd hw 117 rfl, rfl, rfl⟩) (wd hw 46 rfl) (ty := .long) (by decide) rfl rfl ze (Or.inl (by decide)) fun h151 Wh151 => ?_
  have sh151 := Wh151.size
  have f152 := Exa.wr Wh151 f144
  have f153 := Fld.other Wh151 f145 (Or.inr (slot_ne (C := "com/example/frontier/frontier/crawllog/CrawlLogEntry") (Or.inr (wd hw 115 rfl)) (Or.inr (wd hw 117 rfl)) (by decide) (t := .long) (by decide) (t' := .long) (by decide)))
  have f154 := Fld.same Wh151 f146
  have f155 := Fld.other Wh151 f147 (Or.inr (slot_ne (C := "com/example/frontier/frontier/crawllog/CrawlLogEntry") (Or.inr (wd hw 119 rfl)) (Or.inr (wd hw 117 rfl)) (by decide) (t := .int) (by decide) (t' := .long) (by decide)))
  have f156 := Fld.other Wh151 f148 (Or.inr (slot_ne (C := "com/example/frontier/frontier/crawllog/CrawlLogEntry") (Or.inr (wd hw 121 rfl)) (Or.inr (wd hw 117 rfl)) (by decide) (t := .long) (by decide) (t' := .long) (by decide)))
  have f157 := Fld.other Wh151 f149 (Or.inr (slot_ne (C := "com/example/frontier/frontier/crawllog/CrawlLogEntry") (Or.inr (wd hw 123 rfl)) (Or.inr (wd hw 117 rfl)) (by decide) (t := (.object "java/lang/String")) (by decide) (t' := .long) (by decide)))
  have f158 := Fld.other Wh151 f150 (Or.inr (slot_ne (C := "com/example/frontier/frontier/crawllog/CrawlLogEntry") (Or.inr (wd hw 125 rfl)) (Or.inr (wd hw 117 rfl)) (by decide) (t := (.object "java/lang/String")) (by decide) (t' := .long) (by decide)))
  refine r_aloadN 99 rfl d13_98 rfl rfl ?_
  refine r_iload 101 rfl d13_99 rfl ?_
  refine r_putfield 104 rfl d13_101 (wd hw 118 rfl) f155 f152 (Or.inr ⟨wd hw 119 rfl, rfl, rfl⟩) (wd hw 46 rfl) (ty := .int) (by decide) rfl rfl ze (Or.inl (by decide)) fun h159 Wh159 => ?_
  have sh159 := Wh159.size
  have f160 := Exa.wr Wh159 f152
  have f161 := Fld.other Wh159 f153 (Or.inr (slot_ne (C := "com/example/frontier/frontier/crawllog/CrawlLogEntry") (Or.inr (wd hw 115 rfl)) (Or.inr (wd hw 119 rfl)) (by decide) (t := .long) (by decide) (t' := .int) (by decide)))
  have f162 := Fld.other Wh159 f154 (Or.inr (slot_ne (C := "com/example/frontier/frontier/crawllog/CrawlLogEntry") (Or.inr (wd hw 117 rfl)) (Or.inr (wd hw 119 rfl)) (by decide) (t := .long) (by decide) (t' := .int) (by decide)))
  have f163 := Fld.same Wh159 f155
  have f164 := Fld.other Wh159 f156 (Or.inr (slot_ne (C := "com/example/frontier/frontier/crawllog/CrawlLogEntry") (Or.inr (wd hw 121 rfl)) (Or.inr (wd hw 119 rfl)) (by decide) (t := .long) (by decide) (t' := .int) (by decide)))
  have f165 := Fld.other Wh159 f157 (Or.inr (slot_ne (C := "com/example/frontier/frontier/crawllog/CrawlLogEntry") (Or.inr (wd hw 123 rfl)) (Or.inr (wd hw 119 rfl)) (by decide) (t := (.object "java/lang/String")) (by decide) (t' := .int) (by decide)))
  have f166 := Fld.other Wh159 f158 (Or.inr (slot_ne (C := "com/example/frontier/frontier/crawllog/CrawlLogEntry") (Or.inr (wd hw 125 rfl)) (Or.inr (wd hw 119 rfl)) (by decide) (t := (.object "java/lang/String")) (by decide) (t' := .int) (by decide)))
  refine r_aloadN 105 rfl d13_104 rfl rfl ?_
  refine r_lload 107 rfl d13_105 rfl ?_
  refine r_putfield 110 rfl d13_107 (wd hw 120 rfl) f164 f160 (Or.inr ⟨wd hw 121 rfl, rfl, rfl⟩) (wd hw 46 rfl) (ty := .long) (by decide) rfl rfl ze (Or.inl (by decide)) fun h167 Wh167 => ?_
  have sh167 := Wh167.size
  have f168 := Exa.wr Wh167 f160
  have f169 := Fld.other Wh167 f161 (Or.inr (slot_ne (C := "com/example/frontier/frontier/crawllog/CrawlLogEntry") (Or.inr (wd hw 115 rfl)) (Or.inr (wd hw 121 rfl)) (by decide) (t := .long) (by decide) (t' := .long) (by decide)))
  have f170 := Fld.other Wh167 f162 (Or.inr (slot_ne (C := "com/example/frontier/frontier/crawllog/CrawlLogEntry") (Or.inr (wd hw 117 rfl)) (Or.inr (wd hw 121 rfl)) (by decide) (t := .long) (by decide) (t' := .long) (by decide)))
  have f171 := Fld.other Wh167 f163 (Or.inr (slot_ne (C := "com/example/frontier/frontier/crawllog/CrawlLogEntry") (Or.inr (wd hw 119 rfl)) (Or.inr (wd hw 121 rfl)) (by decide) (t := .int) (by decide) (t' := .long) (by decide)))
  have f172 := Fld.same Wh167 f164
  have f173 := Fld.other Wh167 f165 (Or.inr (slot_ne (C := "com/example/frontier/frontier/crawllog/CrawlLogEntry") (Or.inr (wd hw 123 rfl)) (Or.inr (wd hw 121 rfl)) (by decide) (t := (.object "java/lang/String")) (by decide) (t' := .long) (by decide)))
  have f174 := Fld.other Wh167 f166 (Or.inr (slot_ne (C := "com/example/frontier/frontier/crawllog/CrawlLogEntry") (Or.inr (wd hw 125 rfl)) (Or.inr (wd hw 121 rfl)) (by decide) (t := (.object "java/lang/String")) (by decide) (t' := .long) (by decide)))
  refine r_aloadN 111 rfl d13_110 rfl rfl ?_
  refine r_aload 113 rfl d13_111 rfl rfl ?_
  refine r_putfield 116 rfl d13_113 (wd hw 122 rfl) f173 f168 (Or.inr ⟨wd hw 123 rfl, rfl, rfl⟩) (wd hw 46 rfl) (ty := (.object "java/lang/String")) (by decide) rfl rfl ze (Or.inl (by decide)) fun h175 Wh175 => ?_
  have sh175 := Wh175.size
  have f176 := Exa.wr Wh175 f168
  have f177 := Fld.other Wh175 f169 (Or.inr (slot_ne (C := "com/example/frontier/frontier/crawllog/CrawlLogEntry") (Or.inr (wd hw 115 rfl)) (Or.inr (wd hw 123 rfl)) (by decide) (t := .long) (by decide) (t' := (.object "java/lang/String")) (by decide)))
  have f178 := Fld.other Wh175 f170 (Or.inr (slot_ne (C := "com/example/frontier/frontier/crawllog/CrawlLogEntry") (Or.inr (wd hw 117 rfl)) (Or.inr (wd hw 123 rfl)) (by decide) (t := .long) (by decide) (t' := (.object "java/lang/String")) (by decide)))
  have f179 := Fld.other Wh175 f171 (Or.inr (slot_ne (C := "com/example/frontier/frontier/crawllog/CrawlLogEntry") (Or.inr (wd hw 119 rfl)) (Or.inr (wd hw 123 rfl)) (by decide) (t := .int) (by decide) (t' := (.object "java/lang/String")) (by decide)))
  have f180 := Fld.other Wh175 f172 (Or.inr (slot_ne (C := "com/example/frontier/frontier/crawllog/CrawlLogEntry") (Or.inr (wd hw 121 rfl)) (Or.inr (wd hw 123 rfl)) (by decide) (t := .long) (by decide) (t' := (.object "java/lang/String")) (by decide)))
  have f181 := Fld.same Wh175 f173
  have f182 := Fld.other Wh175 f174 (Or.inr (slot_ne (C := "com/example/frontier/frontier/crawllog/CrawlLogEntry") (Or.inr (wd hw 125 rfl)) (Or.inr (wd hw 123 rfl)) (by decide) (t := (.object "java/lang/String")) (by decide) (t' := (.object "java/lang/String")) (by decide)))
  refine r_aloadN 117 rfl d13_116 rfl rfl ?_
  refine r_aload 119 rfl d13_117 rfl rfl ?_
  refine r_putfield 122 rfl d13_119 (wd hw 124 rfl) f182 f176 (Or.inr ⟨wd hw 125 rfl, rfl, rfl⟩) (wd hw 46 rfl) (ty := (.object "java/lang/String")) (by decide) rfl rfl ze (Or.inl (by decide)) fun h183 Wh183 => ?_
  have sh183 := Wh183.size
  have f184 := Exa.wr Wh183 f176
  have f185 := Fld.other Wh183 f177 (Or.inr (slot_ne (C := "com/example/frontier/frontier/crawllog/CrawlLogEntry") (Or.inr (wd hw 115 rfl)) (Or.inr (wd hw 125 rfl)) (by decide) (t := .long) (by decide) (t' := (.object "java/lang/String")) (by decide)))
  have f186 := Fld.other Wh183 f178 (Or.inr (slot_ne (C := "com/example/frontier/frontier/crawllog/CrawlLogEntry") (Or.inr (wd hw 117 rfl)) (Or.inr (wd hw 125 rfl)) (by decide) (t := .long) (by decide) (t' := (.object "java/lang/String")) (by decide)))
  have f187 := Fld.other Wh183 f179 (Or.inr (slot_ne (C := "com/example/frontier/frontier/crawllog/CrawlLogEntry") (Or.inr (wd hw 119 rfl)) (Or.inr (wd hw 125 rfl)) (by decide) (t := .int) (by decide) (t' := (.object "java/lang/String")) (by decide)))
  have f188 := Fld.other Wh183 f180 (Or.inr (slot_ne (C := "com/example/frontier/frontier/crawllog/CrawlLogEntry") (Or.inr (wd hw 121 rfl)) (Or.inr (wd hw 125 rfl)) (by decide) (t := .long) (by decide) (t' := (.object "java/lang/String")) (by decide)))
  have f189 := Fld.other Wh183 f181 (Or.inr (slot_ne (C := "com/example/frontier/frontier/crawllog/CrawlLogEntry") (Or.inr (wd hw 123 rfl)) (Or.inr (wd hw 125 rfl)) (by decide) (t := (.object "java/lang/String")) (by decide) (t' := (.object "java/lang/String")) (by decide)))
  have f190 := Fld.same Wh183 f182
  refine r_ret rfl d13_122 (by decide) (by decide) [] (fun _ q => nomatch q) ?_
  exact ⟨rfl, ((((((((Keep.refl _ _).ext Eh110).ext Eh127).wr Wh143 (Or.inl (by simp))).wr Wh151 (Or.inl (by simp))).wr Wh159 (Or.inl (by simp))).wr Wh167 (Or.inl (by simp))).wr Wh175 (Or.inl (by simp))).wr Wh183 (Or.inl (by simp)), f184, f185, f186, f187, f188, f189, f190⟩
theorem d14_0 : decode method_3_code 0 = .ok (.iload_n 0, 1) := by decide +kernel
theorem d14_1 : decode method_3_code 1 = .ok (.sipush 1023, 3) := by decide +kernel
theorem d14_4 : decode method_3_code 4 = .ok (.iand, 1) := by decide +kernel
theorem d14_5 : decode method_3_code 5 = .ok (.sipush 901, 3) := by decide +kernel
theorem d14_8 : decode method_3_code 8 = .ok (.irem, 1) := by decide +kernel
theorem d14_9 : decode method_3_code 9 = .ok (.istore_n 1, 1) := by decide +kernel
theorem d14_10 : decode method_3_code 10 = .ok (.iload_n 1, 1) := by decide +kernel
theorem d14_11 : decode method_3_code 11 = .ok (.sipush 900, 3) := by decide +kernel
theorem d14_14 : decode method_3_code 14 = .ok (.if_icmp .ne 5, 3) := by decide +kernel
theorem d14_17 : decode method_3_code 17 = .ok (.iconst 0, 1) := by decide +kernel
theorem d14_18 : decode method_3_code 18 = .ok (.ireturn, 1) := by decide +kernel
theorem d14_19 : decode method_3_code 19 = .ok (.bipush 100, 2) := by decide +kernel
theorem d14_21 : decode method_3_code 21 = .ok (.iload_n 1, 1) := by decide +kernel
theorem d14_22 : decode method_3_code 22 = .ok (.iadd, 1) := by decide +kernel
theorem d14_23 : decode method_3_code 23 = .ok (.ireturn, 1) := by decide +kernel
abbrev b_code : Bx := (⟨"com/example/frontier/frontier/crawllog/CrawlLogEntryEqualsPinLaw", "code", "(I)I"⟩, method_3_code, 2, some .int, { frames := 0, cells := 0, slots := 0, locals := 0 })
theorem code_ok (x : Int32) (h : ¬ (x &&& 1023) % 901 = 900) : StOk (100 + (x &&& 1023) % 901) := by
  have a := c_and x 1023 (by decide)
  have q := (c_irem (x &&& 1023) 901 901 (by decide)).1 a.1
  have s := c_iadd 100 ((x &&& 1023) % 901)
  have r := rng32 (100 + (x &&& 1023) % 901)
  have e0 : (900 : Int32).toInt = 900 := rfl
  have e1 : (100 : Int32).toInt = 100 := rfl
  have e2 : (999 : Int32).toInt = 999 := rfl
  rw [← Int32.toInt_inj] at h
  refine Or.inr ⟨fun z => ?_, fun z => ?_⟩ <;> rw [Int32.lt_iff_toInt_lt] at z <;> omega
theorem c_code (V : Vw) (hw : ∀ d ∈ tables_1, d.before V.a0 V.Z = true) (x : Int32) (h : Heap) (ps : List Addr) : Con V b_code #[.int x] h ps (fun v h' _ => ∃ c, v = some (.int c) ∧ h' = h ∧ StOk c) := Con.of (plainFor_of_name pn_0) (L := [.val (.int x), .unset]) rfl fun K => by
  refine r_iloadN 1 rfl d14_0 rfl ?_
  refine r_sipush (1023 : Int32) 4 rfl d14_1 rfl ?_
  refine r_iand 5 rfl d14_4 ?_
  refine r_sipush (901 : Int32) 8 rfl d14_5 rfl ?_
  refine r_irem 9 rfl d14_8 (by decide) ?_
  refine r_istoreN [.val (.int x), .val (.int ((x &&& (1023 : Int32)) % (901 : Int32)))] 10 rfl d14_9 rfl ?_
  refine r_iloadN 11 rfl d14_10 rfl ?_
  refine r_sipush (900 : Int32) 14 rfl d14_11 rfl ?_
  refine r_icmp_ne 19 17 d14_14 (by decide) rfl rfl (fun c191 => ?_) (fun c191 => ?_)
  rotate_left
  · refine r_iconst (0 : Int32) 18 rfl d14_17 rfl ?_
    refine r_iret rfl d14_18 (by decide) (by decide) [] (fun _ q => nomatch q) ?_
    exact ⟨_, rfl, rfl, Or.inl rfl⟩
  refine r_bipush (100 : Int32) 21 rfl d14_19 rfl ?_
  refine r_iloadN 22 rfl d14_21 rfl ?_
  refine r_iadd 23 rfl d14_22 ?_
  refine r_iret rfl d14_23 (by decide) (by decide) [] (fun _ q => nomatch q) ?_
  exact ⟨_, rfl, rfl, code_ok x c191⟩
theorem d15_0 : decode method_2_code 0 = .ok (.iload_n 0, 1) := by decide +kernel
theorem d15_1 : decode method_2_code 1 = .ok (.sipush 255, 3) := by decide +kernel
theorem d15_4 : decode method_2_code 4 = .ok (.iand, 1) := by decide +kernel
theorem d15_5 : decode method_2_code 5 = .ok (.istore_n 1, 1) := by decide +kernel
theorem d15_6 : decode method_2_code 6 = .ok (.iload_n 1, 1) := by decide +kernel
theorem d15_7 : decode method_2_code 7 = .ok (.bipush 9, 2) := by decide +kernel
theorem d15_9 : decode method_2_code 9 = .ok (.if_icmp .eq 15, 3) := by decide +kernel
theorem d15_12 : decode method_2_code 12 = .ok (.iload_n 1, 1) := by decide +kernel
theorem d15_13 : decode method_2_code 13 = .ok (.bipush 10, 2) := by decide +kernel
theorem d15_15 : decode method_2_code 15 = .ok (.if_icmp .eq 9, 3) := by decide +kernel
theorem d15_18 : decode method_2_code 18 = .ok (.iload_n 1, 1) := by decide +kernel
theorem d15_19 : decode method_2_code 19 = .ok (.bipush 13, 2) := by decide +kernel
theorem d15_21 : decode method_2_code 21 = .ok (.if_icmp .ne 8, 3) := by decide +kernel
theorem d15_24 : decode method_2_code 24 = .ok (.iload_n 1, 1) := by decide +kernel
theorem d15_25 : decode method_2_code 25 = .ok (.bipush 32, 2) := by decide +kernel
theorem d15_27 : decode method_2_code 27 = .ok (.ior, 1) := by decide +kernel
theorem d15_28 : decode method_2_code 28 = .ok (.istore_n 1, 1) := by decide +kernel
theorem d15_29 : decode method_2_code 29 = .ok (.iload_n 1, 1) := by decide +kernel
theorem d15_30 : decode method_2_code 30 = .ok (.i2c, 1) := by decide +kernel
theorem d15_31 : decode method_2_code 31 = .ok (.ireturn, 1) := by decide +kernel
abbrev b_chh : Bx := (⟨"com/example/frontier/frontier/crawllog/CrawlLogEntryEqualsPinLaw", "ch", "(I)C"⟩, method_2_code, 2, some .char, { frames := 0, cells := 0, slots := 0, locals := 0 })
def Ok1 (c : Int32) : Prop := By c ∧ ¬ c = 9 ∧ ¬ c = 10 ∧ ¬ c = 13
theorem c_chh (V : Vw) (hw : ∀ d ∈ tables_1, d.before V.a0 V.Z = true) (x : Int32) (h : Heap) (ps : List Addr) : Con V b_chh #[.int x] h ps (fun v h' _ => ∃ c, v = some (.int c) ∧ h' = h ∧ Ok1 c) := Con.of (plainFor_of_name pn_0) (L := [.val (.int x), .unset]) rfl fun K => by
  refine r_iloadN 1 rfl d15_0 rfl ?_
  refine r_sipush (255 : Int32) 4 rfl d15_1 rfl ?_
  refine r_iand 5 rfl d15_4 ?_
  refine r_istoreN [.val (.int x), .val (.int (x &&& (255 : Int32)))] 6 rfl d15_5 rfl ?_
  refine r_iloadN 7 rfl d15_6 rfl ?_
  refine r_bipush (9 : Int32) 9 rfl d15_7 rfl ?_
  refine r_icmp_eq 24 12 d15_9 (by decide) rfl rfl (fun c192 => ?_) (fun c192 => ?_)
  · rw [c192]
    refine r_iloadN 25 rfl d15_24 rfl ?_
    refine r_bipush (32 : Int32) 27 rfl d15_25 rfl ?_
    refine r_ior 28 rfl d15_27 ?_
    refine r_istoreN [.val (.int x), .val (.int ((9 : Int32) ||| (32 : Int32)))] 29 rfl d15_28 rfl ?_
    refine r_iloadN 30 rfl d15_29 rfl ?_
    refine r_i2c 31 rfl d15_30 ?_
    refine r_nret (t := .char) (41 : Int32) rfl (by simp) (by decide) d15_31 (by decide) (by decide) [] (fun _ q => nomatch q) ?_
    exact ⟨_, rfl, rfl, ⟨by decide, by decide⟩, by decide, by decide, by decide⟩
  refine r_iloadN 13 rfl d15_12 rfl ?_
  refine r_bipush (10 : Int32) 15 rfl d15_13 rfl ?_
  refine r_icmp_eq 24 18 d15_15 (by decide) rfl rfl (fun c193 => ?_) (fun c193 => ?_)
  · rw [c193]
    refine r_iloadN 25 rfl d15_24 rfl ?_
    refine r_bipush (32 : Int32) 27 rfl d15_25 rfl ?_
    refine r_ior 28 rfl d15_27 ?_
    refine r_istoreN [.val (.int x), .val (.int ((10 : Int32) ||| (32 : Int32)))] 29 rfl d15_28 rfl ?_
    refine r_iloadN 30 rfl d15_29 rfl ?_
    refine r_i2c 31 rfl d15_30 ?_
    refine r_nret (t := .char) (42 : Int32) rfl (by simp) (by decide) d15_31 (by decide) (by decide) [] (fun _ q => nomatch q) ?_
    exact ⟨_, rfl, rfl, ⟨by decide, by decide⟩, by decide, by decide, by decide⟩
  refine r_iloadN 19 rfl d15_18 rfl ?_
  refine r_bipush (13 : Int32) 21 rfl d15_19 rfl ?_
  refine r_icmp_ne 29 24 d15_21 (by decide) rfl rfl (fun c194 => ?_) (fun c194 => ?_)
  rotate_left
  · rw [c194]
    refine r_iloadN 25 rfl d15_24 rfl ?_
    refine r_bipush (32 : Int32) 27 rfl d15_25 rfl ?_
    refine r_ior 28 rfl d15_27 ?_
    refine r_istoreN [.val (.int x), .val (.int ((13 : Int32) ||| (32 : Int32)))] 29 rfl d15_28 rfl ?_
    refine r_iloadN 30 rfl d15_29 rfl ?_
    refine r_i2c 31 rfl d15_30 ?_
    refine r_nret (t := .char) (45 : Int32) rfl (by simp) (by decide) d15_31 (by decide) (by decide) [] (fun _ q => nomatch q) ?_
    exact ⟨_, rfl, rfl, ⟨by decide, by decide⟩, by decide, by decide, by decide⟩
  refine r_iloadN 30 rfl d15_29 rfl ?_
  refine r_i2c 31 rfl d15_30 ?_
  refine r_nret (t := .char) (x &&& 255) rfl (by simp) (nc8 x) d15_31 (by decide) (by decide) [] (fun _ q => nomatch q) ?_
  exact ⟨_, rfl, rfl, By.mask x, c192, c193, c194⟩
theorem d16_0 : decode prog_4_method_11_code 0 = .ok (.aload_n 1, 1) := by decide +kernel
theorem d16_1 : decode prog_4_method_11_code 1 = .ok (.instanceof 20, 3) := by decide +kernel
theorem d16_4 : decode prog_4_method_11_code 4 = .ok (.ifCond .ne 5, 3) := by decide +kernel
theorem d16_7 : decode prog_4_method_11_code 7 = .ok (.iconst 0, 1) := by decide +kernel
theorem d16_8 : decode prog_4_method_11_code 8 = .ok (.ireturn, 1) := by decide +kernel
theorem d16_9 : decode prog_4_method_11_code 9 = .ok (.aload_n 1, 1) := by decide +kernel
theorem d16_10 : decode prog_4_method_11_code 10 = .ok (.checkcast 20, 3) := by decide +kernel
theorem d16_13 : decode prog_4_method_11_code 13 = .ok (.astore_n 2, 1) := by decide +kernel
theorem d16_14 : decode prog_4_method_11_code 14 = .ok (.aload_n 0, 1) := by decide +kernel
theorem d16_15 : decode prog_4_method_11_code 15 = .ok (.getfield 34, 3) := by decide +kernel
theorem d16_18 : decode prog_4_method_11_code 18 = .ok (.aload_n 2, 1) := by decide +kernel
theorem d16_19 : decode prog_4_method_11_code 19 = .ok (.getfield 34, 3) := by decide +kernel
theorem d16_22 : decode prog_4_method_11_code 22 = .ok (.lcmp, 1) := by decide +kernel
theorem d16_23 : decode prog_4_method_11_code 23 = .ok (.ifCond .ne 70, 3) := by decide +kernel
theorem d16_26 : decode prog_4_method_11_code 26 = .ok (.aload_n 0, 1) := by decide +kernel
theorem d16_27 : decode prog_4_method_11_code 27 = .ok (.getfield 38, 3) := by decide +kernel
theorem d16_30 : decode prog_4_method_11_code 30 = .ok (.aload_n 2, 1) := by decide +kernel
theorem d16_31 : decode prog_4_method_11_code 31 = .ok (.getfield 38, 3) := by decide +kernel
theorem d16_34 : decode prog_4_method_11_code 34 = .ok (.lcmp, 1) := by decide +kernel
theorem d16_35 : decode prog_4_method_11_code 35 = .ok (.ifCond .ne 58, 3) := by decide +kernel
theorem d16_38 : decode prog_4_method_11_code 38 = .ok (.aload_n 0, 1) := by decide +kernel
theorem d16_39 : decode prog_4_method_11_code 39 = .ok (.getfield 41, 3) := by decide +kernel
theorem d16_42 : decode prog_4_method_11_code 42 = .ok (.aload_n 2, 1) := by decide +kernel
theorem d16_43 : decode prog_4_method_11_code 43 = .ok (.getfield 41, 3) := by decide +kernel
theorem d16_46 : decode prog_4_method_11_code 46 = .ok (.if_icmp .ne 47, 3) := by decide +kernel
theorem d16_49 : decode prog_4_method_11_code 49 = .ok (.aload_n 0, 1) := by decide +kernel
theorem d16_50 : decode prog_4_method_11_code 50 = .ok (.getfield 45, 3) := by decide +kernel
theorem d16_53 : decode prog_4_method_11_code 53 = .ok (.aload_n 2, 1) := by decide +kernel
theorem d16_54 : decode prog_4_method_11_code 54 = .ok (.getfield 45, 3) := by decide +kernel
theorem d16_57 : decode prog_4_method_11_code 57 = .ok (.lcmp, 1) := by decide +kernel
theorem d16_58 : decode prog_4_method_11_code 58 = .ok (.ifCond .ne 35, 3) := by decide +kernel
theorem d16_61 : decode prog_4_method_11_code 61 = .ok (.aload_n 0, 1) := by decide +kernel
theorem d16_62 : decode prog_4_method_11_code 62 = .ok (.getfield 48, 3) := by decide +kernel
theorem d16_65 : decode prog_4_method_11_code 65 = .ok (.aload_n 2, 1) := by decide +kernel
theorem d16_66 : decode prog_4_method_11_code 66 = .ok (.getfield 48, 3) := by decide +kernel
theorem d16_69 : decode prog_4_method_11_code 69 = .ok (.invokevirtual 94, 3) := by decide +kernel
theorem d16_72 : decode prog_4_method_11_code 72 = .ok (.ifCond .eq 21, 3) := by decide +kernel
theorem d16_75 : decode prog_4_method_11_code 75 = .ok (.aload_n 0, 1) := by decide +kernel
theorem d16_76 : decode prog_4_method_11_code 76 = .ok (.getfield 52, 3) := by decide +kernel
theorem d16_79 : decode prog_4_method_11_code 79 = .ok (.aload_n 2, 1) := by decide +kernel
theorem d16_80 : decode prog_4_method_11_code 80 = .ok (.getfield 52, 3) := by decide +kernel
theorem d16_83 : decode prog_4_method_11_code 83 = .ok (.invokevirtual 94, 3) := by decide +kernel
theorem d16_86 : decode prog_4_method_11_code 86 = .ok (.ifCond .eq 7, 3) := by decide +kernel
theorem d16_89 : decode prog_4_method_11_code 89 = .ok (.iconst 1, 1) := by decide +kernel
theorem d16_90 : decode prog_4_method_11_code 90 = .ok (.goto 4, 3) := by decide +kernel
theorem d16_93 : decode prog_4_method_11_code 93 = .ok (.iconst 0, 1) := by decide +kernel
theorem d16_94 : decode prog_4_method_11_code 94 = .ok (.ireturn, 1) := by decide +kernel
abbrev b_eeq : Bx := (⟨"com/example/frontier/frontier/crawllog/CrawlLogEntry", "equals", "(Ljava/lang/Object;)Z"⟩, prog_4_method_11_code, 3, some .boolean, { frames := 3, cells := 0, slots := 0, locals := 44 })
theorem c_eeqN (V : Vw) (hw : ∀ d ∈ tables_1, d.before V.a0 V.Z = true) (e : Nat) (h : Heap) (ps : List Addr) : Con V b_eeq #[.ref e, .null] h ps (Qi 0 h) := Con.of (plainFor_of_name pn_3) (L := [.val (.ref e), .val (.null), .unset]) rfl fun K => by
  refine r_aloadN 1 rfl d16_0 rfl rfl ?_
  refine r_instNull 4 rfl d16_1 ?_
  refine r_if_ne 9 7 d16_4 (by decide) rfl rfl (fun c195 => ?_) (fun c195 => ?_)
  · exact absurd rfl c195
  refine r_iconst (0 : Int32) 8 rfl d16_7 rfl ?_
  refine r_nret (t := .boolean) (0 : Int32) rfl (by simp) rfl d16_8 (by decide) (by decide) [] (fun _ q => nomatch q) ?_
  exact ⟨rfl, rfl⟩
theorem c_eeqS (V : Vw) (hw : ∀ d ∈ tables_1, d.before V.a0 V.Z = true) (e y : Nat) (h : Heap) (ps : List Addr) (E : Exa V.Z h y "java/lang/String") : Con V b_eeq #[.ref e, .ref y] h ps (Qi 0 h) := Con.of (plainFor_of_name pn_3) (L := [.val (.ref e), .val (.ref y), .unset]) rfl fun K => by
  refine r_aloadN 1 rfl d16_0 rfl rfl ?_
  refine r_instNo 4 rfl d16_1 (wd hw 131 rfl) E (noCast (S := "java/lang/Object") (wd hw 138 rfl) (wd hw 139 rfl) (wd hw 46 rfl) (by decide) (by decide)) ?_
  refine r_if_ne 9 7 d16_4 (by decide) rfl rfl (fun c196 => ?_) (fun c196 => ?_)
  · exact absurd rfl c196
  refine r_iconst (0 : Int32) 8 rfl d16_7 rfl ?_
  refine r_nret (t := .boolean) (0 : Int32) rfl (by simp) rfl d16_8 (by decide) (by decide) [] (fun _ q => nomatch q) ?_
  exact ⟨rfl, rfl⟩
theorem c_eeq (V : Vw) (hw : ∀ d ∈ tables_1, d.before V.a0 V.Z = true) (cz : Int32) (hCS : Sta V.Z V.Z.heap "java/lang/String" "COMPACT_STRINGS" "Z" (.int cz)) (hcz : ¬ cz = 0) (e u n e2 u2 n2 : Nat) (s t bd s2 t2 bd2 : Int64) (st st2 : Int32) (mu mn mu2 mn2 : Nat) (cu cn cu2 cn2 : List Int32) (h : Heap) (ps : List Addr) (H : En V h e s t st bd u n) (H2 : En V h e2 s2 t2 st2 bd2 u2 n2) (Su : Str V h mu u cu) (Sn : Str V h mn n cn) (Su2 : Str V h mu2 u2 cu2) (Sn2 : Str V h mn2 n2 cn2) : Con V b_eeq #[.ref e, .ref e2] h ps (Qsm (s = s2 ∧ t = t2 ∧ st = st2 ∧ bd = bd2 ∧ cu = cu2 ∧ cn = cn2) h) := Con.of (plainFor_of_name pn_3) (L := [.val (.ref e), .val (.ref e2), .unset]) rfl fun K => by
  obtain ⟨E, F0, F1, F2, F3, F4, F5⟩ := H
  obtain ⟨E2, G0, G1, G2, G3, G4, G5⟩ := H2
  refine Run.old fun OX => ?_
  refine r_aloadN 1 rfl d16_0 rfl rfl ?_
  refine r_instY 4 rfl d16_1 (wd hw 131 rfl) (Ins.self E2) ?_
  refine r_if_ne 9 7 d16_4 (by decide) rfl rfl (fun c197 => ?_) (fun c197 => ?_)
  rotate_left
  · exact absurd c197 (by decide)
  refine r_aloadN 10 rfl d16_9 rfl rfl ?_
  refine r_cast 13 rfl d16_10 (wd hw 131 rfl) (Ins.self E2) ?_
  refine r_astoreN [.val (.ref e), .val (.ref e2), .val (.ref e2)] 14 rfl d16_13 rfl rfl ?_
  refine r_aloadN 15 rfl d16_14 rfl rfl ?_
  refine r_getfield 18 rfl d16_15 (wd hw 114 rfl) F0 ?_
  refine r_aloadN 19 rfl d16_18 rfl rfl ?_
  refine r_getfield 22 rfl d16_19 (wd hw 114 rfl) G0 ?_
  refine r_lcmp_ne 23 93 26 d16_22 rfl d16_23 (by decide) rfl rfl (fun c198 => ?_) (fun c198 => ?_)
  · refine r_iconst (0 : Int32) 94 rfl d16_93 rfl ?_
    refine r_nret (t := .boolean) (0 : Int32) rfl (by simp) rfl d16_94 (by decide) (by decide) [] (fun _ q => nomatch q) ?_
    exact ⟨_, rfl, rfl, Or.inr ⟨rfl, fun q => c198 q.1⟩⟩
  refine r_aloadN 27 rfl d16_26 rfl rfl ?_
  refine r_getfield 30 rfl d16_27 (wd hw 116 rfl) F1 ?_
  refine r_aloadN 31 rfl d16_30 rfl rfl ?_
  refine r_getfield 34 rfl d16_31 (wd hw 116 rfl) G1 ?_
  refine r_lcmp_ne 35 93 38 d16_34 rfl d16_35 (by decide) rfl rfl (fun c199 => ?_) (fun c199 => ?_)
  · refine r_iconst (0 : Int32) 94 rfl d16_93 rfl ?_
    refine r_nret (t := .boolean) (0 : Int32) rfl (by simp) rfl d16_94 (by decide) (by decide) [] (fun _ q => nomatch q) ?_
    exact ⟨_, rfl, rfl, Or.inr ⟨rfl, fun q => c199 q.2.1⟩⟩
  refine r_aloadN 39 rfl d16_38 rfl rfl ?_
  refine r_getfield 42 rfl d16_39 (wd hw 118 rfl) F2 ?_
  refine r_aloadN 43 rfl d16_42 rfl rfl ?_
  refine r_getfield 46 rfl d16_43 (wd hw 118 rfl) G2 ?_
  refine r_icmp_ne 93 49 d16_46 (by decide) rfl rfl (fun c200 => ?_) (fun c200 => ?_)
  · refine r_iconst (0 : Int32) 94 rfl d16_93 rfl ?_
    refine r_nret (t := .boolean) (0 : Int32) rfl (by simp) rfl d16_94 (by decide) (by decide) [] (fun _ q => nomatch q) ?_
    exact ⟨_, rfl, rfl, Or.inr ⟨rfl, fun q => c200 q.2.2.1⟩⟩
  refine r_aloadN 50 rfl d16_49 rfl rfl ?_
  refine r_getfield 53 rfl d16_50 (wd hw 120 rfl) F3 ?_
  refine r_aloadN 54 rfl d16_53 rfl rfl ?_
  refine r_getfield 57 rfl d16_54 (wd hw 120 rfl) G3 ?_
  refine r_lcmp_ne 58 93 61 d16_57 rfl d16_58 (by decide) rfl rfl (fun c201 => ?_) (fun c201 => ?_)
  · refine r_iconst (0 : Int32) 94 rfl d16_93 rfl ?_
    refine r_nret (t := .boolean) (0 : Int32) rfl (by simp) rfl d16_94 (by decide) (by decide) [] (fun _ q => nomatch q) ?_
    exact ⟨_, rfl, rfl, Or.inr ⟨rfl, fun q => c201 q.2.2.2.1⟩⟩
  refine r_aloadN 62 rfl d16_61 rfl rfl ?_
  refine r_getfield 65 rfl d16_62 (wd hw 122 rfl) F4 ?_
  refine r_aloadN 66 rfl d16_65 rfl rfl ?_
  refine r_getfield 69 rfl d16_66 (wd hw 122 rfl) G4 ?_
  refine r_virtual 72 rfl d16_69 (wd hw 133 rfl) (wd hw 134 rfl) (wd hw 136 rfl) (wd hw 135 rfl) (nfS (wd hw 136 rfl)) (by decide) Su.exa (pay_eq V hw K b_eeq 0 u u2 _ _ cu cu2 h _ Su Su2 OX cz hCS hcz (by decide) (by decide)) (W := 0) (argsL := [.ref u2]) (lenOf pd_12 rfl) rfl rfl rfl (Nat.le_of_eq rfl) (Nat.le_of_ble_eq_true rfl) (Nat.le_of_ble_eq_true rfl) fun v205 h206 ps202 q204 z203 => ?_
  obtain ⟨eu, rfl, es207, heu⟩ := q204
  subst h206
  show Own.Run V K b_eeq _ h _ 0 0 72 [.val (.ref e), .val (.ref e2), .val (.ref e2)] [.int eu]
  refine r_if_eq 93 75 d16_72 (by decide) rfl rfl (fun c208 => ?_) (fun c208 => ?_)
  · refine r_iconst (0 : Int32) 94 rfl d16_93 rfl ?_
    refine r_nret (t := .boolean) (0 : Int32) rfl (by simp) rfl d16_94 (by decide) (by decide) [] (fun _ q => nomatch q) ?_
    exact ⟨_, rfl, rfl, Or.inr ⟨rfl, fun q => bf heu c208 q.2.2.2.2.1⟩⟩
  refine r_aloadN 76 rfl d16_75 rfl rfl ?_
  refine r_getfield 79 rfl d16_76 (wd hw 124 rfl) F5 ?_
  refine r_aloadN 80 rfl d16_79 rfl rfl ?_
  refine r_getfield 83 rfl d16_80 (wd hw 124 rfl) G5 ?_
  refine r_virtual 86 rfl d16_83 (wd hw 133 rfl) (wd hw 134 rfl) (wd hw 136 rfl) (wd hw 135 rfl) (nfS (wd hw 136 rfl)) (by decide) Sn.exa (pay_eq V hw K b_eeq 0 n n2 _ _ cn cn2 h _ Sn Sn2 OX cz hCS hcz (by decide) (by decide)) (W := 0) (argsL := [.ref n2]) (lenOf pd_12 rfl) rfl rfl rfl (Nat.le_of_eq rfl) (Nat.le_of_ble_eq_true rfl) (Nat.le_of_ble_eq_true rfl) fun v212 h213 ps209 q211 z210 => ?_
  obtain ⟨en, rfl, es214, hen⟩ := q211
  subst h213
  show Own.Run V K b_eeq _ h _ 0 0 86 [.val (.ref e), .val (.ref e2), .val (.ref e2)] [.int en]
  refine r_if_eq 93 89 d16_86 (by decide) rfl rfl (fun c215 => ?_) (fun c215 => ?_)
  · refine r_iconst (0 : Int32) 94 rfl d16_93 rfl ?_
    refine r_nret (t := .boolean) (0 : Int32) rfl (by simp) rfl d16_94 (by decide) (by decide) [] (fun _ q => nomatch q) ?_
    exact ⟨_, rfl, rfl, Or.inr ⟨rfl, fun q => bf hen c215 q.2.2.2.2.2⟩⟩
  refine r_iconst (1 : Int32) 90 rfl d16_89 rfl ?_
  refine r_goto 94 d16_90 (by decide) rfl ?_
  refine r_nret (t := .boolean) (1 : Int32) rfl (by simp) rfl d16_94 (by decide) (by decide) [] (fun _ q => nomatch q) ?_
  exact ⟨_, rfl, rfl, Or.inl ⟨rfl, c198, c199, c200, c201, bt heu c208, bt hen c215⟩⟩
abbrev b_law : Bx := (x, code, maxLocals, ret, room_1)
def Q1 : Qt := fun v _ _ => v = some (.int 1)
theorem nn63 (x : Int64) : ¬ (x &&& 9223372036854775807) < 0 := fun q => by
  have h := c_maskL x 9223372036854775807 63 (by decide) (by decide)
  rw [Int64.lt_iff_toInt_lt, h] at q
  have e0 : (0 : Int64).toInt = 0 := rfl
  omega
theorem mm_ok {a b : Int64} (ha : ¬ a < 0) (hb : ¬ b < 0) : ¬ mnJ a b < 0 ∧ ¬ mxJ a b < mnJ a b := by
  rw [Int64.lt_iff_toInt_lt] at ha hb
  unfold mnJ mxJ
  rw [Int64.lt_iff_toInt_lt]
  split <;> split <;> simp only [Int64.lt_iff_toInt_lt] at * <;> omega
theorem mx_ok (a b : Int64) : ¬ mxJ a b < a := by
  unfold mxJ; split <;> simp only [Int64.lt_iff_toInt_lt] at * <;> omega
theorem gd1 {a : Int32} (h : Ok1 a) : Gd [a] := ⟨Nat.succ_pos _, by1 h.1, by simpa [eq_comm] using h.2.1, by simpa [eq_comm] using h.2.2.2, by simpa [eq_comm] using h.2.2.1⟩
theorem gd2 {a b : Int32} (h : Ok1 a) (k : Ok1 b) : Gd [a, b] := ⟨Nat.succ_pos _, byS h.1 (by1 k.1), fun q => (List.mem_cons.mp q).elim (fun z => h.2.1 z.symm) (gd1 k).2.2.1, fun q => (List.mem_cons.mp q).elim (fun z => h.2.2.2 z.symm) (gd1 k).2.2.2.1, fun q => (List.mem_cons.mp q).elim (fun z => h.2.2.1 z.symm) (gd1 k).2.2.2.2⟩
def u2 (f g c d : Int32) : List Int32 := if f = 0 then (if g = 0 then [d] else [c, d]) else [c]
def uq (f g c d : Int32) : Prop := ¬ f = 0 ∨ (g = 0 ∧ c = d)
theorem u2_iff (f g c d : Int32) : [c] = u2 f g c d ↔ uq f g c d := by
  unfold u2 uq
  by_cases hf : f = 0 <;> by_cases hg : g = 0 <;> simp [hf, hg]
theorem u2_gd {f g c d : Int32} (h : Ok1 c) (k : Ok1 d) : Gd (u2 f g c d) := by
  unfold u2; split
  · split
    · exact gd1 k
    · exact gd2 h k
  · exact gd1 h
theorem c_law (V : Vw) (hw : ∀ d ∈ tables_1, d.before V.a0 V.Z = true) (hn : V.nar = false) (cz : Int32) (hCS : Sta V.Z V.Z.heap "java/lang/String" "COMPACT_STRINGS" "Z" (.int cz)) (hcz : ¬ cz = 0) (p0 p1 p2 p3 : Int64) (p4 p5 : Int32) (h : Heap) : Con V b_law #[.long p0, .long p1, .long p2, .long p3, .int p4, .int p5] h [] Q1 := Con.of (plainFor_of_name pn_0) (L := (.val (.long p0) :: .second :: .val (.long p1) :: .second :: .val (.long p2) :: .second :: .val (.long p3) :: .second :: .val (.int p4) :: .val (.int p5) :: .unset :: .unset :: .unset :: .unset :: .unset :: .unset :: .unset :: .unset :: .unset :: .unset :: .unset :: .unset :: .unset :: .unset :: .unset :: .unset :: .unset :: .unset :: .unset :: .unset :: .unset :: .unset :: .unset :: .unset :: .unset :: .unset :: .unset :: .unset :: .unset :: .unset :: .unset :: .unset :: .unset :: .unset :: .unset :: [])) (layL (by simp [Jvm.Sym.laidSlots, Bx.ml, maxLocals, Value.category, List.replicate])) fun K => by
  refine r_lloadN 1 rfl at_0 rfl ?_
  refine r_ldc2J 4 rfl at_1 (wd hw 0 rfl) ?_
  refine r_land 5 rfl at_4 ?_
  refine r_genL fun k216 hk216 => ?_
  refine r_lstore (.val (.long p0) :: .second :: .val (.long p1) :: .second :: .val (.long p2) :: .second :: .val (.long p3) :: .second :: .val (.int p4) :: .val (.int p5) :: .val (.long k216) :: .second :: .unset :: .unset :: .unset :: .unset :: .unset :: .unset :: .unset :: .unset :: .unset :: .unset :: .unset :: .unset :: .unset :: .unset :: .unset :: .unset :: .unset :: .unset :: .unset :: .unset :: .unset :: .unset :: .unset :: .unset :: .unset :: .unset :: .unset :: .unset :: .unset :: .unset :: .unset :: .unset :: .unset :: []) 7 rfl at_5 rfl ?_
  refine r_lloadN 8 rfl at_7 rfl ?_
  refine r_ldc2J 11 rfl at_8 (wd hw 0 rfl) ?_
  refine r_land 12 rfl at_11 ?_
  refine r_genL fun k217 hk217 => ?_
  refine r_lstore (.val (.long p0) :: .second :: .val (.long p1) :: .second :: .val (.long p2) :: .second :: .val (.long p3) :: .second :: .val (.int p4) :: .val (.int p5) :: .val (.long k216) :: .second :: .val (.long k217) :: .second :: .unset :: .unset :: .unset :: .unset :: .unset :: .unset :: .unset :: .unset :: .unset :: .unset :: .unset :: .unset :: .unset :: .unset :: .unset :: .unset :: .unset :: .unset :: .unset :: .unset :: .unset :: .unset :: .unset :: .unset :: .unset :: .unset :: .unset :: .unset :: .unset :: .unset :: .unset :: []) 14 rfl at_12 rfl ?_
  refine r_lload 16 rfl at_14 rfl ?_
  refine r_lload 18 rfl at_16 rfl ?_
  refine r_static 21 rfl at_18 (wd hw 1 rfl) (wd hw 2 rfl) (wd hw 3 rfl) (wd hw 4 rfl) (by decide) (Pays.con (K := K) (B := b_law) (c_minJ V hw k216 k217 h _) (wd hw 4 rfl) (wd hw 3 rfl) (by decide) (by decide)) (W := 0) (argsL := [.long k216, .long k217]) (lenOf pd_0 rfl) rfl rfl rfl (Nat.le_of_eq rfl) (Nat.le_of_ble_eq_true rfl) (Nat.le_of_ble_eq_true rfl) fun v221 h222 ps218 q220 z219 => ?_
  obtain ⟨rfl, es223⟩ := q220
  subst h222
  show Own.Run V K b_law _ h _ 0 0 21 (.val (.long p0) :: .second :: .val (.long p1) :: .second :: .val (.long p2) :: .second :: .val (.long p3) :: .second :: .val (.int p4) :: .val (.int p5) :: .val (.long k216) :: .second :: .val (.long k217) :: .second :: .unset :: .unset :: .unset :: .unset :: .unset :: .unset :: .unset :: .unset :: .unset :: .unset :: .unset :: .unset :: .unset :: .unset :: .unset :: .unset :: .unset :: .unset :: .unset :: .unset :: .unset :: .unset :: .unset :: .unset :: .unset :: .unset :: .unset :: .unset :: .unset :: .unset :: .unset :: []) [.long (mnJ k216 k217)]
  refine r_genL fun k224 hk224 => ?_
  refine r_lstore (.val (.long p0) :: .second :: .val (.long p1) :: .second :: .val (.long p2) :: .second :: .val (.long p3) :: .second :: .val (.int p4) :: .val (.int p5) :: .val (.long k216) :: .second :: .val (.long k217) :: .second :: .val (.long k224) :: .second :: .unset :: .unset :: .unset :: .unset :: .unset :: .unset :: .unset :: .unset :: .unset :: .unset :: .unset :: .unset :: .unset :: .unset :: .unset :: .unset :: .unset :: .unset :: .unset :: .unset :: .unset :: .unset :: .unset :: .unset :: .unset :: .unset :: .unset :: .unset :: .unset :: []) 23 rfl at_21 rfl ?_
  refine r_lload 25 rfl at_23 rfl ?_
  refine r_lload 27 rfl at_25 rfl ?_
  refine r_static 30 rfl at_27 (wd hw 5 rfl) (wd hw 6 rfl) (wd hw 3 rfl) (wd hw 7 rfl) (by decide) (Pays.con (K := K) (B := b_law) (c_maxJ V hw k216 k217 h _) (wd hw 7 rfl) (wd hw 3 rfl) (by decide) (by decide)) (W := 0) (argsL := [.long k216, .long k217]) (lenOf pd_0 rfl) rfl rfl rfl (Nat.le_of_eq rfl) (Nat.le_of_ble_eq_true rfl) (Nat.le_of_ble_eq_true rfl) fun v228 h229 ps225 q227 z226 => ?_
  obtain ⟨rfl, es230⟩ := q227
  subst h229
  show Own.Run V K b_law _ h _ 0 0 30 (.val (.long p0) :: .second :: .val (.long p1) :: .second :: .val (.long p2) :: .second :: .val (.long p3) :: .second :: .val (.int p4) :: .val (.int p5) :: .val (.long k216) :: .second :: .val (.long k217) :: .second :: .val (.long k224) :: .second :: .unset :: .unset :: .unset :: .unset :: .unset :: .unset :: .unset :: .unset :: .unset :: .unset :: .unset :: .unset :: .unset :: .unset :: .unset :: .unset :: .unset :: .unset :: .unset :: .unset :: .unset :: .unset :: .unset :: .unset :: .unset :: .unset :: .unset :: .unset :: .unset :: []) [.long (mxJ k216 k217)]
  refine r_genL fun k231 hk231 => ?_
  refine r_lstore (.val (.long p0) :: .second :: .val (.long p1) :: .second :: .val (.long p2) :: .second :: .val (.long p3) :: .second :: .val (.int p4) :: .val (.int p5) :: .val (.long k216) :: .second :: .val (.long k217) :: .second :: .val (.long k224) :: .second :: .val (.long k231) :: .second :: .unset :: .unset :: .unset :: .unset :: .unset :: .unset :: .unset :: .unset :: .unset :: .unset :: .unset :: .unset :: .unset :: .unset :: .unset :: .unset :: .unset :: .unset :: .unset :: .unset :: .unset :: .unset :: .unset :: .unset :: .unset :: .unset :: .unset :: []) 32 rfl at_30 rfl ?_
  have hst : ¬ k224 < 0 ∧ ¬ k231 < k224 := by rw [hk224, hk231]; exact mm_ok (by rw [hk216]; exact nn63 _) (by rw [hk217]; exact nn63 _)
  refine r_iload 34 rfl at_32 rfl ?_
  refine r_iconst (1 : Int32) 35 rfl at_34 rfl ?_
  refine r_iand 36 rfl at_35 ?_
  have j50 : ∀ {pX : List Addr} (s2 : Int64), ¬ s2 < 0 → Own.Run V K b_law Q1 h pX 0 0 50 (.val (.long p0) :: .second :: .val (.long p1) :: .second :: .val (.long p2) :: .second :: .val (.long p3) :: .second :: .val (.int p4) :: .val (.int p5) :: .val (.long k216) :: .second :: .val (.long k217) :: .second :: .val (.long k224) :: .second :: .val (.long k231) :: .second :: .unset :: .unset :: .unset :: .unset :: .unset :: .unset :: .unset :: .unset :: .unset :: .unset :: .unset :: .unset :: .unset :: .unset :: .unset :: .unset :: .unset :: .unset :: .unset :: .unset :: .unset :: .unset :: .unset :: .unset :: .unset :: .unset :: .unset :: []) [.long s2] := by
    intro pX s2 hs20
    refine r_lstore (.val (.long p0) :: .second :: .val (.long p1) :: .second :: .val (.long p2) :: .second :: .val (.long p3) :: .second :: .val (.int p4) :: .val (.int p5) :: .val (.long k216) :: .second :: .val (.long k217) :: .second :: .val (.long k224) :: .second :: .val (.long k231) :: .second :: .val (.long s2) :: .second :: .unset :: .unset :: .unset :: .unset :: .unset :: .unset :: .unset :: .unset :: .unset :: .unset :: .unset :: .unset :: .unset :: .unset :: .unset :: .unset :: .unset :: .unset :: .unset :: .unset :: .unset :: .unset :: .unset :: .unset :: .unset :: []) 52 rfl at_50 rfl ?_
    refine r_lload 54 rfl at_52 rfl ?_
    refine r_iload 56 rfl at_54 rfl ?_
    refine r_iconst (2 : Int32) 57 rfl at_56 rfl ?_
    refine r_iand 58 rfl at_57 ?_
    have j74 : ∀ {pX : List Addr} (t0 : Int64), Own.Run V K b_law Q1 h pX 0 0 74 (.val (.long p0) :: .second :: .val (.long p1) :: .second :: .val (.long p2) :: .second :: .val (.long p3) :: .second :: .val (.int p4) :: .val (.int p5) :: .val (.long k216) :: .second :: .val (.long k217) :: .second :: .val (.long k224) :: .second :: .val (.long k231) :: .second :: .val (.long s2) :: .second :: .unset :: .unset :: .unset :: .unset :: .unset :: .unset :: .unset :: .unset :: .unset :: .unset :: .unset :: .unset :: .unset :: .unset :: .unset :: .unset :: .unset :: .unset :: .unset :: .unset :: .unset :: .unset :: .unset :: .unset :: .unset :: []) [.long t0, .long s2] := by
      intro pX t0
      refine r_static 77 rfl at_74 (wd hw 5 rfl) (wd hw 6 rfl) (wd hw 3 rfl) (wd hw 7 rfl) (by decide) (Pays.con (K := K) (B := b_law) (c_maxJ V hw s2 t0 h _) (wd hw 7 rfl) (wd hw 3 rfl) (by decide) (by decide)) (W := 0) (argsL := [.long s2, .long t0]) (lenOf pd_0 rfl) rfl rfl rfl (Nat.le_of_eq rfl) (Nat.le_of_ble_eq_true rfl) (Nat.le_of_ble_eq_true rfl) fun v235 h236 ps232 q234 z233 => ?_
      obtain ⟨rfl, es237⟩ := q234
      subst h236
      show Own.Run V K b_law _ h _ 0 0 77 (.val (.long p0) :: .second :: .val (.long p1) :: .second :: .val (.long p2) :: .second :: .val (.long p3) :: .second :: .val (.int p4) :: .val (.int p5) :: .val (.long k216) :: .second :: .val (.long k217) :: .second :: .val (.long k224) :: .second :: .val (.long k231) :: .second :: .val (.long s2) :: .second :: .unset :: .unset :: .unset :: .unset :: .unset :: .unset :: .unset :: .unset :: .unset :: .unset :: .unset :: .unset :: .unset :: .unset :: .unset :: .unset :: .unset :: .unset :: .unset :: .unset :: .unset :: .unset :: .unset :: .unset :: .unset :: []) [.long (mxJ s2 t0)]
      refine r_genL fun k238 hk238 => ?_
      refine r_lstore (.val (.long p0) :: .second :: .val (.long p1) :: .second :: .val (.long p2) :: .second :: .val (.long p3) :: .second :: .val (.int p4) :: .val (.int p5) :: .val (.long k216) :: .second :: .val (.long k217) :: .second :: .val (.long k224) :: .second :: .val (.long k231) :: .second :: .val (.long s2) :: .second :: .val (.long k238) :: .second :: .unset :: .unset :: .unset :: .unset :: .unset :: .unset :: .unset :: .unset :: .unset :: .unset :: .unset :: .unset :: .unset :: .unset :: .unset :: .unset :: .unset :: .unset :: .unset :: .unset :: .unset :: .unset :: .unset :: []) 79 rfl at_77 rfl ?_
      have ht2 : ¬ k238 < s2 := by rw [hk238]; exact mx_ok _ _
      refine r_lload 81 rfl at_79 rfl ?_
      refine r_ldc2J 84 rfl at_81 (wd hw 0 rfl) ?_
      refine r_land 85 rfl at_84 ?_
      refine r_genL fun k239 hk239 => ?_
      refine r_lstore (.val (.long p0) :: .second :: .val (.long p1) :: .second :: .val (.long p2) :: .second :: .val (.long p3) :: .second :: .val (.int p4) :: .val (.int p5) :: .val (.long k216) :: .second :: .val (.long k217) :: .second :: .val (.long k224) :: .second :: .val (.long k231) :: .second :: .val (.long s2) :: .second :: .val (.long k238) :: .second :: .val (.long k239) :: .second :: .unset :: .unset :: .unset :: .unset :: .unset :: .unset :: .unset :: .unset :: .unset :: .unset :: .unset :: .unset :: .unset :: .unset :: .unset :: .unset :: .unset :: .unset :: .unset :: .unset :: .unset :: []) 87 rfl at_85 rfl ?_
      have hb1 : ¬ k239 < 0 := by rw [hk239]; exact nn63 _
      refine r_iload 89 rfl at_87 rfl ?_
      refine r_iconst (4 : Int32) 90 rfl at_89 rfl ?_
      refine r_iand 91 rfl at_90 ?_
      have j108 : ∀ {pX : List Addr} (bd2 : Int64), ¬ bd2 < 0 → Own.Run V K b_law Q1 h pX 0 0 108 (.val (.long p0) :: .second :: .val (.long p1) :: .second :: .val (.long p2) :: .second :: .val (.long p3) :: .second :: .val (.int p4) :: .val (.int p5) :: .val (.long k216) :: .second :: .val (.long k217) :: .second :: .val (.long k224) :: .second :: .val (.long k231) :: .second :: .val (.long s2) :: .second :: .val (.long k238) :: .second :: .val (.long k239) :: .second :: .unset :: .unset :: .unset :: .unset :: .unset :: .unset :: .unset :: .unset :: .unset :: .unset :: .unset :: .unset :: .unset :: .unset :: .unset :: .unset :: .unset :: .unset :: .unset :: .unset :: .unset :: []) [.long bd2] := by
        intro pX bd2 hb2
        refine r_lstore (.val (.long p0) :: .second :: .val (.long p1) :: .second :: .val (.long p2) :: .second :: .val (.long p3) :: .second :: .val (.int p4) :: .val (.int p5) :: .val (.long k216) :: .second :: .val (.long k217) :: .second :: .val (.long k224) :: .second :: .val (.long k231) :: .second :: .val (.long s2) :: .second :: .val (.long k238) :: .second :: .val (.long k239) :: .second :: .val (.long bd2) :: .second :: .unset :: .unset :: .unset :: .unset :: .unset :: .unset :: .unset :: .unset :: .unset :: .unset :: .unset :: .unset :: .unset :: .unset :: .unset :: .unset :: .unset :: .unset :: .unset :: []) 110 rfl at_108 rfl ?_
        refine r_iload 112 rfl at_110 rfl ?_
        refine r_static 115 rfl at_112 (wd hw 8 rfl) (wd hw 9 rfl) (wd hw 10 rfl) (wd hw 11 rfl) (by decide) (Pays.con (K := K) (B := b_law) (c_code V hw p4 h _) (wd hw 11 rfl) (wd hw 10 rfl) (by decide) (by decide)) (W := 0) (argsL := [.int p4]) (lenOf pd_6 rfl) rfl rfl rfl (Nat.le_of_eq rfl) (Nat.le_of_ble_eq_true rfl) (Nat.le_of_ble_eq_true rfl) fun v243 h244 ps240 q242 z241 => ?_
        obtain ⟨st1, rfl, es245, hs1⟩ := q242
        subst h244
        show Own.Run V K b_law _ h _ 0 0 115 (.val (.long p0) :: .second :: .val (.long p1) :: .second :: .val (.long p2) :: .second :: .val (.long p3) :: .second :: .val (.int p4) :: .val (.int p5) :: .val (.long k216) :: .second :: .val (.long k217) :: .second :: .val (.long k224) :: .second :: .val (.long k231) :: .second :: .val (.long s2) :: .second :: .val (.long k238) :: .second :: .val (.long k239) :: .second :: .val (.long bd2) :: .second :: .unset :: .unset :: .unset :: .unset :: .unset :: .unset :: .unset :: .unset :: .unset :: .unset :: .unset :: .unset :: .unset :: .unset :: .unset :: .unset :: .unset :: .unset :: .unset :: []) [.int st1]
        refine r_istore (.val (.long p0) :: .second :: .val (.long p1) :: .second :: .val (.long p2) :: .second :: .val (.long p3) :: .second :: .val (.int p4) :: .val (.int p5) :: .val (.long k216) :: .second :: .val (.long k217) :: .second :: .val (.long k224) :: .second :: .val (.long k231) :: .second :: .val (.long s2) :: .second :: .val (.long k238) :: .second :: .val (.long k239) :: .second :: .val (.long bd2) :: .second :: .val (.int st1) :: .unset :: .unset :: .unset :: .unset :: .unset :: .unset :: .unset :: .unset :: .unset :: .unset :: .unset :: .unset :: .unset :: .unset :: .unset :: .unset :: .unset :: .unset :: []) 117 rfl at_115 rfl ?_
        refine r_iload 119 rfl at_117 rfl ?_
        refine r_bipush (8 : Int32) 121 rfl at_119 rfl ?_
        refine r_iand 122 rfl at_121 ?_
        have j138 : ∀ {pX : List Addr} (st2 : Int32), StOk st2 → Own.Run V K b_law Q1 h pX 0 0 138 (.val (.long p0) :: .second :: .val (.long p1) :: .second :: .val (.long p2) :: .second :: .val (.long p3) :: .second :: .val (.int p4) :: .val (.int p5) :: .val (.long k216) :: .second :: .val (.long k217) :: .second :: .val (.long k224) :: .second :: .val (.long k231) :: .second :: .val (.long s2) :: .second :: .val (.long k238) :: .second :: .val (.long k239) :: .second :: .val (.long bd2) :: .second :: .val (.int st1) :: .unset :: .unset :: .unset :: .unset :: .unset :: .unset :: .unset :: .unset :: .unset :: .unset :: .unset :: .unset :: .unset :: .unset :: .unset :: .unset :: .unset :: .unset :: []) [.int st2] := by
          intro pX st2 hs2
          refine r_istore (.val (.long p0) :: .second :: .val (.long p1) :: .second :: .val (.long p2) :: .second :: .val (.long p3) :: .second :: .val (.int p4) :: .val (.int p5) :: .val (.long k216) :: .second :: .val (.long k217) :: .second :: .val (.long k224) :: .second :: .val (.long k231) :: .second :: .val (.long s2) :: .second :: .val (.long k238) :: .second :: .val (.long k239) :: .second :: .val (.long bd2) :: .second :: .val (.int st1) :: .val (.int st2) :: .unset :: .unset :: .unset :: .unset :: .unset :: .unset :: .unset :: .unset :: .unset :: .unset :: .unset :: .unset :: .unset :: .unset :: .unset :: .unset :: .unset :: []) 140 rfl at_138 rfl ?_
          refine r_iload 142 rfl at_140 rfl ?_
          refine r_bipush (8 : Int32) 144 rfl at_142 rfl ?_
          refine r_iushr 145 rfl at_144 ?_
          refine r_static 148 rfl at_145 (wd hw 12 rfl) (wd hw 13 rfl) (wd hw 10 rfl) (wd hw 14 rfl) (by decide) (Pays.con (K := K) (B := b_law) (c_chh V hw (ushr p5 8) h _) (wd hw 14 rfl) (wd hw 10 rfl) (by decide) (by decide)) (W := 0) (argsL := [.int (ushr p5 (8 : Int32))]) (lenOf pd_11 rfl) rfl rfl rfl (Nat.le_of_eq rfl) (Nat.le_of_ble_eq_true rfl) (Nat.le_of_ble_eq_true rfl) fun v249 h250 ps246 q248 z247 => ?_
          obtain ⟨c0, rfl, es251, hc0⟩ := q248
          subst h250
          show Own.Run V K b_law _ h _ 0 0 148 (.val (.long p0) :: .second :: .val (.long p1) :: .second :: .val (.long p2) :: .second :: .val (.long p3) :: .second :: .val (.int p4) :: .val (.int p5) :: .val (.long k216) :: .second :: .val (.long k217) :: .second :: .val (.long k224) :: .second :: .val (.long k231) :: .second :: .val (.long s2) :: .second :: .val (.long k238) :: .second :: .val (.long k239) :: .second :: .val (.long bd2) :: .second :: .val (.int st1) :: .val (.int st2) :: .unset :: .unset :: .unset :: .unset :: .unset :: .unset :: .unset :: .unset :: .unset :: .unset :: .unset :: .unset :: .unset :: .unset :: .unset :: .unset :: .unset :: []) [.int c0]
          refine r_istore (.val (.long p0) :: .second :: .val (.long p1) :: .second :: .val (.long p2) :: .second :: .val (.long p3) :: .second :: .val (.int p4) :: .val (.int p5) :: .val (.long k216) :: .second :: .val (.long k217) :: .second :: .val (.long k224) :: .second :: .val (.long k231) :: .second :: .val (.long s2) :: .second :: .val (.long k238) :: .second :: .val (.long k239) :: .second :: .val (.long bd2) :: .second :: .val (.int st1) :: .val (.int st2) :: .val (.int c0) :: .unset :: .unset :: .unset :: .unset :: .unset :: .unset :: .unset :: .unset :: .unset :: .unset :: .unset :: .unset :: .unset :: .unset :: .unset :: .unset :: []) 150 rfl at_148 rfl ?_
          refine r_iload 152 rfl at_150 rfl ?_
          refine r_bipush (16 : Int32) 154 rfl at_152 rfl ?_
          refine r_iushr 155 rfl at_154 ?_
          refine r_static 158 rfl at_155 (wd hw 12 rfl) (wd hw 13 rfl) (wd hw 10 rfl) (wd hw 14 rfl) (by decide) (Pays.con (K := K) (B := b_law) (c_chh V hw (ushr p5 16) h _) (wd hw 14 rfl) (wd hw 10 rfl) (by decide) (by decide)) (W := 0) (argsL := [.int (ushr p5 (16 : Int32))]) (lenOf pd_11 rfl) rfl rfl rfl (Nat.le_of_eq rfl) (Nat.le_of_ble_eq_true rfl) (Nat.le_of_ble_eq_true rfl) fun v255 h256 ps252 q254 z253 => ?_
          obtain ⟨c1, rfl, es257, hc1⟩ := q254
          subst h256
          show Own.Run V K b_law _ h _ 0 0 158 (.val (.long p0) :: .second :: .val (.long p1) :: .second :: .val (.long p2) :: .second :: .val (.long p3) :: .second :: .val (.int p4) :: .val (.int p5) :: .val (.long k216) :: .second :: .val (.long k217) :: .second :: .val (.long k224) :: .second :: .val (.long k231) :: .second :: .val (.long s2) :: .second :: .val (.long k238) :: .second :: .val (.long k239) :: .second :: .val (.long bd2) :: .second :: .val (.int st1) :: .val (.int st2) :: .val (.int c0) :: .unset :: .unset :: .unset :: .unset :: .unset :: .unset :: .unset :: .unset :: .unset :: .unset :: .unset :: .unset :: .unset :: .unset :: .unset :: .unset :: []) [.int c1]
          refine r_istore (.val (.long p0) :: .second :: .val (.long p1) :: .second :: .val (.long p2) :: .second :: .val (.long p3) :: .second :: .val (.int p4) :: .val (.int p5) :: .val (.long k216) :: .second :: .val (.long k217) :: .second :: .val (.long k224) :: .second :: .val (.long k231) :: .second :: .val (.long s2) :: .second :: .val (.long k238) :: .second :: .val (.long k239) :: .second :: .val (.long bd2) :: .second :: .val (.int st1) :: .val (.int st2) :: .val (.int c0) :: .val (.int c1) :: .unset :: .unset :: .unset :: .unset :: .unset :: .unset :: .unset :: .unset :: .unset :: .unset :: .unset :: .unset :: .unset :: .unset :: .unset :: []) 160 rfl at_158 rfl ?_
          refine r_iload 162 rfl at_160 rfl ?_
          refine r_bipush (24 : Int32) 164 rfl at_162 rfl ?_
          refine r_iushr 165 rfl at_164 ?_
          refine r_static 168 rfl at_165 (wd hw 12 rfl) (wd hw 13 rfl) (wd hw 10 rfl) (wd hw 14 rfl) (by decide) (Pays.con (K := K) (B := b_law) (c_chh V hw (ushr p5 24) h _) (wd hw 14 rfl) (wd hw 10 rfl) (by decide) (by decide)) (W := 0) (argsL := [.int (ushr p5 (24 : Int32))]) (lenOf pd_11 rfl) rfl rfl rfl (Nat.le_of_eq rfl) (Nat.le_of_ble_eq_true rfl) (Nat.le_of_ble_eq_true rfl) fun v261 h262 ps258 q260 z259 => ?_
          obtain ⟨c2, rfl, es263, hc2⟩ := q260
          subst h262
          show Own.Run V K b_law _ h _ 0 0 168 (.val (.long p0) :: .second :: .val (.long p1) :: .second :: .val (.long p2) :: .second :: .val (.long p3) :: .second :: .val (.int p4) :: .val (.int p5) :: .val (.long k216) :: .second :: .val (.long k217) :: .second :: .val (.long k224) :: .second :: .val (.long k231) :: .second :: .val (.long s2) :: .second :: .val (.long k238) :: .second :: .val (.long k239) :: .second :: .val (.long bd2) :: .second :: .val (.int st1) :: .val (.int st2) :: .val (.int c0) :: .val (.int c1) :: .unset :: .unset :: .unset :: .unset :: .unset :: .unset :: .unset :: .unset :: .unset :: .unset :: .unset :: .unset :: .unset :: .unset :: .unset :: []) [.int c2]
          refine r_istore (.val (.long p0) :: .second :: .val (.long p1) :: .second :: .val (.long p2) :: .second :: .val (.long p3) :: .second :: .val (.int p4) :: .val (.int p5) :: .val (.long k216) :: .second :: .val (.long k217) :: .second :: .val (.long k224) :: .second :: .val (.long k231) :: .second :: .val (.long s2) :: .second :: .val (.long k238) :: .second :: .val (.long k239) :: .second :: .val (.long bd2) :: .second :: .val (.int st1) :: .val (.int st2) :: .val (.int c0) :: .val (.int c1) :: .val (.int c2) :: .unset :: .unset :: .unset :: .unset :: .unset :: .unset :: .unset :: .unset :: .unset :: .unset :: .unset :: .unset :: .unset :: .unset :: []) 170 rfl at_168 rfl ?_
          refine r_iload 172 rfl at_170 rfl ?_
          refine r_bipush (20 : Int32) 174 rfl at_172 rfl ?_
          refine r_iushr 175 rfl at_174 ?_
          refine r_static 178 rfl at_175 (wd hw 12 rfl) (wd hw 13 rfl) (wd hw 10 rfl) (wd hw 14 rfl) (by decide) (Pays.con (K := K) (B := b_law) (c_chh V hw (ushr p4 20) h _) (wd hw 14 rfl) (wd hw 10 rfl) (by decide) (by decide)) (W := 0) (argsL := [.int (ushr p4 (20 : Int32))]) (lenOf pd_11 rfl) rfl rfl rfl (Nat.le_of_eq rfl) (Nat.le_of_ble_eq_true rfl) (Nat.le_of_ble_eq_true rfl) fun v267 h268 ps264 q266 z265 => ?_
          obtain ⟨c3, rfl, es269, hc3⟩ := q266
          subst h268
          show Own.Run V K b_law _ h _ 0 0 178 (.val (.long p0) :: .second :: .val (.long p1) :: .second :: .val (.long p2) :: .second :: .val (.long p3) :: .second :: .val (.int p4) :: .val (.int p5) :: .val (.long k216) :: .second :: .val (.long k217) :: .second :: .val (.long k224) :: .second :: .val (.long k231) :: .second :: .val (.long s2) :: .second :: .val (.long k238) :: .second :: .val (.long k239) :: .second :: .val (.long bd2) :: .second :: .val (.int st1) :: .val (.int st2) :: .val (.int c0) :: .val (.int c1) :: .val (.int c2) :: .unset :: .unset :: .unset :: .unset :: .unset :: .unset :: .unset :: .unset :: .unset :: .unset :: .unset :: .unset :: .unset :: .unset :: []) [.int c3]
          refine r_istore (.val (.long p0) :: .second :: .val (.long p1) :: .second :: .val (.long p2) :: .second :: .val (.long p3) :: .second :: .val (.int p4) :: .val (.int p5) :: .val (.long k216) :: .second :: .val (.long k217) :: .second :: .val (.long k224) :: .second :: .val (.long k231) :: .second :: .val (.long s2) :: .second :: .val (.long k238) :: .second :: .val (.long k239) :: .second :: .val (.long bd2) :: .second :: .val (.int st1) :: .val (.int st2) :: .val (.int c0) :: .val (.int c1) :: .val (.int c2) :: .val (.int c3) :: .unset :: .unset :: .unset :: .unset :: .unset :: .unset :: .unset :: .unset :: .unset :: .unset :: .unset :: .unset :: .unset :: []) 180 rfl at_178 rfl ?_
          refine r_iload 182 rfl at_180 rfl ?_
          refine r_bipush (16 : Int32) 184 rfl at_182 rfl ?_
          refine r_iand 185 rfl at_184 ?_
          have j193 : ∀ {pX : List Addr} (f0 : Int32), Own.Run V K b_law Q1 h pX 0 0 193 (.val (.long p0) :: .second :: .val (.long p1) :: .second :: .val (.long p2) :: .second :: .val (.long p3) :: .second :: .val (.int p4) :: .val (.int p5) :: .val (.long k216) :: .second :: .val (.long k217) :: .second :: .val (.long k224) :: .second :: .val (.long k231) :: .second :: .val (.long s2) :: .second :: .val (.long k238) :: .second :: .val (.long k239) :: .second :: .val (.long bd2) :: .second :: .val (.int st1) :: .val (.int st2) :: .val (.int c0) :: .val (.int c1) :: .val (.int c2) :: .val (.int c3) :: .unset :: .unset :: .unset :: .unset :: .unset :: .unset :: .unset :: .unset :: .unset :: .unset :: .unset :: .unset :: .unset :: []) [.int f0] := by
            intro pX f0
            refine r_istore (.val (.long p0) :: .second :: .val (.long p1) :: .second :: .val (.long p2) :: .second :: .val (.long p3) :: .second :: .val (.int p4) :: .val (.int p5) :: .val (.long k216) :: .second :: .val (.long k217) :: .second :: .val (.long k224) :: .second :: .val (.long k231) :: .second :: .val (.long s2) :: .second :: .val (.long k238) :: .second :: .val (.long k239) :: .second :: .val (.long bd2) :: .second :: .val (.int st1) :: .val (.int st2) :: .val (.int c0) :: .val (.int c1) :: .val (.int c2) :: .val (.int c3) :: .val (.int f0) :: .unset :: .unset :: .unset :: .unset :: .unset :: .unset :: .unset :: .unset :: .unset :: .unset :: .unset :: .unset :: []) 195 rfl at_193 rfl ?_
            refine r_iload 197 rfl at_195 rfl ?_
            refine r_bipush (32 : Int32) 199 rfl at_197 rfl ?_
            refine r_iand 200 rfl at_199 ?_
            have j208 : ∀ {pX : List Addr} (f1 : Int32), Own.Run V K b_law Q1 h pX 0 0 208 (.val (.long p0) :: .second :: .val (.long p1) :: .second :: .val (.long p2) :: .second :: .val (.long p3) :: .second :: .val (.int p4) :: .val (.int p5) :: .val (.long k216) :: .second :: .val (.long k217) :: .second :: .val (.long k224) :: .second :: .val (.long k231) :: .second :: .val (.long s2) :: .second :: .val (.long k238) :: .second :: .val (.long k239) :: .second :: .val (.long bd2) :: .second :: .val (.int st1) :: .val (.int st2) :: .val (.int c0) :: .val (.int c1) :: .val (.int c2) :: .val (.int c3) :: .val (.int f0) :: .unset :: .unset :: .unset :: .unset :: .unset :: .unset :: .unset :: .unset :: .unset :: .unset :: .unset :: .unset :: []) [.int f1] := by
              intro pX f1
              refine r_istore (.val (.long p0) :: .second :: .val (.long p1) :: .second :: .val (.long p2) :: .second :: .val (.long p3) :: .second :: .val (.int p4) :: .val (.int p5) :: .val (.long k216) :: .second :: .val (.long k217) :: .second :: .val (.long k224) :: .second :: .val (.long k231) :: .second :: .val (.long s2) :: .second :: .val (.long k238) :: .second :: .val (.long k239) :: .second :: .val (.long bd2) :: .second :: .val (.int st1) :: .val (.int st2) :: .val (.int c0) :: .val (.int c1) :: .val (.int c2) :: .val (.int c3) :: .val (.int f0) :: .val (.int f1) :: .unset :: .unset :: .unset :: .unset :: .unset :: .unset :: .unset :: .unset :: .unset :: .unset :: .unset :: []) 210 rfl at_208 rfl ?_
              refine r_iload 212 rfl at_210 rfl ?_
              refine r_bipush (64 : Int32) 214 rfl at_212 rfl ?_
              refine r_iand 215 rfl at_214 ?_
              have j223 : ∀ {pX : List Addr} (f2 : Int32), Own.Run V K b_law Q1 h pX 0 0 223 (.val (.long p0) :: .second :: .val (.long p1) :: .second :: .val (.long p2) :: .second :: .val (.long p3) :: .second :: .val (.int p4) :: .val (.int p5) :: .val (.long k216) :: .second :: .val (.long k217) :: .second :: .val (.long k224) :: .second :: .val (.long k231) :: .second :: .val (.long s2) :: .second :: .val (.long k238) :: .second :: .val (.long k239) :: .second :: .val (.long bd2) :: .second :: .val (.int st1) :: .val (.int st2) :: .val (.int c0) :: .val (.int c1) :: .val (.int c2) :: .val (.int c3) :: .val (.int f0) :: .val (.int f1) :: .unset :: .unset :: .unset :: .unset :: .unset :: .unset :: .unset :: .unset :: .unset :: .unset :: .unset :: []) [.int f2] := by
                intro pX f2
                refine r_istore (.val (.long p0) :: .second :: .val (.long p1) :: .second :: .val (.long p2) :: .second :: .val (.long p3) :: .second :: .val (.int p4) :: .val (.int p5) :: .val (.long k216) :: .second :: .val (.long k217) :: .second :: .val (.long k224) :: .second :: .val (.long k231) :: .second :: .val (.long s2) :: .second :: .val (.long k238) :: .second :: .val (.long k239) :: .second :: .val (.long bd2) :: .second :: .val (.int st1) :: .val (.int st2) :: .val (.int c0) :: .val (.int c1) :: .val (.int c2) :: .val (.int c3) :: .val (.int f0) :: .val (.int f1) :: .val (.int f2) :: .unset :: .unset :: .unset :: .unset :: .unset :: .unset :: .unset :: .unset :: .unset :: .unset :: []) 225 rfl at_223 rfl ?_
                refine r_iload 227 rfl at_225 rfl ?_
                refine r_sipush (128 : Int32) 230 rfl at_227 rfl ?_
                refine r_iand 231 rfl at_230 ?_
                have j239 : ∀ {pX : List Addr} (f3 : Int32), Own.Run V K b_law Q1 h pX 0 0 239 (.val (.long p0) :: .second :: .val (.long p1) :: .second :: .val (.long p2) :: .second :: .val (.long p3) :: .second :: .val (.int p4) :: .val (.int p5) :: .val (.long k216) :: .second :: .val (.long k217) :: .second :: .val (.long k224) :: .second :: .val (.long k231) :: .second :: .val (.long s2) :: .second :: .val (.long k238) :: .second :: .val (.long k239) :: .second :: .val (.long bd2) :: .second :: .val (.int st1) :: .val (.int st2) :: .val (.int c0) :: .val (.int c1) :: .val (.int c2) :: .val (.int c3) :: .val (.int f0) :: .val (.int f1) :: .val (.int f2) :: .unset :: .unset :: .unset :: .unset :: .unset :: .unset :: .unset :: .unset :: .unset :: .unset :: []) [.int f3] := by
                  intro pX f3
                  refine r_istore (.val (.long p0) :: .second :: .val (.long p1) :: .second :: .val (.long p2) :: .second :: .val (.long p3) :: .second :: .val (.int p4) :: .val (.int p5) :: .val (.long k216) :: .second :: .val (.long k217) :: .second :: .val (.long k224) :: .second :: .val (.long k231) :: .second :: .val (.long s2) :: .second :: .val (.long k238) :: .second :: .val (.long k239) :: .second :: .val (.long bd2) :: .second :: .val (.int st1) :: .val (.int st2) :: .val (.int c0) :: .val (.int c1) :: .val (.int c2) :: .val (.int c3) :: .val (.int f0) :: .val (.int f1) :: .val (.int f2) :: .val (.int f3) :: .unset :: .unset :: .unset :: .unset :: .unset :: .unset :: .unset :: .unset :: .unset :: []) 241 rfl at_239 rfl ?_
                  refine r_new 244 rfl at_241 (wd hw 15 rfl) (wd hw 16 rfl) (wd hw 17 rfl) (by decide) (by decide) fun a270 h271 ga270 za270 Eh271 Xa270 Da270 => ?_
                  have sh271 := Eh271.1
                  have la270 := ltN Xa270.lt
                  have f272 : Fld V.Z h271 a270 "java/lang/String" "value" "[B" (.null) := Da270 (Or.inr (wd hw 44 rfl)) (ty := (.array .byte)) (by decide)
                  have f273 : Fld V.Z h271 a270 "java/lang/String" "coder" "B" (.int (0 : Int32)) := Da270 (Or.inr (wd hw 42 rfl)) (ty := .byte) (by decide)
                  refine r_dup 245 rfl at_244 rfl ?_
                  refine r_iconst (1 : Int32) 246 rfl at_245 rfl ?_
                  refine r_newarray 1 248 rfl at_246 (wd hw 18 rfl) (by decide) (by decide) (by decide) (by decide) (by decide) fun a274 h275 k276 ga274 za274 Eh275 Aa274 => ?_
                  have f277 := Exa.ext Eh275 Xa270
                  have f278 := Fld.ext Eh275 f272
                  have f279 := Fld.ext Eh275 f273
                  have sh275 := Eh275.1
                  have la274 := ltN Aa274.lt
                  have f280 : Arv V.Z h275 a274 k276 .char (1 : Int32) [.int 0] (.int 0) := Arv.pad Aa274 (pad_rep [] (.int 0) 1)
                  refine r_dup 249 rfl at_248 rfl ?_
                  refine r_iconst (0 : Int32) 250 rfl at_249 rfl ?_
                  refine r_iload 252 rfl at_250 rfl ?_
                  refine r_castore 0 253 rfl at_252 f280 (by decide) rfl (Nat.le_of_ble_eq_true rfl) za274 c0 (nby hc0.1) fun h281 Wh281 f282 => ?_
                  have sh281 := Wh281.size
                  have f283 := Exa.wr Wh281 f277
                  have f284 := Fld.other Wh281 f278 (Or.inl (neA (by omega)))
                  have f285 := Fld.other Wh281 f279 (Or.inl (neA (by omega)))
                  replace f282 : Arv V.Z h281 a274 k276 .char (1 : Int32) [.int c0] (.int 0) := f282
                  refine Run.old fun OXa => ?_
                  have EXa := Ext.wr0 (Ext.trans' Eh271 Eh275) Wh281 (by omega)
                  have la270' : a270 < h281.size := by omega
                  refine r_special 256 rfl at_253 rfl (wd hw 19 rfl) (wd hw 20 rfl) (wd hw 21 rfl) (by decide) (pay_newN V hw K b_law 1 a270 a274 _ [c0] _ h281 _ _ _ _ za270 (Nat.le_trans za270 (Nat.le_of_lt la270')) f283 f284 f285 f282 OXa cz hCS hcz rfl (Nat.le_of_ble_eq_true rfl) (Nat.le_of_ble_eq_true rfl) (by1 hc0.1) (by simp) (by decide) (by decide)) (W := 1) (argsL := [.ref a274]) (lenOf pd_13 rfl) rfl rfl rfl (Nat.le_of_eq rfl) (Nat.le_of_ble_eq_true rfl) (Nat.le_of_ble_eq_true rfl) fun v289 h290 ps286 q288 z287 => ?_
                  obtain ⟨rfl, K1a, S1a⟩ := q288
                  have f291 := Exa.keep f283 K1a
                  have f292 := Arv.keep f282 K1a (ninS (neA (by omega)) nin0)
                  show Own.Run V K b_law _ h290 _ 3 6 256 (.val (.long p0) :: .second :: .val (.long p1) :: .second :: .val (.long p2) :: .second :: .val (.long p3) :: .second :: .val (.int p4) :: .val (.int p5) :: .val (.long k216) :: .second :: .val (.long k217) :: .second :: .val (.long k224) :: .second :: .val (.long k231) :: .second :: .val (.long s2) :: .second :: .val (.long k238) :: .second :: .val (.long k239) :: .second :: .val (.long bd2) :: .second :: .val (.int st1) :: .val (.int st2) :: .val (.int c0) :: .val (.int c1) :: .val (.int c2) :: .val (.int c3) :: .val (.int f0) :: .val (.int f1) :: .val (.int f2) :: .val (.int f3) :: .unset :: .unset :: .unset :: .unset :: .unset :: .unset :: .unset :: .unset :: .unset :: []) [.ref a270]
                  have sh290 := K1a.1
                  have ba270 := S1a.lt
                  refine r_astore (.val (.long p0) :: .second :: .val (.long p1) :: .second :: .val (.long p2) :: .second :: .val (.long p3) :: .second :: .val (.int p4) :: .val (.int p5) :: .val (.long k216) :: .second :: .val (.long k217) :: .second :: .val (.long k224) :: .second :: .val (.long k231) :: .second :: .val (.long s2) :: .second :: .val (.long k238) :: .second :: .val (.long k239) :: .second :: .val (.long bd2) :: .second :: .val (.int st1) :: .val (.int st2) :: .val (.int c0) :: .val (.int c1) :: .val (.int c2) :: .val (.int c3) :: .val (.int f0) :: .val (.int f1) :: .val (.int f2) :: .val (.int f3) :: .val (.ref a270) :: .unset :: .unset :: .unset :: .unset :: .unset :: .unset :: .unset :: .unset :: []) 258 rfl at_256 rfl rfl ?_
                  refine r_iload 260 rfl at_258 rfl ?_
                  have j324 : ∀ (x2 : Nat) (hXj324 : Heap) (pX : List Addr), Ext h290 hXj324 → Str V hXj324 hXj324.size x2 (u2 f0 f2 c0 c1) → Own.Run V K b_law Q1 hXj324 pX 6 14 324 (.val (.long p0) :: .second :: .val (.long p1) :: .second :: .val (.long p2) :: .second :: .val (.long p3) :: .second :: .val (.int p4) :: .val (.int p5) :: .val (.long k216) :: .second :: .val (.long k217) :: .second :: .val (.long k224) :: .second :: .val (.long k231) :: .second :: .val (.long s2) :: .second :: .val (.long k238) :: .second :: .val (.long k239) :: .second :: .val (.long bd2) :: .second :: .val (.int st1) :: .val (.int st2) :: .val (.int c0) :: .val (.int c1) :: .val (.int c2) :: .val (.int c3) :: .val (.int f0) :: .val (.int f1) :: .val (.int f2) :: .val (.int f3) :: .val (.ref a270) :: .unset :: .unset :: .unset :: .unset :: .unset :: .unset :: .unset :: .unset :: []) [.ref x2] := by
                    intro x2 hXj324 pX EXj324 S2
                    have f293 := Str.ext EXj324 S1a
                    have sXj324 := EXj324.1
                    refine r_astore (.val (.long p0) :: .second :: .val (.long p1) :: .second :: .val (.long p2) :: .second :: .val (.long p3) :: .second :: .val (.int p4) :: .val (.int p5) :: .val (.long k216) :: .second :: .val (.long k217) :: .second :: .val (.long k224) :: .second :: .val (.long k231) :: .second :: .val (.long s2) :: .second :: .val (.long k238) :: .second :: .val (.long k239) :: .second :: .val (.long bd2) :: .second :: .val (.int st1) :: .val (.int st2) :: .val (.int c0) :: .val (.int c1) :: .val (.int c2) :: .val (.int c3) :: .val (.int f0) :: .val (.int f1) :: .val (.int f2) :: .val (.int f3) :: .val (.ref a270) :: .val (.ref x2) :: .unset :: .unset :: .unset :: .unset :: .unset :: .unset :: .unset :: []) 326 rfl at_324 rfl rfl ?_
                    refine r_new 329 rfl at_326 (wd hw 15 rfl) (wd hw 16 rfl) (wd hw 17 rfl) (by decide) (by decide) fun a294 h295 ga294 za294 Eh295 Xa294 Da294 => ?_
                    have f296 := Str.ext Eh295 f293
                    have f297 := Str.ext Eh295 S2
                    have sh295 := Eh295.1
                    have la294 := ltN Xa294.lt
                    have f298 : Fld V.Z h295 a294 "java/lang/String" "value" "[B" (.null) := Da294 (Or.inr (wd hw 44 rfl)) (ty := (.array .byte)) (by decide)
                    have f299 : Fld V.Z h295 a294 "java/lang/String" "coder" "B" (.int (0 : Int32)) := Da294 (Or.inr (wd hw 42 rfl)) (ty := .byte) (by decide)
                    refine r_dup 330 rfl at_329 rfl ?_
                    refine r_iconst (1 : Int32) 331 rfl at_330 rfl ?_
                    refine r_newarray 1 333 rfl at_331 (wd hw 18 rfl) (by decide) (by decide) (by decide) (by decide) (by decide) fun a300 h301 k302 ga300 za300 Eh301 Aa300 => ?_
                    have f303 := Str.ext Eh301 f296
                    have f304 := Str.ext Eh301 f297
                    have f305 := Exa.ext Eh301 Xa294
                    have f306 := Fld.ext Eh301 f298
                    have f307 := Fld.ext Eh301 f299
                    have sh301 := Eh301.1
                    have la300 := ltN Aa300.lt
                    have f308 : Arv V.Z h301 a300 k302 .char (1 : Int32) [.int 0] (.int 0) := Arv.pad Aa300 (pad_rep [] (.int 0) 1)
                    refine r_dup 334 rfl at_333 rfl ?_
                    refine r_iconst (0 : Int32) 335 rfl at_334 rfl ?_
                    refine r_iload 337 rfl at_335 rfl ?_
                    refine r_castore 0 338 rfl at_337 f308 (by decide) rfl (Nat.le_of_ble_eq_true rfl) za300 c2 (nby hc2.1) fun h309 Wh309 f310 => ?_
                    have sh309 := Wh309.size
                    have f311 : Str V h309 h290.size a270 [c0] := by first | exact Str.keep (Keep.of_wr Wh309) (fun w hw' => by cases List.mem_singleton.mp hw'; exact leA (by omega)) f303 | exact Str.keepA (Keep.of_wr Wh309) f308 (by decide) (wd hw 16 rfl) f303
                    have f312 : Str V h309 hXj324.size x2 (u2 f0 f2 c0 c1) := by first | exact Str.keep (Keep.of_wr Wh309) (fun w hw' => by cases List.mem_singleton.mp hw'; exact leA (by omega)) f304 | exact Str.keepA (Keep.of_wr Wh309) f308 (by decide) (wd hw 16 rfl) f304
                    have f313 := Exa.wr Wh309 f305
                    have f314 := Fld.other Wh309 f306 (Or.inl (neA (by omega)))
                    have f315 := Fld.other Wh309 f307 (Or.inl (neA (by omega)))
                    replace f310 : Arv V.Z h309 a300 k302 .char (1 : Int32) [.int c2] (.int 0) := f310
                    refine Run.old fun OXb => ?_
                    have EXb := Ext.wr0 (Ext.trans' Eh295 Eh301) Wh309 (by omega)
                    have la294' : a294 < h309.size := by omega
                    refine r_special 341 rfl at_338 rfl (wd hw 19 rfl) (wd hw 20 rfl) (wd hw 21 rfl) (by decide) (pay_newN V hw K b_law 1 a294 a300 _ [c2] _ h309 _ _ _ _ za294 (Nat.le_trans za294 (Nat.le_of_lt la294')) f313 f314 f315 f310 OXb cz hCS hcz rfl (Nat.le_of_ble_eq_true rfl) (Nat.le_of_ble_eq_true rfl) (by1 hc2.1) (by simp) (by decide) (by decide)) (W := 1) (argsL := [.ref a300]) (lenOf pd_13 rfl) rfl rfl rfl (Nat.le_of_eq rfl) (Nat.le_of_ble_eq_true rfl) (Nat.le_of_ble_eq_true rfl) fun v319 h320 ps316 q318 z317 => ?_
                    obtain ⟨rfl, K1b, S1b⟩ := q318
                    have f321 : Str V h320 h290.size a270 [c0] := by first | exact Str.keep K1b (fun w hw' => by cases List.mem_singleton.mp hw'; exact leA (by omega)) f311
                    have f322 : Str V h320 hXj324.size x2 (u2 f0 f2 c0 c1) := by first | exact Str.keep K1b (fun w hw' => by cases List.mem_singleton.mp hw'; exact leA (by omega)) f312
                    have f323 := Exa.keep f313 K1b
                    have f324 := Arv.keep f310 K1b (ninS (neA (by omega)) nin0)
                    show Own.Run V K b_law _ h320 _ 9 20 341 (.val (.long p0) :: .second :: .val (.long p1) :: .second :: .val (.long p2) :: .second :: .val (.long p3) :: .second :: .val (.int p4) :: .val (.int p5) :: .val (.long k216) :: .second :: .val (.long k217) :: .second :: .val (.long k224) :: .second :: .val (.long k231) :: .second :: .val (.long s2) :: .second :: .val (.long k238) :: .second :: .val (.long k239) :: .second :: .val (.long bd2) :: .second :: .val (.int st1) :: .val (.int st2) :: .val (.int c0) :: .val (.int c1) :: .val (.int c2) :: .val (.int c3) :: .val (.int f0) :: .val (.int f1) :: .val (.int f2) :: .val (.int f3) :: .val (.ref a270) :: .val (.ref x2) :: .unset :: .unset :: .unset :: .unset :: .unset :: .unset :: .unset :: []) [.ref a294]
                    have sh320 := K1b.1
                    have ba294 := S1b.lt
                    refine r_astore (.val (.long p0) :: .second :: .val (.long p1) :: .second :: .val (.long p2) :: .second :: .val (.long p3) :: .second :: .val (.int p4) :: .val (.int p5) :: .val (.long k216) :: .second :: .val (.long k217) :: .second :: .val (.long k224) :: .second :: .val (.long k231) :: .second :: .val (.long s2) :: .second :: .val (.long k238) :: .second :: .val (.long k239) :: .second :: .val (.long bd2) :: .second :: .val (.int st1) :: .val (.int st2) :: .val (.int c0) :: .val (.int c1) :: .val (.int c2) :: .val (.int c3) :: .val (.int f0) :: .val (.int f1) :: .val (.int f2) :: .val (.int f3) :: .val (.ref a270) :: .val (.ref x2) :: .val (.ref a294) :: .unset :: .unset :: .unset :: .unset :: .unset :: .unset :: []) 343 rfl at_341 rfl rfl ?_
                    refine r_iload 345 rfl at_343 rfl ?_
                    have j409 : ∀ (x4 : Nat) (hXj409 : Heap) (pX : List Addr), Ext h320 hXj409 → Str V hXj409 hXj409.size x4 (u2 f1 f3 c2 c3) → Own.Run V K b_law Q1 hXj409 pX 12 28 409 (.val (.long p0) :: .second :: .val (.long p1) :: .second :: .val (.long p2) :: .second :: .val (.long p3) :: .second :: .val (.int p4) :: .val (.int p5) :: .val (.long k216) :: .second :: .val (.long k217) :: .second :: .val (.long k224) :: .second :: .val (.long k231) :: .second :: .val (.long s2) :: .second :: .val (.long k238) :: .second :: .val (.long k239) :: .second :: .val (.long bd2) :: .second :: .val (.int st1) :: .val (.int st2) :: .val (.int c0) :: .val (.int c1) :: .val (.int c2) :: .val (.int c3) :: .val (.int f0) :: .val (.int f1) :: .val (.int f2) :: .val (.int f3) :: .val (.ref a270) :: .val (.ref x2) :: .val (.ref a294) :: .unset :: .unset :: .unset :: .unset :: .unset :: .unset :: []) [.ref x4] := by
                      intro x4 hXj409 pX EXj409 S4
                      have f325 := Str.ext EXj409 f321
                      have f326 := Str.ext EXj409 f322
                      have f327 := Str.ext EXj409 S1b
                      have sXj409 := EXj409.1
                      refine r_astore (.val (.long p0) :: .second :: .val (.long p1) :: .second :: .val (.long p2) :: .second :: .val (.long p3) :: .second :: .val (.int p4) :: .val (.int p5) :: .val (.long k216) :: .second :: .val (.long k217) :: .second :: .val (.long k224) :: .second :: .val (.long k231) :: .second :: .val (.long s2) :: .second :: .val (.long k238) :: .second :: .val (.long k239) :: .second :: .val (.long bd2) :: .second :: .val (.int st1) :: .val (.int st2) :: .val (.int c0) :: .val (.int c1) :: .val (.int c2) :: .val (.int c3) :: .val (.int f0) :: .val (.int f1) :: .val (.int f2) :: .val (.int f3) :: .val (.ref a270) :: .val (.ref x2) :: .val (.ref a294) :: .val (.ref x4) :: .unset :: .unset :: .unset :: .unset :: .unset :: []) 411 rfl at_409 rfl rfl ?_
                      refine r_new 414 rfl at_411 (wd hw 45 rfl) (wd hw 46 rfl) (wd hw 47 rfl) (by decide) (by decide) fun ea h328 gea zea Eh328 Xea Dea => ?_
                      have f329 := Str.ext Eh328 f325
                      have f330 := Str.ext Eh328 f326
                      have f331 := Str.ext Eh328 f327
                      have f332 := Str.ext Eh328 S4
                      have sh328 := Eh328.1
                      have lea := ltN Xea.lt
                      have f333 : Fld V.Z h328 ea "com/example/frontier/frontier/crawllog/CrawlLogEntry" "startMillis" "J" (.long (0 : Int64)) := Dea (Or.inr (wd hw 115 rfl)) (ty := .long) (by decide)
                      have f334 : Fld V.Z h328 ea "com/example/frontier/frontier/crawllog/CrawlLogEntry" "endMillis" "J" (.long (0 : Int64)) := Dea (Or.inr (wd hw 117 rfl)) (ty := .long) (by decide)
                      have f335 : Fld V.Z h328 ea "com/example/frontier/frontier/crawllog/CrawlLogEntry" "status" "I" (.int (0 : Int32)) := Dea (Or.inr (wd hw 119 rfl)) (ty := .int) (by decide)
                      have f336 : Fld V.Z h328 ea "com/example/frontier/frontier/crawllog/CrawlLogEntry" "bodyBytes" "J" (.long (0 : Int64)) := Dea (Or.inr (wd hw 121 rfl)) (ty := .long) (by decide)
                      have f337 : Fld V.Z h328 ea "com/example/frontier/frontier/crawllog/CrawlLogEntry" "url" "Ljava/lang/String;" (.null) := Dea (Or.inr (wd hw 123 rfl)) (ty := (.object "java/lang/String")) (by decide)
                      have f338 : Fld V.Z h328 ea "com/example/frontier/frontier/crawllog/CrawlLogEntry" "note" "Ljava/lang/String;" (.null) := Dea (Or.inr (wd hw 125 rfl)) (ty := (.object "java/lang/String")) (by decide)
                      refine r_dup 415 rfl at_414 rfl ?_
                      refine r_lload 417 rfl at_415 rfl ?_
                      refine r_lload 419 rfl at_417 rfl ?_
                      refine r_iload 421 rfl at_419 rfl ?_
                      refine r_lload 423 rfl at_421 rfl ?_
                      refine r_aload 425 rfl at_423 rfl rfl ?_
                      refine r_aload 427 rfl at_425 rfl rfl ?_
                      refine r_special 430 rfl at_427 rfl (wd hw 48 rfl) (wd hw 49 rfl) (wd hw 50 rfl) (by decide) (Pays.con (K := K) (B := b_law) (c_ei V hw hn cz hCS hcz ea a270 a294 k224 k231 k239 st1 ⟨hst.1, hst.2, hs1, hb1⟩ _ _ _ _ (gd1 hc0) (gd1 hc2) h328 _ zea Xea f333 f334 f335 f336 f337 f338 f329 f331) (wd hw 50 rfl) (wd hw 47 rfl) (by decide) (by decide)) (W := 1) (argsL := [.long k224, .long k231, .int st1, .long k239, .ref a270, .ref a294]) (lenOf pd_10 rfl) rfl rfl rfl (Nat.le_of_eq rfl) (Nat.le_of_ble_eq_true rfl) (Nat.le_of_ble_eq_true rfl) fun v342 h343 ps339 q341 z340 => ?_
                      obtain ⟨rfl, Kea, Hea⟩ := q341
                      have f344 : Str V h343 h290.size a270 [c0] := by first | exact Str.keep Kea (fun w hw' => by cases List.mem_singleton.mp hw'; exact leA (by omega)) f329 | exact Str.keepE Kea Xea (by decide) (wd hw 46 rfl) f329
                      have f345 : Str V h343 hXj324.size x2 (u2 f0 f2 c0 c1) := by first | exact Str.keep Kea (fun w hw' => by cases List.mem_singleton.mp hw'; exact leA (by omega)) f330 | exact Str.keepE Kea Xea (by decide) (wd hw 46 rfl) f330
                      have f346 : Str V h343 h320.size a294 [c2] := by first | exact Str.keep Kea (fun w hw' => by cases List.mem_singleton.mp hw'; exact leA (by omega)) f331 | exact Str.keepE Kea Xea (by decide) (wd hw 46 rfl) f331
                      have f347 : Str V h343 hXj409.size x4 (u2 f1 f3 c2 c3) := by first | exact Str.keep Kea (fun w hw' => by cases List.mem_singleton.mp hw'; exact leA (by omega)) f332 | exact Str.keepE Kea Xea (by decide) (wd hw 46 rfl) f332
                      have f348 := Exa.keep Xea Kea
                      show Own.Run V K b_law _ h343 _ 17 70 430 (.val (.long p0) :: .second :: .val (.long p1) :: .second :: .val (.long p2) :: .second :: .val (.long p3) :: .second :: .val (.int p4) :: .val (.int p5) :: .val (.long k216) :: .second :: .val (.long k217) :: .second :: .val (.long k224) :: .second :: .val (.long k231) :: .second :: .val (.long s2) :: .second :: .val (.long k238) :: .second :: .val (.long k239) :: .second :: .val (.long bd2) :: .second :: .val (.int st1) :: .val (.int st2) :: .val (.int c0) :: .val (.int c1) :: .val (.int c2) :: .val (.int c3) :: .val (.int f0) :: .val (.int f1) :: .val (.int f2) :: .val (.int f3) :: .val (.ref a270) :: .val (.ref x2) :: .val (.ref a294) :: .val (.ref x4) :: .unset :: .unset :: .unset :: .unset :: .unset :: []) [.ref ea]
                      have sh343 := Kea.1
                      refine r_astore (.val (.long p0) :: .second :: .val (.long p1) :: .second :: .val (.long p2) :: .second :: .val (.long p3) :: .second :: .val (.int p4) :: .val (.int p5) :: .val (.long k216) :: .second :: .val (.long k217) :: .second :: .val (.long k224) :: .second :: .val (.long k231) :: .second :: .val (.long s2) :: .second :: .val (.long k238) :: .second :: .val (.long k239) :: .second :: .val (.long bd2) :: .second :: .val (.int st1) :: .val (.int st2) :: .val (.int c0) :: .val (.int c1) :: .val (.int c2) :: .val (.int c3) :: .val (.int f0) :: .val (.int f1) :: .val (.int f2) :: .val (.int f3) :: .val (.ref a270) :: .val (.ref x2) :: .val (.ref a294) :: .val (.ref x4) :: .val (.ref ea) :: .unset :: .unset :: .unset :: .unset :: []) 432 rfl at_430 rfl rfl ?_
                      refine r_new 435 rfl at_432 (wd hw 45 rfl) (wd hw 46 rfl) (wd hw 47 rfl) (by decide) (by decide) fun eb h349 geb zeb Eh349 Xeb Deb => ?_
                      have f350 := Str.ext Eh349 f344
                      have f351 := Str.ext Eh349 f345
                      have f352 := Str.ext Eh349 f346
                      have f353 := Str.ext Eh349 f347
                      have f354 := Exa.ext Eh349 f348
                      have f355 := En.ext Eh349 Hea
                      have sh349 := Eh349.1
                      have leb := ltN Xeb.lt
                      have f356 : Fld V.Z h349 eb "com/example/frontier/frontier/crawllog/CrawlLogEntry" "startMillis" "J" (.long (0 : Int64)) := Deb (Or.inr (wd hw 115 rfl)) (ty := .long) (by decide)
                      have f357 : Fld V.Z h349 eb "com/example/frontier/frontier/crawllog/CrawlLogEntry" "endMillis" "J" (.long (0 : Int64)) := Deb (Or.inr (wd hw 117 rfl)) (ty := .long) (by decide)
                      have f358 : Fld V.Z h349 eb "com/example/frontier/frontier/crawllog/CrawlLogEntry" "status" "I" (.int (0 : Int32)) := Deb (Or.inr (wd hw 119 rfl)) (ty := .int) (by decide)
                      have f359 : Fld V.Z h349 eb "com/example/frontier/frontier/crawllog/CrawlLogEntry" "bodyBytes" "J" (.long (0 : Int64)) := Deb (Or.inr (wd hw 121 rfl)) (ty := .long) (by decide)
                      have f360 : Fld V.Z h349 eb "com/example/frontier/frontier/crawllog/CrawlLogEntry" "url" "Ljava/lang/String;" (.null) := Deb (Or.inr (wd hw 123 rfl)) (ty := (.object "java/lang/String")) (by decide)
                      have f361 : Fld V.Z h349 eb "com/example/frontier/frontier/crawllog/CrawlLogEntry" "note" "Ljava/lang/String;" (.null) := Deb (Or.inr (wd hw 125 rfl)) (ty := (.object "java/lang/String")) (by decide)
                      refine r_dup 436 rfl at_435 rfl ?_
                      refine r_lload 438 rfl at_436 rfl ?_
                      refine r_lload 440 rfl at_438 rfl ?_
                      refine r_iload 442 rfl at_440 rfl ?_
                      refine r_lload 444 rfl at_442 rfl ?_
                      refine r_aload 446 rfl at_444 rfl rfl ?_
                      refine r_aload 448 rfl at_446 rfl rfl ?_
                      refine r_special 451 rfl at_448 rfl (wd hw 48 rfl) (wd hw 49 rfl) (wd hw 50 rfl) (by decide) (Pays.con (K := K) (B := b_law) (c_ei V hw hn cz hCS hcz eb x2 x4 s2 k238 bd2 st2 ⟨hs20, ht2, hs2, hb2⟩ _ _ _ _ (u2_gd hc0 hc1) (u2_gd hc2 hc3) h349 _ zeb Xeb f356 f357 f358 f359 f360 f361 f351 f353) (wd hw 50 rfl) (wd hw 47 rfl) (by decide) (by decide)) (W := 1) (argsL := [.long s2, .long k238, .int st2, .long bd2, .ref x2, .ref x4]) (lenOf pd_10 rfl) rfl rfl rfl (Nat.le_of_eq rfl) (Nat.le_of_ble_eq_true rfl) (Nat.le_of_ble_eq_true rfl) fun v365 h366 ps362 q364 z363 => ?_
                      obtain ⟨rfl, Keb, Heb⟩ := q364
                      have f367 : Str V h366 h290.size a270 [c0] := by first | exact Str.keep Keb (fun w hw' => by cases List.mem_singleton.mp hw'; exact leA (by omega)) f350 | exact Str.keepE Keb Xeb (by decide) (wd hw 46 rfl) f350
                      have f368 : Str V h366 hXj324.size x2 (u2 f0 f2 c0 c1) := by first | exact Str.keep Keb (fun w hw' => by cases List.mem_singleton.mp hw'; exact leA (by omega)) f351 | exact Str.keepE Keb Xeb (by decide) (wd hw 46 rfl) f351
                      have f369 : Str V h366 h320.size a294 [c2] := by first | exact Str.keep Keb (fun w hw' => by cases List.mem_singleton.mp hw'; exact leA (by omega)) f352 | exact Str.keepE Keb Xeb (by decide) (wd hw 46 rfl) f352
                      have f370 : Str V h366 hXj409.size x4 (u2 f1 f3 c2 c3) := by first | exact Str.keep Keb (fun w hw' => by cases List.mem_singleton.mp hw'; exact leA (by omega)) f353 | exact Str.keepE Keb Xeb (by decide) (wd hw 46 rfl) f353
                      have f371 := Exa.keep f354 Keb
                      have f372 := En.keep Keb (ninS (neA (by omega)) nin0) f355
                      have f373 := Exa.keep Xeb Keb
                      show Own.Run V K b_law _ h366 _ 22 112 451 (.val (.long p0) :: .second :: .val (.long p1) :: .second :: .val (.long p2) :: .second :: .val (.long p3) :: .second :: .val (.int p4) :: .val (.int p5) :: .val (.long k216) :: .second :: .val (.long k217) :: .second :: .val (.long k224) :: .second :: .val (.long k231) :: .second :: .val (.long s2) :: .second :: .val (.long k238) :: .second :: .val (.long k239) :: .second :: .val (.long bd2) :: .second :: .val (.int st1) :: .val (.int st2) :: .val (.int c0) :: .val (.int c1) :: .val (.int c2) :: .val (.int c3) :: .val (.int f0) :: .val (.int f1) :: .val (.int f2) :: .val (.int f3) :: .val (.ref a270) :: .val (.ref x2) :: .val (.ref a294) :: .val (.ref x4) :: .val (.ref ea) :: .unset :: .unset :: .unset :: .unset :: []) [.ref eb]
                      have sh366 := Keb.1
                      refine r_astore (.val (.long p0) :: .second :: .val (.long p1) :: .second :: .val (.long p2) :: .second :: .val (.long p3) :: .second :: .val (.int p4) :: .val (.int p5) :: .val (.long k216) :: .second :: .val (.long k217) :: .second :: .val (.long k224) :: .second :: .val (.long k231) :: .second :: .val (.long s2) :: .second :: .val (.long k238) :: .second :: .val (.long k239) :: .second :: .val (.long bd2) :: .second :: .val (.int st1) :: .val (.int st2) :: .val (.int c0) :: .val (.int c1) :: .val (.int c2) :: .val (.int c3) :: .val (.int f0) :: .val (.int f1) :: .val (.int f2) :: .val (.int f3) :: .val (.ref a270) :: .val (.ref x2) :: .val (.ref a294) :: .val (.ref x4) :: .val (.ref ea) :: .val (.ref eb) :: .unset :: .unset :: .unset :: []) 453 rfl at_451 rfl rfl ?_
                      refine r_iload 455 rfl at_453 rfl ?_
                      have j475 : ∀ {pX : List Addr} (uqv : Int32), (uqv = 1 ∧ uq f0 f2 c0 c1 ∨ uqv = 0 ∧ ¬ uq f0 f2 c0 c1) → Own.Run V K b_law Q1 h366 pX 22 112 475 (.val (.long p0) :: .second :: .val (.long p1) :: .second :: .val (.long p2) :: .second :: .val (.long p3) :: .second :: .val (.int p4) :: .val (.int p5) :: .val (.long k216) :: .second :: .val (.long k217) :: .second :: .val (.long k224) :: .second :: .val (.long k231) :: .second :: .val (.long s2) :: .second :: .val (.long k238) :: .second :: .val (.long k239) :: .second :: .val (.long bd2) :: .second :: .val (.int st1) :: .val (.int st2) :: .val (.int c0) :: .val (.int c1) :: .val (.int c2) :: .val (.int c3) :: .val (.int f0) :: .val (.int f1) :: .val (.int f2) :: .val (.int f3) :: .val (.ref a270) :: .val (.ref x2) :: .val (.ref a294) :: .val (.ref x4) :: .val (.ref ea) :: .val (.ref eb) :: .unset :: .unset :: .unset :: []) [.int uqv] := by
                        intro pX uqv huq
                        refine r_istore (.val (.long p0) :: .second :: .val (.long p1) :: .second :: .val (.long p2) :: .second :: .val (.long p3) :: .second :: .val (.int p4) :: .val (.int p5) :: .val (.long k216) :: .second :: .val (.long k217) :: .second :: .val (.long k224) :: .second :: .val (.long k231) :: .second :: .val (.long s2) :: .second :: .val (.long k238) :: .second :: .val (.long k239) :: .second :: .val (.long bd2) :: .second :: .val (.int st1) :: .val (.int st2) :: .val (.int c0) :: .val (.int c1) :: .val (.int c2) :: .val (.int c3) :: .val (.int f0) :: .val (.int f1) :: .val (.int f2) :: .val (.int f3) :: .val (.ref a270) :: .val (.ref x2) :: .val (.ref a294) :: .val (.ref x4) :: .val (.ref ea) :: .val (.ref eb) :: .val (.int uqv) :: .unset :: .unset :: []) 477 rfl at_475 rfl ?_
                        refine r_iload 479 rfl at_477 rfl ?_
                        have j499 : ∀ {pX : List Addr} (nq : Int32), (nq = 1 ∧ uq f1 f3 c2 c3 ∨ nq = 0 ∧ ¬ uq f1 f3 c2 c3) → Own.Run V K b_law Q1 h366 pX 22 112 499 (.val (.long p0) :: .second :: .val (.long p1) :: .second :: .val (.long p2) :: .second :: .val (.long p3) :: .second :: .val (.int p4) :: .val (.int p5) :: .val (.long k216) :: .second :: .val (.long k217) :: .second :: .val (.long k224) :: .second :: .val (.long k231) :: .second :: .val (.long s2) :: .second :: .val (.long k238) :: .second :: .val (.long k239) :: .second :: .val (.long bd2) :: .second :: .val (.int st1) :: .val (.int st2) :: .val (.int c0) :: .val (.int c1) :: .val (.int c2) :: .val (.int c3) :: .val (.int f0) :: .val (.int f1) :: .val (.int f2) :: .val (.int f3) :: .val (.ref a270) :: .val (.ref x2) :: .val (.ref a294) :: .val (.ref x4) :: .val (.ref ea) :: .val (.ref eb) :: .val (.int uqv) :: .unset :: .unset :: []) [.int nq] := by
                          intro pX nq hnq
                          refine r_istore (.val (.long p0) :: .second :: .val (.long p1) :: .second :: .val (.long p2) :: .second :: .val (.long p3) :: .second :: .val (.int p4) :: .val (.int p5) :: .val (.long k216) :: .second :: .val (.long k217) :: .second :: .val (.long k224) :: .second :: .val (.long k231) :: .second :: .val (.long s2) :: .second :: .val (.long k238) :: .second :: .val (.long k239) :: .second :: .val (.long bd2) :: .second :: .val (.int st1) :: .val (.int st2) :: .val (.int c0) :: .val (.int c1) :: .val (.int c2) :: .val (.int c3) :: .val (.int f0) :: .val (.int f1) :: .val (.int f2) :: .val (.int f3) :: .val (.ref a270) :: .val (.ref x2) :: .val (.ref a294) :: .val (.ref x4) :: .val (.ref ea) :: .val (.ref eb) :: .val (.int uqv) :: .val (.int nq) :: .unset :: []) 501 rfl at_499 rfl ?_
                          refine r_lload 503 rfl at_501 rfl ?_
                          refine r_lload 505 rfl at_503 rfl ?_
                          have j547 : ∀ {pX : List Addr} (ex : Int32), (ex = 1 ∧ (k224 = s2 ∧ k231 = k238 ∧ st1 = st2 ∧ k239 = bd2 ∧ uq f0 f2 c0 c1 ∧ uq f1 f3 c2 c3) ∨ ex = 0 ∧ ¬ (k224 = s2 ∧ k231 = k238 ∧ st1 = st2 ∧ k239 = bd2 ∧ uq f0 f2 c0 c1 ∧ uq f1 f3 c2 c3)) → Own.Run V K b_law Q1 h366 pX 22 112 547 (.val (.long p0) :: .second :: .val (.long p1) :: .second :: .val (.long p2) :: .second :: .val (.long p3) :: .second :: .val (.int p4) :: .val (.int p5) :: .val (.long k216) :: .second :: .val (.long k217) :: .second :: .val (.long k224) :: .second :: .val (.long k231) :: .second :: .val (.long s2) :: .second :: .val (.long k238) :: .second :: .val (.long k239) :: .second :: .val (.long bd2) :: .second :: .val (.int st1) :: .val (.int st2) :: .val (.int c0) :: .val (.int c1) :: .val (.int c2) :: .val (.int c3) :: .val (.int f0) :: .val (.int f1) :: .val (.int f2) :: .val (.int f3) :: .val (.ref a270) :: .val (.ref x2) :: .val (.ref a294) :: .val (.ref x4) :: .val (.ref ea) :: .val (.ref eb) :: .val (.int uqv) :: .val (.int nq) :: .unset :: []) [.int ex] := by
                            intro pX ex hex
                            refine r_istore (.val (.long p0) :: .second :: .val (.long p1) :: .second :: .val (.long p2) :: .second :: .val (.long p3) :: .second :: .val (.int p4) :: .val (.int p5) :: .val (.long k216) :: .second :: .val (.long k217) :: .second :: .val (.long k224) :: .second :: .val (.long k231) :: .second :: .val (.long s2) :: .second :: .val (.long k238) :: .second :: .val (.long k239) :: .second :: .val (.long bd2) :: .second :: .val (.int st1) :: .val (.int st2) :: .val (.int c0) :: .val (.int c1) :: .val (.int c2) :: .val (.int c3) :: .val (.int f0) :: .val (.int f1) :: .val (.int f2) :: .val (.int f3) :: .val (.ref a270) :: .val (.ref x2) :: .val (.ref a294) :: .val (.ref x4) :: .val (.ref ea) :: .val (.ref eb) :: .val (.int uqv) :: .val (.int nq) :: .val (.int ex) :: []) 549 rfl at_547 rfl ?_
                            refine r_aload 551 rfl at_549 rfl rfl ?_
                            refine r_aload 553 rfl at_551 rfl rfl ?_
                            refine r_virtual 556 rfl at_553 (wd hw 126 rfl) (wd hw 127 rfl) (wd hw 129 rfl) (wd hw 128 rfl) (nfS (wd hw 129 rfl)) (by decide) f371 (Pays.con (K := K) (B := b_law) (c_eeq V hw cz hCS hcz ea a270 a294 eb x2 x4 _ _ _ _ _ _ _ _ _ _ _ _ _ _ _ _ h366 _ f372 Heb f367 f369 f368 f370) (wd hw 130 rfl) (wd hw 47 rfl) (by decide) (by decide)) (W := 0) (argsL := [.ref eb]) (lenOf pd_12 rfl) rfl rfl rfl (Nat.le_of_eq rfl) (Nat.le_of_ble_eq_true rfl) (Nat.le_of_ble_eq_true rfl) fun v377 h378 ps374 q376 z375 => ?_
                            obtain ⟨e1, rfl, es379, he1⟩ := q376
                            subst h378
                            show Own.Run V K b_law _ h366 _ 22 112 556 (.val (.long p0) :: .second :: .val (.long p1) :: .second :: .val (.long p2) :: .second :: .val (.long p3) :: .second :: .val (.int p4) :: .val (.int p5) :: .val (.long k216) :: .second :: .val (.long k217) :: .second :: .val (.long k224) :: .second :: .val (.long k231) :: .second :: .val (.long s2) :: .second :: .val (.long k238) :: .second :: .val (.long k239) :: .second :: .val (.long bd2) :: .second :: .val (.int st1) :: .val (.int st2) :: .val (.int c0) :: .val (.int c1) :: .val (.int c2) :: .val (.int c3) :: .val (.int f0) :: .val (.int f1) :: .val (.int f2) :: .val (.int f3) :: .val (.ref a270) :: .val (.ref x2) :: .val (.ref a294) :: .val (.ref x4) :: .val (.ref ea) :: .val (.ref eb) :: .val (.int uqv) :: .val (.int nq) :: .val (.int ex) :: []) [.int e1]
                            refine r_iload 558 rfl at_556 rfl ?_
                            refine r_icmp_ne 606 561 at_558 (by decide) rfl rfl (fun c380 => ?_) (fun c380 => ?_)
                            · exact absurd (beq he1 hex (by rw [u2_iff, u2_iff])) c380
                            refine r_aload 563 rfl at_561 rfl rfl ?_
                            refine r_aload 565 rfl at_563 rfl rfl ?_
                            refine r_virtual 568 rfl at_565 (wd hw 126 rfl) (wd hw 127 rfl) (wd hw 129 rfl) (wd hw 128 rfl) (nfS (wd hw 129 rfl)) (by decide) f373 (Pays.con (K := K) (B := b_law) (c_eeq V hw cz hCS hcz eb x2 x4 ea a270 a294 _ _ _ _ _ _ _ _ _ _ _ _ _ _ _ _ h366 _ Heb f372 f368 f370 f367 f369) (wd hw 130 rfl) (wd hw 47 rfl) (by decide) (by decide)) (W := 0) (argsL := [.ref ea]) (lenOf pd_12 rfl) rfl rfl rfl (Nat.le_of_eq rfl) (Nat.le_of_ble_eq_true rfl) (Nat.le_of_ble_eq_true rfl) fun v384 h385 ps381 q383 z382 => ?_
                            obtain ⟨e2, rfl, es386, he2⟩ := q383
                            subst h385
                            show Own.Run V K b_law _ h366 _ 22 112 568 (.val (.long p0) :: .second :: .val (.long p1) :: .second :: .val (.long p2) :: .second :: .val (.long p3) :: .second :: .val (.int p4) :: .val (.int p5) :: .val (.long k216) :: .second :: .val (.long k217) :: .second :: .val (.long k224) :: .second :: .val (.long k231) :: .second :: .val (.long s2) :: .second :: .val (.long k238) :: .second :: .val (.long k239) :: .second :: .val (.long bd2) :: .second :: .val (.int st1) :: .val (.int st2) :: .val (.int c0) :: .val (.int c1) :: .val (.int c2) :: .val (.int c3) :: .val (.int f0) :: .val (.int f1) :: .val (.int f2) :: .val (.int f3) :: .val (.ref a270) :: .val (.ref x2) :: .val (.ref a294) :: .val (.ref x4) :: .val (.ref ea) :: .val (.ref eb) :: .val (.int uqv) :: .val (.int nq) :: .val (.int ex) :: []) [.int e2]
                            refine r_iload 570 rfl at_568 rfl ?_
                            refine r_icmp_ne 606 573 at_570 (by decide) rfl rfl (fun c387 => ?_) (fun c387 => ?_)
                            · exact absurd (beq he2 hex ⟨fun q => ⟨q.1.symm, q.2.1.symm, q.2.2.1.symm, q.2.2.2.1.symm, (u2_iff _ _ _ _).mp q.2.2.2.2.1.symm, (u2_iff _ _ _ _).mp q.2.2.2.2.2.symm⟩, fun q => ⟨q.1.symm, q.2.1.symm, q.2.2.1.symm, q.2.2.2.1.symm, ((u2_iff _ _ _ _).mpr q.2.2.2.2.1).symm, ((u2_iff _ _ _ _).mpr q.2.2.2.2.2).symm⟩⟩) c387
                            refine r_aload 575 rfl at_573 rfl rfl ?_
                            refine r_aload 577 rfl at_575 rfl rfl ?_
                            refine r_virtual 580 rfl at_577 (wd hw 126 rfl) (wd hw 127 rfl) (wd hw 129 rfl) (wd hw 128 rfl) (nfS (wd hw 129 rfl)) (by decide) f371 (Pays.con (K := K) (B := b_law) (c_eeq V hw cz hCS hcz ea a270 a294 ea a270 a294 _ _ _ _ _ _ _ _ _ _ _ _ _ _ _ _ h366 _ f372 f372 f367 f369 f367 f369) (wd hw 130 rfl) (wd hw 47 rfl) (by decide) (by decide)) (W := 0) (argsL := [.ref ea]) (lenOf pd_12 rfl) rfl rfl rfl (Nat.le_of_eq rfl) (Nat.le_of_ble_eq_true rfl) (Nat.le_of_ble_eq_true rfl) fun v391 h392 ps388 q390 z389 => ?_
                            obtain ⟨e3, rfl, es393, he3⟩ := q390
                            subst h392
                            show Own.Run V K b_law _ h366 _ 22 112 580 (.val (.long p0) :: .second :: .val (.long p1) :: .second :: .val (.long p2) :: .second :: .val (.long p3) :: .second :: .val (.int p4) :: .val (.int p5) :: .val (.long k216) :: .second :: .val (.long k217) :: .second :: .val (.long k224) :: .second :: .val (.long k231) :: .second :: .val (.long s2) :: .second :: .val (.long k238) :: .second :: .val (.long k239) :: .second :: .val (.long bd2) :: .second :: .val (.int st1) :: .val (.int st2) :: .val (.int c0) :: .val (.int c1) :: .val (.int c2) :: .val (.int c3) :: .val (.int f0) :: .val (.int f1) :: .val (.int f2) :: .val (.int f3) :: .val (.ref a270) :: .val (.ref x2) :: .val (.ref a294) :: .val (.ref x4) :: .val (.ref ea) :: .val (.ref eb) :: .val (.int uqv) :: .val (.int nq) :: .val (.int ex) :: []) [.int e3]
                            refine r_if_eq 606 583 at_580 (by decide) rfl rfl (fun c394 => ?_) (fun c394 => ?_)
                            · exact absurd ⟨rfl, rfl, rfl, rfl, rfl, rfl⟩ (bf he3 c394)
                            refine r_aload 585 rfl at_583 rfl rfl ?_
                            refine r_null 586 rfl at_585 ?_
                            refine r_virtual 589 rfl at_586 (wd hw 126 rfl) (wd hw 127 rfl) (wd hw 129 rfl) (wd hw 128 rfl) (nfS (wd hw 129 rfl)) (by decide) f371 (Pays.con (K := K) (B := b_law) (c_eeqN V hw ea h366 _) (wd hw 130 rfl) (wd hw 47 rfl) (by decide) (by decide)) (W := 0) (argsL := [.null]) (lenOf pd_12 rfl) rfl rfl rfl (Nat.le_of_eq rfl) (Nat.le_of_ble_eq_true rfl) (Nat.le_of_ble_eq_true rfl) fun v398 h399 ps395 q397 z396 => ?_
                            obtain ⟨rfl, es400⟩ := q397
                            subst h399
                            show Own.Run V K b_law _ h366 _ 22 112 589 (.val (.long p0) :: .second :: .val (.long p1) :: .second :: .val (.long p2) :: .second :: .val (.long p3) :: .second :: .val (.int p4) :: .val (.int p5) :: .val (.long k216) :: .second :: .val (.long k217) :: .second :: .val (.long k224) :: .second :: .val (.long k231) :: .second :: .val (.long s2) :: .second :: .val (.long k238) :: .second :: .val (.long k239) :: .second :: .val (.long bd2) :: .second :: .val (.int st1) :: .val (.int st2) :: .val (.int c0) :: .val (.int c1) :: .val (.int c2) :: .val (.int c3) :: .val (.int f0) :: .val (.int f1) :: .val (.int f2) :: .val (.int f3) :: .val (.ref a270) :: .val (.ref x2) :: .val (.ref a294) :: .val (.ref x4) :: .val (.ref ea) :: .val (.ref eb) :: .val (.int uqv) :: .val (.int nq) :: .val (.int ex) :: []) [.int (0 : Int32)]
                            refine r_if_ne 606 592 at_589 (by decide) rfl rfl (fun c401 => ?_) (fun c401 => ?_)
                            · exact absurd rfl c401
                            refine r_aload 594 rfl at_592 rfl rfl ?_
                            refine r_aload 596 rfl at_594 rfl rfl ?_
                            refine r_virtual 599 rfl at_596 (wd hw 126 rfl) (wd hw 127 rfl) (wd hw 129 rfl) (wd hw 128 rfl) (nfS (wd hw 129 rfl)) (by decide) f371 (Pays.con (K := K) (B := b_law) (c_eeqS V hw ea a270 h366 _ f367.exa) (wd hw 130 rfl) (wd hw 47 rfl) (by decide) (by decide)) (W := 0) (argsL := [.ref a270]) (lenOf pd_12 rfl) rfl rfl rfl (Nat.le_of_eq rfl) (Nat.le_of_ble_eq_true rfl) (Nat.le_of_ble_eq_true rfl) fun v405 h406 ps402 q404 z403 => ?_
                            obtain ⟨rfl, es407⟩ := q404
                            subst h406
                            show Own.Run V K b_law _ h366 _ 22 112 599 (.val (.long p0) :: .second :: .val (.long p1) :: .second :: .val (.long p2) :: .second :: .val (.long p3) :: .second :: .val (.int p4) :: .val (.int p5) :: .val (.long k216) :: .second :: .val (.long k217) :: .second :: .val (.long k224) :: .second :: .val (.long k231) :: .second :: .val (.long s2) :: .second :: .val (.long k238) :: .second :: .val (.long k239) :: .second :: .val (.long bd2) :: .second :: .val (.int st1) :: .val (.int st2) :: .val (.int c0) :: .val (.int c1) :: .val (.int c2) :: .val (.int c3) :: .val (.int f0) :: .val (.int f1) :: .val (.int f2) :: .val (.int f3) :: .val (.ref a270) :: .val (.ref x2) :: .val (.ref a294) :: .val (.ref x4) :: .val (.ref ea) :: .val (.ref eb) :: .val (.int uqv) :: .val (.int nq) :: .val (.int ex) :: []) [.int (0 : Int32)]
                            refine r_if_ne 606 602 at_599 (by decide) rfl rfl (fun c408 => ?_) (fun c408 => ?_)
                            · exact absurd rfl c408
                            refine r_iconst (1 : Int32) 603 rfl at_602 rfl ?_
                            refine r_goto 607 at_603 (by decide) rfl ?_
                            refine r_nret (t := .boolean) (1 : Int32) rfl (by simp) rfl at_607 (by decide) (by decide) [] (fun _ q => nomatch q) ?_
                            rfl
                          refine r_lcmp_ne 506 546 509 at_505 rfl at_506 (by decide) rfl rfl (fun c409 => ?_) (fun c409 => ?_)
                          · refine r_iconst (0 : Int32) 547 rfl at_546 rfl ?_
                            exact j547 _ (Or.inr ⟨rfl, fun q => c409 q.1⟩)
                          refine r_lload 511 rfl at_509 rfl ?_
                          refine r_lload 513 rfl at_511 rfl ?_
                          refine r_lcmp_ne 514 546 517 at_513 rfl at_514 (by decide) rfl rfl (fun c410 => ?_) (fun c410 => ?_)
                          · refine r_iconst (0 : Int32) 547 rfl at_546 rfl ?_
                            exact j547 _ (Or.inr ⟨rfl, fun q => c410 q.2.1⟩)
                          refine r_iload 519 rfl at_517 rfl ?_
                          refine r_iload 521 rfl at_519 rfl ?_
                          refine r_icmp_ne 546 524 at_521 (by decide) rfl rfl (fun c411 => ?_) (fun c411 => ?_)
                          · refine r_iconst (0 : Int32) 547 rfl at_546 rfl ?_
                            exact j547 _ (Or.inr ⟨rfl, fun q => c411 q.2.2.1⟩)
                          refine r_lload 526 rfl at_524 rfl ?_
                          refine r_lload 528 rfl at_526 rfl ?_
                          refine r_lcmp_ne 529 546 532 at_528 rfl at_529 (by decide) rfl rfl (fun c412 => ?_) (fun c412 => ?_)
                          · refine r_iconst (0 : Int32) 547 rfl at_546 rfl ?_
                            exact j547 _ (Or.inr ⟨rfl, fun q => c412 q.2.2.2.1⟩)
                          refine r_iload 534 rfl at_532 rfl ?_
                          refine r_if_eq 546 537 at_534 (by decide) rfl rfl (fun c413 => ?_) (fun c413 => ?_)
                          · refine r_iconst (0 : Int32) 547 rfl at_546 rfl ?_
                            exact j547 _ (Or.inr ⟨rfl, fun q => bf huq c413 q.2.2.2.2.1⟩)
                          refine r_iload 539 rfl at_537 rfl ?_
                          refine r_if_eq 546 542 at_539 (by decide) rfl rfl (fun c414 => ?_) (fun c414 => ?_)
                          · refine r_iconst (0 : Int32) 547 rfl at_546 rfl ?_
                            exact j547 _ (Or.inr ⟨rfl, fun q => bf hnq c414 q.2.2.2.2.2⟩)
                          refine r_iconst (1 : Int32) 543 rfl at_542 rfl ?_
                          refine r_goto 547 at_543 (by decide) rfl ?_
                          exact j547 _ (Or.inl ⟨rfl, c409, c410, c411, c412, bt huq c413, bt hnq c414⟩)
                        refine r_if_ne 494 482 at_479 (by decide) rfl rfl (fun c415 => ?_) (fun c415 => ?_)
                        · refine r_iconst (1 : Int32) 495 rfl at_494 rfl ?_
                          refine r_goto 499 at_495 (by decide) rfl ?_
                          exact j499 _ (Or.inl ⟨rfl, Or.inl c415⟩)
                        refine r_iload 484 rfl at_482 rfl ?_
                        refine r_if_ne 498 487 at_484 (by decide) rfl rfl (fun c416 => ?_) (fun c416 => ?_)
                        · refine r_iconst (0 : Int32) 499 rfl at_498 rfl ?_
                          exact j499 _ (Or.inr ⟨rfl, fun q => q.elim (fun z => z c415) (fun z => c416 z.1)⟩)
                        · refine r_iload 489 rfl at_487 rfl ?_
                          refine r_iload 491 rfl at_489 rfl ?_
                          refine r_icmp_ne 498 494 at_491 (by decide) rfl rfl (fun c417 => ?_) (fun c417 => ?_)
                          · refine r_iconst (0 : Int32) 499 rfl at_498 rfl ?_
                            exact j499 _ (Or.inr ⟨rfl, fun q => q.elim (fun z => z c415) (fun z => c417 z.2)⟩)
                          · refine r_iconst (1 : Int32) 495 rfl at_494 rfl ?_
                            refine r_goto 499 at_495 (by decide) rfl ?_
                            exact j499 _ (Or.inl ⟨rfl, Or.inr ⟨c416, c417⟩⟩)
                      refine r_if_ne 470 458 at_455 (by decide) rfl rfl (fun c418 => ?_) (fun c418 => ?_)
                      · refine r_iconst (1 : Int32) 471 rfl at_470 rfl ?_
                        refine r_goto 475 at_471 (by decide) rfl ?_
                        exact j475 _ (Or.inl ⟨rfl, Or.inl c418⟩)
                      refine r_iload 460 rfl at_458 rfl ?_
                      refine r_if_ne 474 463 at_460 (by decide) rfl rfl (fun c419 => ?_) (fun c419 => ?_)
                      · refine r_iconst (0 : Int32) 475 rfl at_474 rfl ?_
                        exact j475 _ (Or.inr ⟨rfl, fun q => q.elim (fun z => z c418) (fun z => c419 z.1)⟩)
                      · refine r_iload 465 rfl at_463 rfl ?_
                        refine r_iload 467 rfl at_465 rfl ?_
                        refine r_icmp_ne 474 470 at_467 (by decide) rfl rfl (fun c420 => ?_) (fun c420 => ?_)
                        · refine r_iconst (0 : Int32) 475 rfl at_474 rfl ?_
                          exact j475 _ (Or.inr ⟨rfl, fun q => q.elim (fun z => z c418) (fun z => c420 z.2)⟩)
                        · refine r_iconst (1 : Int32) 471 rfl at_470 rfl ?_
                          refine r_goto 475 at_471 (by decide) rfl ?_
                          exact j475 _ (Or.inl ⟨rfl, Or.inr ⟨c419, c420⟩⟩)
                    refine r_if_eq 366 348 at_345 (by decide) rfl rfl (fun c421 => ?_) (fun c421 => ?_)
                    rotate_left
                    · refine r_new 351 rfl at_348 (wd hw 15 rfl) (wd hw 16 rfl) (wd hw 17 rfl) (by decide) (by decide) fun a422 h423 ga422 za422 Eh423 Xa422 Da422 => ?_
                      have f424 := Str.ext Eh423 f321
                      have f425 := Str.ext Eh423 f322
                      have f426 := Str.ext Eh423 S1b
                      have sh423 := Eh423.1
                      have la422 := ltN Xa422.lt
                      have f427 : Fld V.Z h423 a422 "java/lang/String" "value" "[B" (.null) := Da422 (Or.inr (wd hw 44 rfl)) (ty := (.array .byte)) (by decide)
                      have f428 : Fld V.Z h423 a422 "java/lang/String" "coder" "B" (.int (0 : Int32)) := Da422 (Or.inr (wd hw 42 rfl)) (ty := .byte) (by decide)
                      refine r_dup 352 rfl at_351 rfl ?_
                      refine r_iconst (1 : Int32) 353 rfl at_352 rfl ?_
                      refine r_newarray 1 355 rfl at_353 (wd hw 18 rfl) (by decide) (by decide) (by decide) (by decide) (by decide) fun a429 h430 k431 ga429 za429 Eh430 Aa429 => ?_
                      have f432 := Str.ext Eh430 f424
                      have f433 := Str.ext Eh430 f425
                      have f434 := Str.ext Eh430 f426
                      have f435 := Exa.ext Eh430 Xa422
                      have f436 := Fld.ext Eh430 f427
                      have f437 := Fld.ext Eh430 f428
                      have sh430 := Eh430.1
                      have la429 := ltN Aa429.lt
                      have f438 : Arv V.Z h430 a429 k431 .char (1 : Int32) [.int 0] (.int 0) := Arv.pad Aa429 (pad_rep [] (.int 0) 1)
                      refine r_dup 356 rfl at_355 rfl ?_
                      refine r_iconst (0 : Int32) 357 rfl at_356 rfl ?_
                      refine r_iload 359 rfl at_357 rfl ?_
                      refine r_castore 0 360 rfl at_359 f438 (by decide) rfl (Nat.le_of_ble_eq_true rfl) za429 c2 (nby hc2.1) fun h439 Wh439 f440 => ?_
                      have sh439 := Wh439.size
                      have f441 : Str V h439 h290.size a270 [c0] := by first | exact Str.keep (Keep.of_wr Wh439) (fun w hw' => by cases List.mem_singleton.mp hw'; exact leA (by omega)) f432 | exact Str.keepA (Keep.of_wr Wh439) f438 (by decide) (wd hw 16 rfl) f432
                      have f442 : Str V h439 hXj324.size x2 (u2 f0 f2 c0 c1) := by first | exact Str.keep (Keep.of_wr Wh439) (fun w hw' => by cases List.mem_singleton.mp hw'; exact leA (by omega)) f433 | exact Str.keepA (Keep.of_wr Wh439) f438 (by decide) (wd hw 16 rfl) f433
                      have f443 : Str V h439 h320.size a294 [c2] := by first | exact Str.keep (Keep.of_wr Wh439) (fun w hw' => by cases List.mem_singleton.mp hw'; exact leA (by omega)) f434 | exact Str.keepA (Keep.of_wr Wh439) f438 (by decide) (wd hw 16 rfl) f434
                      have f444 := Exa.wr Wh439 f435
                      have f445 := Fld.other Wh439 f436 (Or.inl (neA (by omega)))
                      have f446 := Fld.other Wh439 f437 (Or.inl (neA (by omega)))
                      replace f440 : Arv V.Z h439 a429 k431 .char (1 : Int32) [.int c2] (.int 0) := f440
                      refine Run.old fun OXc => ?_
                      have EXc := Ext.wr0 (Ext.trans' Eh423 Eh430) Wh439 (by omega)
                      have la422' : a422 < h439.size := by omega
                      refine r_special 363 rfl at_360 rfl (wd hw 19 rfl) (wd hw 20 rfl) (wd hw 21 rfl) (by decide) (pay_newN V hw K b_law 1 a422 a429 _ [c2] _ h439 _ _ _ _ za422 (Nat.le_trans za422 (Nat.le_of_lt la422')) f444 f445 f446 f440 OXc cz hCS hcz rfl (Nat.le_of_ble_eq_true rfl) (Nat.le_of_ble_eq_true rfl) (by1 hc2.1) (by simp) (by decide) (by decide)) (W := 1) (argsL := [.ref a429]) (lenOf pd_13 rfl) rfl rfl rfl (Nat.le_of_eq rfl) (Nat.le_of_ble_eq_true rfl) (Nat.le_of_ble_eq_true rfl) fun v450 h451 ps447 q449 z448 => ?_
                      obtain ⟨rfl, K1c, S1c⟩ := q449
                      have f452 : Str V h451 h290.size a270 [c0] := by first | exact Str.keep K1c (fun w hw' => by cases List.mem_singleton.mp hw'; exact leA (by omega)) f441
                      have f453 : Str V h451 hXj324.size x2 (u2 f0 f2 c0 c1) := by first | exact Str.keep K1c (fun w hw' => by cases List.mem_singleton.mp hw'; exact leA (by omega)) f442
                      have f454 : Str V h451 h320.size a294 [c2] := by first | exact Str.keep K1c (fun w hw' => by cases List.mem_singleton.mp hw'; exact leA (by omega)) f443
                      have f455 := Exa.keep f444 K1c
                      have f456 := Arv.keep f440 K1c (ninS (neA (by omega)) nin0)
                      show Own.Run V K b_law _ h451 _ 12 26 363 (.val (.long p0) :: .second :: .val (.long p1) :: .second :: .val (.long p2) :: .second :: .val (.long p3) :: .second :: .val (.int p4) :: .val (.int p5) :: .val (.long k216) :: .second :: .val (.long k217) :: .second :: .val (.long k224) :: .second :: .val (.long k231) :: .second :: .val (.long s2) :: .second :: .val (.long k238) :: .second :: .val (.long k239) :: .second :: .val (.long bd2) :: .second :: .val (.int st1) :: .val (.int st2) :: .val (.int c0) :: .val (.int c1) :: .val (.int c2) :: .val (.int c3) :: .val (.int f0) :: .val (.int f1) :: .val (.int f2) :: .val (.int f3) :: .val (.ref a270) :: .val (.ref x2) :: .val (.ref a294) :: .unset :: .unset :: .unset :: .unset :: .unset :: .unset :: []) [.ref a422]
                      have sh451 := K1c.1
                      have ba422 := S1c.lt
                      refine r_goto 409 at_363 (by decide) rfl ?_
                      exact (j409 _ _ _ (Keep.ext0 EXc K1c (fun w hw' => by cases List.mem_singleton.mp hw'; exact leA (by omega))) (by rw [show u2 f1 f3 c2 c3 = [c2] from if_neg c421]; exact S1c)).more (by decide) (by decide)
                    refine r_iload 368 rfl at_366 rfl ?_
                    refine r_if_eq 394 371 at_368 (by decide) rfl rfl (fun c457 => ?_) (fun c457 => ?_)
                    rotate_left
                    · refine r_new 374 rfl at_371 (wd hw 15 rfl) (wd hw 16 rfl) (wd hw 17 rfl) (by decide) (by decide) fun a458 h459 ga458 za458 Eh459 Xa458 Da458 => ?_
                      have f460 := Str.ext Eh459 f321
                      have f461 := Str.ext Eh459 f322
                      have f462 := Str.ext Eh459 S1b
                      have sh459 := Eh459.1
                      have la458 := ltN Xa458.lt
                      have f463 : Fld V.Z h459 a458 "java/lang/String" "value" "[B" (.null) := Da458 (Or.inr (wd hw 44 rfl)) (ty := (.array .byte)) (by decide)
                      have f464 : Fld V.Z h459 a458 "java/lang/String" "coder" "B" (.int (0 : Int32)) := Da458 (Or.inr (wd hw 42 rfl)) (ty := .byte) (by decide)
                      refine r_dup 375 rfl at_374 rfl ?_
                      refine r_iconst (2 : Int32) 376 rfl at_375 rfl ?_
                      refine r_newarray 2 378 rfl at_376 (wd hw 18 rfl) (by decide) (by decide) (by decide) (by decide) (by decide) fun a465 h466 k467 ga465 za465 Eh466 Aa465 => ?_
                      have f468 := Str.ext Eh466 f460
                      have f469 := Str.ext Eh466 f461
                      have f470 := Str.ext Eh466 f462
                      have f471 := Exa.ext Eh466 Xa458
                      have f472 := Fld.ext Eh466 f463
                      have f473 := Fld.ext Eh466 f464
                      have sh466 := Eh466.1
                      have la465 := ltN Aa465.lt
                      have f474 : Arv V.Z h466 a465 k467 .char (2 : Int32) [.int 0, .int 0] (.int 0) := Arv.pad Aa465 (pad_rep [] (.int 0) 2)
                      refine r_dup 379 rfl at_378 rfl ?_
                      refine r_iconst (0 : Int32) 380 rfl at_379 rfl ?_
                      refine r_iload 382 rfl at_380 rfl ?_
                      refine r_castore 0 383 rfl at_382 f474 (by decide) rfl (Nat.le_of_ble_eq_true rfl) za465 c2 (nby hc2.1) fun h475 Wh475 f476 => ?_
                      have sh475 := Wh475.size
                      have f477 : Str V h475 h290.size a270 [c0] := by first | exact Str.keep (Keep.of_wr Wh475) (fun w hw' => by cases List.mem_singleton.mp hw'; exact leA (by omega)) f468 | exact Str.keepA (Keep.of_wr Wh475) f474 (by decide) (wd hw 16 rfl) f468
                      have f478 : Str V h475 hXj324.size x2 (u2 f0 f2 c0 c1) := by first | exact Str.keep (Keep.of_wr Wh475) (fun w hw' => by cases List.mem_singleton.mp hw'; exact leA (by omega)) f469 | exact Str.keepA (Keep.of_wr Wh475) f474 (by decide) (wd hw 16 rfl) f469
                      have f479 : Str V h475 h320.size a294 [c2] := by first | exact Str.keep (Keep.of_wr Wh475) (fun w hw' => by cases List.mem_singleton.mp hw'; exact leA (by omega)) f470 | exact Str.keepA (Keep.of_wr Wh475) f474 (by decide) (wd hw 16 rfl) f470
                      have f480 := Exa.wr Wh475 f471
                      have f481 := Fld.other Wh475 f472 (Or.inl (neA (by omega)))
                      have f482 := Fld.other Wh475 f473 (Or.inl (neA (by omega)))
                      replace f476 : Arv V.Z h475 a465 k467 .char (2 : Int32) [.int c2, .int 0] (.int 0) := f476
                      refine r_dup 384 rfl at_383 rfl ?_
                      refine r_iconst (1 : Int32) 385 rfl at_384 rfl ?_
                      refine r_iload 387 rfl at_385 rfl ?_
                      refine r_castore 1 388 rfl at_387 f476 (by decide) rfl (Nat.le_of_ble_eq_true rfl) za465 c3 (nby hc3.1) fun h483 Wh483 f484 => ?_
                      have sh483 := Wh483.size
                      have f485 : Str V h483 h290.size a270 [c0] := by first | exact Str.keep (Keep.of_wr Wh483) (fun w hw' => by cases List.mem_singleton.mp hw'; exact leA (by omega)) f477 | exact Str.keepA (Keep.of_wr Wh483) f476 (by decide) (wd hw 16 rfl) f477
                      have f486 : Str V h483 hXj324.size x2 (u2 f0 f2 c0 c1) := by first | exact Str.keep (Keep.of_wr Wh483) (fun w hw' => by cases List.mem_singleton.mp hw'; exact leA (by omega)) f478 | exact Str.keepA (Keep.of_wr Wh483) f476 (by decide) (wd hw 16 rfl) f478
                      have f487 : Str V h483 h320.size a294 [c2] := by first | exact Str.keep (Keep.of_wr Wh483) (fun w hw' => by cases List.mem_singleton.mp hw'; exact leA (by omega)) f479 | exact Str.keepA (Keep.of_wr Wh483) f476 (by decide) (wd hw 16 rfl) f479
                      have f488 := Exa.wr Wh483 f480
                      have f489 := Fld.other Wh483 f481 (Or.inl (neA (by omega)))
                      have f490 := Fld.other Wh483 f482 (Or.inl (neA (by omega)))
                      replace f484 : Arv V.Z h483 a465 k467 .char (2 : Int32) [.int c2, .int c3] (.int 0) := f484
                      refine Run.old fun OXc => ?_
                      have EXc := Ext.wr0 (Ext.wr0 (Ext.trans' Eh459 Eh466) Wh475 (by omega)) Wh483 (by omega)
                      have la458' : a458 < h483.size := by omega
                      refine r_special 391 rfl at_388 rfl (wd hw 19 rfl) (wd hw 20 rfl) (wd hw 21 rfl) (by decide) (pay_newN V hw K b_law 1 a458 a465 _ [c2, c3] _ h483 _ _ _ _ za458 (Nat.le_trans za458 (Nat.le_of_lt la458')) f488 f489 f490 f484 OXc cz hCS hcz rfl (Nat.le_of_ble_eq_true rfl) (Nat.le_of_ble_eq_true rfl) (byS hc2.1 (by1 hc3.1)) (by simp) (by decide) (by decide)) (W := 1) (argsL := [.ref a465]) (lenOf pd_13 rfl) rfl rfl rfl (Nat.le_of_eq rfl) (Nat.le_of_ble_eq_true rfl) (Nat.le_of_ble_eq_true rfl) fun v494 h495 ps491 q493 z492 => ?_
                      obtain ⟨rfl, K1c, S1c⟩ := q493
                      have f496 : Str V h495 h290.size a270 [c0] := by first | exact Str.keep K1c (fun w hw' => by cases List.mem_singleton.mp hw'; exact leA (by omega)) f485
                      have f497 : Str V h495 hXj324.size x2 (u2 f0 f2 c0 c1) := by first | exact Str.keep K1c (fun w hw' => by cases List.mem_singleton.mp hw'; exact leA (by omega)) f486
                      have f498 : Str V h495 h320.size a294 [c2] := by first | exact Str.keep K1c (fun w hw' => by cases List.mem_singleton.mp hw'; exact leA (by omega)) f487
                      have f499 := Exa.keep f488 K1c
                      have f500 := Arv.keep f484 K1c (ninS (neA (by omega)) nin0)
                      show Own.Run V K b_law _ h495 _ 12 28 391 (.val (.long p0) :: .second :: .val (.long p1) :: .second :: .val (.long p2) :: .second :: .val (.long p3) :: .second :: .val (.int p4) :: .val (.int p5) :: .val (.long k216) :: .second :: .val (.long k217) :: .second :: .val (.long k224) :: .second :: .val (.long k231) :: .second :: .val (.long s2) :: .second :: .val (.long k238) :: .second :: .val (.long k239) :: .second :: .val (.long bd2) :: .second :: .val (.int st1) :: .val (.int st2) :: .val (.int c0) :: .val (.int c1) :: .val (.int c2) :: .val (.int c3) :: .val (.int f0) :: .val (.int f1) :: .val (.int f2) :: .val (.int f3) :: .val (.ref a270) :: .val (.ref x2) :: .val (.ref a294) :: .unset :: .unset :: .unset :: .unset :: .unset :: .unset :: []) [.ref a458]
                      have sh495 := K1c.1
                      have ba458 := S1c.lt
                      refine r_goto 409 at_391 (by decide) rfl ?_
                      exact (j409 _ _ _ (Keep.ext0 EXc K1c (fun w hw' => by cases List.mem_singleton.mp hw'; exact leA (by omega))) (by rw [show u2 f1 f3 c2 c3 = [c2, c3] from (if_pos c421).trans (if_neg c457)]; exact S1c)).more (by decide) (by decide)
                    refine r_new 397 rfl at_394 (wd hw 15 rfl) (wd hw 16 rfl) (wd hw 17 rfl) (by decide) (by decide) fun a501 h502 ga501 za501 Eh502 Xa501 Da501 => ?_
                    have f503 := Str.ext Eh502 f321
                    have f504 := Str.ext Eh502 f322
                    have f505 := Str.ext Eh502 S1b
                    have sh502 := Eh502.1
                    have la501 := ltN Xa501.lt
                    have f506 : Fld V.Z h502 a501 "java/lang/String" "value" "[B" (.null) := Da501 (Or.inr (wd hw 44 rfl)) (ty := (.array .byte)) (by decide)
                    have f507 : Fld V.Z h502 a501 "java/lang/String" "coder" "B" (.int (0 : Int32)) := Da501 (Or.inr (wd hw 42 rfl)) (ty := .byte) (by decide)
                    refine r_dup 398 rfl at_397 rfl ?_
                    refine r_iconst (1 : Int32) 399 rfl at_398 rfl ?_
                    refine r_newarray 1 401 rfl at_399 (wd hw 18 rfl) (by decide) (by decide) (by decide) (by decide) (by decide) fun a508 h509 k510 ga508 za508 Eh509 Aa508 => ?_
                    have f511 := Str.ext Eh509 f503
                    have f512 := Str.ext Eh509 f504
                    have f513 := Str.ext Eh509 f505
                    have f514 := Exa.ext Eh509 Xa501
                    have f515 := Fld.ext Eh509 f506
                    have f516 := Fld.ext Eh509 f507
                    have sh509 := Eh509.1
                    have la508 := ltN Aa508.lt
                    have f517 : Arv V.Z h509 a508 k510 .char (1 : Int32) [.int 0] (.int 0) := Arv.pad Aa508 (pad_rep [] (.int 0) 1)
                    refine r_dup 402 rfl at_401 rfl ?_
                    refine r_iconst (0 : Int32) 403 rfl at_402 rfl ?_
                    refine r_iload 405 rfl at_403 rfl ?_
                    refine r_castore 0 406 rfl at_405 f517 (by decide) rfl (Nat.le_of_ble_eq_true rfl) za508 c3 (nby hc3.1) fun h518 Wh518 f519 => ?_
                    have sh518 := Wh518.size
                    have f520 : Str V h518 h290.size a270 [c0] := by first | exact Str.keep (Keep.of_wr Wh518) (fun w hw' => by cases List.mem_singleton.mp hw'; exact leA (by omega)) f511 | exact Str.keepA (Keep.of_wr Wh518) f517 (by decide) (wd hw 16 rfl) f511
                    have f521 : Str V h518 hXj324.size x2 (u2 f0 f2 c0 c1) := by first | exact Str.keep (Keep.of_wr Wh518) (fun w hw' => by cases List.mem_singleton.mp hw'; exact leA (by omega)) f512 | exact Str.keepA (Keep.of_wr Wh518) f517 (by decide) (wd hw 16 rfl) f512
                    have f522 : Str V h518 h320.size a294 [c2] := by first | exact Str.keep (Keep.of_wr Wh518) (fun w hw' => by cases List.mem_singleton.mp hw'; exact leA (by omega)) f513 | exact Str.keepA (Keep.of_wr Wh518) f517 (by decide) (wd hw 16 rfl) f513
                    have f523 := Exa.wr Wh518 f514
                    have f524 := Fld.other Wh518 f515 (Or.inl (neA (by omega)))
                    have f525 := Fld.other Wh518 f516 (Or.inl (neA (by omega)))
                    replace f519 : Arv V.Z h518 a508 k510 .char (1 : Int32) [.int c3] (.int 0) := f519
                    refine Run.old fun OXc => ?_
                    have EXc := Ext.wr0 (Ext.trans' Eh502 Eh509) Wh518 (by omega)
                    have la501' : a501 < h518.size := by omega
                    refine r_special 409 rfl at_406 rfl (wd hw 19 rfl) (wd hw 20 rfl) (wd hw 21 rfl) (by decide) (pay_newN V hw K b_law 1 a501 a508 _ [c3] _ h518 _ _ _ _ za501 (Nat.le_trans za501 (Nat.le_of_lt la501')) f523 f524 f525 f519 OXc cz hCS hcz rfl (Nat.le_of_ble_eq_true rfl) (Nat.le_of_ble_eq_true rfl) (by1 hc3.1) (by simp) (by decide) (by decide)) (W := 1) (argsL := [.ref a508]) (lenOf pd_13 rfl) rfl rfl rfl (Nat.le_of_eq rfl) (Nat.le_of_ble_eq_true rfl) (Nat.le_of_ble_eq_true rfl) fun v529 h530 ps526 q528 z527 => ?_
                    obtain ⟨rfl, K1c, S1c⟩ := q528
                    have f531 : Str V h530 h290.size a270 [c0] := by first | exact Str.keep K1c (fun w hw' => by cases List.mem_singleton.mp hw'; exact leA (by omega)) f520
                    have f532 : Str V h530 hXj324.size x2 (u2 f0 f2 c0 c1) := by first | exact Str.keep K1c (fun w hw' => by cases List.mem_singleton.mp hw'; exact leA (by omega)) f521
                    have f533 : Str V h530 h320.size a294 [c2] := by first | exact Str.keep K1c (fun w hw' => by cases List.mem_singleton.mp hw'; exact leA (by omega)) f522
                    have f534 := Exa.keep f523 K1c
                    have f535 := Arv.keep f519 K1c (ninS (neA (by omega)) nin0)
                    show Own.Run V K b_law _ h530 _ 12 26 409 (.val (.long p0) :: .second :: .val (.long p1) :: .second :: .val (.long p2) :: .second :: .val (.long p3) :: .second :: .val (.int p4) :: .val (.int p5) :: .val (.long k216) :: .second :: .val (.long k217) :: .second :: .val (.long k224) :: .second :: .val (.long k231) :: .second :: .val (.long s2) :: .second :: .val (.long k238) :: .second :: .val (.long k239) :: .second :: .val (.long bd2) :: .second :: .val (.int st1) :: .val (.int st2) :: .val (.int c0) :: .val (.int c1) :: .val (.int c2) :: .val (.int c3) :: .val (.int f0) :: .val (.int f1) :: .val (.int f2) :: .val (.int f3) :: .val (.ref a270) :: .val (.ref x2) :: .val (.ref a294) :: .unset :: .unset :: .unset :: .unset :: .unset :: .unset :: []) [.ref a501]
                    have sh530 := K1c.1
                    have ba501 := S1c.lt
                    exact (j409 _ _ _ (Keep.ext0 EXc K1c (fun w hw' => by cases List.mem_singleton.mp hw'; exact leA (by omega))) (by rw [show u2 f1 f3 c2 c3 = [c3] from (if_pos c421).trans (if_pos c457)]; exact S1c)).more (by decide) (by decide)
                  refine r_if_eq 281 263 at_260 (by decide) rfl rfl (fun c536 => ?_) (fun c536 => ?_)
                  rotate_left
                  · refine r_new 266 rfl at_263 (wd hw 15 rfl) (wd hw 16 rfl) (wd hw 17 rfl) (by decide) (by decide) fun a537 h538 ga537 za537 Eh538 Xa537 Da537 => ?_
                    have f539 := Str.ext Eh538 S1a
                    have sh538 := Eh538.1
                    have la537 := ltN Xa537.lt
                    have f540 : Fld V.Z h538 a537 "java/lang/String" "value" "[B" (.null) := Da537 (Or.inr (wd hw 44 rfl)) (ty := (.array .byte)) (by decide)
                    have f541 : Fld V.Z h538 a537 "java/lang/String" "coder" "B" (.int (0 : Int32)) := Da537 (Or.inr (wd hw 42 rfl)) (ty := .byte) (by decide)
                    refine r_dup 267 rfl at_266 rfl ?_
                    refine r_iconst (1 : Int32) 268 rfl at_267 rfl ?_
                    refine r_newarray 1 270 rfl at_268 (wd hw 18 rfl) (by decide) (by decide) (by decide) (by decide) (by decide) fun a542 h543 k544 ga542 za542 Eh543 Aa542 => ?_
                    have f545 := Str.ext Eh543 f539
                    have f546 := Exa.ext Eh543 Xa537
                    have f547 := Fld.ext Eh543 f540
                    have f548 := Fld.ext Eh543 f541
                    have sh543 := Eh543.1
                    have la542 := ltN Aa542.lt
                    have f549 : Arv V.Z h543 a542 k544 .char (1 : Int32) [.int 0] (.int 0) := Arv.pad Aa542 (pad_rep [] (.int 0) 1)
                    refine r_dup 271 rfl at_270 rfl ?_
                    refine r_iconst (0 : Int32) 272 rfl at_271 rfl ?_
                    refine r_iload 274 rfl at_272 rfl ?_
                    refine r_castore 0 275 rfl at_274 f549 (by decide) rfl (Nat.le_of_ble_eq_true rfl) za542 c0 (nby hc0.1) fun h550 Wh550 f551 => ?_
                    have sh550 := Wh550.size
                    have f552 : Str V h550 h290.size a270 [c0] := by first | exact Str.keep (Keep.of_wr Wh550) (fun w hw' => by cases List.mem_singleton.mp hw'; exact leA (by omega)) f545 | exact Str.keepA (Keep.of_wr Wh550) f549 (by decide) (wd hw 16 rfl) f545
                    have f553 := Exa.wr Wh550 f546
                    have f554 := Fld.other Wh550 f547 (Or.inl (neA (by omega)))
                    have f555 := Fld.other Wh550 f548 (Or.inl (neA (by omega)))
                    replace f551 : Arv V.Z h550 a542 k544 .char (1 : Int32) [.int c0] (.int 0) := f551
                    refine Run.old fun OXd => ?_
                    have EXd := Ext.wr0 (Ext.trans' Eh538 Eh543) Wh550 (by omega)
                    have la537' : a537 < h550.size := by omega
                    refine r_special 278 rfl at_275 rfl (wd hw 19 rfl) (wd hw 20 rfl) (wd hw 21 rfl) (by decide) (pay_newN V hw K b_law 1 a537 a542 _ [c0] _ h550 _ _ _ _ za537 (Nat.le_trans za537 (Nat.le_of_lt la537')) f553 f554 f555 f551 OXd cz hCS hcz rfl (Nat.le_of_ble_eq_true rfl) (Nat.le_of_ble_eq_true rfl) (by1 hc0.1) (by simp) (by decide) (by decide)) (W := 1) (argsL := [.ref a542]) (lenOf pd_13 rfl) rfl rfl rfl (Nat.le_of_eq rfl) (Nat.le_of_ble_eq_true rfl) (Nat.le_of_ble_eq_true rfl) fun v559 h560 ps556 q558 z557 => ?_
                    obtain ⟨rfl, K1d, S1d⟩ := q558
                    have f561 : Str V h560 h290.size a270 [c0] := by first | exact Str.keep K1d (fun w hw' => by cases List.mem_singleton.mp hw'; exact leA (by omega)) f552
                    have f562 := Exa.keep f553 K1d
                    have f563 := Arv.keep f551 K1d (ninS (neA (by omega)) nin0)
                    show Own.Run V K b_law _ h560 _ 6 12 278 (.val (.long p0) :: .second :: .val (.long p1) :: .second :: .val (.long p2) :: .second :: .val (.long p3) :: .second :: .val (.int p4) :: .val (.int p5) :: .val (.long k216) :: .second :: .val (.long k217) :: .second :: .val (.long k224) :: .second :: .val (.long k231) :: .second :: .val (.long s2) :: .second :: .val (.long k238) :: .second :: .val (.long k239) :: .second :: .val (.long bd2) :: .second :: .val (.int st1) :: .val (.int st2) :: .val (.int c0) :: .val (.int c1) :: .val (.int c2) :: .val (.int c3) :: .val (.int f0) :: .val (.int f1) :: .val (.int f2) :: .val (.int f3) :: .val (.ref a270) :: .unset :: .unset :: .unset :: .unset :: .unset :: .unset :: .unset :: .unset :: []) [.ref a537]
                    have sh560 := K1d.1
                    have ba537 := S1d.lt
                    refine r_goto 324 at_278 (by decide) rfl ?_
                    exact (j324 _ _ _ (Keep.ext0 EXd K1d (fun w hw' => by cases List.mem_singleton.mp hw'; exact leA (by omega))) (by rw [show u2 f0 f2 c0 c1 = [c0] from if_neg c536]; exact S1d)).more (by decide) (by decide)
                  refine r_iload 283 rfl at_281 rfl ?_
                  refine r_if_eq 309 286 at_283 (by decide) rfl rfl (fun c564 => ?_) (fun c564 => ?_)
                  rotate_left
                  · refine r_new 289 rfl at_286 (wd hw 15 rfl) (wd hw 16 rfl) (wd hw 17 rfl) (by decide) (by decide) fun a565 h566 ga565 za565 Eh566 Xa565 Da565 => ?_
                    have f567 := Str.ext Eh566 S1a
                    have sh566 := Eh566.1
                    have la565 := ltN Xa565.lt
                    have f568 : Fld V.Z h566 a565 "java/lang/String" "value" "[B" (.null) := Da565 (Or.inr (wd hw 44 rfl)) (ty := (.array .byte)) (by decide)
                    have f569 : Fld V.Z h566 a565 "java/lang/String" "coder" "B" (.int (0 : Int32)) := Da565 (Or.inr (wd hw 42 rfl)) (ty := .byte) (by decide)
                    refine r_dup 290 rfl at_289 rfl ?_
                    refine r_iconst (2 : Int32) 291 rfl at_290 rfl ?_
                    refine r_newarray 2 293 rfl at_291 (wd hw 18 rfl) (by decide) (by decide) (by decide) (by decide) (by decide) fun a570 h571 k572 ga570 za570 Eh571 Aa570 => ?_
                    have f573 := Str.ext Eh571 f567
                    have f574 := Exa.ext Eh571 Xa565
                    have f575 := Fld.ext Eh571 f568
                    have f576 := Fld.ext Eh571 f569
                    have sh571 := Eh571.1
                    have la570 := ltN Aa570.lt
                    have f577 : Arv V.Z h571 a570 k572 .char (2 : Int32) [.int 0, .int 0] (.int 0) := Arv.pad Aa570 (pad_rep [] (.int 0) 2)
                    refine r_dup 294 rfl at_293 rfl ?_
                    refine r_iconst (0 : Int32) 295 rfl at_294 rfl ?_
                    refine r_iload 297 rfl at_295 rfl ?_
                    refine r_castore 0 298 rfl at_297 f577 (by decide) rfl (Nat.le_of_ble_eq_true rfl) za570 c0 (nby hc0.1) fun h578 Wh578 f579 => ?_
                    have sh578 := Wh578.size
                    have f580 : Str V h578 h290.size a270 [c0] := by first | exact Str.keep (Keep.of_wr Wh578) (fun w hw' => by cases List.mem_singleton.mp hw'; exact leA (by omega)) f573 | exact Str.keepA (Keep.of_wr Wh578) f577 (by decide) (wd hw 16 rfl) f573
                    have f581 := Exa.wr Wh578 f574
                    have f582 := Fld.other Wh578 f575 (Or.inl (neA (by omega)))
                    have f583 := Fld.other Wh578 f576 (Or.inl (neA (by omega)))
                    replace f579 : Arv V.Z h578 a570 k572 .char (2 : Int32) [.int c0, .int 0] (.int 0) := f579
                    refine r_dup 299 rfl at_298 rfl ?_
                    refine r_iconst (1 : Int32) 300 rfl at_299 rfl ?_
                    refine r_iload 302 rfl at_300 rfl ?_
                    refine r_castore 1 303 rfl at_302 f579 (by decide) rfl (Nat.le_of_ble_eq_true rfl) za570 c1 (nby hc1.1) fun h584 Wh584 f585 => ?_
                    have sh584 := Wh584.size
                    have f586 : Str V h584 h290.size a270 [c0] := by first | exact Str.keep (Keep.of_wr Wh584) (fun w hw' => by cases List.mem_singleton.mp hw'; exact leA (by omega)) f580 | exact Str.keepA (Keep.of_wr Wh584) f579 (by decide) (wd hw 16 rfl) f580
                    have f587 := Exa.wr Wh584 f581
                    have f588 := Fld.other Wh584 f582 (Or.inl (neA (by omega)))
                    have f589 := Fld.other Wh584 f583 (Or.inl (neA (by omega)))
                    replace f585 : Arv V.Z h584 a570 k572 .char (2 : Int32) [.int c0, .int c1] (.int 0) := f585
                    refine Run.old fun OXd => ?_
                    have EXd := Ext.wr0 (Ext.wr0 (Ext.trans' Eh566 Eh571) Wh578 (by omega)) Wh584 (by omega)
                    have la565' : a565 < h584.size := by omega
                    refine r_special 306 rfl at_303 rfl (wd hw 19 rfl) (wd hw 20 rfl) (wd hw 21 rfl) (by decide) (pay_newN V hw K b_law 1 a565 a570 _ [c0, c1] _ h584 _ _ _ _ za565 (Nat.le_trans za565 (Nat.le_of_lt la565')) f587 f588 f589 f585 OXd cz hCS hcz rfl (Nat.le_of_ble_eq_true rfl) (Nat.le_of_ble_eq_true rfl) (byS hc0.1 (by1 hc1.1)) (by simp) (by decide) (by decide)) (W := 1) (argsL := [.ref a570]) (lenOf pd_13 rfl) rfl rfl rfl (Nat.le_of_eq rfl) (Nat.le_of_ble_eq_true rfl) (Nat.le_of_ble_eq_true rfl) fun v593 h594 ps590 q592 z591 => ?_
                    obtain ⟨rfl, K1d, S1d⟩ := q592
                    have f595 : Str V h594 h290.size a270 [c0] := by first | exact Str.keep K1d (fun w hw' => by cases List.mem_singleton.mp hw'; exact leA (by omega)) f586
                    have f596 := Exa.keep f587 K1d
                    have f597 := Arv.keep f585 K1d (ninS (neA (by omega)) nin0)
                    show Own.Run V K b_law _ h594 _ 6 14 306 (.val (.long p0) :: .second :: .val (.long p1) :: .second :: .val (.long p2) :: .second :: .val (.long p3) :: .second :: .val (.int p4) :: .val (.int p5) :: .val (.long k216) :: .second :: .val (.long k217) :: .second :: .val (.long k224) :: .second :: .val (.long k231) :: .second :: .val (.long s2) :: .second :: .val (.long k238) :: .second :: .val (.long k239) :: .second :: .val (.long bd2) :: .second :: .val (.int st1) :: .val (.int st2) :: .val (.int c0) :: .val (.int c1) :: .val (.int c2) :: .val (.int c3) :: .val (.int f0) :: .val (.int f1) :: .val (.int f2) :: .val (.int f3) :: .val (.ref a270) :: .unset :: .unset :: .unset :: .unset :: .unset :: .unset :: .unset :: .unset :: []) [.ref a565]
                    have sh594 := K1d.1
                    have ba565 := S1d.lt
                    refine r_goto 324 at_306 (by decide) rfl ?_
                    exact (j324 _ _ _ (Keep.ext0 EXd K1d (fun w hw' => by cases List.mem_singleton.mp hw'; exact leA (by omega))) (by rw [show u2 f0 f2 c0 c1 = [c0, c1] from (if_pos c536).trans (if_neg c564)]; exact S1d)).more (by decide) (by decide)
                  refine r_new 312 rfl at_309 (wd hw 15 rfl) (wd hw 16 rfl) (wd hw 17 rfl) (by decide) (by decide) fun a598 h599 ga598 za598 Eh599 Xa598 Da598 => ?_
                  have f600 := Str.ext Eh599 S1a
                  have sh599 := Eh599.1
                  have la598 := ltN Xa598.lt
                  have f601 : Fld V.Z h599 a598 "java/lang/String" "value" "[B" (.null) := Da598 (Or.inr (wd hw 44 rfl)) (ty := (.array .byte)) (by decide)
                  have f602 : Fld V.Z h599 a598 "java/lang/String" "coder" "B" (.int (0 : Int32)) := Da598 (Or.inr (wd hw 42 rfl)) (ty := .byte) (by decide)
                  refine r_dup 313 rfl at_312 rfl ?_
                  refine r_iconst (1 : Int32) 314 rfl at_313 rfl ?_
                  refine r_newarray 1 316 rfl at_314 (wd hw 18 rfl) (by decide) (by decide) (by decide) (by decide) (by decide) fun a603 h604 k605 ga603 za603 Eh604 Aa603 => ?_
                  have f606 := Str.ext Eh604 f600
                  have f607 := Exa.ext Eh604 Xa598
                  have f608 := Fld.ext Eh604 f601
                  have f609 := Fld.ext Eh604 f602
                  have sh604 := Eh604.1
                  have la603 := ltN Aa603.lt
                  have f610 : Arv V.Z h604 a603 k605 .char (1 : Int32) [.int 0] (.int 0) := Arv.pad Aa603 (pad_rep [] (.int 0) 1)
                  refine r_dup 317 rfl at_316 rfl ?_
                  refine r_iconst (0 : Int32) 318 rfl at_317 rfl ?_
                  refine r_iload 320 rfl at_318 rfl ?_
                  refine r_castore 0 321 rfl at_320 f610 (by decide) rfl (Nat.le_of_ble_eq_true rfl) za603 c1 (nby hc1.1) fun h611 Wh611 f612 => ?_
                  have sh611 := Wh611.size
                  have f613 : Str V h611 h290.size a270 [c0] := by first | exact Str.keep (Keep.of_wr Wh611) (fun w hw' => by cases List.mem_singleton.mp hw'; exact leA (by omega)) f606 | exact Str.keepA (Keep.of_wr Wh611) f610 (by decide) (wd hw 16 rfl) f606
                  have f614 := Exa.wr Wh611 f607
                  have f615 := Fld.other Wh611 f608 (Or.inl (neA (by omega)))
                  have f616 := Fld.other Wh611 f609 (Or.inl (neA (by omega)))
                  replace f612 : Arv V.Z h611 a603 k605 .char (1 : Int32) [.int c1] (.int 0) := f612
                  refine Run.old fun OXd => ?_
                  have EXd := Ext.wr0 (Ext.trans' Eh599 Eh604) Wh611 (by omega)
                  have la598' : a598 < h611.size := by omega
                  refine r_special 324 rfl at_321 rfl (wd hw 19 rfl) (wd hw 20 rfl) (wd hw 21 rfl) (by decide) (pay_newN V hw K b_law 1 a598 a603 _ [c1] _ h611 _ _ _ _ za598 (Nat.le_trans za598 (Nat.le_of_lt la598')) f614 f615 f616 f612 OXd cz hCS hcz rfl (Nat.le_of_ble_eq_true rfl) (Nat.le_of_ble_eq_true rfl) (by1 hc1.1) (by simp) (by decide) (by decide)) (W := 1) (argsL := [.ref a603]) (lenOf pd_13 rfl) rfl rfl rfl (Nat.le_of_eq rfl) (Nat.le_of_ble_eq_true rfl) (Nat.le_of_ble_eq_true rfl) fun v620 h621 ps617 q619 z618 => ?_
                  obtain ⟨rfl, K1d, S1d⟩ := q619
                  have f622 : Str V h621 h290.size a270 [c0] := by first | exact Str.keep K1d (fun w hw' => by cases List.mem_singleton.mp hw'; exact leA (by omega)) f613
                  have f623 := Exa.keep f614 K1d
                  have f624 := Arv.keep f612 K1d (ninS (neA (by omega)) nin0)
                  show Own.Run V K b_law _ h621 _ 6 12 324 (.val (.long p0) :: .second :: .val (.long p1) :: .second :: .val (.long p2) :: .second :: .val (.long p3) :: .second :: .val (.int p4) :: .val (.int p5) :: .val (.long k216) :: .second :: .val (.long k217) :: .second :: .val (.long k224) :: .second :: .val (.long k231) :: .second :: .val (.long s2) :: .second :: .val (.long k238) :: .second :: .val (.long k239) :: .second :: .val (.long bd2) :: .second :: .val (.int st1) :: .val (.int st2) :: .val (.int c0) :: .val (.int c1) :: .val (.int c2) :: .val (.int c3) :: .val (.int f0) :: .val (.int f1) :: .val (.int f2) :: .val (.int f3) :: .val (.ref a270) :: .unset :: .unset :: .unset :: .unset :: .unset :: .unset :: .unset :: .unset :: []) [.ref a598]
                  have sh621 := K1d.1
                  have ba598 := S1d.lt
                  exact (j324 _ _ _ (Keep.ext0 EXd K1d (fun w hw' => by cases List.mem_singleton.mp hw'; exact leA (by omega))) (by rw [show u2 f0 f2 c0 c1 = [c1] from (if_pos c536).trans (if_pos c564)]; exact S1d)).more (by decide) (by decide)
                refine r_if_eq 238 234 at_231 (by decide) rfl rfl (fun c625 => ?_) (fun c625 => ?_)
                · refine r_iconst (0 : Int32) 239 rfl at_238 rfl ?_
                  exact j239 _
                · refine r_iconst (1 : Int32) 235 rfl at_234 rfl ?_
                  refine r_goto 239 at_235 (by decide) rfl ?_
                  exact j239 _
              refine r_if_eq 222 218 at_215 (by decide) rfl rfl (fun c626 => ?_) (fun c626 => ?_)
              · refine r_iconst (0 : Int32) 223 rfl at_222 rfl ?_
                exact j223 _
              · refine r_iconst (1 : Int32) 219 rfl at_218 rfl ?_
                refine r_goto 223 at_219 (by decide) rfl ?_
                exact j223 _
            refine r_if_eq 207 203 at_200 (by decide) rfl rfl (fun c627 => ?_) (fun c627 => ?_)
            · refine r_iconst (0 : Int32) 208 rfl at_207 rfl ?_
              exact j208 _
            · refine r_iconst (1 : Int32) 204 rfl at_203 rfl ?_
              refine r_goto 208 at_204 (by decide) rfl ?_
              exact j208 _
          refine r_if_eq 192 188 at_185 (by decide) rfl rfl (fun c628 => ?_) (fun c628 => ?_)
          · refine r_iconst (0 : Int32) 193 rfl at_192 rfl ?_
            exact j193 _
          · refine r_iconst (1 : Int32) 189 rfl at_188 rfl ?_
            refine r_goto 193 at_189 (by decide) rfl ?_
            exact j193 _
        refine r_if_eq 130 125 at_122 (by decide) rfl rfl (fun c629 => ?_) (fun c629 => ?_)
        · refine r_iload 132 rfl at_130 rfl ?_
          refine r_bipush (10 : Int32) 134 rfl at_132 rfl ?_
          refine r_iushr 135 rfl at_134 ?_
          refine r_static 138 rfl at_135 (wd hw 8 rfl) (wd hw 9 rfl) (wd hw 10 rfl) (wd hw 11 rfl) (by decide) (Pays.con (K := K) (B := b_law) (c_code V hw (ushr p4 10) h _) (wd hw 11 rfl) (wd hw 10 rfl) (by decide) (by decide)) (W := 0) (argsL := [.int (ushr p4 (10 : Int32))]) (lenOf pd_6 rfl) rfl rfl rfl (Nat.le_of_eq rfl) (Nat.le_of_ble_eq_true rfl) (Nat.le_of_ble_eq_true rfl) fun v633 h634 ps630 q632 z631 => ?_
          obtain ⟨st2, rfl, es635, hs2⟩ := q632
          subst h634
          show Own.Run V K b_law _ h _ 0 0 138 (.val (.long p0) :: .second :: .val (.long p1) :: .second :: .val (.long p2) :: .second :: .val (.long p3) :: .second :: .val (.int p4) :: .val (.int p5) :: .val (.long k216) :: .second :: .val (.long k217) :: .second :: .val (.long k224) :: .second :: .val (.long k231) :: .second :: .val (.long s2) :: .second :: .val (.long k238) :: .second :: .val (.long k239) :: .second :: .val (.long bd2) :: .second :: .val (.int st1) :: .unset :: .unset :: .unset :: .unset :: .unset :: .unset :: .unset :: .unset :: .unset :: .unset :: .unset :: .unset :: .unset :: .unset :: .unset :: .unset :: .unset :: .unset :: []) [.int st2]
          exact j138 _ hs2
        · refine r_iload 127 rfl at_125 rfl ?_
          refine r_goto 138 at_127 (by decide) rfl ?_
          exact j138 _ hs1
      refine r_if_eq 99 94 at_91 (by decide) rfl rfl (fun c636 => ?_) (fun c636 => ?_)
      · refine r_lload 101 rfl at_99 rfl ?_
        refine r_lload 103 rfl at_101 rfl ?_
        refine r_lxor 104 rfl at_103 ?_
        refine r_ldc2J 107 rfl at_104 (wd hw 0 rfl) ?_
        refine r_land 108 rfl at_107 ?_
        exact j108 _ (nn63 _)
      · refine r_lload 96 rfl at_94 rfl ?_
        refine r_goto 108 at_96 (by decide) rfl ?_
        exact j108 _ hb1
    refine r_if_eq 66 61 at_58 (by decide) rfl rfl (fun c637 => ?_) (fun c637 => ?_)
    · refine r_lload 68 rfl at_66 rfl ?_
      refine r_lloadN 69 rfl at_68 rfl ?_
      refine r_lxor 70 rfl at_69 ?_
      refine r_ldc2J 73 rfl at_70 (wd hw 0 rfl) ?_
      refine r_land 74 rfl at_73 ?_
      exact j74 _
    · refine r_lload 63 rfl at_61 rfl ?_
      refine r_goto 74 at_63 (by decide) rfl ?_
      exact j74 _
  refine r_if_eq 44 39 at_36 (by decide) rfl rfl (fun c638 => ?_) (fun c638 => ?_)
  · refine r_lload 46 rfl at_44 rfl ?_
    refine r_ldc2J 49 rfl at_46 (wd hw 0 rfl) ?_
    refine r_land 50 rfl at_49 ?_
    exact j50 _ (nn63 _)
  · refine r_lload 41 rfl at_39 rfl ?_
    refine r_goto 50 at_41 (by decide) rfl ?_
    exact j50 _ hst.1
theorem comes_1 {Post : Tables → Env → Array Value → State → Outcome → State → Prop} (hpost : ∀ tb e args s v u, (limb_1_1.after args s (.returned v) u = true ∧ limb_1_2.after args s (.returned v) u = true ∧ True) → ReturnedEndW s (.returned v) u (Jvm.fieldLocs frame_1_writes args s ++ Jvm.arrayLocs frame_1_arrays args s ++ Jvm.staticLocs frame_1_statics s) 40 2240 → Post tb e args s (.returned v) u) :
    ArmFor flags0 classFile x code maxLocals ret World_1 tables_1 room_1 Calls_1 rest_1 Pre_1 Post := by
  intro l hfl _ _ p e ha hc hk s m args below hf hA hF happ hP
  obtain ⟨hcalls, hrest, hpre⟩ := hP
  obtain ⟨-, -, -, hnamed, -, -, -, hat⟩ := (Spec.applies_iff hf).mp happ
  obtain ⟨hg, hn⟩ := and_e (Cond.before_iff.mp (show (Jvm.Cond.and given_1 narrow_1).before args s = true from hpre))
  obtain ⟨hcount, g0⟩ := and_e hg
  obtain ⟨k0, g1⟩ := and_e g0
  obtain ⟨k1, g2⟩ := and_e g1
  obtain ⟨k2, g3⟩ := and_e g2
  obtain ⟨k3, g4⟩ := and_e g3
  obtain ⟨k4, g5⟩ := and_e g4
  have k5 := g5
  obtain ⟨w0, w1, w2, w3, w4, w5, rfl⟩ : ∃ w0 w1 w2 w3 w4 w5 : Value, args = #[w0, w1, w2, w3, w4, w5] := by
    have hs : args.size = 6 := by simpa [Cond.value, given_1] using hcount
    obtain ⟨L⟩ := args
    match L, hs with
    | [w0, w1, w2, w3, w4, w5], _ => exact ⟨w0, w1, w2, w3, w4, w5, rfl⟩
  have hw := fun d (hd : d ∈ tables_1) => atoms_spec (ws := Jvm.Cond.code x code maxLocals ret :: tables_1) hat d (List.mem_cons_of_mem _ hd)
  obtain ⟨i0, e0⟩ := isL_v k0
  obtain rfl : w0 = (.long i0) := Option.some.inj e0
  obtain ⟨i1, e1⟩ := isL_v k1
  obtain rfl : w1 = (.long i1) := Option.some.inj e1
  obtain ⟨i2, e2⟩ := isL_v k2
  obtain rfl : w2 = (.long i2) := Option.some.inj e2
  obtain ⟨i3, e3⟩ := isL_v k3
  obtain rfl : w3 = (.long i3) := Option.some.inj e3
  obtain ⟨i4, e4⟩ := is_v k4
  obtain rfl : w4 = (.int i4) := Option.some.inj e4
  obtain ⟨i5, e5⟩ := is_v k5
  obtain rfl : w5 = (.int i5) := Option.some.inj e5
  obtain ⟨hsets, hown0⟩ := atoms_of _ (rest_1_c_eq ▸ (show rest_1_c.before _ s = true from hrest))
  have n5 := not_v (Cond.before_iff.mp (hsets _ (List.mem_of_getElem? (i := 2) rfl)))
  obtain ⟨i11, e11⟩ := is_v (Cond.before_iff.mp (hsets _ (List.mem_of_getElem? (i := 1) rfl)))
  have S12 : Sta s s.heap "java/lang/String" "COMPACT_STRINGS" "Z" (.int i11) := Sta.start e11 (Or.inl (hsets _ (List.mem_of_getElem? (i := 0) rfl)))
  have c17 : ¬ (i11 = (0 : Int32)) := gotF (Cond.eq_ints e11 (Term.int_eval (0))) n5
  have hEW : EW s #[.long i0, .long i1, .long i2, .long i3, .int i4, .int i5] [] := EW.nil
  have hCH : CHv s [] s.vm s.heap := fun _ q => nomatch q
  obtain ⟨n, o, h1, h2, h3, v, L, ps, rfl, N, rfl, -, -, -, hq, -⟩ := c_law (s, #[.long i0, .long i1, .long i2, .long i3, .int i4, .int i5], [], false, l) hw rfl i11 S12 c17 i0 i1 i2 i3 i4 i5 s.heap hEW ⟨Nat.le_refl _, fun _ _ q => q⟩ (fun q => nomatch q) tables_1 p e ha hc hk s m _ below hf ((Spec.applies_iff_loose hf).mp happ).1 ⟨rfl, State.Warmed39.refl s, rfl, hCH, Sf.nil⟩ trivial
  refine ⟨n, _, h1, h2, h3, hpost _ _ _ _ _ _ ⟨Cond.after_iff.mpr rfl, Cond.after_iff.mpr (eq_i res_at (Term.int_eval (1)) rfl), trivial⟩ ⟨hq.1, hq.2.1, hq.2.2.1, (hq.2.2.2.sift fun y hy => Or.inr (N y hy)).mono (by decide) (by decide)⟩⟩
theorem main_1_1 : Claimed_1_1 := comes_1 fun _ _ _ _ _ _ h hF => ⟨h.1, hF⟩
theorem main_1_2 : Claimed_1_2 := comes_1 fun _ _ _ _ _ _ h hF => ⟨h.2.1, hF⟩
end Jvm.Pilot.@@N@@
namespace Jvm.Pilot.@@N@@
open Jvm Jvm.ClassFile Sem Op Lib Jvm.Free Jvm.Stand Jvm.Pilot.@@N@@.Jvm.D
/-! MADE BY PROGRAM (witnessworld.py) out of the Statement's table words and the real class files: 22 classes; the members and pool entries that the words name. The judged class is class 1, her method 3. -/
namespace start1
open Jvm.ClassFile
def u (s : String) : CpInfo := .utf8 (stringToUtf16 s)
/-- a pool by its gaps: so many unusable entries, then the entry; so many at the end -/
def gap : Nat → List CpInfo → List CpInfo
  | 0, r => r
  | n + 1, r => .unusable :: gap n r
def poolList (es : List (Nat × CpInfo)) (last : Nat) : List CpInfo := es.foldr (fun e r => gap e.1 (e.2 :: r)) (gap last [])
def pool (es : List (Nat × CpInfo)) (last : Nat) : Array CpInfo := ⟨poolList es last⟩
def fileOf (pool : Array CpInfo) (this : Nat) (attrs : Array Attribute := #[]) (ms : Array MethodInfo := #[]) (fl : Nat := 33) (sup : Nat := 0) (ifs : Array Nat := #[]) (fds : Array FieldInfo := #[]) : ClassFile where
  minorVersion := 0
  majorVersion := 65
  constantPool := pool
  accessFlags := fl
  thisClass := this
  superClass := sup
  interfaces := ifs
  fields := fds
  methods := ms
  attributes := attrs
def plain (name : String) (sup : Option ClassId) : Class where
  name := name
  kind := .ordinary
  loader := none
  accessFlags := 33
  super := sup
  interfaces := #[]
  cf := none
  fields := #[]
  methods := #[]
  instanceTypes := #[]
  staticTypes := #[]
  resolved := #[]
  callSites := []
  init := .initialized
  statics := none
  mirror := none

def pool0 : Array CpInfo := pool [(5, u "<init>"), (0, u "()V"), (1, .class_ 10), (1, u "java/lang/Object")] 113

def k0c0 : Code := { maxStack := 0, maxLocals := 1, code := object_method_1_code, exceptionTable := #[], attributes := #[] }
def k0m0 : Method := { name := "<init>", desc := "()V", sig := { parameters := [], returnType := none }, accessFlags := 1, code := some k0c0 }
/-- java/lang/Object -/
def k0 : Class := { plain "java/lang/Object" none with
  accessFlags := 33
  interfaces := #[]
  cf := some (fileOf pool0 8 #[] #[{ accessFlags := 1, nameIndex := 5, descriptorIndex := 6, attributes := #[] }] 33 0 #[] #[])
  fields := #[]
  methods := #[k0m0]
  instanceTypes := #[]
  staticTypes := #[]
  resolved := Array.replicate 124 none
  statics := none }

def pool1 : Array CpInfo := pool [(2, .class_ 4), (1, u "java/lang/Object"), (0, u "<init>"), (0, u "()V"), (2, .long 9223372036854775807), (1, .methodref 12 13), (0, .class_ 14), (0, .nameAndType 15 16), (0, u "java/lang/Math"), (0, u "min"), (0, u "(JJ)J"), (0, .methodref 12 18), (0, .nameAndType 19 16), (0, u "max"), (0, .methodref 21 22), (0, .class_ 23), (0, .nameAndType 24 25), (0, u "com/example/frontier/frontier/crawllog/CrawlLogEntryEqualsPinLaw"), (0, u "code"), (0, u "(I)I"), (0, .methodref 21 27), (0, .nameAndType 28 29), (0, u "ch"), (0, u "(I)C"), (0, .class_ 31), (0, u "java/lang/String"), (0, .methodref 30 33), (0, .nameAndType 5 34), (0, u "([C)V"), (0, .class_ 36), (0, u "com/example/frontier/frontier/crawllog/CrawlLogEntry"), (0, .methodref 35 38), (0, .nameAndType 5 39), (0, u "(JJIJLjava/lang/String;Ljava/lang/String;)V"), (0, .methodref 35 41), (0, .nameAndType 42 43), (0, u "equals"), (0, u "(Ljava/lang/Object;)Z"), (3, u "law"), (0, u "(JJJJII)Z")] 2

def k1m0 : Method := { name := "<init>", desc := "()V", sig := { parameters := [], returnType := none }, accessFlags := 1, code := none }
def k1c1 : Code := { maxStack := 2, maxLocals := 2, code := method_2_code, exceptionTable := #[], attributes := #[] }
def k1m1 : Method := { name := "ch", desc := "(I)C", sig := { parameters := [.int], returnType := some .char }, accessFlags := 10, code := some k1c1 }
def k1c2 : Code := { maxStack := 2, maxLocals := 2, code := method_3_code, exceptionTable := #[], attributes := #[] }
def k1m2 : Method := { name := "code", desc := "(I)I", sig := { parameters := [.int], returnType := some .int }, accessFlags := 10, code := some k1c2 }
def k1c3 : Code := { maxStack := 11, maxLocals := 45, code := code, exceptionTable := #[], attributes := #[] }
def k1m3 : Method := { name := "law", desc := "(JJJJII)Z", sig := { parameters := [.long, .long, .long, .long, .int, .int], returnType := some .boolean }, accessFlags := 9, code := some k1c3 }
/-- com/example/frontier/frontier/crawllog/CrawlLogEntryEqualsPinLaw -/
def k1 : Class := { plain "com/example/frontier/frontier/crawllog/CrawlLogEntryEqualsPinLaw" (some 0) with
  accessFlags := 49
  interfaces := #[]
  cf := some (fileOf pool1 21 #[] #[{ accessFlags := 1, nameIndex := 5, descriptorIndex := 6, attributes := #[] }, { accessFlags := 10, nameIndex := 28, descriptorIndex := 29, attributes := #[] }, { accessFlags := 10, nameIndex := 24, descriptorIndex := 25, attributes := #[] }, { accessFlags := 9, nameIndex := 47, descriptorIndex := 48, attributes := #[] }] 49 2 #[] #[])
  fields := #[]
  methods := #[k1m0, k1m1, k1m2, k1m3]
  instanceTypes := #[]
  staticTypes := #[]
  resolved := Array.replicate 51 none
  statics := none }

def pool2 : Array CpInfo := pool [(1, .class_ 2), (0, u "java/lang/Math"), (1, .class_ 6), (1, u "java/lang/Object"), (0, u "<init>"), (0, u "()V"), (89, .class_ 100), (1, u "java/lang/Math$RandomNumberGeneratorHolder"), (20, u "(JJ)J"), (50, u "negativeZeroFloatBits"), (0, u "J"), (2, u "negativeZeroDoubleBits"), (21, u "max"), (2, u "min"), (43, u "$assertionsDisabled"), (0, u "Z"), (88, u "(II)I"), (2, u "twoToTheDoubleScaleDown"), (0, u "D"), (4, u "twoToTheDoubleScaleUp"), (9, u "E"), (3, u "PI"), (2, u "TAU"), (2, u "DEGREES_TO_RADIANS"), (0, u "RADIANS_TO_DEGREES")] 94

def k2m0 : Method := { name := "<init>", desc := "()V", sig := { parameters := [], returnType := none }, accessFlags := 2, code := none }
def k2c1 : Code := { maxStack := 2, maxLocals := 2, code := jdk_29_method_65_code, exceptionTable := #[], attributes := #[] }
def k2m1 : Method := { name := "max", desc := "(II)I", sig := { parameters := [.int, .int], returnType := some .int }, accessFlags := 9, code := some k2c1 }
def k2c2 : Code := { maxStack := 4, maxLocals := 4, code := jdk_29_method_66_code, exceptionTable := #[], attributes := #[] }
def k2m2 : Method := { name := "max", desc := "(JJ)J", sig := { parameters := [.long, .long], returnType := some .long }, accessFlags := 9, code := some k2c2 }
def k2c3 : Code := { maxStack := 2, maxLocals := 2, code := jdk_29_method_69_code, exceptionTable := #[], attributes := #[] }
def k2m3 : Method := { name := "min", desc := "(II)I", sig := { parameters := [.int, .int], returnType := some .int }, accessFlags := 9, code := some k2c3 }
def k2c4 : Code := { maxStack := 4, maxLocals := 4, code := jdk_29_method_70_code, exceptionTable := #[], attributes := #[] }
def k2m4 : Method := { name := "min", desc := "(JJ)J", sig := { parameters := [.long, .long], returnType := some .long }, accessFlags := 9, code := some k2c4 }
/-- java/lang/Math -/
def k2 : Class := { plain "java/lang/Math" (some 0) with
  accessFlags := 49
  interfaces := #[]
  cf := some (fileOf pool2 1 #[.nestMembers #[98]] #[{ accessFlags := 2, nameIndex := 7, descriptorIndex := 8, attributes := #[] }, { accessFlags := 9, nameIndex := 198, descriptorIndex := 335, attributes := #[] }, { accessFlags := 9, nameIndex := 198, descriptorIndex := 121, attributes := #[] }, { accessFlags := 9, nameIndex := 201, descriptorIndex := 335, attributes := #[] }, { accessFlags := 9, nameIndex := 201, descriptorIndex := 121, attributes := #[] }] 49 4 #[] #[{ accessFlags := 25, nameIndex := 354, descriptorIndex := 339, attributes := #[] }, { accessFlags := 25, nameIndex := 358, descriptorIndex := 339, attributes := #[] }, { accessFlags := 25, nameIndex := 361, descriptorIndex := 339, attributes := #[] }, { accessFlags := 26, nameIndex := 364, descriptorIndex := 339, attributes := #[] }, { accessFlags := 26, nameIndex := 365, descriptorIndex := 339, attributes := #[] }, { accessFlags := 26, nameIndex := 172, descriptorIndex := 173, attributes := #[] }, { accessFlags := 26, nameIndex := 176, descriptorIndex := 173, attributes := #[] }, { accessFlags := 8, nameIndex := 344, descriptorIndex := 339, attributes := #[] }, { accessFlags := 8, nameIndex := 338, descriptorIndex := 339, attributes := #[] }, { accessFlags := 4120, nameIndex := 245, descriptorIndex := 246, attributes := #[] }])
  fields := #[{ name := "E", type := .double, accessFlags := 25, slot := 0, constantValue := 0 }, { name := "PI", type := .double, accessFlags := 25, slot := 1, constantValue := 0 }, { name := "TAU", type := .double, accessFlags := 25, slot := 2, constantValue := 0 }, { name := "DEGREES_TO_RADIANS", type := .double, accessFlags := 26, slot := 3, constantValue := 0 }, { name := "RADIANS_TO_DEGREES", type := .double, accessFlags := 26, slot := 4, constantValue := 0 }, { name := "negativeZeroFloatBits", type := .long, accessFlags := 26, slot := 5, constantValue := 0 }, { name := "negativeZeroDoubleBits", type := .long, accessFlags := 26, slot := 6, constantValue := 0 }, { name := "twoToTheDoubleScaleUp", type := .double, accessFlags := 8, slot := 7, constantValue := 0 }, { name := "twoToTheDoubleScaleDown", type := .double, accessFlags := 8, slot := 8, constantValue := 0 }, { name := "$assertionsDisabled", type := .boolean, accessFlags := 4120, slot := 9, constantValue := 0 }]
  methods := #[k2m0, k2m1, k2m2, k2m3, k2m4]
  instanceTypes := #[]
  staticTypes := #[.double, .double, .double, .double, .double, .long, .long, .double, .double, .boolean]
  resolved := Array.replicate 460 none
  statics := none }

def pool3 : Array CpInfo := pool [(1, .class_ 2), (0, u "java/io/Serializable"), (0, .class_ 4), (0, u "java/lang/Object")] 2

/-- java/io/Serializable -/
def k3 : Class := { plain "java/io/Serializable" (some 0) with
  accessFlags := 1537
  interfaces := #[]
  cf := some (fileOf pool3 1 #[] #[] 1537 3 #[] #[])
  fields := #[]
  methods := #[]
  instanceTypes := #[]
  staticTypes := #[]
  resolved := Array.replicate 7 none
  statics := none }

def pool4 : Array CpInfo := pool [(1, .class_ 2), (0, u "java/lang/Comparable"), (0, .class_ 4), (0, u "java/lang/Object")] 7

/-- java/lang/Comparable -/
def k4 : Class := { plain "java/lang/Comparable" (some 0) with
  accessFlags := 1537
  interfaces := #[]
  cf := some (fileOf pool4 1 #[] #[] 1537 3 #[] #[])
  fields := #[]
  methods := #[]
  instanceTypes := #[]
  staticTypes := #[]
  resolved := Array.replicate 12 none
  statics := none }

def pool5 : Array CpInfo := pool [(2, .class_ 4), (1, u "java/lang/CharSequence"), (42, .class_ 48), (0, u "java/lang/CharSequence$1CodePointIterator"), (10, .class_ 60), (0, u "java/lang/CharSequence$1CharIterator"), (5, .class_ 67), (0, u "java/lang/Object")] 63

/-- java/lang/CharSequence -/
def k5 : Class := { plain "java/lang/CharSequence" (some 0) with
  accessFlags := 1537
  interfaces := #[]
  cf := some (fileOf pool5 2 #[.nestMembers #[47, 59]] #[] 1537 66 #[] #[])
  fields := #[]
  methods := #[]
  instanceTypes := #[]
  staticTypes := #[]
  resolved := Array.replicate 131 none
  statics := none }

def pool6 : Array CpInfo := pool [(1, .class_ 2), (0, u "java/lang/constant/Constable"), (0, .class_ 4), (0, u "java/lang/Object")] 6

/-- java/lang/constant/Constable -/
def k6 : Class := { plain "java/lang/constant/Constable" (some 0) with
  accessFlags := 1537
  interfaces := #[]
  cf := some (fileOf pool6 1 #[] #[] 1537 3 #[] #[])
  fields := #[]
  methods := #[]
  instanceTypes := #[]
  staticTypes := #[]
  resolved := Array.replicate 11 none
  statics := none }

def pool7 : Array CpInfo := pool [(1, .class_ 2), (0, u "java/lang/constant/ConstantDesc"), (0, .class_ 4), (0, u "java/lang/Object")] 32

/-- java/lang/constant/ConstantDesc -/
def k7 : Class := { plain "java/lang/constant/ConstantDesc" (some 0) with
  accessFlags := 1537
  interfaces := #[]
  cf := some (fileOf pool7 1 #[] #[] 1537 3 #[] #[])
  fields := #[]
  methods := #[]
  instanceTypes := #[]
  staticTypes := #[]
  resolved := Array.replicate 37 none
  statics := none }

def pool8 : Array CpInfo := pool [(1, .methodref 2 3), (0, .class_ 4), (0, .nameAndType 5 6), (0, u "java/lang/Object"), (0, u "<init>"), (0, u "()V"), (2, .fieldref 10 11), (0, .class_ 12), (0, .nameAndType 13 14), (0, u "java/lang/String"), (0, u "value"), (0, u "[B"), (0, .fieldref 10 16), (0, .nameAndType 17 18), (0, u "coder"), (0, u "B"), (2, u "hash"), (0, u "I"), (2, u "hashIsZero"), (0, u "Z"), (0, .methodref 10 28), (0, .nameAndType 5 29), (0, u "([CIILjava/lang/Void;)V"), (8, .fieldref 10 39), (0, .nameAndType 40 26), (0, u "COMPACT_STRINGS"), (1, .class_ 44), (1, u "java/lang/StringUTF16"), (0, u "compress"), (1, .methodref 42 48), (0, .nameAndType 49 50), (0, u "coderFromArrayLen"), (0, u "([BI)B"), (56, .class_ 109), (1, u "java/lang/StringLatin1"), (32, u "()Z"), (34, .methodref 42 178), (0, .nameAndType 45 179), (0, u "([CII)[B"), (154, u "()I"), (0, .methodref 10 336), (0, .nameAndType 17 337), (0, u "()B"), (154, .methodref 10 493), (0, .nameAndType 494 142), (0, u "isLatin1"), (10, .methodref 10 506), (0, .nameAndType 507 334), (0, u "length"), (33, .methodref 107 542), (0, .nameAndType 543 544), (0, u "equals"), (0, u "([B[B)Z"), (28, u "(Ljava/lang/Object;)Z"), (1, .class_ 576), (0, u "java/lang/CharSequence"), (22, u "CASE_INSENSITIVE_ORDER"), (0, u "Ljava/util/Comparator;"), (32, .methodref 10 634), (0, .nameAndType 635 636), (0, u "indexOf"), (0, u "(II)I"), (0, .methodref 107 638), (0, .nameAndType 635 639), (0, u "([BIII)I"), (52, u "isEmpty"), (72, u "(I)I"), (244, u "([C)V"), (90, u "serialPersistentFields"), (0, u "[Ljava/io/ObjectStreamField;"), (0, .class_ 1104), (0, u "java/lang/String$CaseInsensitiveComparator"), (1, .class_ 1107), (0, u "java/io/Serializable"), (0, .class_ 1109), (0, u "java/lang/Comparable"), (0, .class_ 1111), (0, u "java/lang/constant/Constable"), (0, .class_ 1113), (0, u "java/lang/constant/ConstantDesc"), (2, u "serialVersionUID"), (0, u "J"), (3, u "REPL"), (0, u "C"), (2, u "LATIN1"), (1, u "UTF16")] 323

def k8m0 : Method := { name := "<init>", desc := "()V", sig := { parameters := [], returnType := none }, accessFlags := 1, code := none }
def k8c1 : Code := { maxStack := 5, maxLocals := 2, code := jdk_42_method_3_code, exceptionTable := #[], attributes := #[] }
def k8m1 : Method := { name := "<init>", desc := "([C)V", sig := { parameters := [(.array .char)], returnType := none }, accessFlags := 1, code := some k8c1 }
def k8c2 : Code := { maxStack := 2, maxLocals := 1, code := jdk_42_method_54_code, exceptionTable := #[], attributes := #[] }
def k8m2 : Method := { name := "length", desc := "()I", sig := { parameters := [], returnType := some .int }, accessFlags := 1, code := some k8c2 }
def k8c3 : Code := { maxStack := 1, maxLocals := 1, code := jdk_42_method_55_code, exceptionTable := #[], attributes := #[] }
def k8m3 : Method := { name := "isEmpty", desc := "()Z", sig := { parameters := [], returnType := some .boolean }, accessFlags := 1, code := some k8c3 }
def k8c4 : Code := { maxStack := 2, maxLocals := 3, code := jdk_42_method_66_code, exceptionTable := #[], attributes := #[] }
def k8m4 : Method := { name := "equals", desc := "(Ljava/lang/Object;)Z", sig := { parameters := [(.object "java/lang/Object")], returnType := some .boolean }, accessFlags := 1, code := some k8c4 }
def k8c5 : Code := { maxStack := 3, maxLocals := 2, code := jdk_42_method_79_code, exceptionTable := #[], attributes := #[] }
def k8m5 : Method := { name := "indexOf", desc := "(I)I", sig := { parameters := [.int], returnType := some .int }, accessFlags := 1, code := some k8c5 }
def k8c6 : Code := { maxStack := 4, maxLocals := 3, code := jdk_42_method_80_code, exceptionTable := #[], attributes := #[] }
def k8m6 : Method := { name := "indexOf", desc := "(II)I", sig := { parameters := [.int, .int], returnType := some .int }, accessFlags := 1, code := some k8c6 }
def k8c7 : Code := { maxStack := 4, maxLocals := 6, code := jdk_42_method_149_code, exceptionTable := #[], attributes := #[] }
def k8m7 : Method := { name := "<init>", desc := "([CIILjava/lang/Void;)V", sig := { parameters := [(.array .char), .int, .int, (.object "java/lang/Void")], returnType := none }, accessFlags := 2, code := some k8c7 }
def k8c8 : Code := { maxStack := 1, maxLocals := 1, code := jdk_42_method_152_code, exceptionTable := #[], attributes := #[] }
def k8m8 : Method := { name := "coder", desc := "()B", sig := { parameters := [], returnType := some .byte }, accessFlags := 0, code := some k8c8 }
def k8c9 : Code := { maxStack := 1, maxLocals := 1, code := jdk_42_method_154_code, exceptionTable := #[], attributes := #[] }
def k8m9 : Method := { name := "isLatin1", desc := "()Z", sig := { parameters := [], returnType := some .boolean }, accessFlags := 0, code := some k8c9 }
/-- java/lang/String -/
def k8 : Class := { plain "java/lang/String" (some 0) with
  accessFlags := 49
  interfaces := #[3, 4, 5, 6, 7]
  cf := some (fileOf pool8 10 #[.nestMembers #[1103]] #[{ accessFlags := 1, nameIndex := 5, descriptorIndex := 6, attributes := #[] }, { accessFlags := 1, nameIndex := 5, descriptorIndex := 1010, attributes := #[] }, { accessFlags := 1, nameIndex := 507, descriptorIndex := 334, attributes := #[] }, { accessFlags := 1, nameIndex := 692, descriptorIndex := 142, attributes := #[] }, { accessFlags := 1, nameIndex := 543, descriptorIndex := 573, attributes := #[] }, { accessFlags := 1, nameIndex := 635, descriptorIndex := 765, attributes := #[] }, { accessFlags := 1, nameIndex := 635, descriptorIndex := 636, attributes := #[] }, { accessFlags := 2, nameIndex := 5, descriptorIndex := 29, attributes := #[] }, { accessFlags := 0, nameIndex := 17, descriptorIndex := 337, attributes := #[] }, { accessFlags := 0, nameIndex := 494, descriptorIndex := 142, attributes := #[] }] 49 2 #[1106, 1108, 575, 1110, 1112] #[{ accessFlags := 18, nameIndex := 13, descriptorIndex := 14, attributes := #[] }, { accessFlags := 18, nameIndex := 17, descriptorIndex := 18, attributes := #[] }, { accessFlags := 2, nameIndex := 21, descriptorIndex := 22, attributes := #[] }, { accessFlags := 2, nameIndex := 25, descriptorIndex := 26, attributes := #[] }, { accessFlags := 26, nameIndex := 1116, descriptorIndex := 1117, attributes := #[] }, { accessFlags := 24, nameIndex := 40, descriptorIndex := 26, attributes := #[] }, { accessFlags := 26, nameIndex := 1101, descriptorIndex := 1102, attributes := #[] }, { accessFlags := 26, nameIndex := 1121, descriptorIndex := 1122, attributes := #[] }, { accessFlags := 25, nameIndex := 599, descriptorIndex := 600, attributes := #[] }, { accessFlags := 24, nameIndex := 1125, descriptorIndex := 18, attributes := #[] }, { accessFlags := 24, nameIndex := 1127, descriptorIndex := 18, attributes := #[] }])
  fields := #[{ name := "value", type := (.array .byte), accessFlags := 18, slot := 0, constantValue := 0 }, { name := "coder", type := .byte, accessFlags := 18, slot := 1, constantValue := 0 }, { name := "hash", type := .int, accessFlags := 2, slot := 2, constantValue := 0 }, { name := "hashIsZero", type := .boolean, accessFlags := 2, slot := 3, constantValue := 0 }, { name := "serialVersionUID", type := .long, accessFlags := 26, slot := 0, constantValue := 0 }, { name := "COMPACT_STRINGS", type := .boolean, accessFlags := 24, slot := 1, constantValue := 0 }, { name := "serialPersistentFields", type := (.array (.object "java/io/ObjectStreamField")), accessFlags := 26, slot := 2, constantValue := 0 }, { name := "REPL", type := .char, accessFlags := 26, slot := 3, constantValue := 0 }, { name := "CASE_INSENSITIVE_ORDER", type := (.object "java/util/Comparator"), accessFlags := 25, slot := 4, constantValue := 0 }, { name := "LATIN1", type := .byte, accessFlags := 24, slot := 5, constantValue := 0 }, { name := "UTF16", type := .byte, accessFlags := 24, slot := 6, constantValue := 0 }]
  methods := #[k8m0, k8m1, k8m2, k8m3, k8m4, k8m5, k8m6, k8m7, k8m8, k8m9]
  instanceTypes := #[(.array .byte), .byte, .int, .boolean]
  staticTypes := #[.long, .boolean, (.array (.object "java/io/ObjectStreamField")), .char, (.object "java/util/Comparator"), .byte, .byte]
  resolved := Array.replicate 1451 none
  statics := some 0 }

def pool9 : Array CpInfo := pool [(6, .class_ 8), (1, u "java/lang/Object"), (0, u "<init>"), (0, u "()V"), (1, .class_ 14), (1, u "java/lang/StringUTF16"), (31, u "$assertionsDisabled"), (0, u "Z"), (13, u "HI_BYTE_SHIFT"), (0, u "I"), (2, u "LO_BYTE_SHIFT"), (49, .methodref 12 116), (0, .nameAndType 117 118), (0, u "compress"), (0, u "([CI[BII)I"), (3, u "([CII)[B"), (138, u "coderFromArrayLen"), (0, u "([BI)B"), (106, .class_ 371), (1, u "java/lang/StringUTF16$LinesSpliterator"), (58, u "MAX_LENGTH"), (196, .class_ 628), (0, u "java/lang/StringUTF16$CodePointsSpliterator"), (0, .class_ 630), (0, u "java/lang/StringUTF16$CharsSpliterator")] 4

def k9m0 : Method := { name := "<init>", desc := "()V", sig := { parameters := [], returnType := none }, accessFlags := 0, code := none }
def k9c1 : Code := { maxStack := 2, maxLocals := 2, code := jdk_52_method_15_code, exceptionTable := #[], attributes := #[] }
def k9m1 : Method := { name := "coderFromArrayLen", desc := "([BI)B", sig := { parameters := [(.array .byte), .int], returnType := some .byte }, accessFlags := 8, code := some k9c1 }
def k9c2 : Code := { maxStack := 5, maxLocals := 6, code := jdk_52_method_16_code, exceptionTable := #[], attributes := #[] }
def k9m2 : Method := { name := "compress", desc := "([CII)[B", sig := { parameters := [(.array .char), .int, .int], returnType := some (.array .byte) }, accessFlags := 9, code := some k9c2 }
def k9c3 : Code := { maxStack := 3, maxLocals := 7, code := jdk_52_method_21_code, exceptionTable := #[], attributes := #[] }
def k9m3 : Method := { name := "compress", desc := "([CI[BII)I", sig := { parameters := [(.array .char), .int, (.array .byte), .int, .int], returnType := some .int }, accessFlags := 9, code := some k9c3 }
/-- java/lang/StringUTF16 -/
def k9 : Class := { plain "java/lang/StringUTF16" (some 0) with
  accessFlags := 48
  interfaces := #[]
  cf := some (fileOf pool9 12 #[.nestMembers #[627, 629, 369]] #[{ accessFlags := 0, nameIndex := 9, descriptorIndex := 10, attributes := #[] }, { accessFlags := 8, nameIndex := 261, descriptorIndex := 262, attributes := #[] }, { accessFlags := 9, nameIndex := 117, descriptorIndex := 122, attributes := #[] }, { accessFlags := 9, nameIndex := 117, descriptorIndex := 118, attributes := #[] }] 48 6 #[] #[{ accessFlags := 26, nameIndex := 61, descriptorIndex := 62, attributes := #[] }, { accessFlags := 26, nameIndex := 65, descriptorIndex := 62, attributes := #[] }, { accessFlags := 24, nameIndex := 430, descriptorIndex := 62, attributes := #[] }, { accessFlags := 4120, nameIndex := 46, descriptorIndex := 47, attributes := #[] }])
  fields := #[{ name := "HI_BYTE_SHIFT", type := .int, accessFlags := 26, slot := 0, constantValue := 0 }, { name := "LO_BYTE_SHIFT", type := .int, accessFlags := 26, slot := 1, constantValue := 0 }, { name := "MAX_LENGTH", type := .int, accessFlags := 24, slot := 2, constantValue := 0 }, { name := "$assertionsDisabled", type := .boolean, accessFlags := 4120, slot := 3, constantValue := 0 }]
  methods := #[k9m0, k9m1, k9m2, k9m3]
  instanceTypes := #[]
  staticTypes := #[.int, .int, .int, .boolean]
  resolved := Array.replicate 635 none
  statics := none }

def pool10 : Array CpInfo := pool [(1, .methodref 2 3), (0, .class_ 4), (0, .nameAndType 5 6), (0, u "java/lang/Object"), (0, u "<init>"), (0, u "()V"), (12, .methodref 20 21), (0, .class_ 22), (0, .nameAndType 23 24), (0, u "com/example/frontier/frontier/crawllog/CrawlLogEntry"), (0, u "requireStatus"), (0, u "(J)I"), (1, .string 27), (0, u "URL"), (0, .methodref 20 29), (0, .nameAndType 30 31), (0, u "requireField"), (0, u "(Ljava/lang/String;Ljava/lang/String;)V"), (0, .string 33), (0, u "note"), (0, .fieldref 20 35), (0, .nameAndType 36 37), (0, u "startMillis"), (0, u "J"), (0, .fieldref 20 39), (0, .nameAndType 40 37), (0, u "endMillis"), (0, .fieldref 20 42), (0, .nameAndType 43 44), (0, u "status"), (0, u "I"), (0, .fieldref 20 46), (0, .nameAndType 47 37), (0, u "bodyBytes"), (0, .fieldref 20 49), (0, .nameAndType 50 51), (0, u "url"), (0, u "Ljava/lang/String;"), (0, .fieldref 20 53), (0, .nameAndType 33 51), (3, .class_ 59), (1, u "java/lang/String"), (18, u "(JJIJLjava/lang/String;Ljava/lang/String;)V"), (15, .methodref 57 95), (0, .nameAndType 96 97), (0, u "equals"), (0, u "(Ljava/lang/Object;)Z"), (8, .class_ 108), (1, u "java/util/Objects"), (6, .long 100), (1, .long 999), (2, .methodref 106 121), (0, .nameAndType 122 123), (0, u "requireNonNull"), (0, u "(Ljava/lang/Object;Ljava/lang/String;)Ljava/lang/Object;"), (0, .methodref 57 125), (0, .nameAndType 126 127), (0, u "isEmpty"), (0, u "()Z"), (3, .methodref 57 132), (0, .nameAndType 133 134), (0, u "indexOf"), (0, u "(I)I"), (5, u "DECIMAL"), (0, u "Ljava/util/regex/Pattern;"), (28, u "NO_STATUS"), (2, u "NO_NOTE"), (2, u "SEPARATOR"), (0, u "FIELD_COUNT"), (1, u "MIN_STATUS"), (1, u "MAX_STATUS")] 52

def k10c0 : Code := { maxStack := 6, maxLocals := 10, code := prog_4_method_1_code, exceptionTable := #[], attributes := #[] }
def k10m0 : Method := { name := "<init>", desc := "(JJIJLjava/lang/String;Ljava/lang/String;)V", sig := { parameters := [.long, .long, .int, .long, (.object "java/lang/String"), (.object "java/lang/String")], returnType := none }, accessFlags := 1, code := some k10c0 }
def k10c1 : Code := { maxStack := 4, maxLocals := 3, code := prog_4_method_11_code, exceptionTable := #[], attributes := #[] }
def k10m1 : Method := { name := "equals", desc := "(Ljava/lang/Object;)Z", sig := { parameters := [(.object "java/lang/Object")], returnType := some .boolean }, accessFlags := 1, code := some k10c1 }
def k10c2 : Code := { maxStack := 4, maxLocals := 2, code := prog_4_method_14_code, exceptionTable := #[], attributes := #[] }
def k10m2 : Method := { name := "requireStatus", desc := "(J)I", sig := { parameters := [.long], returnType := some .int }, accessFlags := 10, code := some k10c2 }
def k10c3 : Code := { maxStack := 4, maxLocals := 2, code := prog_4_method_15_code, exceptionTable := #[], attributes := #[] }
def k10m3 : Method := { name := "requireField", desc := "(Ljava/lang/String;Ljava/lang/String;)V", sig := { parameters := [(.object "java/lang/String"), (.object "java/lang/String")], returnType := none }, accessFlags := 10, code := some k10c3 }
/-- com/example/frontier/frontier/crawllog/CrawlLogEntry -/
def k10 : Class := { plain "com/example/frontier/frontier/crawllog/CrawlLogEntry" (some 0) with
  accessFlags := 33
  interfaces := #[]
  cf := some (fileOf pool10 20 #[] #[{ accessFlags := 1, nameIndex := 5, descriptorIndex := 78, attributes := #[] }, { accessFlags := 1, nameIndex := 96, descriptorIndex := 97, attributes := #[] }, { accessFlags := 10, nameIndex := 23, descriptorIndex := 24, attributes := #[] }, { accessFlags := 10, nameIndex := 30, descriptorIndex := 31, attributes := #[] }] 33 2 #[] #[{ accessFlags := 25, nameIndex := 170, descriptorIndex := 44, attributes := #[] }, { accessFlags := 25, nameIndex := 173, descriptorIndex := 51, attributes := #[] }, { accessFlags := 26, nameIndex := 176, descriptorIndex := 51, attributes := #[] }, { accessFlags := 26, nameIndex := 177, descriptorIndex := 44, attributes := #[] }, { accessFlags := 26, nameIndex := 140, descriptorIndex := 141, attributes := #[] }, { accessFlags := 26, nameIndex := 179, descriptorIndex := 44, attributes := #[] }, { accessFlags := 26, nameIndex := 181, descriptorIndex := 44, attributes := #[] }, { accessFlags := 18, nameIndex := 36, descriptorIndex := 37, attributes := #[] }, { accessFlags := 18, nameIndex := 40, descriptorIndex := 37, attributes := #[] }, { accessFlags := 18, nameIndex := 43, descriptorIndex := 44, attributes := #[] }, { accessFlags := 18, nameIndex := 47, descriptorIndex := 37, attributes := #[] }, { accessFlags := 18, nameIndex := 50, descriptorIndex := 51, attributes := #[] }, { accessFlags := 18, nameIndex := 33, descriptorIndex := 51, attributes := #[] }])
  fields := #[{ name := "NO_STATUS", type := .int, accessFlags := 25, slot := 0, constantValue := 0 }, { name := "NO_NOTE", type := (.object "java/lang/String"), accessFlags := 25, slot := 1, constantValue := 0 }, { name := "SEPARATOR", type := (.object "java/lang/String"), accessFlags := 26, slot := 2, constantValue := 0 }, { name := "FIELD_COUNT", type := .int, accessFlags := 26, slot := 3, constantValue := 0 }, { name := "DECIMAL", type := (.object "java/util/regex/Pattern"), accessFlags := 26, slot := 4, constantValue := 0 }, { name := "MIN_STATUS", type := .int, accessFlags := 26, slot := 5, constantValue := 0 }, { name := "MAX_STATUS", type := .int, accessFlags := 26, slot := 6, constantValue := 0 }, { name := "startMillis", type := .long, accessFlags := 18, slot := 0, constantValue := 0 }, { name := "endMillis", type := .long, accessFlags := 18, slot := 1, constantValue := 0 }, { name := "status", type := .int, accessFlags := 18, slot := 2, constantValue := 0 }, { name := "bodyBytes", type := .long, accessFlags := 18, slot := 3, constantValue := 0 }, { name := "url", type := (.object "java/lang/String"), accessFlags := 18, slot := 4, constantValue := 0 }, { name := "note", type := (.object "java/lang/String"), accessFlags := 18, slot := 5, constantValue := 0 }]
  methods := #[k10m0, k10m1, k10m2, k10m3]
  instanceTypes := #[.long, .long, .int, .long, (.object "java/lang/String"), (.object "java/lang/String")]
  staticTypes := #[.int, (.object "java/lang/String"), (.object "java/lang/String"), .int, (.object "java/util/regex/Pattern"), .int, .int]
  resolved := Array.replicate 234 none
  statics := none }

def pool11 : Array CpInfo := pool [(2, .class_ 4), (1, u "java/lang/Object"), (0, u "<init>"), (0, u "()V"), (35, .class_ 44), (1, u "java/util/Objects"), (0, u "requireNonNull"), (48, u "(Ljava/lang/Object;Ljava/lang/String;)Ljava/lang/Object;")] 89

def k11m0 : Method := { name := "<init>", desc := "()V", sig := { parameters := [], returnType := none }, accessFlags := 2, code := none }
def k11c1 : Code := { maxStack := 3, maxLocals := 2, code := jdk_31_method_11_code, exceptionTable := #[], attributes := #[] }
def k11m1 : Method := { name := "requireNonNull", desc := "(Ljava/lang/Object;Ljava/lang/String;)Ljava/lang/Object;", sig := { parameters := [(.object "java/lang/Object"), (.object "java/lang/String")], returnType := some (.object "java/lang/Object") }, accessFlags := 9, code := some k11c1 }
/-- java/util/Objects -/
def k11 : Class := { plain "java/util/Objects" (some 0) with
  accessFlags := 49
  interfaces := #[]
  cf := some (fileOf pool11 42 #[] #[{ accessFlags := 2, nameIndex := 5, descriptorIndex := 6, attributes := #[] }, { accessFlags := 9, nameIndex := 45, descriptorIndex := 94, attributes := #[] }] 49 2 #[] #[])
  fields := #[]
  methods := #[k11m0, k11m1]
  instanceTypes := #[]
  staticTypes := #[]
  resolved := Array.replicate 184 none
  statics := none }

def pool12 : Array CpInfo := pool [(4, .class_ 6), (1, u "java/lang/Object"), (0, u "<init>"), (0, u "()V"), (5, .class_ 16), (1, u "java/lang/StringLatin1"), (21, .methodref 39 40), (0, .class_ 41), (0, .nameAndType 42 43), (0, u "java/lang/Math"), (0, u "min"), (0, u "(II)I"), (44, .methodref 14 89), (0, .nameAndType 90 91), (0, u "canEncode"), (0, u "(I)Z"), (0, .methodref 39 93), (0, .nameAndType 94 43), (0, u "max"), (0, .methodref 14 96), (0, .nameAndType 97 98), (0, u "indexOfChar"), (0, u "([BIII)I"), (2, u "indexOf"), (19, u "$assertionsDisabled"), (0, u "Z"), (98, .class_ 223), (1, u "java/lang/StringLatin1$LinesSpliterator"), (57, u "equals"), (0, u "([B[B)Z"), (107, .class_ 391), (0, u "java/lang/StringLatin1$CharsSpliterator")] 3

def k12m0 : Method := { name := "<init>", desc := "()V", sig := { parameters := [], returnType := none }, accessFlags := 0, code := none }
def k12c1 : Code := { maxStack := 2, maxLocals := 1, code := jdk_43_method_4_code, exceptionTable := #[], attributes := #[] }
def k12m1 : Method := { name := "canEncode", desc := "(I)Z", sig := { parameters := [.int], returnType := some .boolean }, accessFlags := 9, code := some k12c1 }
def k12c2 : Code := { maxStack := 3, maxLocals := 3, code := jdk_43_method_13_code, exceptionTable := #[], attributes := #[] }
def k12m2 : Method := { name := "equals", desc := "([B[B)Z", sig := { parameters := [(.array .byte), (.array .byte)], returnType := some .boolean }, accessFlags := 9, code := some k12c2 }
def k12c3 : Code := { maxStack := 4, maxLocals := 4, code := jdk_43_method_22_code, exceptionTable := #[], attributes := #[] }
def k12m3 : Method := { name := "indexOf", desc := "([BIII)I", sig := { parameters := [(.array .byte), .int, .int, .int], returnType := some .int }, accessFlags := 9, code := some k12c3 }
def k12c4 : Code := { maxStack := 2, maxLocals := 6, code := jdk_43_method_23_code, exceptionTable := #[], attributes := #[] }
def k12m4 : Method := { name := "indexOfChar", desc := "([BIII)I", sig := { parameters := [(.array .byte), .int, .int, .int], returnType := some .int }, accessFlags := 10, code := some k12c4 }
/-- java/lang/StringLatin1 -/
def k12 : Class := { plain "java/lang/StringLatin1" (some 0) with
  accessFlags := 48
  interfaces := #[]
  cf := some (fileOf pool12 14 #[.nestMembers #[390, 221]] #[{ accessFlags := 0, nameIndex := 7, descriptorIndex := 8, attributes := #[] }, { accessFlags := 9, nameIndex := 90, descriptorIndex := 91, attributes := #[] }, { accessFlags := 9, nameIndex := 281, descriptorIndex := 282, attributes := #[] }, { accessFlags := 9, nameIndex := 101, descriptorIndex := 98, attributes := #[] }, { accessFlags := 10, nameIndex := 97, descriptorIndex := 98, attributes := #[] }] 48 4 #[] #[{ accessFlags := 4120, nameIndex := 121, descriptorIndex := 122, attributes := #[] }])
  fields := #[{ name := "$assertionsDisabled", type := .boolean, accessFlags := 4120, slot := 0, constantValue := 0 }]
  methods := #[k12m0, k12m1, k12m2, k12m3, k12m4]
  instanceTypes := #[]
  staticTypes := #[.boolean]
  resolved := Array.replicate 395 none
  statics := none }

def pool13 : Array CpInfo := pool [(2, .class_ 4), (1, u "java/lang/Object"), (0, u "<init>"), (0, u "()V"), (17, .class_ 26), (1, u "jdk/internal/util/Preconditions"), (28, .class_ 56), (0, u "jdk/internal/util/Preconditions$4"), (57, .class_ 115), (0, u "jdk/internal/util/Preconditions$1"), (7, u "SIOOBE_FORMATTER"), (0, u "Ljava/util/function/BiFunction;"), (0, .class_ 126), (0, u "jdk/internal/util/Preconditions$2"), (3, u "AIOOBE_FORMATTER"), (0, .class_ 132), (0, u "jdk/internal/util/Preconditions$3"), (3, u "IOOBE_FORMATTER")] 57

def k13m0 : Method := { name := "<init>", desc := "()V", sig := { parameters := [], returnType := none }, accessFlags := 1, code := none }
/-- jdk/internal/util/Preconditions -/
def k13 : Class := { plain "jdk/internal/util/Preconditions" (some 0) with
  accessFlags := 33
  interfaces := #[]
  cf := some (fileOf pool13 24 #[.nestMembers #[55, 131, 125, 114]] #[{ accessFlags := 1, nameIndex := 5, descriptorIndex := 6, attributes := #[] }] 33 2 #[] #[{ accessFlags := 25, nameIndex := 123, descriptorIndex := 124, attributes := #[] }, { accessFlags := 25, nameIndex := 130, descriptorIndex := 124, attributes := #[] }, { accessFlags := 25, nameIndex := 136, descriptorIndex := 124, attributes := #[] }])
  fields := #[{ name := "SIOOBE_FORMATTER", type := (.object "java/util/function/BiFunction"), accessFlags := 25, slot := 0, constantValue := 0 }, { name := "AIOOBE_FORMATTER", type := (.object "java/util/function/BiFunction"), accessFlags := 25, slot := 1, constantValue := 0 }, { name := "IOOBE_FORMATTER", type := (.object "java/util/function/BiFunction"), accessFlags := 25, slot := 2, constantValue := 0 }]
  methods := #[k13m0]
  instanceTypes := #[]
  staticTypes := #[(.object "java/util/function/BiFunction"), (.object "java/util/function/BiFunction"), (.object "java/util/function/BiFunction")]
  resolved := Array.replicate 194 none
  statics := some 1 }

def pool14 : Array CpInfo := pool [(9, u "<init>"), (6, .class_ 18), (1, u "java/lang/Object"), (0, u "()V"), (1, .class_ 23), (1, u "jdk/internal/util/ArraysSupport"), (0, u "LOG2_ARRAY_LONG_INDEX_SCALE"), (0, u "I"), (2, u "U"), (0, u "Ljdk/internal/misc/Unsafe;"), (8, u "BIG_ENDIAN"), (0, u "Z"), (8, u "LOG2_BYTE_BIT_SIZE"), (4, u "LOG2_ARRAY_INT_INDEX_SCALE"), (54, u "JLA"), (0, u "Ljdk/internal/access/JavaLangAccess;"), (11, u "LOG2_ARRAY_BOOLEAN_INDEX_SCALE"), (9, u "LOG2_ARRAY_BYTE_INDEX_SCALE"), (5, u "LOG2_ARRAY_CHAR_INDEX_SCALE"), (5, u "LOG2_ARRAY_SHORT_INDEX_SCALE"), (18, u "LOG2_ARRAY_FLOAT_INDEX_SCALE"), (24, u "LOG2_ARRAY_DOUBLE_INDEX_SCALE"), (89, u "T_BOOLEAN"), (2, u "T_CHAR"), (1, u "T_FLOAT"), (1, u "T_DOUBLE"), (1, u "T_BYTE"), (1, u "T_SHORT"), (1, u "T_INT"), (1, u "T_LONG"), (1, u "SOFT_MAX_ARRAY_LENGTH")] 83

def k14m0 : Method := { name := "<init>", desc := "()V", sig := { parameters := [], returnType := none }, accessFlags := 2, code := none }
/-- jdk/internal/util/ArraysSupport -/
def k14 : Class := { plain "jdk/internal/util/ArraysSupport" (some 0) with
  accessFlags := 33
  interfaces := #[]
  cf := some (fileOf pool14 21 #[] #[{ accessFlags := 2, nameIndex := 9, descriptorIndex := 19, attributes := #[] }] 33 16 #[] #[{ accessFlags := 24, nameIndex := 28, descriptorIndex := 29, attributes := #[] }, { accessFlags := 26, nameIndex := 38, descriptorIndex := 39, attributes := #[] }, { accessFlags := 25, nameIndex := 121, descriptorIndex := 25, attributes := #[] }, { accessFlags := 25, nameIndex := 131, descriptorIndex := 25, attributes := #[] }, { accessFlags := 25, nameIndex := 137, descriptorIndex := 25, attributes := #[] }, { accessFlags := 25, nameIndex := 143, descriptorIndex := 25, attributes := #[] }, { accessFlags := 25, nameIndex := 53, descriptorIndex := 25, attributes := #[] }, { accessFlags := 25, nameIndex := 24, descriptorIndex := 25, attributes := #[] }, { accessFlags := 25, nameIndex := 162, descriptorIndex := 25, attributes := #[] }, { accessFlags := 25, nameIndex := 187, descriptorIndex := 25, attributes := #[] }, { accessFlags := 26, nameIndex := 48, descriptorIndex := 25, attributes := #[] }, { accessFlags := 25, nameIndex := 277, descriptorIndex := 25, attributes := #[] }, { accessFlags := 25, nameIndex := 280, descriptorIndex := 25, attributes := #[] }, { accessFlags := 25, nameIndex := 282, descriptorIndex := 25, attributes := #[] }, { accessFlags := 25, nameIndex := 284, descriptorIndex := 25, attributes := #[] }, { accessFlags := 25, nameIndex := 286, descriptorIndex := 25, attributes := #[] }, { accessFlags := 25, nameIndex := 288, descriptorIndex := 25, attributes := #[] }, { accessFlags := 25, nameIndex := 290, descriptorIndex := 25, attributes := #[] }, { accessFlags := 25, nameIndex := 292, descriptorIndex := 25, attributes := #[] }, { accessFlags := 26, nameIndex := 108, descriptorIndex := 109, attributes := #[] }, { accessFlags := 25, nameIndex := 294, descriptorIndex := 25, attributes := #[] }])
  fields := #[{ name := "U", type := (.object "jdk/internal/misc/Unsafe"), accessFlags := 24, slot := 0, constantValue := 0 }, { name := "BIG_ENDIAN", type := .boolean, accessFlags := 26, slot := 1, constantValue := 0 }, { name := "LOG2_ARRAY_BOOLEAN_INDEX_SCALE", type := .int, accessFlags := 25, slot := 2, constantValue := 0 }, { name := "LOG2_ARRAY_BYTE_INDEX_SCALE", type := .int, accessFlags := 25, slot := 3, constantValue := 0 }, { name := "LOG2_ARRAY_CHAR_INDEX_SCALE", type := .int, accessFlags := 25, slot := 4, constantValue := 0 }, { name := "LOG2_ARRAY_SHORT_INDEX_SCALE", type := .int, accessFlags := 25, slot := 5, constantValue := 0 }, { name := "LOG2_ARRAY_INT_INDEX_SCALE", type := .int, accessFlags := 25, slot := 6, constantValue := 0 }, { name := "LOG2_ARRAY_LONG_INDEX_SCALE", type := .int, accessFlags := 25, slot := 7, constantValue := 0 }, { name := "LOG2_ARRAY_FLOAT_INDEX_SCALE", type := .int, accessFlags := 25, slot := 8, constantValue := 0 }, { name := "LOG2_ARRAY_DOUBLE_INDEX_SCALE", type := .int, accessFlags := 25, slot := 9, constantValue := 0 }, { name := "LOG2_BYTE_BIT_SIZE", type := .int, accessFlags := 26, slot := 10, constantValue := 0 }, { name := "T_BOOLEAN", type := .int, accessFlags := 25, slot := 11, constantValue := 0 }, { name := "T_CHAR", type := .int, accessFlags := 25, slot := 12, constantValue := 0 }, { name := "T_FLOAT", type := .int, accessFlags := 25, slot := 13, constantValue := 0 }, { name := "T_DOUBLE", type := .int, accessFlags := 25, slot := 14, constantValue := 0 }, { name := "T_BYTE", type := .int, accessFlags := 25, slot := 15, constantValue := 0 }, { name := "T_SHORT", type := .int, accessFlags := 25, slot := 16, constantValue := 0 }, { name := "T_INT", type := .int, accessFlags := 25, slot := 17, constantValue := 0 }, { name := "T_LONG", type := .int, accessFlags := 25, slot := 18, constantValue := 0 }, { name := "JLA", type := (.object "jdk/internal/access/JavaLangAccess"), accessFlags := 26, slot := 19, constantValue := 0 }, { name := "SOFT_MAX_ARRAY_LENGTH", type := .int, accessFlags := 25, slot := 20, constantValue := 0 }]
  methods := #[k14m0]
  instanceTypes := #[]
  staticTypes := #[(.object "jdk/internal/misc/Unsafe"), .boolean, .int, .int, .int, .int, .int, .int, .int, .int, .int, .int, .int, .int, .int, .int, .int, .int, .int, (.object "jdk/internal/access/JavaLangAccess"), .int]
  resolved := Array.replicate 378 none
  statics := none }

def pool15 : Array CpInfo := pool [(1, u "java/lang/Cloneable"), (0, .class_ 1), (0, u "java/lang/Object"), (0, .class_ 3)] 3

/-- java/lang/Cloneable -/
def k15 : Class := { plain "java/lang/Cloneable" (some 0) with
  accessFlags := 1537
  interfaces := #[]
  cf := some (fileOf pool15 2 #[] #[] 1537 4 #[] #[])
  fields := #[]
  methods := #[]
  instanceTypes := #[]
  staticTypes := #[]
  resolved := Array.replicate 8 none
  statics := none }

/-- the primitive byte -/
def k16 : Class := { plain "byte" none with kind := .primitive 'B', accessFlags := 0x411 }
/-- [B -/
def k17 : Class := { plain "[B" (some 0) with kind := .array 16 .byte, interfaces := #[15, 3], accessFlags := 1041 }

/-- the primitive char -/
def k18 : Class := { plain "char" none with kind := .primitive 'C', accessFlags := 0x411 }
/-- [C -/
def k19 : Class := { plain "[C" (some 0) with kind := .array 18 .char, interfaces := #[15, 3], accessFlags := 1041 }

/-- the primitive int -/
def k20 : Class := { plain "int" none with kind := .primitive 'I', accessFlags := 0x411 }
/-- [I -/
def k21 : Class := { plain "[I" (some 0) with kind := .array 20 .int, interfaces := #[15, 3], accessFlags := 1041 }

def heap : Heap := #[{ cls := 8, slots := #[.long 0, .int 1, .null, .int 0, .null, .int 0, .int 0], vm := .statics 8 },
  { cls := 13, slots := #[.null, .null, .null], vm := .statics 13 }]
def classes : Array Class := #[k0, k1, k2, k3, k4, k5, k6, k7, k8, k9, k10, k11, k12, k13, k14, k15, k16, k17, k18, k19, k20, k21]
def interned : List (Array UInt16 × Addr) := []
def slotsUsed : Nat := 10
def theMethod : MethodId := ⟨1, 3⟩
def args0 : Array Value := #[.long 5, .long 7, .long 9, .long 11, .int 3, .int 5]
def aboutOver (below : List Frame) : State where
  vm := { classes := classes, interned := interned.toArray }
  heap := heap
  slotsUsed := slotsUsed
  threads := #[{ frames := .invoking theMethod args0 :: below }]
def below0 : List Frame := [.native { method := ⟨0, 0⟩, args := #[] }]
def about1 : State := aboutOver below0
def p0 : Program := .bare "" "" ""
def e0 : Env := launch0.env 0 0 0
theorem w_frames : about1.frames = Frame.invoking theMethod args0 :: below0 := rfl
set_option maxRecDepth 65536 in
theorem w_args : argsFit about1.vm theMethod args0 = true := by decide +kernel
set_option maxRecDepth 65536 in
theorem w_heap : heapFits about1 = true := by decide +kernel
set_option maxRecDepth 65536 in
theorem w_runnable : about1.curStatus? = some .runnable := by decide +kernel
set_option maxRecDepth 65536 in
theorem w_alone : about1.alone = true := by decide +kernel
set_option maxRecDepth 65536 in
theorem w_named : about1.methodNamed? x = some theMethod := by decide +kernel
set_option maxRecDepth 65536 in
theorem w_hears : about1.hears theMethod below0 = true := by decide +kernel
set_option maxRecDepth 65536 in
theorem w_ripe : about1.ripe theMethod args0 below0 = true := by decide +kernel
theorem w_running : about1.status = .running := rfl
set_option maxRecDepth 65536 in
theorem w_room : about1.hasRoom e0.platform room_1 = true :=
  launch0.hasRoom_least _ room_1 (by decide +kernel) (by decide +kernel) (by decide +kernel) (by decide +kernel) (by decide +kernel) (by decide +kernel)
theorem allAtoms_all (ts : List Jvm.Cond) (a : Array Jvm.Value) (st : Jvm.State) : (allAtoms ts).before a st = ts.all (fun c => c.before a st) := by
  induction ts with
  | nil => rfl
  | cons c t ih =>
    show (Jvm.Cond.and c (allAtoms t)).before a st = _
    rw [Jvm.Cond.before_and, ih, List.all_cons]
def words1 : List Jvm.Cond := Jvm.Cond.code x code maxLocals ret :: tables_1
/-- a 'code' word, met by the world's own term for the bytes: nothing is compared byte by byte -/
theorem code_word {y : MethodName} {bytes : ByteArray} {mx : Nat} {rt : Option FieldType} {a : Array Value} {s : State} {m : MethodId} {meth : Method} {c : Code} (h1 : s.methodNamed? y = some m) (h2 : s.vm.method? m = some meth) (h3 : meth.code = some c) (h4 : c.code = bytes)
    (h5 : (c.maxLocals == mx && c.exceptionTable.isEmpty && decide (c.maxStack ≤ mostOperands) && decide (meth.sig.returnType = rt) && !meth.locks && decide (parseMethodDescriptor y.desc = some meth.sig)) = true) : (Jvm.Cond.code y bytes mx rt).before a s = true := by
  simp only [Bool.and_eq_true, beq_iff_eq, Bool.not_eq_true', decide_eq_true_eq] at h5
  obtain ⟨⟨⟨⟨⟨g1, g2⟩, g3⟩, g4⟩, g5⟩, g6⟩ := h5
  simp [Cond.before, Cond.holds, Cond.value, h1, h2, h3, h4, g1, g2, g3, g4, g5, g6]
def isCode : Jvm.Cond → Bool
  | .code _ _ _ _ => true
  | _ => false
theorem all_split {L : List Jvm.Cond} {P : Jvm.Cond → Bool} (h1 : L.all (fun c => isCode c || P c) = true) (h2 : ∀ c ∈ L.filter isCode, P c = true) : L.all P = true := by
  refine List.all_eq_true.mpr fun c hc => ?_
  have h := List.all_eq_true.mp h1 c hc
  rcases Bool.eq_false_or_eq_true (isCode c) with hi | hi
  · exact h2 c (List.mem_filter.mpr ⟨hc, hi⟩)
  · simpa [hi] using h
set_option maxRecDepth 65536 in
theorem w_c0 : (Jvm.Cond.code x code maxLocals ret).before args0 about1 = true := code_word (m := ⟨1, 3⟩) (meth := k1m3) (c := k1c3) (by decide +kernel) rfl rfl rfl (by decide +kernel)
set_option maxRecDepth 65536 in
theorem w_c1 : (Jvm.Cond.code ({ cls := "java/lang/Math", name := "min", desc := "(JJ)J" } : Jvm.MethodName) jdk_29_method_70_code (4 : Nat) (Option.some Jvm.ClassFile.FieldType.long)).before args0 about1 = true := code_word (m := ⟨2, 4⟩) (meth := k2m4) (c := k2c4) (by decide +kernel) rfl rfl rfl (by decide +kernel)
set_option maxRecDepth 65536 in
theorem w_c2 : (Jvm.Cond.code ({ cls := "java/lang/Math", name := "max", desc := "(JJ)J" } : Jvm.MethodName) jdk_29_method_66_code (4 : Nat) (Option.some Jvm.ClassFile.FieldType.long)).before args0 about1 = true := code_word (m := ⟨2, 2⟩) (meth := k2m2) (c := k2c2) (by decide +kernel) rfl rfl rfl (by decide +kernel)
set_option maxRecDepth 65536 in
theorem w_c3 : (Jvm.Cond.code ({ cls := "com/example/frontier/frontier/crawllog/CrawlLogEntryEqualsPinLaw", name := "code", desc := "(I)I" } : Jvm.MethodName) method_3_code (2 : Nat) (Option.some Jvm.ClassFile.FieldType.int)).before args0 about1 = true := code_word (m := ⟨1, 2⟩) (meth := k1m2) (c := k1c2) (by decide +kernel) rfl rfl rfl (by decide +kernel)
set_option maxRecDepth 65536 in
theorem w_c4 : (Jvm.Cond.code ({ cls := "com/example/frontier/frontier/crawllog/CrawlLogEntryEqualsPinLaw", name := "ch", desc := "(I)C" } : Jvm.MethodName) method_2_code (2 : Nat) (Option.some Jvm.ClassFile.FieldType.char)).before args0 about1 = true := code_word (m := ⟨1, 1⟩) (meth := k1m1) (c := k1c1) (by decide +kernel) rfl rfl rfl (by decide +kernel)
set_option maxRecDepth 65536 in
theorem w_c5 : (Jvm.Cond.code ({ cls := "java/lang/String", name := "<init>", desc := "([C)V" } : Jvm.MethodName) jdk_42_method_3_code (2 : Nat) (Option.none : Option Jvm.ClassFile.FieldType)).before args0 about1 = true := code_word (m := ⟨8, 1⟩) (meth := k8m1) (c := k8c1) (by decide +kernel) rfl rfl rfl (by decide +kernel)
set_option maxRecDepth 65536 in
theorem w_c6 : (Jvm.Cond.code ({ cls := "java/lang/String", name := "<init>", desc := "([CIILjava/lang/Void;)V" } : Jvm.MethodName) jdk_42_method_149_code (6 : Nat) (Option.none : Option Jvm.ClassFile.FieldType)).before args0 about1 = true := code_word (m := ⟨8, 7⟩) (meth := k8m7) (c := k8c7) (by decide +kernel) rfl rfl rfl (by decide +kernel)
set_option maxRecDepth 65536 in
theorem w_c7 : (Jvm.Cond.code ({ cls := "java/lang/Object", name := "<init>", desc := "()V" } : Jvm.MethodName) object_method_1_code (1 : Nat) (Option.none : Option Jvm.ClassFile.FieldType)).before args0 about1 = true := code_word (m := ⟨0, 0⟩) (meth := k0m0) (c := k0c0) (by decide +kernel) rfl rfl rfl (by decide +kernel)
set_option maxRecDepth 65536 in
theorem w_c8 : (Jvm.Cond.code ({ cls := "java/lang/StringUTF16", name := "compress", desc := "([CII)[B" } : Jvm.MethodName) jdk_52_method_16_code (6 : Nat) (Option.some (Jvm.ClassFile.FieldType.array Jvm.ClassFile.FieldType.byte))).before args0 about1 = true := code_word (m := ⟨9, 2⟩) (meth := k9m2) (c := k9c2) (by decide +kernel) rfl rfl rfl (by decide +kernel)
set_option maxRecDepth 65536 in
theorem w_c9 : (Jvm.Cond.code ({ cls := "java/lang/StringUTF16", name := "compress", desc := "([CI[BII)I" } : Jvm.MethodName) jdk_52_method_21_code (7 : Nat) (Option.some Jvm.ClassFile.FieldType.int)).before args0 about1 = true := code_word (m := ⟨9, 3⟩) (meth := k9m3) (c := k9c3) (by decide +kernel) rfl rfl rfl (by decide +kernel)
set_option maxRecDepth 65536 in
theorem w_c10 : (Jvm.Cond.code ({ cls := "java/lang/StringUTF16", name := "coderFromArrayLen", desc := "([BI)B" } : Jvm.MethodName) jdk_52_method_15_code (2 : Nat) (Option.some Jvm.ClassFile.FieldType.byte)).before args0 about1 = true := code_word (m := ⟨9, 1⟩) (meth := k9m1) (c := k9c1) (by decide +kernel) rfl rfl rfl (by decide +kernel)
set_option maxRecDepth 65536 in
theorem w_c11 : (Jvm.Cond.code ({ cls := "com/example/frontier/frontier/crawllog/CrawlLogEntry", name := "<init>", desc := "(JJIJLjava/lang/String;Ljava/lang/String;)V" } : Jvm.MethodName) prog_4_method_1_code (10 : Nat) (Option.none : Option Jvm.ClassFile.FieldType)).before args0 about1 = true := code_word (m := ⟨10, 0⟩) (meth := k10m0) (c := k10c0) (by decide +kernel) rfl rfl rfl (by decide +kernel)
set_option maxRecDepth 65536 in
theorem w_c12 : (Jvm.Cond.code ({ cls := "com/example/frontier/frontier/crawllog/CrawlLogEntry", name := "requireStatus", desc := "(J)I" } : Jvm.MethodName) prog_4_method_14_code (2 : Nat) (Option.some Jvm.ClassFile.FieldType.int)).before args0 about1 = true := code_word (m := ⟨10, 2⟩) (meth := k10m2) (c := k10c2) (by decide +kernel) rfl rfl rfl (by decide +kernel)
set_option maxRecDepth 65536 in
theorem w_c13 : (Jvm.Cond.code ({ cls := "com/example/frontier/frontier/crawllog/CrawlLogEntry", name := "requireField", desc := "(Ljava/lang/String;Ljava/lang/String;)V" } : Jvm.MethodName) prog_4_method_15_code (2 : Nat) (Option.none : Option Jvm.ClassFile.FieldType)).before args0 about1 = true := code_word (m := ⟨10, 3⟩) (meth := k10m3) (c := k10c3) (by decide +kernel) rfl rfl rfl (by decide +kernel)
set_option maxRecDepth 65536 in
theorem w_c14 : (Jvm.Cond.code ({ cls := "java/util/Objects", name := "requireNonNull", desc := "(Ljava/lang/Object;Ljava/lang/String;)Ljava/lang/Object;" } : Jvm.MethodName) jdk_31_method_11_code (2 : Nat) (Option.some (Jvm.ClassFile.FieldType.object "java/lang/Object"))).before args0 about1 = true := code_word (m := ⟨11, 1⟩) (meth := k11m1) (c := k11c1) (by decide +kernel) rfl rfl rfl (by decide +kernel)
set_option maxRecDepth 65536 in
theorem w_c15 : (Jvm.Cond.code ({ cls := "java/lang/String", name := "isEmpty", desc := "()Z" } : Jvm.MethodName) jdk_42_method_55_code (1 : Nat) (Option.some Jvm.ClassFile.FieldType.boolean)).before args0 about1 = true := code_word (m := ⟨8, 3⟩) (meth := k8m3) (c := k8c3) (by decide +kernel) rfl rfl rfl (by decide +kernel)
set_option maxRecDepth 65536 in
theorem w_c16 : (Jvm.Cond.code ({ cls := "java/lang/String", name := "indexOf", desc := "(I)I" } : Jvm.MethodName) jdk_42_method_79_code (2 : Nat) (Option.some Jvm.ClassFile.FieldType.int)).before args0 about1 = true := code_word (m := ⟨8, 5⟩) (meth := k8m5) (c := k8c5) (by decide +kernel) rfl rfl rfl (by decide +kernel)
set_option maxRecDepth 65536 in
theorem w_c17 : (Jvm.Cond.code ({ cls := "java/lang/String", name := "indexOf", desc := "(II)I" } : Jvm.MethodName) jdk_42_method_80_code (3 : Nat) (Option.some Jvm.ClassFile.FieldType.int)).before args0 about1 = true := code_word (m := ⟨8, 6⟩) (meth := k8m6) (c := k8c6) (by decide +kernel) rfl rfl rfl (by decide +kernel)
set_option maxRecDepth 65536 in
theorem w_c18 : (Jvm.Cond.code ({ cls := "java/lang/String", name := "isLatin1", desc := "()Z" } : Jvm.MethodName) jdk_42_method_154_code (1 : Nat) (Option.some Jvm.ClassFile.FieldType.boolean)).before args0 about1 = true := code_word (m := ⟨8, 9⟩) (meth := k8m9) (c := k8c9) (by decide +kernel) rfl rfl rfl (by decide +kernel)
set_option maxRecDepth 65536 in
theorem w_c19 : (Jvm.Cond.code ({ cls := "java/lang/String", name := "length", desc := "()I" } : Jvm.MethodName) jdk_42_method_54_code (1 : Nat) (Option.some Jvm.ClassFile.FieldType.int)).before args0 about1 = true := code_word (m := ⟨8, 2⟩) (meth := k8m2) (c := k8c2) (by decide +kernel) rfl rfl rfl (by decide +kernel)
set_option maxRecDepth 65536 in
theorem w_c20 : (Jvm.Cond.code ({ cls := "java/lang/String", name := "coder", desc := "()B" } : Jvm.MethodName) jdk_42_method_152_code (1 : Nat) (Option.some Jvm.ClassFile.FieldType.byte)).before args0 about1 = true := code_word (m := ⟨8, 8⟩) (meth := k8m8) (c := k8c8) (by decide +kernel) rfl rfl rfl (by decide +kernel)
set_option maxRecDepth 65536 in
theorem w_c21 : (Jvm.Cond.code ({ cls := "java/lang/StringLatin1", name := "indexOf", desc := "([BIII)I" } : Jvm.MethodName) jdk_43_method_22_code (4 : Nat) (Option.some Jvm.ClassFile.FieldType.int)).before args0 about1 = true := code_word (m := ⟨12, 3⟩) (meth := k12m3) (c := k12c3) (by decide +kernel) rfl rfl rfl (by decide +kernel)
set_option maxRecDepth 65536 in
theorem w_c22 : (Jvm.Cond.code ({ cls := "java/lang/StringLatin1", name := "canEncode", desc := "(I)Z" } : Jvm.MethodName) jdk_43_method_4_code (1 : Nat) (Option.some Jvm.ClassFile.FieldType.boolean)).before args0 about1 = true := code_word (m := ⟨12, 1⟩) (meth := k12m1) (c := k12c1) (by decide +kernel) rfl rfl rfl (by decide +kernel)
set_option maxRecDepth 65536 in
theorem w_c23 : (Jvm.Cond.code ({ cls := "java/lang/Math", name := "max", desc := "(II)I" } : Jvm.MethodName) jdk_29_method_65_code (2 : Nat) (Option.some Jvm.ClassFile.FieldType.int)).before args0 about1 = true := code_word (m := ⟨2, 1⟩) (meth := k2m1) (c := k2c1) (by decide +kernel) rfl rfl rfl (by decide +kernel)
set_option maxRecDepth 65536 in
theorem w_c24 : (Jvm.Cond.code ({ cls := "java/lang/Math", name := "min", desc := "(II)I" } : Jvm.MethodName) jdk_29_method_69_code (2 : Nat) (Option.some Jvm.ClassFile.FieldType.int)).before args0 about1 = true := code_word (m := ⟨2, 3⟩) (meth := k2m3) (c := k2c3) (by decide +kernel) rfl rfl rfl (by decide +kernel)
set_option maxRecDepth 65536 in
theorem w_c25 : (Jvm.Cond.code ({ cls := "java/lang/StringLatin1", name := "indexOfChar", desc := "([BIII)I" } : Jvm.MethodName) jdk_43_method_23_code (6 : Nat) (Option.some Jvm.ClassFile.FieldType.int)).before args0 about1 = true := code_word (m := ⟨12, 4⟩) (meth := k12m4) (c := k12c4) (by decide +kernel) rfl rfl rfl (by decide +kernel)
set_option maxRecDepth 65536 in
theorem w_c26 : (Jvm.Cond.code ({ cls := "com/example/frontier/frontier/crawllog/CrawlLogEntry", name := "equals", desc := "(Ljava/lang/Object;)Z" } : Jvm.MethodName) prog_4_method_11_code (3 : Nat) (Option.some Jvm.ClassFile.FieldType.boolean)).before args0 about1 = true := code_word (m := ⟨10, 1⟩) (meth := k10m1) (c := k10c1) (by decide +kernel) rfl rfl rfl (by decide +kernel)
set_option maxRecDepth 65536 in
theorem w_c27 : (Jvm.Cond.code ({ cls := "java/lang/String", name := "equals", desc := "(Ljava/lang/Object;)Z" } : Jvm.MethodName) jdk_42_method_66_code (3 : Nat) (Option.some Jvm.ClassFile.FieldType.boolean)).before args0 about1 = true := code_word (m := ⟨8, 4⟩) (meth := k8m4) (c := k8c4) (by decide +kernel) rfl rfl rfl (by decide +kernel)
set_option maxRecDepth 65536 in
theorem w_c28 : (Jvm.Cond.code ({ cls := "java/lang/StringLatin1", name := "equals", desc := "([B[B)Z" } : Jvm.MethodName) jdk_43_method_13_code (3 : Nat) (Option.some Jvm.ClassFile.FieldType.boolean)).before args0 about1 = true := code_word (m := ⟨12, 2⟩) (meth := k12m2) (c := k12c2) (by decide +kernel) rfl rfl rfl (by decide +kernel)
def codes1 : List Jvm.Cond := [Jvm.Cond.code x code maxLocals ret, Jvm.Cond.code ({ cls := "java/lang/Math", name := "min", desc := "(JJ)J" } : Jvm.MethodName) jdk_29_method_70_code (4 : Nat) (Option.some Jvm.ClassFile.FieldType.long), Jvm.Cond.code ({ cls := "java/lang/Math", name := "max", desc := "(JJ)J" } : Jvm.MethodName) jdk_29_method_66_code (4 : Nat) (Option.some Jvm.ClassFile.FieldType.long), Jvm.Cond.code ({ cls := "com/example/frontier/frontier/crawllog/CrawlLogEntryEqualsPinLaw", name := "code", desc := "(I)I" } : Jvm.MethodName) method_3_code (2 : Nat) (Option.some Jvm.ClassFile.FieldType.int), Jvm.Cond.code ({ cls := "com/example/frontier/frontier/crawllog/CrawlLogEntryEqualsPinLaw", name := "ch", desc := "(I)C" } : Jvm.MethodName) method_2_code (2 : Nat) (Option.some Jvm.ClassFile.FieldType.char), Jvm.Cond.code ({ cls := "java/lang/String", name := "<init>", desc := "([C)V" } : Jvm.MethodName) jdk_42_method_3_code (2 : Nat) (Option.none : Option Jvm.ClassFile.FieldType), Jvm.Cond.code ({ cls := "java/lang/String", name := "<init>", desc := "([CIILjava/lang/Void;)V" } : Jvm.MethodName) jdk_42_method_149_code (6 : Nat) (Option.none : Option Jvm.ClassFile.FieldType), Jvm.Cond.code ({ cls := "java/lang/Object", name := "<init>", desc := "()V" } : Jvm.MethodName) object_method_1_code (1 : Nat) (Option.none : Option Jvm.ClassFile.FieldType), Jvm.Cond.code ({ cls := "java/lang/StringUTF16", name := "compress", desc := "([CII)[B" } : Jvm.MethodName) jdk_52_method_16_code (6 : Nat) (Option.some (Jvm.ClassFile.FieldType.array Jvm.ClassFile.FieldType.byte)), Jvm.Cond.code ({ cls := "java/lang/StringUTF16", name := "compress", desc := "([CI[BII)I" } : Jvm.MethodName) jdk_52_method_21_code (7 : Nat) (Option.some Jvm.ClassFile.FieldType.int), Jvm.Cond.code ({ cls := "java/lang/StringUTF16", name := "coderFromArrayLen", desc := "([BI)B" } : Jvm.MethodName) jdk_52_method_15_code (2 : Nat) (Option.some Jvm.ClassFile.FieldType.byte), Jvm.Cond.code ({ cls := "com/example/frontier/frontier/crawllog/CrawlLogEntry", name := "<init>", desc := "(JJIJLjava/lang/String;Ljava/lang/String;)V" } : Jvm.MethodName) prog_4_method_1_code (10 : Nat) (Option.none : Option Jvm.ClassFile.FieldType), Jvm.Cond.code ({ cls := "com/example/frontier/frontier/crawllog/CrawlLogEntry", name := "requireStatus", desc := "(J)I" } : Jvm.MethodName) prog_4_method_14_code (2 : Nat) (Option.some Jvm.ClassFile.FieldType.int), Jvm.Cond.code ({ cls := "com/example/frontier/frontier/crawllog/CrawlLogEntry", name := "requireField", desc := "(Ljava/lang/String;Ljava/lang/String;)V" } : Jvm.MethodName) prog_4_method_15_code (2 : Nat) (Option.none : Option Jvm.ClassFile.FieldType), Jvm.Cond.code ({ cls := "java/util/Objects", name := "requireNonNull", desc := "(Ljava/lang/Object;Ljava/lang/String;)Ljava/lang/Object;" } : Jvm.MethodName) jdk_31_method_11_code (2 : Nat) (Option.some (Jvm.ClassFile.FieldType.object "java/lang/Object")), Jvm.Cond.code ({ cls := "java/lang/String", name := "isEmpty", desc := "()Z" } : Jvm.MethodName) jdk_42_method_55_code (1 : Nat) (Option.some Jvm.ClassFile.FieldType.boolean), Jvm.Cond.code ({ cls := "java/lang/String", name := "indexOf", desc := "(I)I" } : Jvm.MethodName) jdk_42_method_79_code (2 : Nat) (Option.some Jvm.ClassFile.FieldType.int), Jvm.Cond.code ({ cls := "java/lang/String", name := "indexOf", desc := "(II)I" } : Jvm.MethodName) jdk_42_method_80_code (3 : Nat) (Option.some Jvm.ClassFile.FieldType.int), Jvm.Cond.code ({ cls := "java/lang/String", name := "isLatin1", desc := "()Z" } : Jvm.MethodName) jdk_42_method_154_code (1 : Nat) (Option.some Jvm.ClassFile.FieldType.boolean), Jvm.Cond.code ({ cls := "java/lang/String", name := "length", desc := "()I" } : Jvm.MethodName) jdk_42_method_54_code (1 : Nat) (Option.some Jvm.ClassFile.FieldType.int), Jvm.Cond.code ({ cls := "java/lang/String", name := "coder", desc := "()B" } : Jvm.MethodName) jdk_42_method_152_code (1 : Nat) (Option.some Jvm.ClassFile.FieldType.byte), Jvm.Cond.code ({ cls := "java/lang/StringLatin1", name := "indexOf", desc := "([BIII)I" } : Jvm.MethodName) jdk_43_method_22_code (4 : Nat) (Option.some Jvm.ClassFile.FieldType.int), Jvm.Cond.code ({ cls := "java/lang/StringLatin1", name := "canEncode", desc := "(I)Z" } : Jvm.MethodName) jdk_43_method_4_code (1 : Nat) (Option.some Jvm.ClassFile.FieldType.boolean), Jvm.Cond.code ({ cls := "java/lang/Math", name := "max", desc := "(II)I" } : Jvm.MethodName) jdk_29_method_65_code (2 : Nat) (Option.some Jvm.ClassFile.FieldType.int), Jvm.Cond.code ({ cls := "java/lang/Math", name := "min", desc := "(II)I" } : Jvm.MethodName) jdk_29_method_69_code (2 : Nat) (Option.some Jvm.ClassFile.FieldType.int), Jvm.Cond.code ({ cls := "java/lang/StringLatin1", name := "indexOfChar", desc := "([BIII)I" } : Jvm.MethodName) jdk_43_method_23_code (6 : Nat) (Option.some Jvm.ClassFile.FieldType.int), Jvm.Cond.code ({ cls := "com/example/frontier/frontier/crawllog/CrawlLogEntry", name := "equals", desc := "(Ljava/lang/Object;)Z" } : Jvm.MethodName) prog_4_method_11_code (3 : Nat) (Option.some Jvm.ClassFile.FieldType.boolean), Jvm.Cond.code ({ cls := "java/lang/String", name := "equals", desc := "(Ljava/lang/Object;)Z" } : Jvm.MethodName) jdk_42_method_66_code (3 : Nat) (Option.some Jvm.ClassFile.FieldType.boolean), Jvm.Cond.code ({ cls := "java/lang/StringLatin1", name := "equals", desc := "([B[B)Z" } : Jvm.MethodName) jdk_43_method_13_code (3 : Nat) (Option.some Jvm.ClassFile.FieldType.boolean)]
set_option maxRecDepth 65536 in
theorem codes_eq : words1.filter isCode = codes1 := rfl
theorem w_codes : ∀ c ∈ words1.filter isCode, c.before args0 about1 = true := by
  rw [codes_eq]
  intro c hc
  simp only [codes1, List.mem_cons, List.not_mem_nil, or_false] at hc
  rcases hc with rfl | rfl | rfl | rfl | rfl | rfl | rfl | rfl | rfl | rfl | rfl | rfl | rfl | rfl | rfl | rfl | rfl | rfl | rfl | rfl | rfl | rfl | rfl | rfl | rfl | rfl | rfl | rfl | rfl
  · exact w_c0
  · exact w_c1
  · exact w_c2
  · exact w_c3
  · exact w_c4
  · exact w_c5
  · exact w_c6
  · exact w_c7
  · exact w_c8
  · exact w_c9
  · exact w_c10
  · exact w_c11
  · exact w_c12
  · exact w_c13
  · exact w_c14
  · exact w_c15
  · exact w_c16
  · exact w_c17
  · exact w_c18
  · exact w_c19
  · exact w_c20
  · exact w_c21
  · exact w_c22
  · exact w_c23
  · exact w_c24
  · exact w_c25
  · exact w_c26
  · exact w_c27
  · exact w_c28
set_option maxRecDepth 65536 in
theorem w_t1 : (words1.take 24).all (fun c => isCode c || c.before args0 about1) = true := by decide +kernel
set_option maxRecDepth 65536 in
theorem w_t2 : ((words1.drop 24).take 24).all (fun c => isCode c || c.before args0 about1) = true := by decide +kernel
set_option maxRecDepth 65536 in
theorem w_t3 : (((words1.drop 24).drop 24).take 24).all (fun c => isCode c || c.before args0 about1) = true := by decide +kernel
set_option maxRecDepth 65536 in
theorem w_t4 : ((((words1.drop 24).drop 24).drop 24).take 24).all (fun c => isCode c || c.before args0 about1) = true := by decide +kernel
set_option maxRecDepth 65536 in
theorem w_t5 : (((((words1.drop 24).drop 24).drop 24).drop 24).take 24).all (fun c => isCode c || c.before args0 about1) = true := by decide +kernel
set_option maxRecDepth 65536 in
theorem w_t6 : ((((((words1.drop 24).drop 24).drop 24).drop 24).drop 24).take 24).all (fun c => isCode c || c.before args0 about1) = true := by decide +kernel
set_option maxRecDepth 65536 in
theorem w_t7 : ((((((words1.drop 24).drop 24).drop 24).drop 24).drop 24).drop 24).all (fun c => isCode c || c.before args0 about1) = true := by decide +kernel
theorem w_tables : (allAtoms (Jvm.Cond.code x code maxLocals ret :: tables_1)).before args0 about1 = true := by
  rw [allAtoms_all]
  show words1.all (fun c => c.before args0 about1) = true
  refine all_split ?_ w_codes
  rw [← List.take_append_drop 24 words1, List.all_append, w_t1, ← List.take_append_drop 24 (words1.drop 24), List.all_append, w_t2, ← List.take_append_drop 24 ((words1.drop 24).drop 24), List.all_append, w_t3, ← List.take_append_drop 24 (((words1.drop 24).drop 24).drop 24), List.all_append, w_t4, ← List.take_append_drop 24 ((((words1.drop 24).drop 24).drop 24).drop 24), List.all_append, w_t5, ← List.take_append_drop 24 (((((words1.drop 24).drop 24).drop 24).drop 24).drop 24), List.all_append, w_t6, w_t7]
  rfl
set_option maxRecDepth 65536 in
theorem w_rest : rest_1_c.before args0 about1 = true := by decide +kernel
set_option maxRecDepth 65536 in
theorem w_case : (Jvm.Cond.and given_1 narrow_1).before args0 about1 = true := by decide +kernel
theorem w_applies : (headSpec (Jvm.Cond.code x code maxLocals ret :: tables_1) room_1).applies x e0.platform about1 = true :=
  (Spec.applies_iff w_frames).mpr ⟨w_running, w_runnable, w_alone, w_named, w_hears, w_ripe, w_room, w_tables⟩
theorem atStart : AtStart classFile x code maxLocals ret World_1 tables_1 room_1 Calls_1 rest_1 Pre_1 launch0 p0 e0 about1 theMethod args0 below0 :=
  ⟨lists_1, trivial, launch0.admits_env _ _ _, launch0.least_env, fairChoices_fair.cas, fairChoices_fair.clock, w_frames, w_args, w_heap, w_applies, trivial, w_rest, w_case⟩
end start1
theorem witness_1 : WitnessClaimed_1 := ⟨start1.p0, start1.e0, start1.about1, start1.theMethod, start1.args0, start1.below0, start1.atStart⟩
end Jvm.Pilot.@@N@@
