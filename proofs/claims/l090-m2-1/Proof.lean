import JvmDerived
import JvmDerived.Pilot.@@N@@Statement
import JvmDerived.Pilot.@@N@@Code
set_option linter.unusedVariables false
set_option linter.unusedSimpArgs false
namespace Jvm.Own
open Jvm Jvm.ClassFile Sem Op Lib Jvm.Free Jvm.Stand Jvm.LawKit Jvm.RoadKit Bundle
/-! OWN LAYER: a wp-style reading of RoadKit's laws. V: the case's view (start state, start arguments, the literals that are held, narrow or wide, the launch). B: a body (name, bytes, max locals, return type, room). K: one invocation. -/
abbrev Vw : Type := State × Array Value × List (String × Nat) × Bool × Launch
abbrev Vw.Z (V : Vw) : State := V.1
abbrev Vw.a0 (V : Vw) : Array Value := V.2.1
abbrev Vw.EL (V : Vw) : List (String × Nat) := V.2.2.1
abbrev Vw.nar (V : Vw) : Bool := V.2.2.2.1
abbrev Vw.l (V : Vw) : Launch := V.2.2.2.2
abbrev Bx : Type := MethodName × ByteArray × Nat × Option FieldType × Room
abbrev Bx.y (B : Bx) : MethodName := B.1
abbrev Bx.code (B : Bx) : ByteArray := B.2.1
abbrev Bx.ml (B : Bx) : Nat := B.2.2.1
abbrev Bx.ret (B : Bx) : Option FieldType := B.2.2.2.1
abbrev Bx.R (B : Bx) : Room := B.2.2.2.2
abbrev Cx : Type := Program × Env × State × MethodId × Array Value × List Frame × Method × Code
abbrev Cx.p (K : Cx) : Program := K.1
abbrev Cx.e (K : Cx) : Env := K.2.1
abbrev Cx.s (K : Cx) : State := K.2.2.1
abbrev Cx.m (K : Cx) : MethodId := K.2.2.2.1
abbrev Cx.args (K : Cx) : Array Value := K.2.2.2.2.1
abbrev Cx.below (K : Cx) : List Frame := K.2.2.2.2.2.1
abbrev Cx.meth (K : Cx) : Method := K.2.2.2.2.2.2.1
abbrev Cx.c (K : Cx) : Code := K.2.2.2.2.2.2.2
abbrev Qt : Type := Option Value → Heap → List Addr → Prop
def ushr (x y : Int32) : Int32 := (x.toUInt32 >>> (y &&& 31).toUInt32).toInt32
def ushrL (x : Int64) (y : Int32) : Int64 := (x.toUInt64 >>> (y &&& 0x3f).toInt64.toUInt64).toInt64
def Fx (K : Cx) (B : Bx) : Prop := K.p.tables.exec = Jvm.exec ∧ K.c.code = B.code ∧ K.c.maxLocals = B.ml ∧ K.meth.sig.returnType = B.ret ∧ K.meth.locks = false ∧ K.meth.name = B.y.name
def Sf (V : Vw) (vm : Vm) (h : Heap) (ps : List Addr) : Prop := ∀ x ∈ ps, x < h.size ∧ Safe V.Z V.EL vm h x
def Std (V : Vw) (K : Cx) (B : Bx) (T : State) (h : Heap) (ps : List Addr) (cs sl : Nat) : Prop :=
  ∃ (locs : List Loc) (vm0 : Vm) (k0 : Nat), Stand K.p V.l K.e B.R (K.s.setVm vm0) K.m K.args K.below K.meth K.c T locs cs sl ∧ T.heap = h ∧ V.Z.Warmed39 vm0 ∧ vm0.findClass B.y.cls = some K.m.cls ∧ K.s.Since vm0 k0 ∧ k0 ≤ h.size ∧
    Fr V.Z.heap.size locs ∧ Ext V.Z.heap h ∧ CHr V.Z V.EL K.s.vm K.s.heap vm0 h ∧ Sf V vm0 h ps ∧ EW V.Z V.a0 V.EL ∧ (V.nar = true → vm0 = K.s.vm ∧ V.EL = []) ∧ Fx K B
def Fnl (V : Vw) (K : Cx) (B : Bx) (Q : Qt) (o : Outcome) (t : State) : Prop :=
  ∃ (v : Option Value) (L : List Loc) (ps : List Addr), o = .returned v ∧ Fr V.Z.heap.size L ∧ Q v t.heap ps ∧ Ext V.Z.heap t.heap ∧ Sf V t.vm t.heap ps ∧ CHr V.Z V.EL K.s.vm K.s.heap t.vm t.heap ∧
    ReturnedEndW K.s o t L B.R.cells B.R.slots ∧ (V.nar = true → FrameEnd K.s o t L B.R.cells B.R.slots)
def Run (V : Vw) (K : Cx) (B : Bx) (Q : Qt) (h : Heap) (ps : List Addr) (cs sl pc : Nat) (L : List Slot) (S : List Value) : Prop :=
  ∀ T, Std V K B T h ps cs sl → ∃ t o, Steps K.p.tables K.e K.below (T.setTop (mkF K.m pc L.toArray S)) t ∧ t.status = .running ∧ Ended t K.below o ∧ Fnl V K B Q o t
/-- the contract of a body, at one heap and for one row of arguments -/
def Con (V : Vw) (B : Bx) (as' : Array Value) (h0 : Heap) (ps : List Addr) (Q : Qt) : Prop :=
  EW V.Z V.a0 V.EL → Ext V.Z.heap h0 → (V.nar = true → V.EL = []) → ∀ ws, MetFree V.l B.y (head1 (Jvm.Cond.code B.y B.code B.ml B.ret :: ws) B.R)
    (fun a U => a = as' ∧ V.Z.Warmed39 U.vm ∧ U.heap = h0 ∧ CHv V.Z V.EL U.vm h0 ∧ Sf V U.vm h0 ps) (fun _ _ _ _ _ => True)
    (fun _ U o U' => ∃ (v : Option Value) (L : List Loc) (ps' : List Addr), o = .returned v ∧ Fr V.Z.heap.size L ∧ Q v U'.heap ps' ∧ Ext V.Z.heap U'.heap ∧ Sf V U'.vm U'.heap ps' ∧ CHr V.Z V.EL U.vm U.heap U'.vm U'.heap ∧
      ReturnedEndW U o U' L B.R.cells B.R.slots ∧ (V.nar = true → FrameEnd U o U' L B.R.cells B.R.slots))
/-- what a call of y gives in the invocation K of B -/
def PreP (B : Bx) (as' : Array Value) (h : Heap) (nc ns : Nat) : Pt → Array Value → Prop := fun A a => a = as' ∧ A.U.heap = h ∧ A.cells + nc ≤ B.R.cells ∧ A.slots + ns ≤ B.R.slots
def PostP (V : Vw) (vm0 : Vm) (h : Heap) (nc ns : Nat) (Q : Qt) : Pt → Array Value → Option Value → Pt → Prop := fun A _ v C =>
  ∃ (L : List Loc) (ps : List Addr), Fr V.Z.heap.size L ∧ Q v C.U.heap ps ∧ Ext V.Z.heap C.U.heap ∧ h.size ≤ C.U.heap.size ∧ Sf V C.U.vm C.U.heap ps ∧ C.locs = A.locs ++ L ∧ C.cells = A.cells + nc ∧ C.slots = A.slots + ns ∧ CHr V.Z V.EL vm0 h C.U.vm C.U.heap
def Pays (V : Vw) (K : Cx) (B : Bx) (y : MethodName) (len W : Nat) (as' : Array Value) (h : Heap) (ps : List Addr) (nc ns : Nat) (Q : Qt) : Prop :=
  ∀ vm0, V.Z.Warmed39 vm0 → CHv V.Z V.EL vm0 h → Sf V vm0 h ps → EW V.Z V.a0 V.EL → Ext V.Z.heap h → (V.nar = true → V.EL = []) →
    (V.nar = true → Back V.l B.R K.p K.e K.below (K.s.setVm vm0) K.args y len W (PreP B as' h nc ns) (PostP V vm0 h nc ns Q)) ∧
    (V.nar = false → BackS V.l B.R K.p K.e K.below (K.s.setVm vm0) K.args y len W (PreP B as' h nc ns) (PostP V vm0 h nc ns Q))
theorem ltN {a n : Nat} (h : a < n) : a < n := h
theorem leN {a n : Nat} (h : a ≤ n) : a ≤ n := h
theorem neN {a b : Nat} (h : a ≠ b) : a < b ∨ b < a := Nat.lt_or_gt_of_ne h
theorem neA {a b : Nat} (h : a < b ∨ b < a) : a ≠ b := fun e => by omega
theorem leA {a b : Nat} (h : a ≤ b) : a ≤ b := h
theorem wd {V : Vw} {Ls : List Jvm.Cond} (hw : ∀ d ∈ Ls, d.before V.a0 V.Z = true) (i : Nat) {d : Jvm.Cond} (h : Ls[i]? = some d) : d.before V.a0 V.Z = true := hw d (List.mem_of_getElem? h)
section Basics
variable {V : Vw} {K : Cx} {B : Bx} {Q : Qt} {T : State} {h h' : Heap} {ps ps' : List Addr} {cs sl pc : Nat} {L : List Slot} {S : List Value}
theorem Sf.nil {vm : Vm} : Sf V vm h [] := fun _ q => nomatch q
theorem Sf.cons {vm : Vm} {x : Addr} (a : x < h.size) (b : Safe V.Z V.EL vm h x) (c : Sf V vm h ps) : Sf V vm h (x :: ps) := fun y q => by
  rcases List.mem_cons.mp q with rfl | q
  · exact ⟨a, b⟩
  · exact c y q
theorem Sf.app {vm : Vm} (c : Sf V vm h ps) (d : Sf V vm h ps') : Sf V vm h (ps ++ ps') := fun y q => (List.mem_append.mp q).elim (c y) (d y)
theorem Sf.sub {vm : Vm} (c : Sf V vm h ps) (d : ∀ x ∈ ps', x ∈ ps) : Sf V vm h ps' := fun y q => c y (d y q)
theorem Sf.go {vm vm1 : Vm} (c : Sf V vm h ps) (A : CHr V.Z V.EL vm h vm1 h') : Sf V vm1 h' ps := fun y q => ⟨Nat.lt_of_lt_of_le (c y q).1 A.2.1, A.safe (c y q).1 (c y q).2⟩
theorem chr0 {Z : State} {vm vm1 : Vm} (q : h.size ≤ h'.size) : CHr Z [] vm h vm1 h' := ⟨(fun _ hp => nomatch hp), q, (fun _ z => by obtain ⟨_, hp, _⟩ := z; exact nomatch hp)⟩
theorem oldWr {Z : State} {a : Addr} {j : Nat} {v : Value} (O : Ext Z.heap h) (W : Wr h h' a j v) (q : Z.heap.size ≤ a) : Ext Z.heap h' := (Old.wr (show Old Z Z.heap.size h from ⟨rfl, O⟩) W q).2
theorem oldKeep {Z : State} {ws : List Addr} (O : Ext Z.heap h) (W : Keep h h' ws) (q : ∀ x ∈ ws, Z.heap.size ≤ x) : Ext Z.heap h' := (Old.keep (show Old Z Z.heap.size h from ⟨rfl, O⟩) W q).2
theorem Ext.trans' {h1 h2 h3 : Heap} (A : Ext h1 h2) (C : Ext h2 h3) : Ext h1 h3 := ⟨Nat.le_trans A.1 C.1, fun a c q => C.2 a c (A.2 a c q)⟩
/-- a step that moves nothing of the heap -/
theorem Run.plain {pc' : Nat} {L' : List Slot} {S' : List Value} (r : Run V K B Q h ps cs sl pc' L' S')
    (st : ∀ T t, At T K.m K.c K.below → K.p.tables.exec = Jvm.exec → K.c.code = B.code → Steps K.p.tables K.e K.below (T.setTop (mkF K.m pc' L'.toArray S')) t → Steps K.p.tables K.e K.below (T.setTop (mkF K.m pc L.toArray S)) t) :
    Run V K B Q h ps cs sl pc L S := fun T hT => by
  obtain ⟨t, o, h1, h2⟩ := r T hT
  obtain ⟨locs, vm0, k0, X, -, -, -, -, -, -, -, -, -, -, -, G⟩ := hT
  exact ⟨t, o, st T t X.here G.1 G.2.1 h1, h2⟩
theorem Run.more {cs' sl' : Nat} (hc : cs ≤ cs') (hs : sl ≤ sl') (r : Run V K B Q h ps cs' sl' pc L S) : Run V K B Q h ps cs sl pc L S := fun T hT => by
  obtain ⟨locs, vm0, k0, X, rest⟩ := hT
  exact r T ⟨locs, vm0, k0, X.more hc hs, rest⟩
theorem Run.less (hs : ∀ x ∈ ps', x ∈ ps) (r : Run V K B Q h ps' cs sl pc L S) : Run V K B Q h ps cs sl pc L S := fun T hT => by
  obtain ⟨locs, vm0, k0, X, e1, e2, e3, e4, e5, e6, e7, e8, e9, e10⟩ := hT
  exact r T ⟨locs, vm0, k0, X, e1, e2, e3, e4, e5, e6, e7, e8, e9.sub hs, e10⟩
/-- what the walk knows at any time: all that stood at the case's start stands -/
theorem Run.old (r : Ext V.Z.heap h → Run V K B Q h ps cs sl pc L S) : Run V K B Q h ps cs sl pc L S := fun T hT => by
  have O : Ext V.Z.heap h := by obtain ⟨locs, vm0, k0, X, e1, e2, e3, e4, e5, e6, e7, e8, e9, e10⟩ := hT; exact e7
  exact r O T hT
/-- a step that moves the state but not the heap -/
theorem Run.still {pc' : Nat} {L' : List Slot} {S' : List Value} (r : Run V K B Q h ps cs sl pc' L' S')
    (st : ∀ T locs vm0, Stand K.p V.l K.e B.R (K.s.setVm vm0) K.m K.args K.below K.meth K.c T locs cs sl → T.heap = h → V.Z.Warmed39 (K.s.setVm vm0).vm → (K.s.setVm vm0).vm.findClass B.y.cls = some K.m.cls → Ext V.Z.heap h → Fx K B →
      ∃ T', Stand K.p V.l K.e B.R (K.s.setVm vm0) K.m K.args K.below K.meth K.c T' locs cs sl ∧ T'.heap = h ∧ ∀ t, Steps K.p.tables K.e K.below (T'.setTop (mkF K.m pc' L'.toArray S')) t → Steps K.p.tables K.e K.below (T.setTop (mkF K.m pc L.toArray S)) t) :
    Run V K B Q h ps cs sl pc L S := fun T hT => by
  obtain ⟨locs, vm0, k0, X, e1, e2, e3, e4, e5, e6, e7, e8, e9, e10, e11, e12⟩ := hT
  obtain ⟨T', X', e', st'⟩ := st T locs vm0 X e1 e2 e3 e7 e12
  obtain ⟨t, o, h1, h2⟩ := r T' ⟨locs, vm0, k0, X', e', e2, e3, e4, e5, e6, e7, e8, e9, e10, e11, e12⟩
  exact ⟨t, o, st' _ h1, h2⟩
/-- a step that writes one slot of a cell that the case has made -/
theorem Run.write {pc' : Nat} {L' : List Slot} {S' : List Value} {a : Addr} {v : Value} {j : Nat} (ha : V.Z.heap.size ≤ a) (hs : ∀ vm, V.Z.vm.Alike vm → Sf V vm h ps → Safe V.Z V.EL vm h a) (r : ∀ h', Wr h h' a j v → Run V K B Q h' ps cs sl pc' L' S')
    (st : ∀ T locs vm0, Stand K.p V.l K.e B.R (K.s.setVm vm0) K.m K.args K.below K.meth K.c T locs cs sl → T.heap = h → V.Z.Warmed39 (K.s.setVm vm0).vm → (K.s.setVm vm0).vm.findClass B.y.cls = some K.m.cls → Fx K B →
      ∃ T' h', Stand K.p V.l K.e B.R (K.s.setVm vm0) K.m K.args K.below K.meth K.c T' (locs ++ [⟨a, j⟩]) cs sl ∧ T'.heap = h' ∧ Wr h h' a j v ∧ ∀ t, Steps K.p.tables K.e K.below (T'.setTop (mkF K.m pc' L'.toArray S')) t → Steps K.p.tables K.e K.below (T.setTop (mkF K.m pc L.toArray S)) t) :
    Run V K B Q h ps cs sl pc L S := fun T hT => by
  obtain ⟨locs, vm0, k0, X, e1, e2, e3, e4, e5, e6, e7, e8, e9, e10, e11, e12⟩ := hT
  obtain ⟨T', h', X', e', W, st'⟩ := st T locs vm0 X e1 e2 e3 e12
  have C := CHr.wr W (hs vm0 e2.alike e9) e8.1
  obtain ⟨t, o, h1, h2⟩ := r h' W T' ⟨_, vm0, k0, X', e', e2, e3, e4, by rw [W.size]; exact e5, Fr.snoc X' e6 ha, oldWr e7 W ha, e8.trans C, e9.go C, e10, e11, e12⟩
  exact ⟨t, o, st' _ h1, h2⟩
/-- a step that makes one cell -/
theorem Run.make {pc' nn : Nat} {L' : List Slot} {S' : Addr → List Value} {P : Heap → Prop} (r : ∀ h', Ext h h' → V.Z.heap.size ≤ h.size → P h' → Run V K B Q h' (h.size :: ps) (cs + 1) (sl + nn) pc' L' (S' h.size))
    (st : ∀ T locs vm0, Stand K.p V.l K.e B.R (K.s.setVm vm0) K.m K.args K.below K.meth K.c T locs cs sl → T.heap = h → V.Z.Warmed39 (K.s.setVm vm0).vm → (K.s.setVm vm0).vm.findClass B.y.cls = some K.m.cls → Fx K B →
      ∃ T' h', Stand K.p V.l K.e B.R (K.s.setVm vm0) K.m K.args K.below K.meth K.c T' locs (cs + 1) (sl + nn) ∧ T'.heap = h' ∧ Ext h h' ∧ h.size < h'.size ∧ P h' ∧ ∀ t, Steps K.p.tables K.e K.below (T'.setTop (mkF K.m pc' L'.toArray (S' h.size))) t → Steps K.p.tables K.e K.below (T.setTop (mkF K.m pc L.toArray S)) t) :
    Run V K B Q h ps cs sl pc L S := fun T hT => by
  obtain ⟨locs, vm0, k0, X, e1, e2, e3, e4, e5, e6, e7, e8, e9, e10, e11, e12⟩ := hT
  obtain ⟨T', h', X', e', E, hlt, hP, st'⟩ := st T locs vm0 X e1 e2 e3 e12
  have C := CHr.ext E e8.1
  obtain ⟨t, o, h1, h2⟩ := r h' E e7.1 hP T' ⟨_, vm0, k0, X', e', e2, e3, e4, Nat.le_trans e5 E.1, e6, Ext.trans' e7 E, e8.trans C, Sf.cons hlt ((Safe.new (Nat.le_refl _)).ext E e8.1) (e9.go C), e10, e11, e12⟩
  exact ⟨t, o, st' _ h1, h2⟩
/-- the way into a body -/
theorem Con.of {as' : Array Value} (hp : plainFor B.y = true) (hl : argsToLocals as' B.ml = L.toArray) (body : ∀ K : Cx, Run V K B Q h ps 0 0 0 L []) : Con V B as' h ps Q := fun hE hO hN ws => by
  refine MetFree.of_bodySF hp hisR ?_
  intro p e s m args below meth c s₁ Bd hml0 hP hK
  obtain ⟨rfl, hZ, hh, hC, hS⟩ := hP
  have X0 : Stand p V.l e B.R s m args below meth c s₁ [] 0 0 := Stand.of_body Bd
  have e0 : s₁.heap = h := by rw [← hh, Bd.state]; rfl
  have hn := (name_of_methodNamed Bd.named Bd.method).1
  obtain ⟨t, o, h1, h2, h3, h4⟩ := body (p, e, s, m, args, below, meth, c) s₁
    ⟨[], s.vm, h.size, X0, e0, hZ, findClass_of_methodNamed Bd.named, (State.WarmedH.refl s).since _, Nat.le_refl _, Fr.nil _, hO, (by show CHr V.Z V.EL s.vm s.heap s.vm h; rw [hh]; exact CHr.refl hC), hS, hE, fun q => ⟨rfl, hN q⟩, Bd.exec, Bd.bytes, hml0, Bd.returns, BodyLoose.notSynchronized Bd, hn⟩
  refine ⟨t, o, ?_, h2, h3, h4⟩
  have q : entryFrame m args B.ml = mkF m 0 L.toArray [] := by simp only [entryFrame, mkF, hl]
  rw [q]; exact h1
/-- a contract pays a call -/
theorem Pays.con {B' : Bx} {as' : Array Value} {len W : Nat} (C : Con V B' as' h ps Q) (wc : (Jvm.Cond.code B'.y B'.code B'.ml B'.ret).before V.a0 V.Z = true) (wz : (Jvm.Cond.initialized B'.y.cls).before V.a0 V.Z = true)
    (hf : B'.R.frames + 1 ≤ B.R.frames) (hl : W + (B'.ml + 11) + B'.R.locals ≤ B.R.locals) : Pays V K B B'.y len W as' h ps B'.R.cells B'.R.slots Q := fun vm0 hZ hC hS hE hO hN => by
  have hM := C hE hO hN []
  refine ⟨fun hn => ?_, fun hn => ?_⟩
  · refine Back.of_free (bytes := B'.code) (maxL := B'.ml) (ret := B'.ret) (E := fun _ first o t L k n => k = B'.R.cells ∧ n = B'.R.slots ∧ ∃ v ps', o = .returned v ∧ Fr V.Z.heap.size L ∧ Q v t.heap ps' ∧ Ext V.Z.heap t.heap ∧ first.heap.size ≤ t.heap.size ∧ Sf V t.vm t.heap ps') hM hf hl
      (fun m meth c A a Y hp => have hU : V.Z.Warmed39 A.U.vm := wtrans (s := K.s.setVm vm0) hZ Y.warmed
        ⟨by show (Cond.and _ .tt).before a A.U = true; rw [Cond.before_and, mv hU wc]; rfl, mv hU wc, mv hU wz, hp.2.2.1, hp.2.2.2⟩)
      (fun m meth c A a g mk Y hp => ?_) (fun _ _ _ _ _ _ _ _ _ => trivial)
      (fun _ _ _ _ ⟨v, L, ps', h1, h2, h3, h4, h5, h6, h7, h8⟩ => ⟨L, _, _, h8 hn, rfl, rfl, v, ps', h1, h2, h3, h4, h6.2.1, h5⟩)
      (fun m meth c A a g mk v t L k n Y hp _ _ ⟨e1, e2, v', ps', e3, e4, e5, e6, e7, e8⟩ => ?_)
    · have A' := CHv.at Y hZ hE hC
      exact ⟨hp.1, wtrans (s := K.s.setVm vm0) hZ Y.warmed, hp.2.1, A'.1, hS.go A'⟩
    · cases e3; subst e1 e2
      have q : h.size ≤ t.heap.size := by rw [← hp.2.1]; exact e7
      exact ⟨L, ps', e4, e5, e6, q, e8, rfl, rfl, rfl, by rw [hN hn]; exact chr0 q⟩
  · refine BackS.of_freeW (bytes := B'.code) (maxL := B'.ml) (ret := B'.ret) (E := fun _ first o t L k n => k = B'.R.cells ∧ n = B'.R.slots ∧ (∃ v ps', o = .returned v ∧ Fr V.Z.heap.size L ∧ Q v t.heap ps' ∧ Ext V.Z.heap t.heap ∧ Sf V t.vm t.heap ps') ∧ CHr V.Z V.EL first.vm first.heap t.vm t.heap) hM hf hl
      (fun m meth c A a Y hp => have hU : V.Z.Warmed39 A.U.vm := wtrans (s := K.s.setVm vm0) hZ Y.warmed
        ⟨by show (Cond.and _ .tt).before a A.U = true; rw [Cond.before_and, mv hU wc]; rfl, mv hU wc, mv hU wz, hp.2.2.1, hp.2.2.2⟩)
      (fun m meth c A a g mk Y hp => ?_) (fun _ _ _ _ _ _ _ _ _ => trivial)
      (fun _ _ _ _ ⟨v, L, ps', h1, h2, h3, h4, h5, h6, h7, h8⟩ => ⟨L, _, _, h7, rfl, rfl, ⟨v, ps', h1, h2, h3, h4, h5⟩, h6⟩)
      (fun m meth c A a g mk v t L k n Y hp _ _ ⟨e1, e2, ⟨v', ps', e3, e4, e5, e6, e8⟩, e7⟩ => ?_)
    · have A' := CHv.at Y hZ hE hC
      exact ⟨hp.1, wtrans (s := K.s.setVm vm0) hZ Y.warmed, hp.2.1, A'.1, hS.go A'⟩
    · cases e3; subst e1 e2
      have q : CHr V.Z V.EL A.U.vm h t.vm t.heap := by rw [← hp.2.1]; exact e7
      exact ⟨L, ps', e4, e5, e6, q.2.1, e8, rfl, rfl, rfl, (CHv.at Y hZ hE hC).trans q⟩
/-- a law that says what it keeps (the pasted laws of the JDK) pays a call -/
theorem Pays.back {y : MethodName} {as' : Array Value} {len W nc ns : Nat} {ws : List Addr} {Q0 : Option Value → Heap → List Loc → Prop}
    (hB : ∀ s : State, V.Z.Warmed39 s.vm → Back V.l B.R K.p K.e K.below s K.args y len W (fun A a => a = as' ∧ A.U.heap = h ∧ A.cells + nc ≤ B.R.cells ∧ A.slots + ns ≤ B.R.slots) (fun A _ v C => ∃ L, Q0 v C.U.heap L ∧ C.locs = A.locs ++ L ∧ C.cells = A.cells + nc ∧ C.slots = A.slots + ns))
    (hQ : ∀ v h' L, Q0 v h' L → Fr V.Z.heap.size L ∧ Keep h h' ws ∧ Q v h' []) (hws : ∀ x ∈ ws, V.Z.heap.size ≤ x) (hsafe : ∀ vm, V.Z.vm.Alike vm → Sf V vm h ps → ∀ x ∈ ws, Safe V.Z V.EL vm h x) :
    Pays V K B y len W as' h ps nc ns Q := fun vm0 hZ hC hS hE hO hN => by
  have hb0 := hB (K.s.setVm vm0) hZ
  have post : ∀ m meth c A a v C, Stand K.p V.l K.e B.R (K.s.setVm vm0) m K.args K.below meth c (Pt.U C) (Pt.locs C) (Pt.cells C) (Pt.slots C) → (∃ L, Q0 v C.U.heap L ∧ C.locs = (Pt.locs A) ++ L ∧ C.cells = (Pt.cells A) + nc ∧ C.slots = (Pt.slots A) + ns) → PostP V vm0 h nc ns Q A a v C := fun m meth c A a v C Y ⟨L, q, r1, r2, r3⟩ => by
    obtain ⟨q1, q2, q3⟩ := hQ _ _ _ q
    have C1 := CHr.keep q2 (hsafe vm0 hZ.alike hS) hC
    exact ⟨L, [], q1, q3, oldKeep hO q2 hws, q2.1, Sf.nil, r1, r2, r3, C1.trans (CHv.at Y hZ hE C1.1)⟩
  refine ⟨fun hn => ?_, fun hn => ?_⟩
  · intro m meth c A g ig mk a X hg hsize hdg hW hn' hp
    obtain ⟨v, C, X', hpost, hst⟩ := hb0 m meth c A g ig mk a X hg hsize hdg hW hn' hp
    exact ⟨v, C, X', post m meth c A a v C X' hpost, hst⟩
  · intro m meth c A g ig mk a X hg hsize hdg hW hn' hp
    obtain ⟨v, C, X', hpost, hst⟩ := hb0 m meth c A g ig mk a X hg hsize hdg hW hn' hp
    have hpo := post m meth c A a v C X' hpost
    refine ⟨v, C, X'.retabled X'.warmed.wide, X'.warmed.since _, ?_, hpo, hst⟩
    rw [hp.2.1]; obtain ⟨L, ps1, -, -, -, q, -⟩ := hpo; exact q
/-- behind a call: the invocation stands again -/
theorem Run.behind {vm0 : Vm} {k0 : Nat} {locs : List Loc} {nc ns : Nat} {Q' : Qt} {v : Option Value} {vm₁ : Vm} {C : Pt} {pc' : Nat} {L' : List Slot} {S' : List Value} {a : Array Value}
    (e2 : V.Z.Warmed39 vm0) (e3 : vm0.findClass B.y.cls = some K.m.cls) (e4 : K.s.Since vm0 k0) (e5 : k0 ≤ h.size) (e6 : Fr V.Z.heap.size locs) (e8 : CHr V.Z V.EL K.s.vm K.s.heap vm0 h) (e9 : Sf V vm0 h ps) (e10 : EW V.Z V.a0 V.EL) (e11 : V.nar = true → vm0 = K.s.vm ∧ V.EL = []) (e12 : Fx K B)
    (X : (V.nar = true ∧ Stand K.p V.l K.e B.R (K.s.setVm vm0) K.m K.args K.below K.meth K.c C.U C.locs C.cells C.slots) ∨ (V.nar = false ∧ Stand K.p V.l K.e B.R ((K.s.setVm vm0).setVm C.U.vm) K.m K.args K.below K.meth K.c C.U C.locs C.cells C.slots ∧ (K.s.setVm vm0).Since C.U.vm C.U.heap.size))
    (hp : PostP V vm0 h nc ns Q' ⟨T.setVm vm₁, locs, cs, sl⟩ a v C) (r : ∀ v h' ps', Q' v h' ps' → h.size ≤ h'.size → Run V K B Q h' (ps' ++ ps) (cs + nc) (sl + ns) pc' L' (v.toList ++ S')) :
    ∃ t o, Steps K.p.tables K.e K.below (C.U.setTop (mkF K.m pc' L'.toArray (v.toList ++ S'))) t ∧ t.status = .running ∧ Ended t K.below o ∧ Fnl V K B Q o t := by
  obtain ⟨Lc, ps', q1, q2, q3, q4, q5, q6, q7, q8, q9⟩ := hp
  rcases X with ⟨hn, X⟩ | ⟨hn, X, hS⟩
  · refine r v _ ps' q2 q4 C.U ⟨_, vm0, k0, by rw [← q7, ← q8]; exact X, rfl, e2, e3, e4, Nat.le_trans e5 q4, by rw [q6]; exact e6.app q1, q3, ?_, ?_, e10, e11, e12⟩
    · rw [(e11 hn).2]; exact chr0 (Nat.le_trans e8.2.1 q4)
    · intro x hx
      refine ⟨?_, by rw [(e11 hn).2]; exact fun ⟨_, hp, _⟩ => nomatch hp⟩
      rcases List.mem_append.mp hx with hx | hx
      · exact (q5 x hx).1
      · exact Nat.lt_of_lt_of_le (e9 x hx).1 q4
  · obtain ⟨X1, S1, W1, F1⟩ := rebS (Z := V.Z) (own := B.y.cls) e4 e5 X hS q4 e2 e3
    exact r v _ ps' q2 q4 C.U ⟨_, C.U.vm, _, by rw [← q7, ← q8]; exact X1, rfl, W1, F1, S1, Nat.le_refl _, by rw [q6]; exact e6.app q1, q3, e8.trans q9, q5.app (e9.go q9), e10, fun q => absurd (hn.symm.trans q) (by decide), e12⟩
end Basics
end Jvm.Own
namespace Jvm.Own
open Jvm Jvm.ClassFile Sem Op Lib Jvm.Free Jvm.Stand Jvm.LawKit Jvm.RoadKit Bundle
section Rules
variable {V : Vw} {K : Cx} {B : Bx} {Q : Qt} {T : State} {h h' : Heap} {ps ps' : List Addr} {cs sl pc : Nat} {L : List Slot} {S : List Value}
theorem r_iload {k : Nat} {v : Int32} (pc' : Nat) (hp : pc + 2 = pc') (hd : decode B.code pc = .ok (.iload k, 2)) (hl : L[k]? = some (.val (.int v))) (r : Run V K B Q h ps cs sl pc' L (.int v :: S)) : Run V K B Q h ps cs sl pc L (S) := by
  subst hp; exact r.plain fun T t hA hx hc st => XS.iload hA hx rfl (hb hc hd) (by show L.toArray[_]? = _; rw [List.getElem?_toArray]; exact hl) st
theorem r_iloadN {k : Fin 4} {v : Int32} (pc' : Nat) (hp : pc + 1 = pc') (hd : decode B.code pc = .ok (.iload_n k, 1)) (hl : L[k.val]? = some (.val (.int v))) (r : Run V K B Q h ps cs sl pc' L (.int v :: S)) : Run V K B Q h ps cs sl pc L (S) := by
  subst hp; exact r.plain fun T t hA hx hc st => XS.iloadN hA hx rfl (hb hc hd) (by show L.toArray[_]? = _; rw [List.getElem?_toArray]; exact hl) st
theorem r_istore {k : Nat} {x : Int32} (L' : List Slot) (pc' : Nat) (hp : pc + 2 = pc') (hd : decode B.code pc = .ok (.istore k, 2)) (hl : storeLocals L.toArray k (.int x) = some L'.toArray) (r : Run V K B Q h ps cs sl pc' L' (S)) : Run V K B Q h ps cs sl pc L (.int x :: S) := by
  subst hp; exact r.plain fun T t hA hx hc st => XS.istore hA hx rfl (hb hc hd) rfl hl st
theorem r_istoreN {k : Fin 4} {x : Int32} (L' : List Slot) (pc' : Nat) (hp : pc + 1 = pc') (hd : decode B.code pc = .ok (.istore_n k, 1)) (hl : storeLocals L.toArray k.val (.int x) = some L'.toArray) (r : Run V K B Q h ps cs sl pc' L' (S)) : Run V K B Q h ps cs sl pc L (.int x :: S) := by
  subst hp; exact r.plain fun T t hA hx hc st => XS.istoreN hA hx rfl (hb hc hd) rfl hl st
theorem r_lload {k : Nat} {v : Int64} (pc' : Nat) (hp : pc + 2 = pc') (hd : decode B.code pc = .ok (.lload k, 2)) (hl : L[k]? = some (.val (.long v))) (r : Run V K B Q h ps cs sl pc' L (.long v :: S)) : Run V K B Q h ps cs sl pc L (S) := by
  subst hp; exact r.plain fun T t hA hx hc st => XS.lload hA hx rfl (hb hc hd) (by show L.toArray[_]? = _; rw [List.getElem?_toArray]; exact hl) st
theorem r_lloadN {k : Fin 4} {v : Int64} (pc' : Nat) (hp : pc + 1 = pc') (hd : decode B.code pc = .ok (.lload_n k, 1)) (hl : L[k.val]? = some (.val (.long v))) (r : Run V K B Q h ps cs sl pc' L (.long v :: S)) : Run V K B Q h ps cs sl pc L (S) := by
  subst hp; exact r.plain fun T t hA hx hc st => XS.lloadN hA hx rfl (hb hc hd) (by show L.toArray[_]? = _; rw [List.getElem?_toArray]; exact hl) st
theorem r_lstore {k : Nat} {x : Int64} (L' : List Slot) (pc' : Nat) (hp : pc + 2 = pc') (hd : decode B.code pc = .ok (.lstore k, 2)) (hl : storeLocals L.toArray k (.long x) = some L'.toArray) (r : Run V K B Q h ps cs sl pc' L' (S)) : Run V K B Q h ps cs sl pc L (.long x :: S) := by
  subst hp; exact r.plain fun T t hA hx hc st => XS.lstore hA hx rfl (hb hc hd) rfl hl st
theorem r_lstoreN {k : Fin 4} {x : Int64} (L' : List Slot) (pc' : Nat) (hp : pc + 1 = pc') (hd : decode B.code pc = .ok (.lstore_n k, 1)) (hl : storeLocals L.toArray k.val (.long x) = some L'.toArray) (r : Run V K B Q h ps cs sl pc' L' (S)) : Run V K B Q h ps cs sl pc L (.long x :: S) := by
  subst hp; exact r.plain fun T t hA hx hc st => XS.lstoreN hA hx rfl (hb hc hd) rfl hl st
theorem r_aload {k : Nat} {v : Value} (pc' : Nat) (hp : pc + 2 = pc') (hd : decode B.code pc = .ok (.aload k, 2)) (hl : L[k]? = some (.val v)) (hv : v.isRef = true) (r : Run V K B Q h ps cs sl pc' L (v :: S)) : Run V K B Q h ps cs sl pc L (S) := by
  subst hp; exact r.plain fun T t hA hx hc st => XS.aload hA hx rfl (hb hc hd) (by show L.toArray[_]? = _; rw [List.getElem?_toArray]; exact hl) hv st
theorem r_aloadN {k : Fin 4} {v : Value} (pc' : Nat) (hp : pc + 1 = pc') (hd : decode B.code pc = .ok (.aload_n k, 1)) (hl : L[k.val]? = some (.val v)) (hv : v.isRef = true) (r : Run V K B Q h ps cs sl pc' L (v :: S)) : Run V K B Q h ps cs sl pc L (S) := by
  subst hp; exact r.plain fun T t hA hx hc st => XS.aloadN hA hx rfl (hb hc hd) (by show L.toArray[_]? = _; rw [List.getElem?_toArray]; exact hl) hv st
theorem r_astore {k : Nat} {x : Value} (L' : List Slot) (pc' : Nat) (hp : pc + 2 = pc') (hd : decode B.code pc = .ok (.astore k, 2)) (hv : x.isRef = true) (hl : storeLocals L.toArray k x = some L'.toArray) (r : Run V K B Q h ps cs sl pc' L' (S)) : Run V K B Q h ps cs sl pc L (x :: S) := by
  subst hp; exact r.plain fun T t hA hx hc st => XS.astore hA hx rfl (hb hc hd) rfl hv hl st
theorem r_astoreN {k : Fin 4} {x : Value} (L' : List Slot) (pc' : Nat) (hp : pc + 1 = pc') (hd : decode B.code pc = .ok (.astore_n k, 1)) (hv : x.isRef = true) (hl : storeLocals L.toArray k.val x = some L'.toArray) (r : Run V K B Q h ps cs sl pc' L' (S)) : Run V K B Q h ps cs sl pc L (x :: S) := by
  subst hp; exact r.plain fun T t hA hx hc st => XS.astoreN hA hx rfl (hb hc hd) rfl hv hl st
theorem r_iconst {i : Int} (v : Int32) (pc' : Nat) (hp : pc + 1 = pc') (hd : decode B.code pc = .ok (.iconst i, 1)) (hv : Int32.ofInt i = v) (r : Run V K B Q h ps cs sl pc' L (.int v :: S)) : Run V K B Q h ps cs sl pc L (S) := by
  subst hp; exact r.plain fun T t hA hx hc st => XT.iconstV hA hx rfl v (hb hc hd) hv st
theorem r_bipush {i : Int} (v : Int32) (pc' : Nat) (hp : pc + 2 = pc') (hd : decode B.code pc = .ok (.bipush i, 2)) (hv : (Int8.ofInt i).toInt32 = v) (r : Run V K B Q h ps cs sl pc' L (.int v :: S)) : Run V K B Q h ps cs sl pc L (S) := by
  subst hp; exact r.plain fun T t hA hx hc st => XT.bipushV hA hx rfl v (hb hc hd) hv st
theorem r_sipush {i : Int} (v : Int32) (pc' : Nat) (hp : pc + 3 = pc') (hd : decode B.code pc = .ok (.sipush i, 3)) (hv : (Int16.ofInt i).toInt32 = v) (r : Run V K B Q h ps cs sl pc' L (.int v :: S)) : Run V K B Q h ps cs sl pc L (S) := by
  subst hp; exact r.plain fun T t hA hx hc st => XT.sipushV hA hx rfl v (hb hc hd) hv st
theorem r_lconst {k : Fin 2} (v : Int64) (pc' : Nat) (hp : pc + 1 = pc') (hd : decode B.code pc = .ok (.lconst k, 1)) (hv : Int64.ofNat k = v) (r : Run V K B Q h ps cs sl pc' L (.long v :: S)) : Run V K B Q h ps cs sl pc L (S) := by
  subst hp; exact r.plain fun T t hA hx hc st => XT.lconstV hA hx rfl v (hb hc hd) hv st
theorem r_null  (pc' : Nat) (hp : pc + 1 = pc') (hd : decode B.code pc = .ok (.aconst_null, 1)) (r : Run V K B Q h ps cs sl pc' L (.null :: S)) : Run V K B Q h ps cs sl pc L (S) := by
  subst hp; exact r.plain fun T t hA hx hc st => XS.aconstNull hA hx rfl (hb hc hd) st
theorem r_iadd {x y : Int32} (pc' : Nat) (hp : pc + 1 = pc') (hd : decode B.code pc = .ok (.iadd, 1)) (r : Run V K B Q h ps cs sl pc' L (.int (x + y) :: S)) : Run V K B Q h ps cs sl pc L (.int y :: .int x :: S) := by
  subst hp; exact r.plain fun T t hA hx hc st => XS.iadd hA hx rfl (hb hc hd) rfl st
theorem r_isub {x y : Int32} (pc' : Nat) (hp : pc + 1 = pc') (hd : decode B.code pc = .ok (.isub, 1)) (r : Run V K B Q h ps cs sl pc' L (.int (x - y) :: S)) : Run V K B Q h ps cs sl pc L (.int y :: .int x :: S) := by
  subst hp; exact r.plain fun T t hA hx hc st => XS.isub hA hx rfl (hb hc hd) rfl st
theorem r_imul {x y : Int32} (pc' : Nat) (hp : pc + 1 = pc') (hd : decode B.code pc = .ok (.imul, 1)) (r : Run V K B Q h ps cs sl pc' L (.int (x * y) :: S)) : Run V K B Q h ps cs sl pc L (.int y :: .int x :: S) := by
  subst hp; exact r.plain fun T t hA hx hc st => XS.imul hA hx rfl (hb hc hd) rfl st
theorem r_iand {x y : Int32} (pc' : Nat) (hp : pc + 1 = pc') (hd : decode B.code pc = .ok (.iand, 1)) (r : Run V K B Q h ps cs sl pc' L (.int (x &&& y) :: S)) : Run V K B Q h ps cs sl pc L (.int y :: .int x :: S) := by
  subst hp; exact r.plain fun T t hA hx hc st => XS.iand hA hx rfl (hb hc hd) rfl st
theorem r_ior {x y : Int32} (pc' : Nat) (hp : pc + 1 = pc') (hd : decode B.code pc = .ok (.ior, 1)) (r : Run V K B Q h ps cs sl pc' L (.int (x ||| y) :: S)) : Run V K B Q h ps cs sl pc L (.int y :: .int x :: S) := by
  subst hp; exact r.plain fun T t hA hx hc st => XS.ior hA hx rfl (hb hc hd) rfl st
theorem r_ixor {x y : Int32} (pc' : Nat) (hp : pc + 1 = pc') (hd : decode B.code pc = .ok (.ixor, 1)) (r : Run V K B Q h ps cs sl pc' L (.int (x ^^^ y) :: S)) : Run V K B Q h ps cs sl pc L (.int y :: .int x :: S) := by
  subst hp; exact r.plain fun T t hA hx hc st => XS.ixor hA hx rfl (hb hc hd) rfl st
theorem r_ishl {x y : Int32} (pc' : Nat) (hp : pc + 1 = pc') (hd : decode B.code pc = .ok (.ishl, 1)) (r : Run V K B Q h ps cs sl pc' L (.int (x <<< (y &&& 31)) :: S)) : Run V K B Q h ps cs sl pc L (.int y :: .int x :: S) := by
  subst hp; exact r.plain fun T t hA hx hc st => XS.ishl hA hx rfl (hb hc hd) rfl st
theorem r_ishr {x y : Int32} (pc' : Nat) (hp : pc + 1 = pc') (hd : decode B.code pc = .ok (.ishr, 1)) (r : Run V K B Q h ps cs sl pc' L (.int (x >>> (y &&& 31)) :: S)) : Run V K B Q h ps cs sl pc L (.int y :: .int x :: S) := by
  subst hp; exact r.plain fun T t hA hx hc st => XS.ishr hA hx rfl (hb hc hd) rfl st
theorem r_iushr {x y : Int32} (pc' : Nat) (hp : pc + 1 = pc') (hd : decode B.code pc = .ok (.iushr, 1)) (r : Run V K B Q h ps cs sl pc' L (.int (ushr x y) :: S)) : Run V K B Q h ps cs sl pc L (.int y :: .int x :: S) := by
  subst hp; exact r.plain fun T t hA hx hc st => XS.iushr hA hx rfl (hb hc hd) rfl st
theorem r_ladd {x y : Int64} (pc' : Nat) (hp : pc + 1 = pc') (hd : decode B.code pc = .ok (.ladd, 1)) (r : Run V K B Q h ps cs sl pc' L (.long (x + y) :: S)) : Run V K B Q h ps cs sl pc L (.long y :: .long x :: S) := by
  subst hp; exact r.plain fun T t hA hx hc st => XS.ladd hA hx rfl (hb hc hd) rfl st
theorem r_lsub {x y : Int64} (pc' : Nat) (hp : pc + 1 = pc') (hd : decode B.code pc = .ok (.lsub, 1)) (r : Run V K B Q h ps cs sl pc' L (.long (x - y) :: S)) : Run V K B Q h ps cs sl pc L (.long y :: .long x :: S) := by
  subst hp; exact r.plain fun T t hA hx hc st => XS.lsub hA hx rfl (hb hc hd) rfl st
theorem r_lmul {x y : Int64} (pc' : Nat) (hp : pc + 1 = pc') (hd : decode B.code pc = .ok (.lmul, 1)) (r : Run V K B Q h ps cs sl pc' L (.long (x * y) :: S)) : Run V K B Q h ps cs sl pc L (.long y :: .long x :: S) := by
  subst hp; exact r.plain fun T t hA hx hc st => XS.lmul hA hx rfl (hb hc hd) rfl st
theorem r_land {x y : Int64} (pc' : Nat) (hp : pc + 1 = pc') (hd : decode B.code pc = .ok (.land, 1)) (r : Run V K B Q h ps cs sl pc' L (.long (x &&& y) :: S)) : Run V K B Q h ps cs sl pc L (.long y :: .long x :: S) := by
  subst hp; exact r.plain fun T t hA hx hc st => XS.land hA hx rfl (hb hc hd) rfl st
theorem r_lor {x y : Int64} (pc' : Nat) (hp : pc + 1 = pc') (hd : decode B.code pc = .ok (.lor, 1)) (r : Run V K B Q h ps cs sl pc' L (.long (x ||| y) :: S)) : Run V K B Q h ps cs sl pc L (.long y :: .long x :: S) := by
  subst hp; exact r.plain fun T t hA hx hc st => XS.lor hA hx rfl (hb hc hd) rfl st
theorem r_lxor {x y : Int64} (pc' : Nat) (hp : pc + 1 = pc') (hd : decode B.code pc = .ok (.lxor, 1)) (r : Run V K B Q h ps cs sl pc' L (.long (x ^^^ y) :: S)) : Run V K B Q h ps cs sl pc L (.long y :: .long x :: S) := by
  subst hp; exact r.plain fun T t hA hx hc st => XS.lxor hA hx rfl (hb hc hd) rfl st
theorem r_lshl {x : Int64} {y : Int32} (pc' : Nat) (hp : pc + 1 = pc') (hd : decode B.code pc = .ok (.lshl, 1)) (r : Run V K B Q h ps cs sl pc' L (.long (x <<< (y &&& 0x3f).toInt64) :: S)) : Run V K B Q h ps cs sl pc L (.int y :: .long x :: S) := by
  subst hp; exact r.plain fun T t hA hx hc st => XS.lshl hA hx rfl (hb hc hd) rfl st
theorem r_lshr {x : Int64} {y : Int32} (pc' : Nat) (hp : pc + 1 = pc') (hd : decode B.code pc = .ok (.lshr, 1)) (r : Run V K B Q h ps cs sl pc' L (.long (x >>> (y &&& 0x3f).toInt64) :: S)) : Run V K B Q h ps cs sl pc L (.int y :: .long x :: S) := by
  subst hp; exact r.plain fun T t hA hx hc st => XS.lshr hA hx rfl (hb hc hd) rfl st
theorem r_lushr {x : Int64} {y : Int32} (pc' : Nat) (hp : pc + 1 = pc') (hd : decode B.code pc = .ok (.lushr, 1)) (r : Run V K B Q h ps cs sl pc' L (.long (ushrL x y) :: S)) : Run V K B Q h ps cs sl pc L (.int y :: .long x :: S) := by
  subst hp; exact r.plain fun T t hA hx hc st => XS.lushr hA hx rfl (hb hc hd) rfl st
theorem r_idiv {x y : Int32} (pc' : Nat) (hp : pc + 1 = pc') (hd : decode B.code pc = .ok (.idiv, 1)) (hy : y ≠ 0) (r : Run V K B Q h ps cs sl pc' L (.int (x / y) :: S)) : Run V K B Q h ps cs sl pc L (.int y :: .int x :: S) := by
  subst hp; exact r.plain fun T t hA hx hc st => XS.idiv hA hx rfl (hb hc hd) rfl hy st
theorem r_irem {x y : Int32} (pc' : Nat) (hp : pc + 1 = pc') (hd : decode B.code pc = .ok (.irem, 1)) (hy : y ≠ 0) (r : Run V K B Q h ps cs sl pc' L (.int (x % y) :: S)) : Run V K B Q h ps cs sl pc L (.int y :: .int x :: S) := by
  subst hp; exact r.plain fun T t hA hx hc st => XS.irem hA hx rfl (hb hc hd) rfl hy (by rw [irem_eq_mod]; exact st)
theorem r_ineg {x : Int32} (pc' : Nat) (hp : pc + 1 = pc') (hd : decode B.code pc = .ok (.ineg, 1)) (r : Run V K B Q h ps cs sl pc' L (.int (-x) :: S)) : Run V K B Q h ps cs sl pc L (.int x :: S) := by
  subst hp; exact r.plain fun T t hA hx hc st => XS.ineg hA hx rfl (hb hc hd) rfl st
theorem r_lneg {x : Int64} (pc' : Nat) (hp : pc + 1 = pc') (hd : decode B.code pc = .ok (.lneg, 1)) (r : Run V K B Q h ps cs sl pc' L (.long (-x) :: S)) : Run V K B Q h ps cs sl pc L (.long x :: S) := by
  subst hp; exact r.plain fun T t hA hx hc st => XS.lneg hA hx rfl (hb hc hd) rfl st
theorem r_lcmp {x y : Int64} (pc' : Nat) (hp : pc + 1 = pc') (hd : decode B.code pc = .ok (.lcmp, 1)) (r : Run V K B Q h ps cs sl pc' L (.int (XT.cmpL x y) :: S)) : Run V K B Q h ps cs sl pc L (.long y :: .long x :: S) := by
  subst hp; exact r.plain fun T t hA hx hc st => XT.lcmp hA hx rfl (hb hc hd) rfl st
theorem r_i2l {x : Int32} (pc' : Nat) (hp : pc + 1 = pc') (hd : decode B.code pc = .ok (.i2l, 1)) (r : Run V K B Q h ps cs sl pc' L (.long x.toInt64 :: S)) : Run V K B Q h ps cs sl pc L (.int x :: S) := by
  subst hp; exact r.plain fun T t hA hx hc st => XS.i2l hA hx rfl (hb hc hd) rfl st
theorem r_i2b {x : Int32} (pc' : Nat) (hp : pc + 1 = pc') (hd : decode B.code pc = .ok (.i2b, 1)) (r : Run V K B Q h ps cs sl pc' L (.int x.toInt8.toInt32 :: S)) : Run V K B Q h ps cs sl pc L (.int x :: S) := by
  subst hp; exact r.plain fun T t hA hx hc st => XS.i2b hA hx rfl (hb hc hd) rfl st
theorem r_i2c {x : Int32} (pc' : Nat) (hp : pc + 1 = pc') (hd : decode B.code pc = .ok (.i2c, 1)) (r : Run V K B Q h ps cs sl pc' L (.int x.toUInt32.toUInt16.toUInt32.toInt32 :: S)) : Run V K B Q h ps cs sl pc L (.int x :: S) := by
  subst hp; exact r.plain fun T t hA hx hc st => XS.i2c hA hx rfl (hb hc hd) rfl st
theorem r_i2s {x : Int32} (pc' : Nat) (hp : pc + 1 = pc') (hd : decode B.code pc = .ok (.i2s, 1)) (r : Run V K B Q h ps cs sl pc' L (.int x.toInt16.toInt32 :: S)) : Run V K B Q h ps cs sl pc L (.int x :: S) := by
  subst hp; exact r.plain fun T t hA hx hc st => XS.i2s hA hx rfl (hb hc hd) rfl st
theorem r_l2i {x : Int64} (pc' : Nat) (hp : pc + 1 = pc') (hd : decode B.code pc = .ok (.l2i, 1)) (r : Run V K B Q h ps cs sl pc' L (.int x.toInt32 :: S)) : Run V K B Q h ps cs sl pc L (.long x :: S) := by
  subst hp; exact r.plain fun T t hA hx hc st => XS.l2i hA hx rfl (hb hc hd) rfl st
theorem r_dup {x : Value} (pc' : Nat) (hp : pc + 1 = pc') (hd : decode B.code pc = .ok (.dup, 1)) (hv : x.category = 1) (r : Run V K B Q h ps cs sl pc' L (x :: x :: S)) : Run V K B Q h ps cs sl pc L (x :: S) := by
  subst hp; exact r.plain fun T t hA hx hc st => XS.dup hA hx rfl (hb hc hd) rfl hv st
theorem r_pop {x : Value} (pc' : Nat) (hp : pc + 1 = pc') (hd : decode B.code pc = .ok (.pop, 1)) (hv : x.category = 1) (r : Run V K B Q h ps cs sl pc' L (S)) : Run V K B Q h ps cs sl pc L (x :: S) := by
  subst hp; exact r.plain fun T t hA hx hc st => XS.pop hA hx rfl (hb hc hd) rfl hv st
theorem r_dup2 {x y : Value} (pc' : Nat) (hp : pc + 1 = pc') (hd : decode B.code pc = .ok (.dup2, 1)) (hv : x.category = 1) (hv' : y.category = 1) (r : Run V K B Q h ps cs sl pc' L (x :: y :: x :: y :: S)) : Run V K B Q h ps cs sl pc L (x :: y :: S) := by
  subst hp; exact r.plain fun T t hA hx hc st => XT.dup2 hA hx rfl (hb hc hd) rfl hv hv' st
theorem r_dup2L {x : Int64} (pc' : Nat) (hp : pc + 1 = pc') (hd : decode B.code pc = .ok (.dup2, 1)) (r : Run V K B Q h ps cs sl pc' L (.long x :: .long x :: S)) : Run V K B Q h ps cs sl pc L (.long x :: S) := by
  subst hp; exact r.plain fun T t hA hx hc st => XT.dup2L hA hx rfl (hb hc hd) rfl st
theorem r_dupX1 {x y : Value} (pc' : Nat) (hp : pc + 1 = pc') (hd : decode B.code pc = .ok (.dup_x1, 1)) (hv : x.category = 1) (hv' : y.category = 1) (r : Run V K B Q h ps cs sl pc' L (x :: y :: x :: S)) : Run V K B Q h ps cs sl pc L (x :: y :: S) := by
  subst hp; exact r.plain fun T t hA hx hc st => XT.dupX1 hA hx rfl (hb hc hd) rfl hv hv' st
theorem r_iinc {k : Nat} {cst : Int} {x : Int32} (v : Int32) (L' : List Slot) (pc' : Nat) (hp : pc + 3 = pc') (hd : decode B.code pc = .ok (.iinc k cst, 3)) (hv : Int32.ofInt cst = v) (hl : L[k]? = some (.val (.int x))) (hl' : storeLocals L.toArray k (.int (x + v)) = some L'.toArray) (r : Run V K B Q h ps cs sl pc' L' (S)) : Run V K B Q h ps cs sl pc L (S) := by
  subst hp; exact r.plain fun T t hA hx hc st => XT.iincV hA hx rfl v (hb hc hd) hv (by show L.toArray[_]? = _; rw [List.getElem?_toArray]; exact hl) hl' st
theorem r_goto {o : Int} (pc' : Nat) (hd : decode B.code pc = .ok (.goto o, 3)) (ho : 0 ≤ (pc : Int) + o) (hp : ((pc : Int) + o).toNat = pc') (r : Run V K B Q h ps cs sl pc' L S) : Run V K B Q h ps cs sl pc L S :=
  r.plain fun T t hA hx hc st => XS.goto hA hx rfl rfl (hb hc hd) ho hp st
theorem r_icmp_eq {o : Int} {x y : Int32} (pc' pc'' : Nat) (hd : decode B.code pc = .ok (.if_icmp .eq o, 3)) (ho : 0 ≤ (pc : Int) + o) (hp : ((pc : Int) + o).toNat = pc') (hp' : pc + 3 = pc'') (t : x = y → Run V K B Q h ps cs sl pc' L S) (f : ¬ x = y → Run V K B Q h ps cs sl pc'' L S) : Run V K B Q h ps cs sl pc L (.int y :: .int x :: S) := by
  subst hp'
  by_cases q : x = y
  · exact (t q).plain fun T t hA hx hc st => XS.icmpYes hA hx rfl rfl (hb hc hd) rfl (XT.ii_eq_t q) ho hp st
  · exact (f q).plain fun T t hA hx hc st => XS.icmpNo hA hx rfl (hb hc hd) rfl (XT.ii_eq_f q) st
theorem r_if_eq {o : Int} {x : Int32} (pc' pc'' : Nat) (hd : decode B.code pc = .ok (.ifCond .eq o, 3)) (ho : 0 ≤ (pc : Int) + o) (hp : ((pc : Int) + o).toNat = pc') (hp' : pc + 3 = pc'') (t : x = 0 → Run V K B Q h ps cs sl pc' L S) (f : ¬ x = 0 → Run V K B Q h ps cs sl pc'' L S) : Run V K B Q h ps cs sl pc L (.int x :: S) := by
  subst hp'
  by_cases q : x = 0
  · exact (t q).plain fun T t hA hx hc st => XS.ifYes hA hx rfl rfl (hb hc hd) rfl (XT.i0_eq_t q) ho hp st
  · exact (f q).plain fun T t hA hx hc st => XS.ifNo hA hx rfl (hb hc hd) rfl (XT.i0_eq_f q) st
theorem r_lcmp_eq {o : Int} {x y : Int64} (pc1 pc' pc'' : Nat) (hd0 : decode B.code pc = .ok (.lcmp, 1)) (h1 : pc + 1 = pc1) (hd : decode B.code pc1 = .ok (.ifCond .eq o, 3)) (ho : 0 ≤ (pc1 : Int) + o) (hp : ((pc1 : Int) + o).toNat = pc') (hp' : pc1 + 3 = pc'') (t : x = y → Run V K B Q h ps cs sl pc' L S) (f : ¬ x = y → Run V K B Q h ps cs sl pc'' L S) : Run V K B Q h ps cs sl pc L (.long y :: .long x :: S) := by
  refine r_lcmp _ h1 hd0 ?_
  subst hp'
  by_cases q : x = y
  · exact (t q).plain fun T t hA hx hc st => XS.ifYes hA hx rfl rfl (hb hc hd) rfl (XT.ll_eq_t q) ho hp st
  · exact (f q).plain fun T t hA hx hc st => XS.ifNo hA hx rfl (hb hc hd) rfl (XT.ll_eq_f q) st
theorem r_icmp_ne {o : Int} {x y : Int32} (pc' pc'' : Nat) (hd : decode B.code pc = .ok (.if_icmp .ne o, 3)) (ho : 0 ≤ (pc : Int) + o) (hp : ((pc : Int) + o).toNat = pc') (hp' : pc + 3 = pc'') (t : ¬ x = y → Run V K B Q h ps cs sl pc' L S) (f : x = y → Run V K B Q h ps cs sl pc'' L S) : Run V K B Q h ps cs sl pc L (.int y :: .int x :: S) := by
  subst hp'
  by_cases q : ¬ x = y
  · exact (t q).plain fun T t hA hx hc st => XS.icmpYes hA hx rfl rfl (hb hc hd) rfl (XT.ii_ne_t q) ho hp st
  · exact (f (Decidable.not_not.mp q)).plain fun T t hA hx hc st => XS.icmpNo hA hx rfl (hb hc hd) rfl (XT.ii_ne_f (Decidable.not_not.mp q)) st
theorem r_if_ne {o : Int} {x : Int32} (pc' pc'' : Nat) (hd : decode B.code pc = .ok (.ifCond .ne o, 3)) (ho : 0 ≤ (pc : Int) + o) (hp : ((pc : Int) + o).toNat = pc') (hp' : pc + 3 = pc'') (t : ¬ x = 0 → Run V K B Q h ps cs sl pc' L S) (f : x = 0 → Run V K B Q h ps cs sl pc'' L S) : Run V K B Q h ps cs sl pc L (.int x :: S) := by
  subst hp'
  by_cases q : ¬ x = 0
  · exact (t q).plain fun T t hA hx hc st => XS.ifYes hA hx rfl rfl (hb hc hd) rfl (XT.i0_ne_t q) ho hp st
  · exact (f (Decidable.not_not.mp q)).plain fun T t hA hx hc st => XS.ifNo hA hx rfl (hb hc hd) rfl (XT.i0_ne_f (Decidable.not_not.mp q)) st
theorem r_lcmp_ne {o : Int} {x y : Int64} (pc1 pc' pc'' : Nat) (hd0 : decode B.code pc = .ok (.lcmp, 1)) (h1 : pc + 1 = pc1) (hd : decode B.code pc1 = .ok (.ifCond .ne o, 3)) (ho : 0 ≤ (pc1 : Int) + o) (hp : ((pc1 : Int) + o).toNat = pc') (hp' : pc1 + 3 = pc'') (t : ¬ x = y → Run V K B Q h ps cs sl pc' L S) (f : x = y → Run V K B Q h ps cs sl pc'' L S) : Run V K B Q h ps cs sl pc L (.long y :: .long x :: S) := by
  refine r_lcmp _ h1 hd0 ?_
  subst hp'
  by_cases q : ¬ x = y
  · exact (t q).plain fun T t hA hx hc st => XS.ifYes hA hx rfl rfl (hb hc hd) rfl (XT.ll_ne_t q) ho hp st
  · exact (f (Decidable.not_not.mp q)).plain fun T t hA hx hc st => XS.ifNo hA hx rfl (hb hc hd) rfl (XT.ll_ne_f (Decidable.not_not.mp q)) st
theorem r_icmp_lt {o : Int} {x y : Int32} (pc' pc'' : Nat) (hd : decode B.code pc = .ok (.if_icmp .lt o, 3)) (ho : 0 ≤ (pc : Int) + o) (hp : ((pc : Int) + o).toNat = pc') (hp' : pc + 3 = pc'') (t : x < y → Run V K B Q h ps cs sl pc' L S) (f : ¬ x < y → Run V K B Q h ps cs sl pc'' L S) : Run V K B Q h ps cs sl pc L (.int y :: .int x :: S) := by
  subst hp'
  by_cases q : x < y
  · exact (t q).plain fun T t hA hx hc st => XS.icmpYes hA hx rfl rfl (hb hc hd) rfl (XT.ii_lt_t q) ho hp st
  · exact (f q).plain fun T t hA hx hc st => XS.icmpNo hA hx rfl (hb hc hd) rfl (XT.ii_lt_f q) st
theorem r_if_lt {o : Int} {x : Int32} (pc' pc'' : Nat) (hd : decode B.code pc = .ok (.ifCond .lt o, 3)) (ho : 0 ≤ (pc : Int) + o) (hp : ((pc : Int) + o).toNat = pc') (hp' : pc + 3 = pc'') (t : x < 0 → Run V K B Q h ps cs sl pc' L S) (f : ¬ x < 0 → Run V K B Q h ps cs sl pc'' L S) : Run V K B Q h ps cs sl pc L (.int x :: S) := by
  subst hp'
  by_cases q : x < 0
  · exact (t q).plain fun T t hA hx hc st => XS.ifYes hA hx rfl rfl (hb hc hd) rfl (XT.i0_lt_t q) ho hp st
  · exact (f q).plain fun T t hA hx hc st => XS.ifNo hA hx rfl (hb hc hd) rfl (XT.i0_lt_f q) st
theorem r_lcmp_lt {o : Int} {x y : Int64} (pc1 pc' pc'' : Nat) (hd0 : decode B.code pc = .ok (.lcmp, 1)) (h1 : pc + 1 = pc1) (hd : decode B.code pc1 = .ok (.ifCond .lt o, 3)) (ho : 0 ≤ (pc1 : Int) + o) (hp : ((pc1 : Int) + o).toNat = pc') (hp' : pc1 + 3 = pc'') (t : x < y → Run V K B Q h ps cs sl pc' L S) (f : ¬ x < y → Run V K B Q h ps cs sl pc'' L S) : Run V K B Q h ps cs sl pc L (.long y :: .long x :: S) := by
  refine r_lcmp _ h1 hd0 ?_
  subst hp'
  by_cases q : x < y
  · exact (t q).plain fun T t hA hx hc st => XS.ifYes hA hx rfl rfl (hb hc hd) rfl (XT.ll_lt_t q) ho hp st
  · exact (f q).plain fun T t hA hx hc st => XS.ifNo hA hx rfl (hb hc hd) rfl (XT.ll_lt_f q) st
theorem r_icmp_ge {o : Int} {x y : Int32} (pc' pc'' : Nat) (hd : decode B.code pc = .ok (.if_icmp .ge o, 3)) (ho : 0 ≤ (pc : Int) + o) (hp : ((pc : Int) + o).toNat = pc') (hp' : pc + 3 = pc'') (t : ¬ x < y → Run V K B Q h ps cs sl pc' L S) (f : x < y → Run V K B Q h ps cs sl pc'' L S) : Run V K B Q h ps cs sl pc L (.int y :: .int x :: S) := by
  subst hp'
  by_cases q : ¬ x < y
  · exact (t q).plain fun T t hA hx hc st => XS.icmpYes hA hx rfl rfl (hb hc hd) rfl (XT.ii_ge_t q) ho hp st
  · exact (f (Decidable.not_not.mp q)).plain fun T t hA hx hc st => XS.icmpNo hA hx rfl (hb hc hd) rfl (XT.ii_ge_f (Decidable.not_not.mp q)) st
theorem r_if_ge {o : Int} {x : Int32} (pc' pc'' : Nat) (hd : decode B.code pc = .ok (.ifCond .ge o, 3)) (ho : 0 ≤ (pc : Int) + o) (hp : ((pc : Int) + o).toNat = pc') (hp' : pc + 3 = pc'') (t : ¬ x < 0 → Run V K B Q h ps cs sl pc' L S) (f : x < 0 → Run V K B Q h ps cs sl pc'' L S) : Run V K B Q h ps cs sl pc L (.int x :: S) := by
  subst hp'
  by_cases q : ¬ x < 0
  · exact (t q).plain fun T t hA hx hc st => XS.ifYes hA hx rfl rfl (hb hc hd) rfl (XT.i0_ge_t q) ho hp st
  · exact (f (Decidable.not_not.mp q)).plain fun T t hA hx hc st => XS.ifNo hA hx rfl (hb hc hd) rfl (XT.i0_ge_f (Decidable.not_not.mp q)) st
theorem r_lcmp_ge {o : Int} {x y : Int64} (pc1 pc' pc'' : Nat) (hd0 : decode B.code pc = .ok (.lcmp, 1)) (h1 : pc + 1 = pc1) (hd : decode B.code pc1 = .ok (.ifCond .ge o, 3)) (ho : 0 ≤ (pc1 : Int) + o) (hp : ((pc1 : Int) + o).toNat = pc') (hp' : pc1 + 3 = pc'') (t : ¬ x < y → Run V K B Q h ps cs sl pc' L S) (f : x < y → Run V K B Q h ps cs sl pc'' L S) : Run V K B Q h ps cs sl pc L (.long y :: .long x :: S) := by
  refine r_lcmp _ h1 hd0 ?_
  subst hp'
  by_cases q : ¬ x < y
  · exact (t q).plain fun T t hA hx hc st => XS.ifYes hA hx rfl rfl (hb hc hd) rfl (XT.ll_ge_t q) ho hp st
  · exact (f (Decidable.not_not.mp q)).plain fun T t hA hx hc st => XS.ifNo hA hx rfl (hb hc hd) rfl (XT.ll_ge_f (Decidable.not_not.mp q)) st
theorem r_icmp_gt {o : Int} {x y : Int32} (pc' pc'' : Nat) (hd : decode B.code pc = .ok (.if_icmp .gt o, 3)) (ho : 0 ≤ (pc : Int) + o) (hp : ((pc : Int) + o).toNat = pc') (hp' : pc + 3 = pc'') (t : y < x → Run V K B Q h ps cs sl pc' L S) (f : ¬ y < x → Run V K B Q h ps cs sl pc'' L S) : Run V K B Q h ps cs sl pc L (.int y :: .int x :: S) := by
  subst hp'
  by_cases q : y < x
  · exact (t q).plain fun T t hA hx hc st => XS.icmpYes hA hx rfl rfl (hb hc hd) rfl (XT.ii_gt_t q) ho hp st
  · exact (f q).plain fun T t hA hx hc st => XS.icmpNo hA hx rfl (hb hc hd) rfl (XT.ii_gt_f q) st
theorem r_if_gt {o : Int} {x : Int32} (pc' pc'' : Nat) (hd : decode B.code pc = .ok (.ifCond .gt o, 3)) (ho : 0 ≤ (pc : Int) + o) (hp : ((pc : Int) + o).toNat = pc') (hp' : pc + 3 = pc'') (t : 0 < x → Run V K B Q h ps cs sl pc' L S) (f : ¬ 0 < x → Run V K B Q h ps cs sl pc'' L S) : Run V K B Q h ps cs sl pc L (.int x :: S) := by
  subst hp'
  by_cases q : 0 < x
  · exact (t q).plain fun T t hA hx hc st => XS.ifYes hA hx rfl rfl (hb hc hd) rfl (XT.i0_gt_t q) ho hp st
  · exact (f q).plain fun T t hA hx hc st => XS.ifNo hA hx rfl (hb hc hd) rfl (XT.i0_gt_f q) st
theorem r_lcmp_gt {o : Int} {x y : Int64} (pc1 pc' pc'' : Nat) (hd0 : decode B.code pc = .ok (.lcmp, 1)) (h1 : pc + 1 = pc1) (hd : decode B.code pc1 = .ok (.ifCond .gt o, 3)) (ho : 0 ≤ (pc1 : Int) + o) (hp : ((pc1 : Int) + o).toNat = pc') (hp' : pc1 + 3 = pc'') (t : y < x → Run V K B Q h ps cs sl pc' L S) (f : ¬ y < x → Run V K B Q h ps cs sl pc'' L S) : Run V K B Q h ps cs sl pc L (.long y :: .long x :: S) := by
  refine r_lcmp _ h1 hd0 ?_
  subst hp'
  by_cases q : y < x
  · exact (t q).plain fun T t hA hx hc st => XS.ifYes hA hx rfl rfl (hb hc hd) rfl (XT.ll_gt_t q) ho hp st
  · exact (f q).plain fun T t hA hx hc st => XS.ifNo hA hx rfl (hb hc hd) rfl (XT.ll_gt_f q) st
theorem r_icmp_le {o : Int} {x y : Int32} (pc' pc'' : Nat) (hd : decode B.code pc = .ok (.if_icmp .le o, 3)) (ho : 0 ≤ (pc : Int) + o) (hp : ((pc : Int) + o).toNat = pc') (hp' : pc + 3 = pc'') (t : ¬ y < x → Run V K B Q h ps cs sl pc' L S) (f : y < x → Run V K B Q h ps cs sl pc'' L S) : Run V K B Q h ps cs sl pc L (.int y :: .int x :: S) := by
  subst hp'
  by_cases q : ¬ y < x
  · exact (t q).plain fun T t hA hx hc st => XS.icmpYes hA hx rfl rfl (hb hc hd) rfl (XT.ii_le_t q) ho hp st
  · exact (f (Decidable.not_not.mp q)).plain fun T t hA hx hc st => XS.icmpNo hA hx rfl (hb hc hd) rfl (XT.ii_le_f (Decidable.not_not.mp q)) st
theorem r_if_le {o : Int} {x : Int32} (pc' pc'' : Nat) (hd : decode B.code pc = .ok (.ifCond .le o, 3)) (ho : 0 ≤ (pc : Int) + o) (hp : ((pc : Int) + o).toNat = pc') (hp' : pc + 3 = pc'') (t : ¬ 0 < x → Run V K B Q h ps cs sl pc' L S) (f : 0 < x → Run V K B Q h ps cs sl pc'' L S) : Run V K B Q h ps cs sl pc L (.int x :: S) := by
  subst hp'
  by_cases q : ¬ 0 < x
  · exact (t q).plain fun T t hA hx hc st => XS.ifYes hA hx rfl rfl (hb hc hd) rfl (XT.i0_le_t q) ho hp st
  · exact (f (Decidable.not_not.mp q)).plain fun T t hA hx hc st => XS.ifNo hA hx rfl (hb hc hd) rfl (XT.i0_le_f (Decidable.not_not.mp q)) st
theorem r_lcmp_le {o : Int} {x y : Int64} (pc1 pc' pc'' : Nat) (hd0 : decode B.code pc = .ok (.lcmp, 1)) (h1 : pc + 1 = pc1) (hd : decode B.code pc1 = .ok (.ifCond .le o, 3)) (ho : 0 ≤ (pc1 : Int) + o) (hp : ((pc1 : Int) + o).toNat = pc') (hp' : pc1 + 3 = pc'') (t : ¬ y < x → Run V K B Q h ps cs sl pc' L S) (f : y < x → Run V K B Q h ps cs sl pc'' L S) : Run V K B Q h ps cs sl pc L (.long y :: .long x :: S) := by
  refine r_lcmp _ h1 hd0 ?_
  subst hp'
  by_cases q : ¬ y < x
  · exact (t q).plain fun T t hA hx hc st => XS.ifYes hA hx rfl rfl (hb hc hd) rfl (XT.ll_le_t q) ho hp st
  · exact (f (Decidable.not_not.mp q)).plain fun T t hA hx hc st => XS.ifNo hA hx rfl (hb hc hd) rfl (XT.ll_le_f (Decidable.not_not.mp q)) st
theorem r_ifnull_t {o : Int} (pc' : Nat) (hd : decode B.code pc = .ok (.ifnull o, 3)) (ho : 0 ≤ (pc : Int) + o) (hp : ((pc : Int) + o).toNat = pc') (r : Run V K B Q h ps cs sl pc' L S) : Run V K B Q h ps cs sl pc L (.null :: S) :=
  r.plain fun T t hA hx hc st => XS.ifnullYes hA hx rfl rfl (hb hc hd) rfl ho hp st
theorem r_ifnull_f {o : Int} {b : Nat} (pc' : Nat) (hp : pc + 3 = pc') (hd : decode B.code pc = .ok (.ifnull o, 3)) (r : Run V K B Q h ps cs sl pc' L S) : Run V K B Q h ps cs sl pc L (.ref b :: S) := by
  subst hp; exact r.plain fun T t hA hx hc st => XS.ifnullNo hA hx rfl (hb hc hd) rfl st
theorem r_ifnonnull_t {o : Int} {b : Nat} (pc' : Nat) (hd : decode B.code pc = .ok (.ifnonnull o, 3)) (ho : 0 ≤ (pc : Int) + o) (hp : ((pc : Int) + o).toNat = pc') (r : Run V K B Q h ps cs sl pc' L S) : Run V K B Q h ps cs sl pc L (.ref b :: S) :=
  r.plain fun T t hA hx hc st => XS.ifnonnullYes hA hx rfl rfl (hb hc hd) rfl ho hp st
theorem r_ifnonnull_f {o : Int} (pc' : Nat) (hp : pc + 3 = pc') (hd : decode B.code pc = .ok (.ifnonnull o, 3)) (r : Run V K B Q h ps cs sl pc' L S) : Run V K B Q h ps cs sl pc L (.null :: S) := by
  subst hp; exact r.plain fun T t hA hx hc st => XS.ifnonnullNo hA hx rfl (hb hc hd) rfl st
theorem r_acmp_eq {o : Int} {x y : Value} (pc' pc'' : Nat) (hd : decode B.code pc = .ok (.if_acmp .eq o, 3)) (hx1 : x.isRef = true) (hy1 : y.isRef = true) (ho : 0 ≤ (pc : Int) + o) (hp : ((pc : Int) + o).toNat = pc') (hp' : pc + 3 = pc'') (t : x = y → Run V K B Q h ps cs sl pc' L S) (f : ¬ x = y → Run V K B Q h ps cs sl pc'' L S) : Run V K B Q h ps cs sl pc L (y :: x :: S) := by
  subst hp'
  by_cases q : x = y
  · exact (t q).plain fun T t hA hx hc st => XT.acmpYes hA hx rfl rfl (hb hc hd) rfl hx1 hy1 (XT.aa_eq_t q) ho hp st
  · exact (f q).plain fun T t hA hx hc st => XT.acmpNo hA hx rfl (hb hc hd) rfl hx1 hy1 (XT.aa_eq_f q) st
theorem r_acmp_ne {o : Int} {x y : Value} (pc' pc'' : Nat) (hd : decode B.code pc = .ok (.if_acmp .ne o, 3)) (hx1 : x.isRef = true) (hy1 : y.isRef = true) (ho : 0 ≤ (pc : Int) + o) (hp : ((pc : Int) + o).toNat = pc') (hp' : pc + 3 = pc'') (t : ¬ x = y → Run V K B Q h ps cs sl pc' L S) (f : x = y → Run V K B Q h ps cs sl pc'' L S) : Run V K B Q h ps cs sl pc L (y :: x :: S) := by
  subst hp'
  by_cases q : ¬ x = y
  · exact (t q).plain fun T t hA hx hc st => XT.acmpYes hA hx rfl rfl (hb hc hd) rfl hx1 hy1 (XT.aa_ne_t q) ho hp st
  · exact (f (Decidable.not_not.mp q)).plain fun T t hA hx hc st => XT.acmpNo hA hx rfl (hb hc hd) rfl hx1 hy1 (XT.aa_ne_f (Decidable.not_not.mp q)) st
theorem r_ldcI {i : Nat} {v : Int32} (pc' : Nat) (hp : pc + 2 = pc') (hd : decode B.code pc = .ok (.ldc i, 2)) (w : (Jvm.Cond.constant B.y.cls i v).before V.a0 V.Z = true) (r : Run V K B Q h ps cs sl pc' L (.int v :: S)) : Run V K B Q h ps cs sl pc L S := by
  subst hp; exact r.still fun T locs vm0 X eT hZ ho O G => ⟨T, X, eT, fun t st => Jvm.Stand.ldcI X G.1 ho (mv hZ w) rfl (hb G.2.1 hd) st⟩
theorem r_ldcWI {i : Nat} {v : Int32} (pc' : Nat) (hp : pc + 3 = pc') (hd : decode B.code pc = .ok (.ldc_w i, 3)) (w : (Jvm.Cond.constant B.y.cls i v).before V.a0 V.Z = true) (r : Run V K B Q h ps cs sl pc' L (.int v :: S)) : Run V K B Q h ps cs sl pc L S := by
  subst hp; exact r.still fun T locs vm0 X eT hZ ho O G => ⟨T, X, eT, fun t st => Jvm.Stand.ldcWI X G.1 ho (mv hZ w) rfl (hb G.2.1 hd) st⟩
theorem r_ldc2J {i : Nat} {v : Int64} (pc' : Nat) (hp : pc + 3 = pc') (hd : decode B.code pc = .ok (.ldc2_w i, 3)) (w : (Jvm.Cond.constantLong B.y.cls i v).before V.a0 V.Z = true) (r : Run V K B Q h ps cs sl pc' L (.long v :: S)) : Run V K B Q h ps cs sl pc L S := by
  subst hp; exact r.still fun T locs vm0 X eT hZ ho O G => ⟨T, X, eT, fun t st => Jvm.Stand.ldc2J X G.1 ho (mv hZ w) rfl (hb G.2.1 hd) st⟩
theorem r_getfield {i : Nat} {O n d : String} {a : Nat} {v : Value} (pc' : Nat) (hp : pc + 3 = pc') (hd : decode B.code pc = .ok (.getfield i, 3)) (w : (Jvm.Cond.fieldLink B.y.cls i O n d).before V.a0 V.Z = true) (F : Fld V.Z h a O n d v) (r : Run V K B Q h ps cs sl pc' L (v :: S)) : Run V K B Q h ps cs sl pc L (.ref a :: S) := by
  subst hp; exact r.still fun T locs vm0 X eT hZ ho O G => getF X G.1 hZ ho (host := "") (Or.inl w) Via.refl eT F (g := mkF K.m pc L.toArray (.ref a :: S)) rfl rfl (hb G.2.1 hd)
theorem r_getstatic {i : Nat} {O n d : String} {v : Value} (pc' : Nat) (hp : pc + 3 = pc') (hd : decode B.code pc = .ok (.getstatic i, 3)) (w : (Jvm.Cond.fieldLink B.y.cls i O n d).before V.a0 V.Z = true) (F : Sta V.Z V.Z.heap O n d v) (r : Run V K B Q h ps cs sl pc' L (v :: S)) : Run V K B Q h ps cs sl pc L S := by
  subst hp; exact r.still fun T locs vm0 X eT hZ ho O G => getS X G.1 hZ ho (host := "") w Via.refl eT (F.ext O) (g := mkF K.m pc L.toArray S) rfl (hb G.2.1 hd)
theorem r_putfield {i kk : Nat} {O n d C : String} {a : Nat} {v old : Value} {ty : FieldType} (pc' : Nat) (hp : pc + 3 = pc') (hd : decode B.code pc = .ok (.putfield i, 3)) (w : (Jvm.Cond.fieldLink B.y.cls i O n d).before V.a0 V.Z = true) (F : Fld V.Z h a O n d old) (E : Exa V.Z h a C)
    (Lw : (Jvm.Cond.lays C O n d).before V.a0 V.Z = true ∨ ((Jvm.Cond.laysFinal C O n d).before V.a0 V.Z = true ∧ B.y.cls = O ∧ B.y.name = "<init>")) (wi : (Jvm.Cond.instantiable C kk).before V.a0 V.Z = true) (hty : parseFieldDescriptor d = some ty) (hn : narrow ty v = v) (hf : fits ty v = true)
    (ha : V.Z.heap.size ≤ a) (hs : C ≠ "java/lang/String" ∧ C ≠ "[B" ∨ a ∈ ps) (r : ∀ h', Wr h h' a (RoadKit.slotOf V.Z O n d) v → Run V K B Q h' ps cs sl pc' L S) : Run V K B Q h ps cs sl pc L (v :: .ref a :: S) := by
  subst hp; exact Run.write ha (fun vm al P => hs.elim (fun q => Safe.exa al E q.1 q.2) (fun q => (P a q).2)) r fun T locs vm0 X eT hZ ho G => putF X G.1 hZ ho (host := "") (Or.inl w) Via.refl eT F E (Lw.imp id fun q => ⟨q.1, q.2.1, G.2.2.2.2.2.trans q.2.2⟩) wi hty hn hf (g := mkF K.m pc L.toArray (v :: .ref a :: S)) rfl rfl (hb G.2.1 hd)
theorem r_new {i n : Nat} {C : String} (pc' : Nat) (hp : pc + 3 = pc') (hd : decode B.code pc = .ok (.new i, 3)) (w : (Jvm.Cond.classLink B.y.cls i C).before V.a0 V.Z = true) (wi : (Jvm.Cond.instantiable C n).before V.a0 V.Z = true) (wz : (Jvm.Cond.initialized C).before V.a0 V.Z = true) (hc : cs + 1 ≤ B.R.cells) (hl : sl + n ≤ B.R.slots)
    (r : ∀ (a : Nat) h', a = h.size → V.Z.heap.size ≤ a → Ext h h' → Exa V.Z h' a C → (∀ {O nm d : String} {ty : FieldType}, RoadKit.Laid V.Z V.a0 C O nm d → parseFieldDescriptor d = some ty → Fld V.Z h' a O nm d (defaultValue ty)) → Run V K B Q h' (a :: ps) (cs + 1) (sl + n) pc' L (.ref a :: S)) : Run V K B Q h ps cs sl pc L S := by
  subst hp; refine Run.make (S' := fun a => .ref a :: S) (P := fun h' => Exa V.Z h' h.size C ∧ ∀ {O nm d : String} {ty : FieldType}, RoadKit.Laid V.Z V.a0 C O nm d → parseFieldDescriptor d = some ty → Fld V.Z h' h.size O nm d (defaultValue ty)) (fun h' E hz q => r _ h' rfl hz E q.1 q.2) fun T locs vm0 X eT hZ ho G => ?_
  obtain ⟨T', h', X', e', E, A, D, -, st⟩ := newO X G.1 hZ ho w wi wz eT (g := mkF K.m pc L.toArray S) rfl (hb G.2.1 hd) hc hl
  exact ⟨T', h', X', e', E, A.lt, ⟨A, D⟩, st⟩
theorem r_newarray {aty : ArrayType} {n : Int32} (cap : Nat) (pc' : Nat) (hp : pc + 2 = pc') (hd : decode B.code pc = .ok (.newarray aty, 2)) (w : (Jvm.Cond.arrayClass (newarray.typeOf aty)).before V.a0 V.Z = true) (hn : ¬ n < 0) (hcap : n.toNatClampNeg ≤ cap) (hbig : cap * 8 ≤ 536870912) (hc : cs + 1 ≤ B.R.cells) (hl : sl + cap ≤ B.R.slots)
    (r : ∀ (a : Nat) h' k, a = h.size → V.Z.heap.size ≤ a → Ext h h' → Arv V.Z h' a k (newarray.typeOf aty) n [] (defaultValue (newarray.typeOf aty)) → Run V K B Q h' (a :: ps) (cs + 1) (sl + cap) pc' L (.ref a :: S)) : Run V K B Q h ps cs sl pc L (.int n :: S) := by
  subst hp; refine Run.make (S' := fun a => .ref a :: S) (P := fun h' => ∃ k, Arv V.Z h' h.size k (newarray.typeOf aty) n [] (defaultValue (newarray.typeOf aty))) (fun h' E hz ⟨k, q⟩ => r _ h' k rfl hz E q) fun T locs vm0 X eT hZ ho G => ?_
  obtain ⟨T', h', cA, X', e', E, A, st⟩ := newP X G.1 hZ w eT (g := mkF K.m pc L.toArray (.int n :: S)) rfl (hb G.2.1 hd) rfl hn hcap hbig hc hl
  exact ⟨T', h', X', e', E, A.lt, ⟨cA, Arv.new A hn⟩, st⟩
theorem r_anewarray {i : Nat} {C : String} {n : Int32} (cap : Nat) (pc' : Nat) (hp : pc + 3 = pc') (hd : decode B.code pc = .ok (.anewarray i, 3)) (w1 : (Jvm.Cond.classLink B.y.cls i C).before V.a0 V.Z = true) (w2 : (Jvm.Cond.arrayOver (.object C)).before V.a0 V.Z = true) (hn : ¬ n < 0) (hcap : n.toNatClampNeg ≤ cap) (hbig : cap * 8 ≤ 536870912) (hc : cs + 1 ≤ B.R.cells) (hl : sl + cap ≤ B.R.slots)
    (r : ∀ (a : Nat) h' k, a = h.size → V.Z.heap.size ≤ a → Ext h h' → Arv V.Z h' a k (.object C) n [] .null → Ovr V.Z k C → Run V K B Q h' (a :: ps) (cs + 1) (sl + cap) pc' L (.ref a :: S)) : Run V K B Q h ps cs sl pc L (.int n :: S) := by
  subst hp; refine Run.make (S' := fun a => .ref a :: S) (P := fun h' => ∃ k, Arv V.Z h' h.size k (.object C) n [] .null ∧ Ovr V.Z k C) (fun h' E hz ⟨k, q, q'⟩ => r _ h' k rfl hz E q q') fun T locs vm0 X eT hZ ho G => ?_
  obtain ⟨T', h', cA, X', e', E, A, O, st⟩ := newR X G.1 hZ ho w1 w2 eT (g := mkF K.m pc L.toArray (.int n :: S)) rfl (hb G.2.1 hd) rfl hn hcap hbig hc hl
  exact ⟨T', h', X', e', E, A.lt, ⟨cA, Arv.new A hn, O⟩, st⟩
theorem r_iaload {a : Nat} {k : ClassId} {z j : Int32} {vs : List Value} {dv v : Value} (pc' : Nat) (hp : pc + 1 = pc') (hd : decode B.code pc = .ok (.iaload, 1)) (A : Arv V.Z h a k .int z vs dv) (hj : ¬ j < 0 ∧ j < z) (hv : vs.getD j.toNatClampNeg dv = v) (r : Run V K B Q h ps cs sl pc' L (v :: S)) : Run V K B Q h ps cs sl pc L (.int j :: .ref a :: S) := by
  subst hp; refine r.still fun T locs vm0 X eT hZ ho O G => ⟨T, X, eT, fun t st => ?_⟩
  obtain ⟨c, A1, q1, S1, N1, H1, G1⟩ := A
  exact X.iaload G.1 (by rw [eT]; exact A1.1) (State.isArrayOf_alike hZ.alike A1.2.1) A1.2.2 (inb_of S1 hj) (H1.at (inb_of S1 hj) hv) (g := mkF K.m pc L.toArray (.int j :: .ref a :: S)) rfl rfl (hb G.2.1 hd) _ st
theorem r_caload {a : Nat} {k : ClassId} {z j : Int32} {vs : List Value} {dv v : Value} (pc' : Nat) (hp : pc + 1 = pc') (hd : decode B.code pc = .ok (.caload, 1)) (A : Arv V.Z h a k .char z vs dv) (hj : ¬ j < 0 ∧ j < z) (hv : vs.getD j.toNatClampNeg dv = v) (r : Run V K B Q h ps cs sl pc' L (v :: S)) : Run V K B Q h ps cs sl pc L (.int j :: .ref a :: S) := by
  subst hp; refine r.still fun T locs vm0 X eT hZ ho O G => ⟨T, X, eT, fun t st => ?_⟩
  obtain ⟨c, A1, q1, S1, N1, H1, G1⟩ := A
  exact X.caload G.1 (by rw [eT]; exact A1.1) (State.isArrayOf_alike hZ.alike A1.2.1) A1.2.2 (inb_of S1 hj) (H1.at (inb_of S1 hj) hv) (g := mkF K.m pc L.toArray (.int j :: .ref a :: S)) rfl rfl (hb G.2.1 hd) _ st
theorem r_baload {a : Nat} {k : ClassId} {z j : Int32} {vs : List Value} {dv v : Value} (pc' : Nat) (hp : pc + 1 = pc') (hd : decode B.code pc = .ok (.baload, 1)) (A : Arv V.Z h a k .byte z vs dv) (hj : ¬ j < 0 ∧ j < z) (hv : vs.getD j.toNatClampNeg dv = v) (r : Run V K B Q h ps cs sl pc' L (v :: S)) : Run V K B Q h ps cs sl pc L (.int j :: .ref a :: S) := by
  subst hp; refine r.still fun T locs vm0 X eT hZ ho O G => ⟨T, X, eT, fun t st => ?_⟩
  obtain ⟨c, A1, q1, S1, N1, H1, G1⟩ := A
  exact X.baloadBytes G.1 (by rw [eT]; exact A1.1) (State.isArrayOf_alike hZ.alike A1.2.1) A1.2.2 (inb_of S1 hj) (H1.at (inb_of S1 hj) hv) (g := mkF K.m pc L.toArray (.int j :: .ref a :: S)) rfl rfl (hb G.2.1 hd) _ st
theorem r_saload {a : Nat} {k : ClassId} {z j : Int32} {vs : List Value} {dv v : Value} (pc' : Nat) (hp : pc + 1 = pc') (hd : decode B.code pc = .ok (.saload, 1)) (A : Arv V.Z h a k .short z vs dv) (hj : ¬ j < 0 ∧ j < z) (hv : vs.getD j.toNatClampNeg dv = v) (r : Run V K B Q h ps cs sl pc' L (v :: S)) : Run V K B Q h ps cs sl pc L (.int j :: .ref a :: S) := by
  subst hp; refine r.still fun T locs vm0 X eT hZ ho O G => ⟨T, X, eT, fun t st => ?_⟩
  obtain ⟨c, A1, q1, S1, N1, H1, G1⟩ := A
  exact X.saload G.1 (by rw [eT]; exact A1.1) (State.isArrayOf_alike hZ.alike A1.2.1) A1.2.2 (inb_of S1 hj) (H1.at (inb_of S1 hj) hv) (g := mkF K.m pc L.toArray (.int j :: .ref a :: S)) rfl rfl (hb G.2.1 hd) _ st
theorem r_laload {a : Nat} {k : ClassId} {z j : Int32} {vs : List Value} {dv v : Value} (pc' : Nat) (hp : pc + 1 = pc') (hd : decode B.code pc = .ok (.laload, 1)) (A : Arv V.Z h a k .long z vs dv) (hj : ¬ j < 0 ∧ j < z) (hv : vs.getD j.toNatClampNeg dv = v) (r : Run V K B Q h ps cs sl pc' L (v :: S)) : Run V K B Q h ps cs sl pc L (.int j :: .ref a :: S) := by
  subst hp; refine r.still fun T locs vm0 X eT hZ ho O G => ⟨T, X, eT, fun t st => ?_⟩
  obtain ⟨c, A1, q1, S1, N1, H1, G1⟩ := A
  exact X.laload G.1 (by rw [eT]; exact A1.1) (State.isArrayOf_alike hZ.alike A1.2.1) A1.2.2 (inb_of S1 hj) (H1.at (inb_of S1 hj) hv) (g := mkF K.m pc L.toArray (.int j :: .ref a :: S)) rfl rfl (hb G.2.1 hd) _ st
theorem r_aaload {a : Nat} {k : ClassId} {ty : FieldType} {z j : Int32} {vs : List Value} {dv v : Value} (pc' : Nat) (hp : pc + 1 = pc') (hd : decode B.code pc = .ok (.aaload, 1)) (A : Arv V.Z h a k ty z vs dv) (hty : ty.isReference = true) (hj : ¬ j < 0 ∧ j < z) (hv : vs.getD j.toNatClampNeg dv = v) (r : Run V K B Q h ps cs sl pc' L (v :: S)) : Run V K B Q h ps cs sl pc L (.int j :: .ref a :: S) := by
  subst hp; refine r.still fun T locs vm0 X eT hZ ho O G => ⟨T, X, eT, fun t st => ?_⟩
  obtain ⟨c, A1, q1, S1, N1, H1, G1⟩ := A
  exact X.aaload G.1 (by rw [eT]; exact A1.1) (State.isArrayOf_alike hZ.alike A1.2.1) hty A1.2.2 (inb_of S1 hj) (H1.at (inb_of S1 hj) hv) (g := mkF K.m pc L.toArray (.int j :: .ref a :: S)) rfl rfl (hb G.2.1 hd) _ st
theorem r_arraylength {a : Nat} {k : ClassId} {ty : FieldType} {z : Int32} {vs : List Value} {dv : Value} (pc' : Nat) (hp : pc + 1 = pc') (hd : decode B.code pc = .ok (.arraylength, 1)) (A : Arv V.Z h a k ty z vs dv) (r : Run V K B Q h ps cs sl pc' L (.int z :: S)) : Run V K B Q h ps cs sl pc L (.ref a :: S) := by
  subst hp; refine r.still fun T locs vm0 X eT hZ ho O G => ⟨T, X, eT, fun t st => ?_⟩
  obtain ⟨c, A1, q1, S1, N1, H1, G1⟩ := A
  exact X.arraylength G.1 (by rw [eT]; exact A1.1) (State.isArrayOf_alike hZ.alike A1.2.1) (g := mkF K.m pc L.toArray (.ref a :: S)) rfl rfl (hb G.2.1 hd) _ (by rw [len_of S1 N1]; exact st)
theorem r_castore {a : Nat} {k : ClassId} {z j x : Int32} {vs : List Value} {dv : Value} (i : Nat) (pc' : Nat) (hp : pc + 1 = pc') (hd : decode B.code pc = .ok (.castore, 1)) (A : Arv V.Z h a k .char z vs dv) (hj : ¬ j < 0 ∧ j < z) (ji : j.toNatClampNeg = i) (hi : i < vs.length) (ha : V.Z.heap.size ≤ a) (x' : Int32) (hx' : nar .char x = x')
    (r : ∀ h', Wr h h' a i (.int x') → Arv V.Z h' a k .char z (vs.set i (.int x')) dv → Run V K B Q h' ps cs sl pc' L S) : Run V K B Q h ps cs sl pc L (.int x :: .int j :: .ref a :: S) := by
  subst hp hx' ji; refine Run.write ha (fun vm al P => Safe.arr al A.choose_spec.1 (by decide)) (fun h' W => r h' W ?_) fun T locs vm0 X eT hZ ho G => ?_
  · obtain ⟨c, A1, q1, S1, N1, H1, G1⟩ := A
    exact Arv.set A1 q1 S1 N1 H1 G1 (fits_nar_char x) W _ rfl hi
  · obtain ⟨c, A1, q1, S1, N1, H1, G1⟩ := A
    exact stC X G.1 hZ eT A1 (inb_of S1 hj) (g := mkF K.m pc L.toArray (.int x :: .int j :: .ref a :: S)) rfl rfl (hb G.2.1 hd)
theorem r_bastore {a : Nat} {k : ClassId} {z j x : Int32} {vs : List Value} {dv : Value} (i : Nat) (pc' : Nat) (hp : pc + 1 = pc') (hd : decode B.code pc = .ok (.bastore, 1)) (A : Arv V.Z h a k .byte z vs dv) (hj : ¬ j < 0 ∧ j < z) (ji : j.toNatClampNeg = i) (hi : i < vs.length) (ha : V.Z.heap.size ≤ a) (hs : a ∈ ps) (x' : Int32) (hx' : x.toInt8.toInt32 = x')
    (r : ∀ h', Wr h h' a i (.int x') → Arv V.Z h' a k .byte z (vs.set i (.int x')) dv → Run V K B Q h' ps cs sl pc' L S) : Run V K B Q h ps cs sl pc L (.int x :: .int j :: .ref a :: S) := by
  subst hp hx' ji; refine Run.write ha (fun vm al P => (P a hs).2) (fun h' W => r h' W ?_) fun T locs vm0 X eT hZ ho G => ?_
  · obtain ⟨c, A1, q1, S1, N1, H1, G1⟩ := A
    exact Arv.set A1 q1 S1 N1 H1 G1 (fits_nar_byte x) W _ rfl hi
  · obtain ⟨c, A1, q1, S1, N1, H1, G1⟩ := A
    exact stB X G.1 hZ eT A1 (inb_of S1 hj) (g := mkF K.m pc L.toArray (.int x :: .int j :: .ref a :: S)) rfl rfl (hb G.2.1 hd)
theorem r_iastore {a : Nat} {k : ClassId} {z j x : Int32} {vs : List Value} {dv : Value} (i : Nat) (pc' : Nat) (hp : pc + 1 = pc') (hd : decode B.code pc = .ok (.iastore, 1)) (A : Arv V.Z h a k .int z vs dv) (hj : ¬ j < 0 ∧ j < z) (ji : j.toNatClampNeg = i) (hi : i < vs.length) (ha : V.Z.heap.size ≤ a) (x' : Int32) (hx' : x = x')
    (r : ∀ h', Wr h h' a i (.int x') → Arv V.Z h' a k .int z (vs.set i (.int x')) dv → Run V K B Q h' ps cs sl pc' L S) : Run V K B Q h ps cs sl pc L (.int x :: .int j :: .ref a :: S) := by
  subst hp hx' ji; refine Run.write ha (fun vm al P => Safe.arr al A.choose_spec.1 (by decide)) (fun h' W => r h' W ?_) fun T locs vm0 X eT hZ ho G => ?_
  · obtain ⟨c, A1, q1, S1, N1, H1, G1⟩ := A
    exact Arv.set A1 q1 S1 N1 H1 G1 (rfl) W _ rfl hi
  · obtain ⟨c, A1, q1, S1, N1, H1, G1⟩ := A
    exact stI X G.1 hZ eT A1 (inb_of S1 hj) (g := mkF K.m pc L.toArray (.int x :: .int j :: .ref a :: S)) rfl rfl (hb G.2.1 hd)
theorem r_aastore {a : Nat} {k : ClassId} {C : String} {z j : Int32} {x : Value} {vs : List Value} {dv : Value} (i : Nat) (pc' : Nat) (hp : pc + 1 = pc') (hd : decode B.code pc = .ok (.aastore, 1)) (A : Arv V.Z h a k (.object C) z vs dv) (F : ∀ c, Arr V.Z h a c (.object C) → c.cls = k → Sto V.Z h a x) (hj : ¬ j < 0 ∧ j < z) (ji : j.toNatClampNeg = i) (hi : i < vs.length) (ha : V.Z.heap.size ≤ a) (hfx : fits (.object C) x = true)
    (r : ∀ h', Wr h h' a i x → Arv V.Z h' a k (.object C) z (vs.set i x) dv → Run V K B Q h' ps cs sl pc' L S) : Run V K B Q h ps cs sl pc L (x :: .int j :: .ref a :: S) := by
  subst hp ji; refine Run.write ha (fun vm al P => Safe.arr al A.choose_spec.1 (by simp)) (fun h' W => r h' W ?_) fun T locs vm0 X eT hZ ho G => ?_
  · obtain ⟨c, A1, q1, S1, N1, H1, G1⟩ := A
    exact Arv.set A1 q1 S1 N1 H1 G1 hfx W _ rfl hi
  · obtain ⟨c, A1, q1, S1, N1, H1, G1⟩ := A
    exact stR X G.1 hZ eT A1 (inb_of S1 hj) rfl (F c A1 q1) (g := mkF K.m pc L.toArray (x :: .int j :: .ref a :: S)) rfl rfl (hb G.2.1 hd)
theorem r_instY {i : Nat} {C : String} {a : Nat} (pc' : Nat) (hp : pc + 3 = pc') (hd : decode B.code pc = .ok (.instanceof i, 3)) (w : (Jvm.Cond.classLink B.y.cls i C).before V.a0 V.Z = true) (F : Ins V.Z h a C true) (r : Run V K B Q h ps cs sl pc' L (.int 1 :: S)) : Run V K B Q h ps cs sl pc L (.ref a :: S) := by
  subst hp; exact r.still fun T locs vm0 X eT hZ ho O G => instY X G.1 hZ ho w eT F (g := mkF K.m pc L.toArray (.ref a :: S)) rfl rfl (hb G.2.1 hd)
theorem r_instNo {i : Nat} {C D : String} {a : Nat} (pc' : Nat) (hp : pc + 3 = pc') (hd : decode B.code pc = .ok (.instanceof i, 3)) (w : (Jvm.Cond.classLink B.y.cls i D).before V.a0 V.Z = true) (E : Exa V.Z h a C) (F : ∃ c t, V.Z.vm.findClass C = some c ∧ V.Z.vm.findClass D = some t ∧ V.Z.vm.assignable c t = false) (r : Run V K B Q h ps cs sl pc' L (.int 0 :: S)) : Run V K B Q h ps cs sl pc L (.ref a :: S) := by
  subst hp; exact r.still fun T locs vm0 X eT hZ ho O G => instNo X G.1 hZ ho w eT E F (g := mkF K.m pc L.toArray (.ref a :: S)) rfl rfl (hb G.2.1 hd)
theorem r_cast {i : Nat} {C : String} {a : Nat} (pc' : Nat) (hp : pc + 3 = pc') (hd : decode B.code pc = .ok (.checkcast i, 3)) (w : (Jvm.Cond.classLink B.y.cls i C).before V.a0 V.Z = true) (F : Ins V.Z h a C true) (r : Run V K B Q h ps cs sl pc' L (.ref a :: S)) : Run V K B Q h ps cs sl pc L (.ref a :: S) := by
  subst hp; exact r.still fun T locs vm0 X eT hZ ho O G => castY X G.1 hZ ho w eT F (g := mkF K.m pc L.toArray (.ref a :: S)) rfl rfl (hb G.2.1 hd)
theorem r_initO {i : Nat} {a : Nat} (W : Nat) (pc' : Nat) (hp : pc + 3 = pc') (hd : decode B.code pc = .ok (.invokespecial i, 3)) (w1 : (Jvm.Cond.methodLink B.y.cls i Lib.objectInit).before V.a0 V.Z = true) (w2 : (Jvm.Cond.instanceMethod Lib.objectInit).before V.a0 V.Z = true) (w3 : (Jvm.Cond.code Lib.objectInit ⟨#[0xb1]⟩ 1 none).before V.a0 V.Z = true) (hsz : L.length = B.ml) (hf : 1 ≤ B.R.frames) (hW : (S.map fun v => v.category).sum ≤ W) (hl : W + 12 ≤ B.R.locals) (r : Run V K B Q h ps cs sl pc' L S) : Run V K B Q h ps cs sl pc L (.ref a :: S) := by
  subst hp; exact r.still fun T locs vm0 X eT hZ ho O G => initO X G.1 hZ ho w1 w2 w3 eT (g := mkF K.m pc L.toArray (.ref a :: S)) rfl (by rw [G.2.2.1]; simpa using hsz) rfl (hb G.2.1 hd) hf (W := W) (by simpa using hW) hl
theorem Run.ret {v : Option Value} (hv : K.meth.sig.returnType = none → v = none) (hc : cs ≤ B.R.cells) (hs : sl ≤ B.R.slots) (qps : List Addr) (hq : ∀ x ∈ qps, x ∈ ps) (q : Q v h qps)
    (st : ∀ T locs vm0 fs, Stand K.p V.l K.e B.R (K.s.setVm vm0) K.m K.args K.below K.meth K.c T locs cs sl → Fx K B → (∀ (f : JFrame) (acts : List Action), f.method = K.m → f.locked = none → f.entered = [] → (doReturn K.e (T.setTop f) acts v).1 = T.setFrames fs) → Steps K.p.tables K.e K.below (T.setTop (mkF K.m pc L.toArray S)) (T.setFrames fs)) :
    Run V K B Q h ps cs sl pc L S := fun T hT => by
  obtain ⟨locs, vm0, k0, X, e1, e2, e3, e4, e5, e6, e7, e8, e9, e10, e11, e12⟩ := hT
  have hl : K.meth.locks = false := e12.2.2.2.2.1
  have C := e8.trans (CHv.at X e2 e10 e8.1)
  have A := CHv.at X e2 e10 e8.1
  cases hn : V.nar
  · obtain ⟨fs, hr, hrun, hend, w1, w2, w3, w4⟩ := X.leaveW e4 (by rw [e1]; exact e5) hv hl
    refine ⟨_, _, st T locs vm0 fs X e12 hr, hrun, hend, v, locs, qps, rfl, e6, by show Q v T.heap qps; rw [e1]; exact q, by show Ext V.Z.heap T.heap; rw [e1]; exact e7, by show Sf V T.vm T.heap qps; rw [e1]; exact (e9.sub hq).go A, by show CHr V.Z V.EL K.s.vm K.s.heap T.vm T.heap; rw [e1]; exact C, ⟨w1, w2, w3, w4.mono hc hs⟩, fun z => absurd (hn.symm.trans z) (by decide)⟩
  · obtain ⟨rfl, -⟩ := e11 hn
    obtain ⟨fs, hr, hrun, hend, w1, w2⟩ := X.leave hv hl
    refine ⟨_, _, st T locs _ fs X e12 hr, hrun, hend, v, locs, qps, rfl, e6, by show Q v T.heap qps; rw [e1]; exact q, by show Ext V.Z.heap T.heap; rw [e1]; exact e7, by show Sf V T.vm T.heap qps; rw [e1]; exact (e9.sub hq).go A, by show CHr V.Z V.EL K.s.vm K.s.heap T.vm T.heap; rw [e1]; exact C, ReturnedEndW.of_narrow ⟨v, rfl⟩ w1 (w2.mono hc hs), fun z => ⟨⟨v, rfl⟩, w1, w2.mono hc hs⟩⟩
theorem r_ret (hr : B.ret = none) (hd : decode B.code pc = .ok (.return_, 1)) (hc : cs ≤ B.R.cells) (hs : sl ≤ B.R.slots) (qps : List Addr) (hq : ∀ x ∈ qps, x ∈ ps) (q : Q none h qps) : Run V K B Q h ps cs sl pc L [] :=
  Run.ret (fun _ => rfl) hc hs qps hq q fun T locs vm0 fs X G hl => X.returnOut G.1 (G.2.2.2.1.trans hr) (hb G.2.1 hd) hl
theorem r_iret {z : Int32} (hr : B.ret = some .int) (hd : decode B.code pc = .ok (.ireturn, 1)) (hc : cs ≤ B.R.cells) (hs : sl ≤ B.R.slots) (qps : List Addr) (hq : ∀ x ∈ qps, x ∈ ps) (q : Q (some (.int z)) h qps) : Run V K B Q h ps cs sl pc L (.int z :: S) := by
  intro T hT; have G : Fx K B := by obtain ⟨locs, vm0, k0, X, e1, e2, e3, e4, e5, e6, e7, e8, e9, e10, e11, e12⟩ := hT; exact e12
  exact Run.ret (fun z => by rw [G.2.2.2.1.trans hr] at z; cases z) hc hs qps hq q (fun T locs vm0 fs X G hl => retOut X G.1 (G.2.2.2.1.trans hr) rfl (Or.inl ⟨rfl, Or.inl rfl, _, rfl⟩) (hb G.2.1 hd) hl) T hT
theorem r_nret {z : Int32} {t : FieldType} (z' : Int32) (hr : B.ret = some t) (ht : t = .boolean ∨ t = .byte ∨ t = .char ∨ t = .short) (hz : RoadKit.nar t z = z') (hd : decode B.code pc = .ok (.ireturn, 1)) (hc : cs ≤ B.R.cells) (hs : sl ≤ B.R.slots) (qps : List Addr) (hq : ∀ x ∈ qps, x ∈ ps) (q : Q (some (.int z')) h qps) : Run V K B Q h ps cs sl pc L (.int z :: S) := by
  subst hz; intro T hT; have G : Fx K B := by obtain ⟨locs, vm0, k0, X, e1, e2, e3, e4, e5, e6, e7, e8, e9, e10, e11, e12⟩ := hT; exact e12
  exact Run.ret (fun z => by rw [G.2.2.2.1.trans hr] at z; cases z) hc hs qps hq q (fun T locs vm0 fs X G hl => retN X G.1 (G.2.2.2.1.trans hr) ht (hb G.2.1 hd) hl) T hT
theorem r_lret {z : Int64} (hr : B.ret = some .long) (hd : decode B.code pc = .ok (.lreturn, 1)) (hc : cs ≤ B.R.cells) (hs : sl ≤ B.R.slots) (qps : List Addr) (hq : ∀ x ∈ qps, x ∈ ps) (q : Q (some (.long z)) h qps) : Run V K B Q h ps cs sl pc L (.long z :: S) := by
  intro T hT; have G : Fx K B := by obtain ⟨locs, vm0, k0, X, e1, e2, e3, e4, e5, e6, e7, e8, e9, e10, e11, e12⟩ := hT; exact e12
  exact Run.ret (fun z => by rw [G.2.2.2.1.trans hr] at z; cases z) hc hs qps hq q (fun T locs vm0 fs X G hl => retOut X G.1 (G.2.2.2.1.trans hr) rfl (Or.inr (Or.inl ⟨rfl, rfl, _, rfl⟩)) (hb G.2.1 hd) hl) T hT
theorem r_aret {x : Value} {t : FieldType} (hr : B.ret = some t) (ht : t.isReference = true) (hx : x.isRef = true) (hd : decode B.code pc = .ok (.areturn, 1)) (hc : cs ≤ B.R.cells) (hs : sl ≤ B.R.slots) (qps : List Addr) (hq : ∀ x ∈ qps, x ∈ ps) (q : Q (some x) h qps) : Run V K B Q h ps cs sl pc L (x :: S) := by
  intro T hT; have G : Fx K B := by obtain ⟨locs, vm0, k0, X, e1, e2, e3, e4, e5, e6, e7, e8, e9, e10, e11, e12⟩ := hT; exact e12
  have hn : narrow t x = x := by rcases ref_cases hx with rfl | ⟨a, rfl⟩ <;> cases t <;> first | rfl | cases ht
  exact Run.ret (fun z => by rw [G.2.2.2.1.trans hr] at z; cases z) hc hs qps hq q (fun T locs vm0 fs X G hl => retOut X G.1 (G.2.2.2.1.trans hr) hn (Or.inr (Or.inr (Or.inr (Or.inr ⟨rfl, ht, hx⟩)))) (hb G.2.1 hd) hl) T hT
theorem r_static {i W nc ns : Nat} {y : MethodName} {Q' : Qt} {bytes : ByteArray} {ml : Nat} {ret : Option FieldType} {argsL S0 : List Value} {as' : Array Value} (pc' : Nat) (hp : pc + 3 = pc') (hd : decode B.code pc = .ok (.invokestatic i, 3)) (w1 : (Jvm.Cond.methodLink B.y.cls i y).before V.a0 V.Z = true) (w2 : (Jvm.Cond.static y).before V.a0 V.Z = true) (w3 : (Jvm.Cond.initialized y.cls).before V.a0 V.Z = true) (w4 : (Jvm.Cond.code y bytes ml ret).before V.a0 V.Z = true)
    (hy : y.cls ≠ "java/lang/invoke/MethodHandle" ∧ y.cls ≠ "java/lang/invoke/VarHandle") (P : Pays V K B y 3 W as' h ps nc ns Q') (hlen : ∀ sig, parseMethodDescriptor y.desc = some sig → argsL.length = sig.parameters.length) (hS : S0 = argsL.reverse ++ S) (ha : argsL.toArray = as') (hsz : L.length = B.ml) (hW : (S.map fun v => v.category).sum ≤ W) (hc : cs + nc ≤ B.R.cells) (hs : sl + ns ≤ B.R.slots) (r : ∀ v h' ps', Q' v h' ps' → h.size ≤ h'.size → Run V K B Q h' (ps' ++ ps) (cs + nc) (sl + ns) pc' L (v.toList ++ S)) : Run V K B Q h ps cs sl pc L S0 := fun T hT => by
  subst hp hS ha
  obtain ⟨locs, vm0, k0, X, e1, e2, e3, e4, e5, e6, e7, e8, e9, e10, e11, e12⟩ := hT
  have P1 := P vm0 e2 e8.1 e9 e10 e7 fun q => (e11 q).2
  have hsize : (mkF K.m pc L.toArray (argsL.reverse ++ S)).locals.size = K.c.maxLocals := by rw [e12.2.2.1]; simpa using hsz
  have hZ : V.Z.Warmed39 (K.s.setVm vm0).vm := e2
  cases hn : V.nar
  · obtain ⟨v, vm₁, C, -, X', hS', -, hpo, st⟩ := callSS X e12.1 e3 (mvT hZ w1) (mvT hZ w2) (mvT hZ w3) (mvT hZ w4) hy (P1.2 hn) (g := mkF K.m pc L.toArray (argsL.reverse ++ S)) rfl hsize hlen rfl (by simpa using hW) (hb e12.2.1 hd) (fun vm₁ _ => ⟨rfl, e1, hc, hs⟩)
    obtain ⟨t, o, s1, s2⟩ := Run.behind e2 e3 e4 e5 e6 e8 e9 e10 e11 e12 (Or.inr ⟨hn, X', hS'⟩) hpo r
    exact ⟨t, o, st.trans s1, s2⟩
  · obtain ⟨v, vm₁, C, -, X', hpo, st⟩ := Jvm.LawKit.callS X e12.1 e3 (mvT hZ w1) (mvT hZ w2) (mvT hZ w3) (mvT hZ w4) hy (P1.1 hn) (g := mkF K.m pc L.toArray (argsL.reverse ++ S)) rfl hsize hlen rfl (by simpa using hW) (hb e12.2.1 hd) (fun vm₁ _ => ⟨rfl, e1, hc, hs⟩)
    obtain ⟨t, o, s1, s2⟩ := Run.behind e2 e3 e4 e5 e6 e8 e9 e10 e11 e12 (Or.inl ⟨hn, X'⟩) hpo r
    exact ⟨t, o, st _ s1, s2⟩
theorem r_special {i W nc ns : Nat} {y : MethodName} {Q' : Qt} {bytes : ByteArray} {ml : Nat} {argsL S0 : List Value} {a : Nat} {as' : Array Value} (pc' : Nat) (hp : pc + 3 = pc') (hd : decode B.code pc = .ok (.invokespecial i, 3)) (hy1 : y.name = "<init>") (w1 : (Jvm.Cond.methodLink B.y.cls i y).before V.a0 V.Z = true) (w2 : (Jvm.Cond.instanceMethod y).before V.a0 V.Z = true) (w4 : (Jvm.Cond.code y bytes ml none).before V.a0 V.Z = true)
    (hy : y.cls ≠ "java/lang/invoke/MethodHandle" ∧ y.cls ≠ "java/lang/invoke/VarHandle") (P : Pays V K B y 3 W as' h ps nc ns Q') (hlen : ∀ sig, parseMethodDescriptor y.desc = some sig → argsL.length = sig.parameters.length) (hS : S0 = argsL.reverse ++ .ref a :: S) (ha : (.ref a :: argsL).toArray = as') (hsz : L.length = B.ml) (hW : (S.map fun v => v.category).sum ≤ W) (hc : cs + nc ≤ B.R.cells) (hs : sl + ns ≤ B.R.slots) (r : ∀ v h' ps', Q' v h' ps' → h.size ≤ h'.size → Run V K B Q h' (ps' ++ ps) (cs + nc) (sl + ns) pc' L (v.toList ++ S)) : Run V K B Q h ps cs sl pc L S0 := fun T hT => by
  subst hp hS ha
  obtain ⟨locs, vm0, k0, X, e1, e2, e3, e4, e5, e6, e7, e8, e9, e10, e11, e12⟩ := hT
  have P1 := P vm0 e2 e8.1 e9 e10 e7 fun q => (e11 q).2
  have hsize : (mkF K.m pc L.toArray (argsL.reverse ++ .ref a :: S)).locals.size = K.c.maxLocals := by rw [e12.2.2.1]; simpa using hsz
  have hZ : V.Z.Warmed39 (K.s.setVm vm0).vm := e2
  cases hn : V.nar
  · obtain ⟨v, vm₁, C, -, X', hS', -, hpo, st⟩ := X.specialBackS e12.1 hy1 e3 (mvT hZ w1) (mvT hZ w2) (mvT hZ w4) hy (P1.2 hn) (g := mkF K.m pc L.toArray (argsL.reverse ++ .ref a :: S)) rfl hsize (Steps.refl _) hlen rfl (by simpa using hW) (hb e12.2.1 hd) (fun vm₁ _ => ⟨rfl, e1, hc, hs⟩)
    obtain ⟨t, o, s1, s2⟩ := Run.behind e2 e3 e4 e5 e6 e8 e9 e10 e11 e12 (Or.inr ⟨hn, X', hS'⟩) hpo r
    exact ⟨t, o, st.trans s1, s2⟩
  · obtain ⟨v, vm₁, C, -, X', hpo, st⟩ := X.specialBack e12.1 hy1 e3 (mvT hZ w1) (mvT hZ w2) (mvT hZ w4) hy (P1.1 hn) (g := mkF K.m pc L.toArray (argsL.reverse ++ .ref a :: S)) rfl hsize (Steps.refl _) hlen rfl (by simpa using hW) (hb e12.2.1 hd) (fun vm₁ _ => ⟨rfl, e1, hc, hs⟩)
    obtain ⟨t, o, s1, s2⟩ := Run.behind e2 e3 e4 e5 e6 e8 e9 e10 e11 e12 (Or.inl ⟨hn, X'⟩) hpo r
    exact ⟨t, o, st.trans s1, s2⟩
theorem nfS {C0 : String} {y : MethodName} (w : (Jvm.Cond.selects C0 y y).before V.a0 V.Z = true) : ∀ s : State, V.Z.Warmed39 s.vm → NotFace s y := fun s hZ => notFace_of_selects (args := #[]) (mvT hZ w)
theorem r_virtual {i W nc ns : Nat} {y : MethodName} {Q' : Qt} {z : MethodName} {C0 : String} {argsL S0 : List Value} {a : Nat} {as' : Array Value} (pc' : Nat) (hp : pc + 3 = pc') (hd : decode B.code pc = .ok (.invokevirtual i, 3)) (w1 : (Jvm.Cond.methodLink B.y.cls i y).before V.a0 V.Z = true) (w2 : (Jvm.Cond.declares y).before V.a0 V.Z = true) (w3 : (Jvm.Cond.selects C0 y z).before V.a0 V.Z = true) (w4 : (Jvm.Cond.instanceMethod z).before V.a0 V.Z = true)
    (hnf : ∀ s : State, V.Z.Warmed39 s.vm → NotFace s y) (hy : y.cls ≠ "java/lang/invoke/MethodHandle" ∧ y.cls ≠ "java/lang/invoke/VarHandle") (E : Exa V.Z h a C0) (P : Pays V K B z 3 W as' h ps nc ns Q') (hlen : ∀ sig, parseMethodDescriptor y.desc = some sig → argsL.length = sig.parameters.length) (hS : S0 = argsL.reverse ++ .ref a :: S) (ha : (.ref a :: argsL).toArray = as') (hsz : L.length = B.ml) (hW : (S.map fun v => v.category).sum ≤ W) (hc : cs + nc ≤ B.R.cells) (hs : sl + ns ≤ B.R.slots) (r : ∀ v h' ps', Q' v h' ps' → h.size ≤ h'.size → Run V K B Q h' (ps' ++ ps) (cs + nc) (sl + ns) pc' L (v.toList ++ S)) : Run V K B Q h ps cs sl pc L S0 := fun T hT => by
  subst hp hS ha
  obtain ⟨locs, vm0, k0, X, e1, e2, e3, e4, e5, e6, e7, e8, e9, e10, e11, e12⟩ := hT
  have P1 := P vm0 e2 e8.1 e9 e10 e7 fun q => (e11 q).2
  have hsize : (mkF K.m pc L.toArray (argsL.reverse ++ .ref a :: S)).locals.size = K.c.maxLocals := by rw [e12.2.2.1]; simpa using hsz
  have hZ : V.Z.Warmed39 (K.s.setVm vm0).vm := e2
  obtain ⟨cq, kq, q1, q2, q3⟩ := isOf (s := K.s.setVm vm0) hZ e1 E
  cases hn : V.nar
  · obtain ⟨v, vm₁, C, -, X', hS', -, hpo, st⟩ := X.virtualBackS e12.1 e3 (mvT hZ w1) (mvT hZ w2) (hnf _ hZ) (mvT hZ w3) (mvT hZ w4) hy (P1.2 hn) q1 q3 (g := mkF K.m pc L.toArray (argsL.reverse ++ .ref a :: S)) rfl hsize (Steps.refl _) hlen rfl (by simpa using hW) (hb e12.2.1 hd) (fun vm₁ _ => ⟨rfl, e1, hc, hs⟩)
    obtain ⟨t, o, s1, s2⟩ := Run.behind e2 e3 e4 e5 e6 e8 e9 e10 e11 e12 (Or.inr ⟨hn, X', hS'⟩) hpo r
    exact ⟨t, o, st.trans s1, s2⟩
  · obtain ⟨v, vm₁, C, -, X', hpo, st⟩ := X.virtualBack e12.1 e3 (mvT hZ w1) (mvT hZ w2) (hnf _ hZ) (mvT hZ w3) (mvT hZ w4) hy (P1.1 hn) q1 q3 (g := mkF K.m pc L.toArray (argsL.reverse ++ .ref a :: S)) rfl hsize (Steps.refl _) hlen rfl (by simpa using hW) (hb e12.2.1 hd) (fun vm₁ _ => ⟨rfl, e1, hc, hs⟩)
    obtain ⟨t, o, s1, s2⟩ := Run.behind e2 e3 e4 e5 e6 e8 e9 e10 e11 e12 (Or.inl ⟨hn, X'⟩) hpo r
    exact ⟨t, o, st.trans s1, s2⟩
theorem r_ldcS {i : Nat} {text : String} (vs : List Value) (z : Int32) (n : Nat) (pc' : Nat) (hp : pc + 2 = pc') (hd : decode B.code pc = .ok (.ldc i, 2)) (w : (Jvm.Cond.stringLink B.y.cls i text).before V.a0 V.Z = true) (wS : ∀ a ∈ Bundle.stringAtoms, a.before V.a0 V.Z = true) (hmem : (B.y.cls, i) ∈ V.EL) (hnar : V.nar = false)
    (ht : (∀ c ∈ text.toList, c.toNat < 256) ∧ text.toList.map (fun c => Value.int (Jvm.Lit.byteI c.toNat.toUInt16)) = vs) (hz : ¬ z < 0) (hl : z.toNatClampNeg = vs.length) (hn : 4 * text.toList.length ≤ n) (hbig : n ≤ 536870912) (hc : cs + 2 ≤ B.R.cells) (hl' : sl + (n + 4) ≤ B.R.slots)
    (r : ∀ (a b : Nat) k h', Ext h h' → Exa V.Z h' a "java/lang/String" → Fld V.Z h' a "java/lang/String" "coder" "B" (.int 0) → Fld V.Z h' a "java/lang/String" "value" "[B" (.ref b) → Arv V.Z h' b k .byte z vs (.int 0) → (∀ x ∈ ps, x ≠ a ∧ x ≠ b) → Run V K B Q h' ps (cs + 2) (sl + (n + 4)) pc' L (.ref a :: S)) : Run V K B Q h ps cs sl pc L S := fun T hT => by
  subst hp
  obtain ⟨locs, vm0, k0, X, e1, e2, e3, e4, e5, e6, e7, e8, e9, e10, e11, e12⟩ := hT
  obtain ⟨a, T', h', k1, b, k, X', q1, q2, q3, q4, q5, q6, q7, q8, q9, q10, q11, q12, q13, q14, q15, st⟩ := ldcCH X e12.1 e2 e3 w wS e1 e4 e5 e10 hmem e8.1 ht hz hl (g := mkF K.m pc L.toArray S) rfl (hb e12.2.1 hd) hn hbig hc hl'
  have S' : Sf V T'.vm h' ps := e9.go q13
  obtain ⟨t, o, s1, s2⟩ := r a b k h' q2 q7 q8 q9 q10 (fun x hx => q15 x (S' x hx).2) T' ⟨_, _, k1, X', q1, q5, q6, q3, q4, e6, Ext.trans' e7 q2, e8.trans q13, S', e10, fun q => absurd (hnar.symm.trans q) (by decide), e12⟩
  exact ⟨t, o, st _ s1, s2⟩
end Rules
end Jvm.Own
namespace Jvm.Own
open Jvm Jvm.ClassFile Sem Op Lib Jvm.Free Jvm.Stand Jvm.LawKit Jvm.RoadKit Bundle
section More
variable {V : Vw} {K : Cx} {B : Bx} {Q : Qt} {T : State} {h h' : Heap} {ps ps' : List Addr} {cs sl pc : Nat} {L : List Slot} {S : List Value}
theorem r_gen {x : Int32} (r : ∀ z, z = x → Run V K B Q h ps cs sl pc L (.int z :: S)) : Run V K B Q h ps cs sl pc L (.int x :: S) := r x rfl
theorem r_genL {x : Int64} (r : ∀ z, z = x → Run V K B Q h ps cs sl pc L (.long z :: S)) : Run V K B Q h ps cs sl pc L (.long x :: S) := r x rfl
theorem layL {as' : Array Value} {n : Nat} {L : List Slot} (h : Jvm.Sym.laidSlots as'.toList ++ List.replicate (n - (Jvm.Sym.laidSlots as'.toList).length) .unset = L) : argsToLocals as' n = L.toArray :=
  Array.toList_inj.mp (by rw [Jvm.Sym.argsToLocals_toList, h])
theorem nc16 (x : Int32) : RoadKit.nar .char x.toUInt32.toUInt16.toUInt32.toInt32 = x.toUInt32.toUInt16.toUInt32.toInt32 := by
  show x.toUInt32.toUInt16.toUInt32.toInt32.toUInt32.toUInt16.toUInt32.toInt32 = _
  simp only [UInt32.toUInt32_toInt32, UInt16.toUInt16_toUInt32]
theorem nc8 (x : Int32) : RoadKit.nar .char (x &&& 255).toUInt32.toUInt16.toUInt32.toInt32 = x &&& 255 := by rw [nc16, i2c_mask]
theorem ncm (x : Int32) : RoadKit.nar .char (x &&& 255) = x &&& 255 := i2c_mask x
/-- 0 to 255 -/
def By (x : Int32) : Prop := ¬ x < 0 ∧ ¬ 255 < x
theorem By.mask (x : Int32) : By (x &&& 255) := by
  have h := c_and x 255 (by decide)
  refine ⟨fun q => ?_, fun q => ?_⟩
  · rw [Int32.lt_iff_toInt_lt] at q; have : (0 : Int32).toInt = 0 := rfl; omega
  · rw [Int32.lt_iff_toInt_lt] at q; have : (255 : Int32).toInt = 255 := rfl; omega
end More
end Jvm.Own
namespace Jvm.Own
open Jvm Jvm.ClassFile Sem Op Lib Jvm.Free Jvm.Stand Jvm.LawKit Jvm.RoadKit Bundle
section More2
variable {V : Vw} {K : Cx} {B : Bx} {Q : Qt} {T : State} {h h' : Heap} {ps ps' : List Addr} {cs sl pc : Nat} {L : List Slot} {S : List Value}
theorem r_instNull {i : Nat} (pc' : Nat) (hp : pc + 3 = pc') (hd : decode B.code pc = .ok (.instanceof i, 3)) (r : Run V K B Q h ps cs sl pc' L (.int 0 :: S)) : Run V K B Q h ps cs sl pc L (.null :: S) := by
  subst hp; exact r.still fun T locs vm0 X eT hZ ho O G => ⟨T, X, eT, fun t st => X.instanceofNull G.1 (g := mkF K.m pc L.toArray (.null :: S)) rfl rfl (hb G.2.1 hd) _ st⟩
theorem noCast {Z : State} {a0 : Array Value} {C S K : String} {n : Nat} (w : (Jvm.Cond.superclass C S).before a0 Z = true) (w0 : (Jvm.Cond.noSuperclass S).before a0 Z = true) (wi : (Jvm.Cond.instantiable K n).before a0 Z = true) (h1 : C ≠ K) (h2 : S ≠ K) : ∃ c t, Z.vm.findClass C = some c ∧ Z.vm.findClass K = some t ∧ Z.vm.assignable c t = false := by
  obtain ⟨t, kt, i1, i2, i3, i4, -⟩ := Cond.instantiable_spec wi
  obtain ⟨cS, kS, s1, s2, s3, -, -⟩ := Cond.noSuperclass_spec w0
  have neS := ids_ne s1 i1 h2
  obtain ⟨c, h0⟩ := found_sup w
  obtain ⟨p, k, kp, q1, q2, q3, q4, q5, -, q7⟩ := Cond.superclass_spec h0 w
  cases q1.symm.trans s1
  have neC := ids_ne h0 i1 h1
  have nS : ∀ f, Z.vm.isSubclassAux f cS t = false := fun f => by
    cases f with
    | zero => rfl
    | succ f => simp [Vm.isSubclassAux, neS, s2, s3]
  have nC : ∀ f, Z.vm.isSubclassAux f c t = false := fun f => by
    cases f with
    | zero => rfl
    | succ f => simp [Vm.isSubclassAux, neC, q2, q4, nS]
  have i5 : kt.isInterface = false := by simp only [Bool.or_eq_false_iff] at i4; exact i4.1
  refine ⟨c, t, h0, i1, ?_⟩
  show Z.vm.assignableAux (255 + 1) c t = false
  simp [Vm.assignableAux, neC, q2, i2, q5, i3, i5, Vm.isSubclass, nC]
end More2
end Jvm.Own
namespace Jvm.Own
open Jvm Jvm.ClassFile Sem Op Lib Jvm.Free Jvm.Stand Jvm.LawKit Jvm.RoadKit Bundle
section More3
variable {V : Vw} {K : Cx} {B : Bx} {Q : Qt} {T : State} {h h' : Heap} {ps ps' : List Addr} {cs sl pc : Nat} {L : List Slot} {S : List Value}
/-- ldc of a String constant, opaque -/
theorem r_ldcO {i : Nat} {text : String} (n : Nat) (pc' : Nat) (hp : pc + 2 = pc') (hd : decode B.code pc = .ok (.ldc i, 2)) (w : (Jvm.Cond.stringLink B.y.cls i text).before V.a0 V.Z = true) (wS : ∀ a ∈ Bundle.stringAtoms, a.before V.a0 V.Z = true) (hnar : V.nar = false)
    (hn : 4 * text.toList.length ≤ n) (hbig : n ≤ 536870912) (hc : cs + 2 ≤ B.R.cells) (hl' : sl + (n + 4) ≤ B.R.slots) (r : ∀ (a : Nat) h', Ext h h' → Run V K B Q h' ps (cs + 2) (sl + (n + 4)) pc' L (.ref a :: S)) : Run V K B Q h ps cs sl pc L S := fun T hT => by
  subst hp
  obtain ⟨locs, vm0, k0, X, e1, e2, e3, e4, e5, e6, e7, e8, e9, e10, e11, e12⟩ := hT
  obtain ⟨a, T', h', k1, X', q1, q2, q3, q4, q5, q6, q13, q14, st⟩ := ldcOH X e12.1 e2 e3 w wS e1 e4 e5 e10 e8.1 (g := mkF K.m pc L.toArray S) rfl (hb e12.2.1 hd) hn hbig hc hl'
  obtain ⟨t, o, s1, s2⟩ := r a h' q2 T' ⟨_, _, k1, X', q1, q5, q6, q3, q4, e6, Ext.trans' e7 q2, e8.trans q13, e9.go q13, e10, fun q => absurd (hnar.symm.trans q) (by decide), e12⟩
  exact ⟨t, o, st _ s1, s2⟩
end More3
end Jvm.Own
namespace Jvm.Own
open Jvm Jvm.ClassFile Sem Op Lib Jvm.Free Jvm.Stand Jvm.LawKit Jvm.RoadKit Bundle
section Again
variable {V : Vw} {K : Cx} {B : Bx} {Q : Qt} {T : State} {h h' : Heap} {ps ps' : List Addr} {cs sl pc : Nat} {L : List Slot} {S : List Value}
/-- 'Std' at a table where the entry i of the body's class is booked as the String a -/
def StdL (V : Vw) (K : Cx) (B : Bx) (ix : Nat) (ad : Addr) (T : State) (h : Heap) (ps : List Addr) (cs sl : Nat) : Prop :=
  ∃ (locs : List Loc) (vm0 : Vm) (k0 : Nat), Stand K.p V.l K.e B.R (K.s.setVm vm0) K.m K.args K.below K.meth K.c T locs cs sl ∧ T.heap = h ∧ V.Z.Warmed39 vm0 ∧ vm0.findClass B.y.cls = some K.m.cls ∧ K.s.Since vm0 k0 ∧ k0 ≤ h.size ∧
    Fr V.Z.heap.size locs ∧ Ext V.Z.heap h ∧ CHr V.Z V.EL K.s.vm K.s.heap vm0 h ∧ Sf V vm0 h ps ∧ EW V.Z V.a0 V.EL ∧ (V.nar = true → vm0 = K.s.vm ∧ V.EL = []) ∧ Fx K B ∧ Lit (K.s.setVm vm0) B.y.cls ix ad
def RunL (V : Vw) (K : Cx) (B : Bx) (Q : Qt) (ix : Nat) (ad : Addr) (h : Heap) (ps : List Addr) (cs sl pc : Nat) (L : List Slot) (S : List Value) : Prop :=
  ∀ T, StdL V K B ix ad T h ps cs sl → ∃ t o, Steps K.p.tables K.e K.below (T.setTop (mkF K.m pc L.toArray S)) t ∧ t.status = .running ∧ Ended t K.below o ∧ Fnl V K B Q o t
theorem rL_aloadN {ix : Nat} {ad : Addr} {k : Fin 4} {v : Value} (pc' : Nat) (hp : pc + 1 = pc') (hd : decode B.code pc = .ok (.aload_n k, 1)) (hl : L[k.val]? = some (.val v)) (hv : v.isRef = true) (r : RunL V K B Q ix ad h ps cs sl pc' L (v :: S)) : RunL V K B Q ix ad h ps cs sl pc L (S) := fun T hT => by
  subst hp
  obtain ⟨t, o, h1, h2⟩ := r T hT
  obtain ⟨locs, vm0, k0, X, -, -, -, -, -, -, -, -, -, -, -, G, -⟩ := hT
  exact ⟨t, o, XS.aloadN X.here G.1 rfl (hb G.2.1 hd) (by show L.toArray[_]? = _; rw [List.getElem?_toArray]; exact hl) hv h1, h2⟩
theorem rL_getfield {ix : Nat} {ad : Addr} {i : Nat} {O n d : String} {a : Nat} {v : Value} (pc' : Nat) (hp : pc + 3 = pc') (hd : decode B.code pc = .ok (.getfield i, 3)) (w : (Jvm.Cond.fieldLink B.y.cls i O n d).before V.a0 V.Z = true) (F : Fld V.Z h a O n d v) (r : RunL V K B Q ix ad h ps cs sl pc' L (v :: S)) : RunL V K B Q ix ad h ps cs sl pc L (.ref a :: S) := fun T hT => by
  subst hp
  obtain ⟨locs, vm0, k0, X, e1, e2, e3, e4, e5, e6, e7, e8, e9, e10, e11, e12, e13⟩ := hT
  obtain ⟨T', X', e', st'⟩ := getF X e12.1 e2 e3 (host := "") (Or.inl w) Via.refl e1 F (g := mkF K.m pc L.toArray (.ref a :: S)) rfl rfl (hb e12.2.1 hd)
  obtain ⟨t, o, h1, h2⟩ := r T' ⟨locs, vm0, k0, X', e', e2, e3, e4, e5, e6, e7, e8, e9, e10, e11, e12, e13⟩
  exact ⟨t, o, st' _ h1, h2⟩
theorem rL_putfield {ix : Nat} {ad : Addr} {i kk : Nat} {O n d C : String} {a : Nat} {v old : Value} {ty : FieldType} (pc' : Nat) (hp : pc + 3 = pc') (hd : decode B.code pc = .ok (.putfield i, 3)) (w : (Jvm.Cond.fieldLink B.y.cls i O n d).before V.a0 V.Z = true) (F : Fld V.Z h a O n d old) (E : Exa V.Z h a C)
    (Lw : (Jvm.Cond.lays C O n d).before V.a0 V.Z = true ∨ ((Jvm.Cond.laysFinal C O n d).before V.a0 V.Z = true ∧ B.y.cls = O ∧ B.y.name = "<init>")) (wi : (Jvm.Cond.instantiable C kk).before V.a0 V.Z = true) (hty : parseFieldDescriptor d = some ty) (hn : narrow ty v = v) (hf : fits ty v = true)
    (ha : V.Z.heap.size ≤ a) (hs : C ≠ "java/lang/String" ∧ C ≠ "[B" ∨ a ∈ ps) (r : ∀ h', Wr h h' a (RoadKit.slotOf V.Z O n d) v → RunL V K B Q ix ad h' ps cs sl pc' L S) : RunL V K B Q ix ad h ps cs sl pc L (v :: .ref a :: S) := fun T hT => by
  subst hp
  obtain ⟨locs, vm0, k0, X, e1, e2, e3, e4, e5, e6, e7, e8, e9, e10, e11, e12, e13⟩ := hT
  obtain ⟨T', h', X', e', W, st'⟩ := putF X e12.1 e2 e3 (host := "") (Or.inl w) Via.refl e1 F E (Lw.imp id fun q => ⟨q.1, q.2.1, e12.2.2.2.2.2.trans q.2.2⟩) wi hty hn hf (g := mkF K.m pc L.toArray (v :: .ref a :: S)) rfl rfl (hb e12.2.1 hd)
  have C := CHr.wr W (hs.elim (fun q => Safe.exa e2.alike E q.1 q.2) (fun q => (e9 a q).2)) e8.1
  obtain ⟨t, o, h1, h2⟩ := r h' W T' ⟨_, vm0, k0, X', e', e2, e3, e4, by rw [W.size]; exact e5, Fr.snoc X' e6 ha, oldWr e7 W ha, e8.trans C, e9.go C, e10, e11, e12, e13⟩
  exact ⟨t, o, st' _ h1, h2⟩
theorem rL_again {ix : Nat} {ad : Nat} {text : String} (pc' : Nat) (hp : pc + 2 = pc') (hd : decode B.code pc = .ok (.ldc ix, 2)) (w : (Jvm.Cond.stringLink B.y.cls ix text).before V.a0 V.Z = true) (r : Run V K B Q h ps cs sl pc' L (.ref ad :: S)) : RunL V K B Q ix ad h ps cs sl pc L S := fun T hT => by
  subst hp
  obtain ⟨locs, vm0, k0, X, e1, e2, e3, e4, e5, e6, e7, e8, e9, e10, e11, e12, e13⟩ := hT
  obtain ⟨t, o, h1, h2⟩ := r T ⟨locs, vm0, k0, X, e1, e2, e3, e4, e5, e6, e7, e8, e9, e10, e11, e12⟩
  exact ⟨t, o, ldcAgain X e12.1 e2 e3 w e13 (g := mkF K.m pc L.toArray S) rfl (hb e12.2.1 hd) _ h1, h2⟩
theorem r_ldcSL {i : Nat} {text : String} (vs : List Value) (z : Int32) (n : Nat) (pc' : Nat) (hp : pc + 2 = pc') (hd : decode B.code pc = .ok (.ldc i, 2)) (w : (Jvm.Cond.stringLink B.y.cls i text).before V.a0 V.Z = true) (wS : ∀ a ∈ Bundle.stringAtoms, a.before V.a0 V.Z = true) (hmem : (B.y.cls, i) ∈ V.EL) (hnar : V.nar = false)
    (ht : (∀ c ∈ text.toList, c.toNat < 256) ∧ text.toList.map (fun c => Value.int (Jvm.Lit.byteI c.toNat.toUInt16)) = vs) (hz : ¬ z < 0) (hl : z.toNatClampNeg = vs.length) (hn : 4 * text.toList.length ≤ n) (hbig : n ≤ 536870912) (hc : cs + 2 ≤ B.R.cells) (hl' : sl + (n + 4) ≤ B.R.slots)
    (r : ∀ (a b : Nat) k h', Ext h h' → Exa V.Z h' a "java/lang/String" → Fld V.Z h' a "java/lang/String" "coder" "B" (.int 0) → Fld V.Z h' a "java/lang/String" "value" "[B" (.ref b) → Arv V.Z h' b k .byte z vs (.int 0) → (∀ x ∈ ps, x ≠ a ∧ x ≠ b) → RunL V K B Q i a h' ps (cs + 2) (sl + (n + 4)) pc' L (.ref a :: S)) : Run V K B Q h ps cs sl pc L S := fun T hT => by
  subst hp
  obtain ⟨locs, vm0, k0, X, e1, e2, e3, e4, e5, e6, e7, e8, e9, e10, e11, e12⟩ := hT
  obtain ⟨a, T', h', k1, b, k, X', q1, q2, q3, q4, q5, q6, q7, q8, q9, q10, q11, q12, q13, q14, q15, st⟩ := ldcCH X e12.1 e2 e3 w wS e1 e4 e5 e10 hmem e8.1 ht hz hl (g := mkF K.m pc L.toArray S) rfl (hb e12.2.1 hd) hn hbig hc hl'
  have S' : Sf V T'.vm h' ps := e9.go q13
  obtain ⟨t, o, s1, s2⟩ := r a b k h' q2 q7 q8 q9 q10 (fun x hx => q15 x (S' x hx).2) T' ⟨_, _, k1, X', q1, q5, q6, q3, q4, e6, Ext.trans' e7 q2, e8.trans q13, S', e10, fun q => absurd (hnar.symm.trans q) (by decide), e12, q14⟩
  exact ⟨t, o, st _ s1, s2⟩
end Again
end Jvm.Own
namespace Jvm.Own
open Jvm Jvm.ClassFile Sem Op Lib Jvm.Free Jvm.Stand Jvm.LawKit Jvm.RoadKit Bundle
section PaysMore
variable {V : Vw} {K : Cx} {B : Bx} {Q : Qt} {h : Heap} {ps : List Addr}
theorem Pays.more {y : MethodName} {as' : Array Value} {len W nc ns nc' ns' : Nat} (P : Pays V K B y len W as' h ps nc ns Q) (hc : nc ≤ nc') (hs : ns ≤ ns') : Pays V K B y len W as' h ps nc' ns' Q := fun vm0 hZ hC hS hE hO hN => by
  obtain ⟨p1, p2⟩ := P vm0 hZ hC hS hE hO hN
  refine ⟨fun hn => ?_, fun hn => ?_⟩
  · intro m meth c A g ig mk a X hg hsize hdg hW hn' hp
    have c1 := hp.2.2.1
    have c2 := hp.2.2.2
    obtain ⟨v, C, X', hpost, hst⟩ := p1 hn m meth c A g ig mk a X hg hsize hdg hW hn' ⟨hp.1, hp.2.1, Nat.le_trans (Nat.add_le_add_left hc _) c1, Nat.le_trans (Nat.add_le_add_left hs _) c2⟩
    obtain ⟨L, ps', q1, q2, q3, q4, q5, q6, q7, q8, q9⟩ := hpost
    exact ⟨v, ⟨C.U, C.locs, A.cells + nc', A.slots + ns'⟩, X'.more (show C.cells ≤ A.cells + nc' from by rw [q7]; exact Nat.add_le_add_left hc _) (show C.slots ≤ A.slots + ns' from by rw [q8]; exact Nat.add_le_add_left hs _), ⟨L, ps', q1, q2, q3, q4, q5, q6, rfl, rfl, q9⟩, hst⟩
  · intro m meth c A g ig mk a X hg hsize hdg hW hn' hp
    have c1 := hp.2.2.1
    have c2 := hp.2.2.2
    obtain ⟨v, C, X', k1, k2, hpost, hst⟩ := p2 hn m meth c A g ig mk a X hg hsize hdg hW hn' ⟨hp.1, hp.2.1, Nat.le_trans (Nat.add_le_add_left hc _) c1, Nat.le_trans (Nat.add_le_add_left hs _) c2⟩
    obtain ⟨L, ps', q1, q2, q3, q4, q5, q6, q7, q8, q9⟩ := hpost
    exact ⟨v, ⟨C.U, C.locs, A.cells + nc', A.slots + ns'⟩, X'.more (show C.cells ≤ A.cells + nc' from by rw [q7]; exact Nat.add_le_add_left hc _) (show C.slots ≤ A.slots + ns' from by rw [q8]; exact Nat.add_le_add_left hs _), k1, k2, ⟨L, ps', q1, q2, q3, q4, q5, q6, rfl, rfl, q9⟩, hst⟩
end PaysMore
end Jvm.Own
namespace Jvm.Own
open Jvm Jvm.ClassFile Sem Op Lib Jvm.Free Jvm.Stand Jvm.LawKit Jvm.RoadKit Bundle
section Copy
variable {V : Vw} {K : Cx} {B : Bx} {Q : Qt} {T : State} {h h' : Heap} {ps ps' : List Addr} {cs sl pc : Nat} {L : List Slot} {S : List Value}
theorem Arv.xt {Z : State} {h : Heap} {a : Addr} {k : ClassId} {ty : FieldType} {z : Int32} {vs : List Value} {d : Value} (A : RoadKit.Arv Z h a k ty z vs d) {T : State} (e : T.heap = h) (al : Z.vm.Alike T.vm) :
    ∃ c : Cell, Jvm.Free.XT.Arr ty a c T ∧ RoadKit.Arr Z h a c ty ∧ c.cls = k ∧ c.slots.size = z.toNatClampNeg ∧ ¬ z < 0 ∧ Has c vs d ∧ ∀ i, i < c.slots.size → fits ty (vs.getD i d) = true := by
  obtain ⟨c, A1, q1, q2, q3, q4, q5⟩ := A
  refine ⟨c, ⟨by rw [e]; exact A1.1, State.isArrayOf_alike al A1.2.1, A1.2.2, ?_⟩, A1, q1, q2, q3, q4, q5⟩
  rw [q2]; have := Int32.toInt_lt z; simp only [Int32.toNatClampNeg]; omega
theorem has_getD {c : Cell} {vs : List Value} {d : Value} (H : Has c vs d) {i : Nat} (hi : i < c.slots.size) (e : Value) : c.slots.getD i e = vs.getD i d := by
  have := H i hi; rw [Array.getD_eq_getD_getElem?, this]; rfl
/-- System.arraycopy of bytes, within -/
theorem r_acopy {i a b : Nat} {ka kb : ClassId} {za zb jo jq jn : Int32} {us vs : List Value} (o q n W : Nat) (vs' : List Value) (pc' : Nat) (hp : pc + 3 = pc') (hd : decode B.code pc = .ok (.invokestatic i, 3))
    (w1 : (Jvm.Cond.methodLink B.y.cls i acN).before V.a0 V.Z = true) (w2 : (Jvm.Cond.native acN).before V.a0 V.Z = true) (w3 : (Jvm.Cond.static acN).before V.a0 V.Z = true) (w4 : (Jvm.Cond.initialized "java/lang/System").before V.a0 V.Z = true)
    (A : RoadKit.Arv V.Z h a ka .byte za us (.int 0)) (D : RoadKit.Arv V.Z h b kb .byte zb vs (.int 0)) (ho : jo = Int32.ofNat o) (hq : jq = Int32.ofNat q) (hn : jn = Int32.ofNat n) (h4 : o + n ≤ za.toNatClampNeg) (h5 : q + n ≤ zb.toNatClampNeg)
    (hv : ∀ j, j < zb.toNatClampNeg → vs'.getD j (.int 0) = if q ≤ j ∧ j < q + n then us.getD (o + (j - q)) (.int 0) else vs.getD j (.int 0)) (hz : V.Z.heap.size ≤ b) (hs : b ∈ ps) (hsz : L.length = B.ml) (hf : 1 ≤ B.R.frames) (hW : (S.map fun v => v.category).sum ≤ W) (hl : W + 40 ≤ B.R.locals)
    (r : ∀ h', Keep h h' [b] → RoadKit.Arv V.Z h' b kb .byte zb vs' (.int 0) → Run V K B Q h' ps cs sl pc' L S) : Run V K B Q h ps cs sl pc L (.int jn :: .int jq :: .ref b :: .int jo :: .ref a :: S) := fun T hT => by
  subst hp
  obtain ⟨locs, vm0, k0, X, e1, e2, e3, e4, e5, e6, e7, e8, e9, e10, e11, e12⟩ := hT
  have al : V.Z.vm.Alike T.vm := e2.alike.trans X.warmed.alike
  obtain ⟨cA, XA, A1, a1, a2, a3, a4, a5⟩ := Arv.xt A e1 al
  obtain ⟨cD, XD, D1, d1, d2, d3, d4, d5⟩ := Arv.xt D e1 al
  obtain ⟨T', B', X', P, b1, b2, b3, b4, st⟩ := X.acopy e12.1 (own := B.y.cls) (index := i) e3 (fun w hw => by
      simp only [Jvm.Free.XT.acW, List.mem_cons, List.not_mem_nil, or_false] at hw
      rcases hw with rfl | rfl | rfl | rfl
      · exact mv (s := K.s.setVm vm0) e2 w1
      · exact mv (s := K.s.setVm vm0) e2 w2
      · exact mv (s := K.s.setVm vm0) e2 w3
      · exact mv (s := K.s.setVm vm0) e2 w4) XA XD (by decide) ho hq hn (by rw [a2]; exact h4) (by rw [d2]; exact h5)
    (fun j hj => ⟨by rw [has_getD a4 (by omega)]; exact a5 _ (by omega), fun q => absurd q (by decide)⟩)
    (g := mkF K.m pc L.toArray (.int jn :: .int jq :: .ref b :: .int jo :: .ref a :: S)) rfl (by rw [e12.2.2.1]; simpa using hsz) rfl (hb e12.2.1 hd) (W := W) (by simpa using hW) hf hl
  have KK : Keep h T'.heap [b] := by
    subst e1
    refine ⟨by rw [P.2.2]; exact Nat.le_refl _, fun x c hx hn => ?_, fun x c hx => ?_⟩
    · rw [P.2.1 x (fun e => hn (by simp [e]))]; exact hx
    · by_cases e : x = b
      · subst e; cases hx.symm.trans D1.1; exact ⟨B', P.1, b1, b2, b3⟩
      · exact ⟨c, by rw [P.2.1 x e]; exact hx, rfl, rfl, rfl⟩
  have AV : RoadKit.Arv V.Z T'.heap b kb .byte zb vs' (.int 0) := by
    obtain ⟨u1, uk, u2, u3⟩ := D1.2.1
    refine ⟨B', ⟨P.1, ⟨by rw [b2]; exact u1, uk, by rw [b1]; exact u2, u3⟩, by rw [b2]; exact D1.2.2⟩, b1.trans d1, b3.trans d2, d3, fun j hj => ?_, fun j hj => ?_⟩
    · rw [b3] at hj; rw [b4 j, hv j (by rw [← d2]; exact hj)]
      split
      · rw [has_getD a4 (by omega)]
      · exact d4 j hj
    · rw [b3] at hj; rw [hv j (by rw [← d2]; exact hj)]
      split
      · exact a5 _ (by omega)
      · exact d5 j hj
  have C := CHr.keep KK (fun x hx => by cases List.mem_singleton.mp hx; exact (e9 b hs).2) e8.1
  obtain ⟨t, o', s1, s2⟩ := r T'.heap KK AV T' ⟨_, vm0, k0, X', rfl, e2, e3, e4, Nat.le_trans e5 KK.1, e6.app (fun y hy => by rw [copyLocs_base hy]; exact hz), oldKeep e7 KK (fun x hx => by cases List.mem_singleton.mp hx; exact hz), e8.trans C, e9.go C, e10, e11, e12⟩
  exact ⟨t, o', st _ s1, s2⟩
end Copy
end Jvm.Own
namespace Jvm.Own
open Jvm Jvm.ClassFile Sem Op Lib Jvm.Free Jvm.Stand Jvm.LawKit Jvm.RoadKit Bundle
section Calls
variable {V : Vw} {K : Cx} {B : Bx} {Q : Qt} {T : State} {h h' : Heap} {ps ps' : List Addr} {cs sl pc : Nat} {L : List Slot} {S : List Value}
/-- a call, its linking step given -/
theorem Run.callG {y : MethodName} {ig : Instr} {W nc ns : Nat} {Q' : Qt} {as' : Array Value} {S0 : List Value} (pc' : Nat) (hp : pc + 3 = pc') (hd : decode B.code pc = .ok (ig, 3)) (P : Pays V K B y 3 W as' h ps nc ns Q') (hsz : L.length = B.ml) (hW : (S.map fun v => v.category).sum ≤ W) (hc : cs + nc ≤ B.R.cells) (hs : sl + ns ≤ B.R.slots)
    (step : ∀ T locs vm0, Stand K.p V.l K.e B.R (K.s.setVm vm0) K.m K.args K.below K.meth K.c T locs cs sl → T.heap = h → V.Z.Warmed39 (K.s.setVm vm0).vm → (K.s.setVm vm0).vm.findClass B.y.cls = some K.m.cls → Fx K B →
      ∃ (vm₁ : Vm) (mk : MethodId), Stand K.p V.l K.e B.R (K.s.setVm vm0) K.m K.args K.below K.meth K.c (T.setVm vm₁) locs cs sl ∧ (K.s.setVm vm0).methodNamed? y = some mk ∧
        Steps K.p.tables K.e K.below (T.setTop (mkF K.m pc L.toArray S0)) (doInvoke K.e ((T.setVm vm₁).setTop (mkF K.m pc L.toArray S)) [] mk as').1)
    (r : ∀ v h' ps', Q' v h' ps' → h.size ≤ h'.size → Run V K B Q h' (ps' ++ ps) (cs + nc) (sl + ns) pc' L (v.toList ++ S)) : Run V K B Q h ps cs sl pc L S0 := fun T hT => by
  subst hp
  obtain ⟨locs, vm0, k0, X, e1, e2, e3, e4, e5, e6, e7, e8, e9, e10, e11, e12⟩ := hT
  have P1 := P vm0 e2 e8.1 e9 e10 e7 fun q => (e11 q).2
  obtain ⟨vm₁, mk, X₁, hnm, st⟩ := step T locs vm0 X e1 e2 e3 e12
  have hsize : (mkF K.m pc L.toArray S).locals.size = K.c.maxLocals := by rw [e12.2.2.1]; simpa using hsz
  cases hn : V.nar
  · obtain ⟨v, C, X', hS', -, hpo, hst⟩ := P1.2 hn K.m K.meth K.c ⟨T.setVm vm₁, locs, cs, sl⟩ (mkF K.m pc L.toArray S) ig mk as' X₁ rfl hsize (hb e12.2.1 hd) (by simpa using hW) (X₁.named hnm) ⟨rfl, e1, hc, hs⟩
    obtain ⟨t, o, s1, s2⟩ := Run.behind e2 e3 e4 e5 e6 e8 e9 e10 e11 e12 (Or.inr ⟨hn, X', hS'⟩) hpo r
    exact ⟨t, o, (st.trans hst).trans s1, s2⟩
  · obtain ⟨v, C, X', hpo, hst⟩ := P1.1 hn K.m K.meth K.c ⟨T.setVm vm₁, locs, cs, sl⟩ (mkF K.m pc L.toArray S) ig mk as' X₁ rfl hsize (hb e12.2.1 hd) (by simpa using hW) (X₁.named hnm) ⟨rfl, e1, hc, hs⟩
    obtain ⟨t, o, s1, s2⟩ := Run.behind e2 e3 e4 e5 e6 e8 e9 e10 e11 e12 (Or.inl ⟨hn, X'⟩) hpo r
    exact ⟨t, o, (st.trans hst).trans s1, s2⟩
theorem r_private {i W nc ns : Nat} {y : MethodName} {Q' : Qt} {C0 : String} {bytes : ByteArray} {ml : Nat} {ret : Option FieldType} {argsL S0 : List Value} {a : Nat} {as' : Array Value} (pc' : Nat) (hp : pc + 3 = pc') (hd : decode B.code pc = .ok (.invokevirtual i, 3)) (w1 : (Jvm.Cond.methodLink B.y.cls i y).before V.a0 V.Z = true) (w2 : (Jvm.Cond.privateMethod y).before V.a0 V.Z = true) (w3 : (Jvm.Cond.selects C0 y y).before V.a0 V.Z = true) (w4 : (Jvm.Cond.instanceMethod y).before V.a0 V.Z = true) (w5 : (Jvm.Cond.code y bytes ml ret).before V.a0 V.Z = true)
    (hy : y.cls ≠ "java/lang/invoke/MethodHandle" ∧ y.cls ≠ "java/lang/invoke/VarHandle") (E : Exa V.Z h a C0) (P : Pays V K B y 3 W as' h ps nc ns Q') (hlen : ∀ sig, parseMethodDescriptor y.desc = some sig → argsL.length = sig.parameters.length) (hS : S0 = argsL.reverse ++ .ref a :: S) (ha : (.ref a :: argsL).toArray = as') (hsz : L.length = B.ml) (hW : (S.map fun v => v.category).sum ≤ W) (hc : cs + nc ≤ B.R.cells) (hs : sl + ns ≤ B.R.slots) (r : ∀ v h' ps', Q' v h' ps' → h.size ≤ h'.size → Run V K B Q h' (ps' ++ ps) (cs + nc) (sl + ns) pc' L (v.toList ++ S)) : Run V K B Q h ps cs sl pc L S0 := by
  subst ha
  refine Run.callG pc' hp hd P hsz hW hc hs (fun T locs vm0 X e1 hZ e3 e12 => ?_) r
  obtain ⟨mk, methM, hnamed, hmethM, hstM, habM⟩ := Cond.instanceMethod_spec (args := K.args) (mvT hZ w4)
  obtain ⟨methM', cM, hmethM', -, -, -, -, -, -, hsigM⟩ := Cond.code_spec (args := K.args) hnamed (mvT hZ w5)
  cases hmethM.symm.trans hmethM'
  obtain ⟨c2, r2, m2, -, -, q3, -, kP, hkP, hkPi⟩ := Cond.selects_spec (args := K.args) (mvT hZ w3)
  cases hnamed.symm.trans q3
  have hpriv := Cond.privateMethod_at (args := K.args) (mvP hZ w2)
  obtain ⟨cell, cT, h1, h2, h3⟩ := Ins.self E
  simp only [Bool.and_eq_true, Bool.not_eq_true'] at h3
  have hselP : selectMethod K.e.platform (K.s.setVm vm0).vm cell.cls mk = .method mk := selectMethod_private hmethM (hpriv mk methM hnamed hmethM)
  obtain ⟨vm₁, X₁, hstep₁⟩ := X.invokevirtual e12.1 e3 (mvT hZ w1) hnamed hmethM hstM hkP hkPi hy (a := a) (cell := cell) (by rw [e1]; exact h1) (fun q e => by rw [e] at h3; cases h3.1) hselP hmethM habM hkP hkPi (g := mkF K.m pc L.toArray S0) rfl (argsL := argsL) (rest := S) (hlen _ hsigM) hS (hb e12.2.1 hd)
  exact ⟨vm₁, mk, X₁, hnamed, hstep₁ _ fun acts => by rw [doInvoke_state]; exact Steps.refl _⟩
theorem r_super {i W nc ns : Nat} {y : MethodName} {Q' : Qt} {C0 : String} {bytes : ByteArray} {ml : Nat} {ret : Option FieldType} {argsL S0 : List Value} {a : Nat} {as' : Array Value} (pc' : Nat) (hp : pc + 3 = pc') (hd : decode B.code pc = .ok (.invokespecial i, 3)) (hn : y.name ≠ "<init>") (w1 : (Jvm.Cond.methodLink B.y.cls i y).before V.a0 V.Z = true) (w3 : (Jvm.Cond.superclass B.y.cls y.cls).before V.a0 V.Z = true) (w4 : (Jvm.Cond.instanceMethod y).before V.a0 V.Z = true) (w5 : (Jvm.Cond.code y bytes ml ret).before V.a0 V.Z = true) {y' : MethodName} {C1 : String} (w6 : (Jvm.Cond.selects C1 y' y').before V.a0 V.Z = true) (hy' : y'.cls = y.cls)
    (hy : y.cls ≠ "java/lang/invoke/MethodHandle" ∧ y.cls ≠ "java/lang/invoke/VarHandle") (E : Exa V.Z h a C0) (P : Pays V K B y 3 W as' h ps nc ns Q') (hlen : ∀ sig, parseMethodDescriptor y.desc = some sig → argsL.length = sig.parameters.length) (hS : S0 = argsL.reverse ++ .ref a :: S) (ha : (.ref a :: argsL).toArray = as') (hsz : L.length = B.ml) (hW : (S.map fun v => v.category).sum ≤ W) (hc : cs + nc ≤ B.R.cells) (hs : sl + ns ≤ B.R.slots) (r : ∀ v h' ps', Q' v h' ps' → h.size ≤ h'.size → Run V K B Q h' (ps' ++ ps) (cs + nc) (sl + ns) pc' L (v.toList ++ S)) : Run V K B Q h ps cs sl pc L S0 := by
  subst ha
  refine Run.callG pc' hp hd P hsz hW hc hs (fun T locs vm0 X e1 hZ hown e12 => ?_) r
  obtain ⟨mk, methM, hnamed, hmethM, hstM, habM⟩ := Cond.instanceMethod_spec (args := K.args) (mvT hZ w4)
  obtain ⟨methM', cM, hmethM', -, -, -, -, -, -, hsig⟩ := Cond.code_spec (args := K.args) hnamed (mvT hZ w5)
  cases hmethM.symm.trans hmethM'
  have hcn := findClass_of_methodNamed hnamed
  obtain ⟨dk, hdk, -⟩ := Vm.findClass_spec hown
  obtain ⟨kp, hkp, -⟩ := Vm.findClass_spec hcn
  have ws := mv (args := K.args) hZ w3
  simp only [Cond.before, Cond.holds, Cond.value, hown, hcn, hdk, hkp, Option.bind_some, Option.map_some] at ws
  have ws' : ((dk.super = some mk.cls ∧ dk.kind = .ordinary) ∧ kp.kind = .ordinary) ∧ dk.isInterface = false := by simpa using ws
  obtain ⟨cell, cT, h1, h2, h3⟩ := Ins.self E
  simp only [Bool.and_eq_true, Bool.not_eq_true'] at h3
  obtain ⟨k, hk⟩ := Vm.classAt_of_assignable h3.2 (Vm.classAt_of_findClass h2)
  obtain ⟨k', hk', -⟩ := hZ.alike.2.2 _ _ hk
  have hfound := State.methodFound?_of_named hnamed hy
  have hsame : (Jvm.Cond.sameMethod y.cls y.cls y.name y.desc).before K.args (K.s.setVm vm0) = true := by
    obtain ⟨c2, r2, m2, -, -, q3, -, kP, hkP, hkPi⟩ := Cond.selects_spec (args := K.args) (mvT hZ w6)
    have q4 := findClass_of_methodNamed q3
    rw [hy', hcn] at q4
    obtain rfl : kp = kP := by
      have q5 : mk.cls = m2.cls := Option.some.inj q4
      rw [← q5] at hkP; exact Option.some.inj (hkp.symm.trans hkP)
    simp only [Cond.before, Cond.holds, Cond.value, hcn, hfound, hnamed, hkp]
    simp [hkPi]
  obtain ⟨vm₁, X₁, hstep₁⟩ := X.invokespecialUp e12.1 (owner := y.cls) hown (mv hZ w1) hsame hnamed hmethM hstM habM hn hdk ws'.2 hcn ws'.1.1.1 (by simp [Vm.isSubclass, Vm.isSubclassAux]) (a := a) (by rw [e1]; exact h1) (fun q e => by rw [e] at h3; cases h3.1) hk' (g := mkF K.m pc L.toArray S0) rfl (hlen _ hsig) hS (hb e12.2.1 hd)
  exact ⟨vm₁, mk, X₁, hnamed, hstep₁ _ (Steps.refl _)⟩
theorem nfO {C0 : String} {y y' : MethodName} (w : (Jvm.Cond.selects C0 y' y').before V.a0 V.Z = true) (hc : y'.cls = y.cls) : ∀ s : State, V.Z.Warmed39 s.vm → NotFace s y := fun s hZ r0 hn => by
  obtain ⟨c2, r2, m2, -, -, q3, -, kP, hkP, hkPi⟩ := Cond.selects_spec (args := #[]) (mvT hZ w)
  have q4 := findClass_of_methodNamed q3
  rw [hc, findClass_of_methodNamed hn] at q4
  have q5 : r0.cls = m2.cls := Option.some.inj q4
  exact ⟨kP, by rw [q5]; exact hkP, hkPi⟩
end Calls
end Jvm.Own
namespace Jvm.Own
open Jvm Jvm.ClassFile Sem Op Lib Jvm.Free Jvm.Stand Jvm.LawKit Jvm.RoadKit Bundle
theorem shl0 (x : Int32) : x <<< ((0 : Int32) &&& 31) = x := by simp
theorem shr0 (x : Int32) : x >>> ((0 : Int32) &&& 31) = x := by simp
theorem sub0 (x : Int32) : x - 0 = x := by simp
theorem sub_nle {m c : Nat} (h : m ≤ c) (hc : c < 2 ^ 31) : ¬ 0 < Int32.ofNat m - Int32.ofNat c := fun q => by
  have e := c_isub (Int32.ofNat m) (Int32.ofNat c)
  have r := rng32 (Int32.ofNat m - Int32.ofNat c)
  rw [Int32.toInt_ofNat_small (by omega), Int32.toInt_ofNat_small hc] at e
  rw [Int32.lt_iff_toInt_lt] at q
  have e0 : (0 : Int32).toInt = 0 := rfl
  omega
theorem appG (f : Int32 → Value) (cs ds : List Int32) (d : Value) (j : Nat) : ((cs ++ ds).map f).getD j d = if cs.length ≤ j ∧ j < cs.length + ds.length then (ds.map f).getD (0 + (j - cs.length)) d else (cs.map f).getD j d := by
  simp only [List.getD_eq_getElem?_getD, List.map_append, Nat.zero_add]
  by_cases q : j < cs.length
  · rw [List.getElem?_append_left (by simpa using q), if_neg (by omega)]
  · rw [List.getElem?_append_right (by simpa using q), List.length_map]
    split
    · rfl
    · rw [List.getElem?_eq_none (by simp; omega), List.getElem?_eq_none (by simp; omega)]
theorem cpyG (f : Int32 → Value) (cs : List Int32) (d : Value) (j : Nat) (h : j < cs.length) : (cs.map f).getD j d = if 0 ≤ j ∧ j < 0 + cs.length then (cs.map f).getD (0 + (j - 0)) d else ([] : List Value).getD j d := by
  rw [if_pos (by omega)]; simp
end Jvm.Own
/- laws to paste: Road.backV, Road.lenW, Road.chN, Road.codOf (cut by pick.py; bodies as the Statement names them) -/
namespace Jvm.Pilot.@@N@@
namespace StrChars
open Jvm Sem ClassFile Op Lib Jvm.Stand Jvm.Free.XT Jvm.Free.ALB Jvm.Free.JM Jvm.Free
open Jvm.Lib.Cold (StaticIs)
/-- a char array whose places are chars -/
def Ch (a : Addr) (A : Cell) (U : State) : Prop := Arr .char a A U ∧ Typed .char A
theorem Ch.mv {a : Addr} {A : Cell} {U U' : State} (h : Ch a A U) (hal : U.vm.Alike U'.vm) (hh : U'.heap = U.heap) : Ch a A U' := ⟨h.1.mv hal hh, h.2⟩
theorem Ch.keep {a : Addr} {A : Cell} {U U' : State} (h : Ch a A U) (hal : U.vm.Alike U'.vm) (hk : U'.heap[a]? = some A) : Ch a A U' := ⟨h.1.keep hal hk, h.2⟩
/-- what place i of a char[]'s cell holds -/
def cv (A : Cell) (i : Nat) : Int32 := match A.slots[i]? with | some (.int x) => x | _ => 0
theorem Ch.get {a : Addr} {A : Cell} {U : State} (h : Ch a A U) {i : Nat} (hi : i < A.slots.size) : A.slots[i]? = some (.int (cv A i)) := by
  have e := Array.getElem?_eq_getElem hi
  have f := h.2 i _ e
  unfold cv; rw [e]
  generalize A.slots[i] = v at f
  cases v <;> simp [fits] at f ⊢
/-- the byte that i2b leaves of a char -/
def lo8 (x : Int32) : Int32 := x.toInt8.toInt32
theorem fits_lo8 (y : Int32) : fits .byte (.int (lo8 y)) = true := by
  have h1 := y.toInt8.le_toInt
  have h2 := y.toInt8.toInt_lt
  simp only [lo8, fits, Bool.and_eq_true, decide_eq_true_eq, Int32.le_iff_toInt_le, Int8.toInt_toInt32, show (-128 : Int32).toInt = -128 from by decide, show (127 : Int32).toInt = 127 from by decide]
  omega
/-- A' is A but that each place j of lo .. hi - 1 holds f j -/
def Laid (A A' : Cell) (lo hi : Nat) (f : Nat → Value) : Prop := A'.cls = A.cls ∧ A'.vm = A.vm ∧ A'.slots.size = A.slots.size ∧ ∀ i, A'.slots[i]? = if lo ≤ i ∧ i < hi then some (f i) else A.slots[i]?
theorem Laid.zero (A : Cell) (lo : Nat) (f : Nat → Value) : Laid A A lo (lo + 0) f := ⟨rfl, rfl, rfl, fun i => by rw [if_neg (by omega)]⟩
theorem Laid.step {A Ak : Cell} {lo k : Nat} {f : Nat → Value} {v : Value} (h : Laid A Ak lo k f) (hlo : lo ≤ k) (hk : k < Ak.slots.size) (hv : v = f k) : Laid A (Ak.setSlot k v) lo (k + 1) f := by
  refine ⟨h.1, h.2.1, by simpa [Cell.setSlot] using h.2.2.1, fun i => ?_⟩
  by_cases e : k = i
  · subst e; rw [Cell.slots_setSlot_self v hk, if_pos (by omega), hv]
  · rw [Cell.slots_setSlot_ne v e, h.2.2.2 i]
    by_cases q : lo ≤ i ∧ i < k
    · rw [if_pos q, if_pos (by omega)]
    · rw [if_neg q, if_neg (by omega)]
def U16 : String := "java/lang/StringUTF16"
namespace Cmp5
def yN : MethodName := ⟨"java/lang/StringUTF16", "compress", "([CI[BII)I"⟩
abbrev yB : ByteArray := jdk_52_method_21_code
theorem d0 : decode yB 0 = .ok (.iconst 0, 1) := by decide +kernel
theorem d1 : decode yB 1 = .ok (.istore 5, 2) := by decide +kernel
theorem d3 : decode yB 3 = .ok (.iload 5, 2) := by decide +kernel
theorem d5 : decode yB 5 = .ok (.iload 4, 2) := by decide +kernel
theorem d7 : decode yB 7 = .ok (.if_icmp (.ge) 37, 3) := by decide +kernel
theorem d10 : decode yB 10 = .ok (.aload_n 0, 1) := by decide +kernel
theorem d11 : decode yB 11 = .ok (.iload_n 1, 1) := by decide +kernel
theorem d12 : decode yB 12 = .ok (.caload, 1) := by decide +kernel
theorem d13 : decode yB 13 = .ok (.istore 6, 2) := by decide +kernel
theorem d15 : decode yB 15 = .ok (.iload 6, 2) := by decide +kernel
theorem d17 : decode yB 17 = .ok (.sipush 255, 3) := by decide +kernel
theorem d20 : decode yB 20 = .ok (.if_icmp (.le) 6, 3) := by decide +kernel
theorem d26 : decode yB 26 = .ok (.aload_n 2, 1) := by decide +kernel
theorem d27 : decode yB 27 = .ok (.iload_n 3, 1) := by decide +kernel
theorem d28 : decode yB 28 = .ok (.iload 6, 2) := by decide +kernel
theorem d30 : decode yB 30 = .ok (.i2b, 1) := by decide +kernel
theorem d31 : decode yB 31 = .ok (.bastore, 1) := by decide +kernel
theorem d32 : decode yB 32 = .ok (.iinc 1 1, 3) := by decide +kernel
theorem d35 : decode yB 35 = .ok (.iinc 3 1, 3) := by decide +kernel
theorem d38 : decode yB 38 = .ok (.iinc 5 1, 3) := by decide +kernel
theorem d41 : decode yB 41 = .ok (.goto (-38), 3) := by decide +kernel
theorem d44 : decode yB 44 = .ok (.iload 4, 2) := by decide +kernel
theorem d46 : decode yB 46 = .ok (.ireturn, 1) := by decide +kernel
def site : List Cond := []
def tab : Cond := tabOf yN yB 7 (some .int) site
def P (b : Addr) (A : Cell) (d : Addr) (B : Cell) (o q len : Nat) (args : Array Value) (s : State) : Prop := args = #[.ref b, .int (Int32.ofNat o), .ref d, .int (Int32.ofNat q), .int (Int32.ofNat len)] ∧ Ch b A s ∧ Arr .byte d B s ∧ b ≠ d ∧ o + len ≤ A.slots.size ∧ q + len ≤ B.slots.size ∧ ∀ i, i < len → ¬ 255 < cv A (o + i)
def E (b : Addr) (A : Cell) (d : Addr) (B : Cell) (o q len : Nat) (r : Option Value) (s u : State) : Prop := r = some (.int (Int32.ofNat len)) ∧ ∃ B', Put d B' s u ∧ Laid B B' q (q + len) (fun j => Value.int (lo8 (cv A (o + (j - q)))))
/-- no char of the range above 255: len; the places written hold each char's low byte -/
theorem law (l : Launch) (b : Addr) (A : Cell) (d : Addr) (B : Cell) (o q len : Nat) : Law l yN 5 5 0 0 yB 7 (some .int) site (P b A d B o q len) (E b A d B o q len) (copyLocs d q len) 0 0 := by
  refine Law.of_walk (plainFor_of_name (by decide +kernel)) (by decide +kernel) (by decide +kernel) (by decide) (fun _ _ h => by rw [h.1]; rfl) (fun _ U U' hal hh h => ⟨h.1, h.2.1.mv hal hh, h.2.2.1.mv hal hh, h.2.2.2⟩) (fun r U U' V V' h1 hal h2 h => ⟨h.1, h.2.elim fun B' q => ⟨B', q.1.mv h1 h2, q.2⟩⟩) ?_
  intro p e s m args below meth c s₁ X0 hexec hbytes hml hret hlk hnm hown hh0 W hP
  obtain ⟨rfl, hA, hB, hne, l1, l2, hp⟩ := hP
  have c1 : Steps p.tables e below (s₁.setTop (entryFrame m #[.ref b, .int (Int32.ofNat o), .ref d, .int (Int32.ofNat q), .int (Int32.ofNat len)] 7)) (s₁.setTop (mkF m 0 #[.val (.ref b), .val (.int (Int32.ofNat o)), .val (.ref d), .val (.int (Int32.ofNat q)), .val (.int (Int32.ofNat len)), .unset, .unset] [])) := entry rfl
  have hA0 := hA.1.mv X0.warmed.alike hh0
  have hB0 := hB.mv X0.warmed.alike hh0
  have a31 := hA.1.2.2.2
  have c2 : Steps p.tables e below (s₁.setTop (entryFrame m #[.ref b, .int (Int32.ofNat o), .ref d, .int (Int32.ofNat q), .int (Int32.ofNat len)] 7)) (s₁.setTop (mkF m 3 #[.val (.ref b), .val (.int (Int32.ofNat o)), .val (.ref d), .val (.int (Int32.ofNat q)), .val (.int (Int32.ofNat len)), .val (.int 0), .unset] [])) := c1.trans (by
    refine iconstV X0.here hexec rfl 0 (hb hbytes d0) (by decide) ?_
    refine XS.istore X0.here hexec rfl (hb hbytes d1) rfl rfl ?_
    exact Steps.refl _)
  have loop : ∀ (r i : Nat), i + r = len → ∀ (z : Slot), (z = .unset ∨ ∃ w, z = .val w ∧ w.category = 1) → ∀ (Tl : State) (Bk : Cell), Stand p l e { frames := 0, locals := 0, cells := 0, slots := 0 } s m #[.ref b, .int (Int32.ofNat o), .ref d, .int (Int32.ofNat q), .int (Int32.ofNat len)] below meth c Tl ([] ++ copyLocs d q i) 0 0 → Put d Bk s₁ Tl → Laid B Bk q (q + i) (fun j => Value.int (lo8 (cv A (o + (j - q))))) →
      Steps p.tables e below (s₁.setTop (entryFrame m #[.ref b, .int (Int32.ofNat o), .ref d, .int (Int32.ofNat q), .int (Int32.ofNat len)] 7)) (Tl.setTop (mkF m 3 #[.val (.ref b), .val (.int (Int32.ofNat (o + i))), .val (.ref d), .val (.int (Int32.ofNat (q + i))), .val (.int (Int32.ofNat len)), .val (.int (Int32.ofNat i)), z] [])) → ∃ (T' : State) (B' : Cell) (z' : Slot), Stand p l e { frames := 0, locals := 0, cells := 0, slots := 0 } s m #[.ref b, .int (Int32.ofNat o), .ref d, .int (Int32.ofNat q), .int (Int32.ofNat len)] below meth c T' ([] ++ copyLocs d q len) 0 0 ∧ Put d B' s₁ T' ∧ Laid B B' q (q + len) (fun j => Value.int (lo8 (cv A (o + (j - q))))) ∧
      Steps p.tables e below (s₁.setTop (entryFrame m #[.ref b, .int (Int32.ofNat o), .ref d, .int (Int32.ofNat q), .int (Int32.ofNat len)] 7)) (T'.setTop (mkF m 3 #[.val (.ref b), .val (.int (Int32.ofNat (o + len))), .val (.ref d), .val (.int (Int32.ofNat (q + len))), .val (.int (Int32.ofNat len)), .val (.int (Int32.ofNat len)), z'] [])) := by
    intro r
    induction r with
    | zero =>
      intro i hi z hz Tl Bk Xl pl fl cl
      have hil : i = len := by omega
      rw [hil] at Xl fl cl
      exact ⟨Tl, Bk, z, Xl, pl, fl, cl⟩
    | succ r ih =>
      intro i hi z hz Tl Bk Xl pl fl cl
      have all := X0.warmed.alike.symm.trans Xl.warmed.alike
      have hAl := hA0.keep all (pl.other hne hA0.1)
      have hBk := hB0.like all pl.1 fl.1 fl.2.1 fl.2.2.1
      have hlt : q + i < Bk.slots.size := by rw [fl.2.2.1]; omega
      have c3 : Steps p.tables e below (s₁.setTop (entryFrame m #[.ref b, .int (Int32.ofNat o), .ref d, .int (Int32.ofNat q), .int (Int32.ofNat len)] 7)) (Tl.setTop (mkF m 12 #[.val (.ref b), .val (.int (Int32.ofNat (o + i))), .val (.ref d), .val (.int (Int32.ofNat (q + i))), .val (.int (Int32.ofNat len)), .val (.int (Int32.ofNat i)), z] [.int (Int32.ofNat (o + i)), .ref b])) := cl.trans (by
        refine XS.iload Xl.here hexec rfl (hb hbytes d3) rfl ?_
        refine XS.iload Xl.here hexec rfl (hb hbytes d5) rfl ?_
        refine XS.icmpNo Xl.here hexec rfl (hb hbytes d7) rfl (ii_ge_f (lt32 (by omega) (by omega))) ?_
        refine XS.aloadN Xl.here hexec rfl (hb hbytes d10) rfl rfl ?_
        refine XS.iloadN Xl.here hexec rfl (hb hbytes d11) rfl ?_
        exact Steps.refl _)
      have c4 : Steps p.tables e below (s₁.setTop (entryFrame m #[.ref b, .int (Int32.ofNat o), .ref d, .int (Int32.ofNat q), .int (Int32.ofNat len)] 7)) (Tl.setTop (mkF m 13 #[.val (.ref b), .val (.int (Int32.ofNat (o + i))), .val (.ref d), .val (.int (Int32.ofNat (q + i))), .val (.int (Int32.ofNat len)), .val (.int (Int32.ofNat i)), z] [.int (cv A (o + i))])) := c3.trans (by
        refine Xl.aget hexec hAl rfl (hA.get (i := o + i) (by omega)) rfl rfl (hb hbytes d12) ?_
        exact Steps.refl _)
      have c5 : Steps p.tables e below (s₁.setTop (entryFrame m #[.ref b, .int (Int32.ofNat o), .ref d, .int (Int32.ofNat q), .int (Int32.ofNat len)] 7)) (Tl.setTop (mkF m 15 #[.val (.ref b), .val (.int (Int32.ofNat (o + i))), .val (.ref d), .val (.int (Int32.ofNat (q + i))), .val (.int (Int32.ofNat len)), .val (.int (Int32.ofNat i)), .val (.int (cv A (o + i)))] [])) := c4.trans (by
        refine XS.istoreS Xl.here hexec rfl (hb hbytes d13) rfl rfl hz ?_
        exact Steps.refl _)
      have c6 : Steps p.tables e below (s₁.setTop (entryFrame m #[.ref b, .int (Int32.ofNat o), .ref d, .int (Int32.ofNat q), .int (Int32.ofNat len)] 7)) (Tl.setTop (mkF m 31 #[.val (.ref b), .val (.int (Int32.ofNat (o + i))), .val (.ref d), .val (.int (Int32.ofNat (q + i))), .val (.int (Int32.ofNat len)), .val (.int (Int32.ofNat i)), .val (.int (cv A (o + i)))] [.int (lo8 (cv A (o + i))), .int (Int32.ofNat (q + i)), .ref d])) := c5.trans (by
        refine XS.iload Xl.here hexec rfl (hb hbytes d15) rfl ?_
        refine sipushV Xl.here hexec rfl 255 (hb hbytes d17) (by decide) ?_
        refine XS.icmpYes Xl.here hexec rfl (pc0 := 20) rfl (hb hbytes d20) rfl (ii_le_t (hp i (by omega))) (by decide) rfl ?_
        refine XS.aloadN Xl.here hexec rfl (hb hbytes d26) rfl rfl ?_
        refine XS.iloadN Xl.here hexec rfl (hb hbytes d27) rfl ?_
        refine XS.iload Xl.here hexec rfl (hb hbytes d28) rfl ?_
        refine i2b Xl.here hexec rfl (hb hbytes d30) rfl ?_
        exact Steps.refl _)
      obtain ⟨T7, X7, p7, st7⟩ := Xl.aput hexec hBk rfl hlt rfl (fits_lo8 (cv A (o + i))) (g := (mkF m 31 #[.val (.ref b), .val (.int (Int32.ofNat (o + i))), .val (.ref d), .val (.int (Int32.ofNat (q + i))), .val (.int (Int32.ofNat len)), .val (.int (Int32.ofNat i)), .val (.int (cv A (o + i)))] [.int (lo8 (cv A (o + i))), .int (Int32.ofNat (q + i)), .ref d])) rfl (rest := []) rfl (hb hbytes d31)
      have c8 : Steps p.tables e below (s₁.setTop (entryFrame m #[.ref b, .int (Int32.ofNat o), .ref d, .int (Int32.ofNat q), .int (Int32.ofNat len)] 7)) (T7.setTop (mkF m 32 #[.val (.ref b), .val (.int (Int32.ofNat (o + i))), .val (.ref d), .val (.int (Int32.ofNat (q + i))), .val (.int (Int32.ofNat len)), .val (.int (Int32.ofNat i)), .val (.int (cv A (o + i)))] [])) := c6.trans (st7 _ (Steps.refl _))
      have c9 : Steps p.tables e below (s₁.setTop (entryFrame m #[.ref b, .int (Int32.ofNat o), .ref d, .int (Int32.ofNat q), .int (Int32.ofNat len)] 7)) (T7.setTop (mkF m 3 #[.val (.ref b), .val (.int (Int32.ofNat (o + i) + 1)), .val (.ref d), .val (.int (Int32.ofNat (q + i) + 1)), .val (.int (Int32.ofNat len)), .val (.int (Int32.ofNat i + 1)), .val (.int (cv A (o + i)))] [])) := c8.trans (by
        refine iincV X7.here hexec rfl 1 (hb hbytes d32) (by decide) rfl rfl ?_
        refine iincV X7.here hexec rfl 1 (hb hbytes d35) (by decide) rfl rfl ?_
        refine iincV X7.here hexec rfl 1 (hb hbytes d38) (by decide) rfl rfl ?_
        refine XS.goto X7.here hexec rfl (pc0 := 41) rfl (hb hbytes d41) (by decide) rfl ?_
        exact Steps.refl _)
      have c10 : Steps p.tables e below (s₁.setTop (entryFrame m #[.ref b, .int (Int32.ofNat o), .ref d, .int (Int32.ofNat q), .int (Int32.ofNat len)] 7)) (T7.setTop (mkF m 3 #[.val (.ref b), .val (.int (Int32.ofNat (o + (i + 1)))), .val (.ref d), .val (.int (Int32.ofNat (q + (i + 1)))), .val (.int (Int32.ofNat len)), .val (.int (Int32.ofNat (i + 1))), .val (.int (cv A (o + i)))] [])) := by
        have := c9
        rw [succ32, succ32, succ32] at this
        exact this
      exact ih (i + 1) (by omega) _ (Or.inr ⟨_, rfl, rfl⟩) T7 _ (by rw [copyLocs_step, ← List.append_assoc]; exact X7) (pl.trans p7) (fl.step (by omega) hlt (by simp)) c10
  obtain ⟨T9, B9, z9, X9, p9, f9, g9⟩ := loop len 0 (by omega) .unset (Or.inl rfl) s₁ B (by simpa [copyLocs] using X0) ⟨hB0.1, fun _ _ => rfl, rfl⟩ (Laid.zero _ _ _) c2
  have c11 : Steps p.tables e below (s₁.setTop (entryFrame m #[.ref b, .int (Int32.ofNat o), .ref d, .int (Int32.ofNat q), .int (Int32.ofNat len)] 7)) (T9.setTop (mkF m 46 #[.val (.ref b), .val (.int (Int32.ofNat (o + len))), .val (.ref d), .val (.int (Int32.ofNat (q + len))), .val (.int (Int32.ofNat len)), .val (.int (Int32.ofNat len)), z9] [.int (Int32.ofNat len)])) := g9.trans (by
    refine XS.iload X9.here hexec rfl (hb hbytes d3) rfl ?_
    refine XS.iload X9.here hexec rfl (hb hbytes d5) rfl ?_
    refine XS.icmpYes X9.here hexec rfl (pc0 := 7) rfl (hb hbytes d7) rfl (ii_ge_t (nlt32 (by omega) (Nat.le_refl _))) (by decide) rfl ?_
    refine XS.iload X9.here hexec rfl (hb hbytes d44) rfl ?_
    exact Steps.refl _)
  exact ⟨T9, some (.int (Int32.ofNat len)), _, _, _, X9, by simp, rfl, rfl, (fun h => by cases h), ⟨rfl, B9, p9.from hh0, f9⟩, fun fs hl => c11.trans (X9.ireturnOut hexec hret rfl (Or.inl rfl) (hb hbytes d46) hl)⟩
end Cmp5
namespace Cmp3
def yN : MethodName := ⟨"java/lang/StringUTF16", "compress", "([CII)[B"⟩
abbrev yB : ByteArray := jdk_52_method_16_code
theorem d0 : decode yB 0 = .ok (.iload_n 2, 1) := by decide +kernel
theorem d1 : decode yB 1 = .ok (.newarray .byte, 2) := by decide +kernel
theorem d3 : decode yB 3 = .ok (.astore_n 3, 1) := by decide +kernel
theorem d4 : decode yB 4 = .ok (.aload_n 0, 1) := by decide +kernel
theorem d5 : decode yB 5 = .ok (.iload_n 1, 1) := by decide +kernel
theorem d6 : decode yB 6 = .ok (.aload_n 3, 1) := by decide +kernel
theorem d7 : decode yB 7 = .ok (.iconst 0, 1) := by decide +kernel
theorem d8 : decode yB 8 = .ok (.iload_n 2, 1) := by decide +kernel
theorem d9 : decode yB 9 = .ok (.invokestatic 115, 3) := by decide +kernel
theorem d12 : decode yB 12 = .ok (.istore 4, 2) := by decide +kernel
theorem d14 : decode yB 14 = .ok (.iload 4, 2) := by decide +kernel
theorem d16 : decode yB 16 = .ok (.iload_n 2, 1) := by decide +kernel
theorem d17 : decode yB 17 = .ok (.if_icmp (.eq) 40, 3) := by decide +kernel
theorem d57 : decode yB 57 = .ok (.aload_n 3, 1) := by decide +kernel
theorem d58 : decode yB 58 = .ok (.areturn, 1) := by decide +kernel
def site : List Cond := [.arrayClass .byte, Cmp5.tab] ++ staticW U16 115 Cmp5.yN
def tab : Cond := tabOf yN yB 6 (some (.array .byte)) site
def P (b : Addr) (A : Cell) (o len : Nat) (args : Array Value) (s : State) : Prop := args = #[.ref b, .int (Int32.ofNat o), .int (Int32.ofNat len)] ∧ Ch b A s ∧ o + len ≤ A.slots.size ∧ len ≤ 536870912 ∧ ∀ i, i < len → ¬ 255 < cv A (o + i)
def E (b : Addr) (A : Cell) (o len : Nat) (r : Option Value) (s u : State) : Prop := NewArr .byte "[B" len (fun j => .int (lo8 (cv A (o + j)))) r s u ∧ u.heap.size = s.heap.size + 1
/-- no char of the range above 255: a new byte[] of their low bytes -/
theorem law (l : Launch) (b : Addr) (A : Cell) (o len : Nat) : Law l yN 3 3 1 18 yB 6 (some (.array .byte)) site (P b A o len) (E b A o len) [] 1 len := by
  refine Law.of_walk (plainFor_of_name (by decide +kernel)) (by decide +kernel) (by decide +kernel) (by decide) (fun _ _ h => by rw [h.1]; rfl) (fun _ U U' hal hh h => ⟨h.1, h.2.1.mv hal hh, h.2.2⟩) (fun r U U' V V' h1 hal h2 h => ⟨NewArr.mv r U U' V V' h1 hal h2 h.1, by rw [h1, h2]; exact h.2⟩) ?_
  intro p e s m args below meth c s₁ X0 hexec hbytes hml hret hlk hnm hown hh0 W hP
  obtain ⟨rfl, hA, l1, l2, hp⟩ := hP
  have a31 := hA.1.2.2.2
  have c1 : Steps p.tables e below (s₁.setTop (entryFrame m #[.ref b, .int (Int32.ofNat o), .int (Int32.ofNat len)] 6)) (s₁.setTop (mkF m 0 #[.val (.ref b), .val (.int (Int32.ofNat o)), .val (.int (Int32.ofNat len)), .unset, .unset, .unset] [])) := entry rfl
  have c2 : Steps p.tables e below (s₁.setTop (entryFrame m #[.ref b, .int (Int32.ofNat o), .int (Int32.ofNat len)] 6)) (s₁.setTop (mkF m 1 #[.val (.ref b), .val (.int (Int32.ofNat o)), .val (.int (Int32.ofNat len)), .unset, .unset, .unset] [.int (Int32.ofNat len)])) := c1.trans (by
    refine XS.iloadN X0.here hexec rfl (hb hbytes d0) rfl ?_
    exact Steps.refl _)
  obtain ⟨T3, B3, X3, ba3, bs3, bv3, bh3, bf3, st3⟩ := X0.anew hexec (atype := .byte) (wk W (.arrayClass .byte)) rfl (by show len * 1 ≤ _; omega) (by omega) (g := (mkF m 1 #[.val (.ref b), .val (.int (Int32.ofNat o)), .val (.int (Int32.ofNat len)), .unset, .unset, .unset] [.int (Int32.ofNat len)])) rfl (hb hbytes d1) (rest := []) rfl (Nat.le_refl _) (by show 0 + len ≤ len; omega)
  rw [hh0] at ba3 st3
  have kp3 : XT.Kept s T3 := (XT.Kept.of_eq hh0).push bh3
  have hA3 := hA.keep X3.warmed.alike (kp3 _ _ hA.1.1)
  have hne : b ≠ s.heap.size := hA.1.ne
  have c4 : Steps p.tables e below (s₁.setTop (entryFrame m #[.ref b, .int (Int32.ofNat o), .int (Int32.ofNat len)] 6)) (T3.setTop (mkF m 3 #[.val (.ref b), .val (.int (Int32.ofNat o)), .val (.int (Int32.ofNat len)), .unset, .unset, .unset] [.ref s.heap.size])) := c2.trans (st3 _ (Steps.refl _))
  have c5 : Steps p.tables e below (s₁.setTop (entryFrame m #[.ref b, .int (Int32.ofNat o), .int (Int32.ofNat len)] 6)) (T3.setTop (mkF m 9 #[.val (.ref b), .val (.int (Int32.ofNat o)), .val (.int (Int32.ofNat len)), .val (.ref s.heap.size), .unset, .unset] [.int (Int32.ofNat len), .int 0, .ref s.heap.size, .int (Int32.ofNat o), .ref b])) := c4.trans (by
    refine XS.astoreN X3.here hexec rfl (hb hbytes d3) rfl rfl rfl ?_
    refine XS.aloadN X3.here hexec rfl (hb hbytes d4) rfl rfl ?_
    refine XS.iloadN X3.here hexec rfl (hb hbytes d5) rfl ?_
    refine XS.aloadN X3.here hexec rfl (hb hbytes d6) rfl rfl ?_
    refine iconstV X3.here hexec rfl 0 (hb hbytes d7) (by decide) ?_
    refine XS.iloadN X3.here hexec rfl (hb hbytes d8) rfl ?_
    exact Steps.refl _)
  obtain ⟨v6, T6, X6, E6, g6⟩ := X3.callS hexec (Cmp5.law l b A s.heap.size B3 o 0 len) hown (wks W (staticW U16 115 Cmp5.yN)) (wk W Cmp5.tab) (W := 0) (Nat.le_of_ble_eq_true rfl) (Nat.le_of_ble_eq_true rfl) (Nat.le_refl _) (by show 0 + len + 0 ≤ len; omega) (g := (mkF m 9 #[.val (.ref b), .val (.int (Int32.ofNat o)), .val (.int (Int32.ofNat len)), .val (.ref s.heap.size), .unset, .unset] [.int (Int32.ofNat len), .int (Int32.ofNat 0), .ref s.heap.size, .int (Int32.ofNat o), .ref b])) rfl (by rw [hml]; rfl) c5 (argsL := [.ref b, .int (Int32.ofNat o), .ref s.heap.size, .int (Int32.ofNat 0), .int (Int32.ofNat len)]) (rest := []) rfl rfl (by show 2 * 0 + 0 ≤ _; decide) (hb hbytes d9) (⟨rfl, hA3, ba3, hne, l1, by rw [bs3]; simp, hp⟩)
  obtain ⟨rfl, B6, p6, f6⟩ := E6
  have c7 : Steps p.tables e below (s₁.setTop (entryFrame m #[.ref b, .int (Int32.ofNat o), .int (Int32.ofNat len)] 6)) (T6.setTop (mkF m 12 #[.val (.ref b), .val (.int (Int32.ofNat o)), .val (.int (Int32.ofNat len)), .val (.ref s.heap.size), .unset, .unset] [.int (Int32.ofNat len)])) := g6
  have c8 : Steps p.tables e below (s₁.setTop (entryFrame m #[.ref b, .int (Int32.ofNat o), .int (Int32.ofNat len)] 6)) (T6.setTop (mkF m 58 #[.val (.ref b), .val (.int (Int32.ofNat o)), .val (.int (Int32.ofNat len)), .val (.ref s.heap.size), .val (.int (Int32.ofNat len)), .unset] [.ref s.heap.size])) := c7.trans (by
    refine XS.istore X6.here hexec rfl (hb hbytes d12) rfl rfl ?_
    refine XS.iload X6.here hexec rfl (hb hbytes d14) rfl ?_
    refine XS.iloadN X6.here hexec rfl (hb hbytes d16) rfl ?_
    refine XS.icmpYes X6.here hexec rfl (pc0 := 17) rfl (hb hbytes d17) rfl (ii_eq_t rfl) (by decide) rfl ?_
    refine XS.aloadN X6.here hexec rfl (hb hbytes d57) rfl rfl ?_
    exact Steps.refl _)
  have X8 := X6.wide (L' := []) (cells' := 1) (slots' := len) (fun x hx hlt => by
    simp only [List.nil_append, copyLocs, List.mem_map, List.mem_range] at hx
    obtain ⟨i, -, rfl⟩ := hx
    exact absurd hlt (Nat.lt_irrefl _)) (Nat.le_refl _) (by omega)
  exact ⟨T6, some (.ref s.heap.size), _, _, _, X8, rfl, rfl, rfl, (fun h => by cases h), ⟨⟨rfl, B6, ba3.like (X3.warmed.alike.symm.trans X6.warmed.alike) p6.1 f6.1 f6.2.1 f6.2.2.1, f6.2.1.trans bv3, by rw [X6.warmed.alike.findClass, f6.1]; exact bf3, by rw [f6.2.2.1, bs3]; simp, fun j hj => by rw [f6.2.2.2 j, if_pos (by omega)]; rfl, kp3.put p6 (Nat.le_refl _)⟩, by rw [p6.2.2, bh3, hh0]; simp⟩, fun fs hl => c8.trans (X8.areturnOut hexec rfl hret rfl (hb hbytes d58) hl)⟩
end Cmp3
namespace CodL
def yN : MethodName := ⟨"java/lang/StringUTF16", "coderFromArrayLen", "([BI)B"⟩
abbrev yB : ByteArray := jdk_52_method_15_code
theorem d0 : decode yB 0 = .ok (.iload_n 1, 1) := by decide +kernel
theorem d1 : decode yB 1 = .ok (.aload_n 0, 1) := by decide +kernel
theorem d2 : decode yB 2 = .ok (.arraylength, 1) := by decide +kernel
theorem d3 : decode yB 3 = .ok (.isub, 1) := by decide +kernel
theorem d4 : decode yB 4 = .ok (.bipush 31, 2) := by decide +kernel
theorem d6 : decode yB 6 = .ok (.iushr, 1) := by decide +kernel
theorem d7 : decode yB 7 = .ok (.i2b, 1) := by decide +kernel
theorem d8 : decode yB 8 = .ok (.ireturn, 1) := by decide +kernel
def site : List Cond := []
def tab : Cond := tabOf yN yB 2 (some .byte) site
def P (d : Addr) (B : Cell) (args : Array Value) (s : State) : Prop := args = #[.ref d, .int (Int32.ofNat B.slots.size)] ∧ Arr .byte d B s
def E (r : Option Value) (s u : State) : Prop := XT.PureE (some (.int 0)) r s u
/-- an array as long as the number of chars: LATIN1 -/
theorem law (l : Launch) (d : Addr) (B : Cell) : Law l yN 2 2 0 0 yB 2 (some .byte) site (P d B) E [] 0 0 := by
  refine Law.of_walk (plainFor_of_name (by decide +kernel)) (by decide +kernel) (by decide +kernel) (by decide) (fun _ _ h => by rw [h.1]; rfl) (fun _ U U' hal hh h => ⟨h.1, h.2.mv hal hh⟩) (fun r U U' V V' h1 hal h2 h => XT.PureE.mv r U U' V V' h1 hal h2 h) ?_
  intro p e s m args below meth c s₁ X0 hexec hbytes hml hret hlk hnm hown hh0 W hP
  obtain ⟨rfl, hB⟩ := hP
  have hB0 := hB.mv X0.warmed.alike hh0
  have c1 : Steps p.tables e below (s₁.setTop (entryFrame m #[.ref d, .int (Int32.ofNat B.slots.size)] 2)) (s₁.setTop (mkF m 0 #[.val (.ref d), .val (.int (Int32.ofNat B.slots.size))] [])) := entry rfl
  have c2 : Steps p.tables e below (s₁.setTop (entryFrame m #[.ref d, .int (Int32.ofNat B.slots.size)] 2)) (s₁.setTop (mkF m 2 #[.val (.ref d), .val (.int (Int32.ofNat B.slots.size))] [.ref d, .int (Int32.ofNat B.slots.size)])) := c1.trans (by
    refine XS.iloadN X0.here hexec rfl (hb hbytes d0) rfl ?_
    refine XS.aloadN X0.here hexec rfl (hb hbytes d1) rfl rfl ?_
    exact Steps.refl _)
  have c3 : Steps p.tables e below (s₁.setTop (entryFrame m #[.ref d, .int (Int32.ofNat B.slots.size)] 2)) (s₁.setTop (mkF m 8 #[.val (.ref d), .val (.int (Int32.ofNat B.slots.size))] [.int (lo8 (ushr (Int32.ofNat B.slots.size - Int32.ofNat B.slots.size) 31))])) := c2.trans (by
    refine X0.alen hexec hB0 rfl rfl (hb hbytes d2) ?_
    refine XS.isub X0.here hexec rfl (hb hbytes d3) rfl ?_
    refine bipushV X0.here hexec rfl 31 (hb hbytes d4) (by decide) ?_
    refine iushr X0.here hexec rfl (hb hbytes d6) rfl ?_
    refine i2b X0.here hexec rfl (hb hbytes d7) rfl ?_
    exact Steps.refl _)
  have e0 : lo8 (ushr (Int32.ofNat B.slots.size - Int32.ofNat B.slots.size) 31) = 0 := by rw [Int32.sub_self]; decide
  rw [e0] at c3
  exact ⟨s₁, some (.int 0), _, _, _, X0, rfl, rfl, rfl, (fun h => by cases h), ⟨rfl, hh0⟩, fun fs hl => c3.trans (X0.ireturnOut hexec hret rfl (Or.inr (Or.inr (Or.inl rfl))) (hb hbytes d8) hl)⟩
end CodL
/-- the String at a is Latin-1 over a new byte[] (the heap's one new cell): the low bytes of the len chars of A from o on; every cell but a is kept -/
def Got (a : Addr) (D : Cell) (fV fC : Field) (A : Cell) (o len : Nat) (r : Option Value) (s u : State) : Prop := r = none ∧ ∃ D' V : Cell, Blank "java/lang/String" a D' u ∧ Same D D' [fV.slot, fC.slot] ∧ D'.slots[fV.slot]? = some (.ref s.heap.size) ∧ D'.slots[fC.slot]? = some (.int 0) ∧ Arr .byte s.heap.size V u ∧ V.vm = .none ∧ u.vm.findClass "[B" = some V.cls ∧ V.slots.size = len ∧ (∀ j, j < len → V.slots[j]? = some (.int (lo8 (cv A (o + j))))) ∧ (∀ (y : Addr) (c : Cell), y ≠ a → s.heap[y]? = some c → u.heap[y]? = some c) ∧ u.heap.size = s.heap.size + 1
theorem Got.mv {a : Addr} {D A : Cell} {fV fC : Field} {o len : Nat} : ∀ r (U U' V V' : State), U'.heap = U.heap → V.vm.Alike V'.vm → V'.heap = V.heap → Got a D fV fC A o len r U V → Got a D fV fC A o len r U' V' :=
  fun r U U' V V' h1 hal h2 ⟨e0, D', X, a1, a2, a3, a4, a5, a6, a7, a8, a9, a10, a11⟩ => ⟨e0, D', X, a1.mv hal h2, a2, by rw [h1]; exact a3, a4, by rw [h1]; exact a5.mv hal h2, a6, by rw [hal.findClass]; exact a7, a8, a9, by rw [h1, h2]; exact a10, by rw [h1, h2]; exact a11⟩
namespace New4
def yN : MethodName := ⟨"java/lang/String", "<init>", "([CIILjava/lang/Void;)V"⟩
abbrev yB : ByteArray := jdk_42_method_149_code
theorem d0 : decode yB 0 = .ok (.aload_n 0, 1) := by decide +kernel
theorem d1 : decode yB 1 = .ok (.invokespecial 1, 3) := by decide +kernel
theorem d4 : decode yB 4 = .ok (.iload_n 3, 1) := by decide +kernel
theorem d5 : decode yB 5 = .ok (.ifCond (.ne) 22, 3) := by decide +kernel
theorem d27 : decode yB 27 = .ok (.getstatic 38, 3) := by decide +kernel
theorem d30 : decode yB 30 = .ok (.ifCond (.eq) 28, 3) := by decide +kernel
theorem d33 : decode yB 33 = .ok (.aload_n 1, 1) := by decide +kernel
theorem d34 : decode yB 34 = .ok (.iload_n 2, 1) := by decide +kernel
theorem d35 : decode yB 35 = .ok (.iload_n 3, 1) := by decide +kernel
theorem d36 : decode yB 36 = .ok (.invokestatic 177, 3) := by decide +kernel
theorem d39 : decode yB 39 = .ok (.astore 5, 2) := by decide +kernel
theorem d41 : decode yB 41 = .ok (.aload_n 0, 1) := by decide +kernel
theorem d42 : decode yB 42 = .ok (.aload 5, 2) := by decide +kernel
theorem d44 : decode yB 44 = .ok (.iload_n 3, 1) := by decide +kernel
theorem d45 : decode yB 45 = .ok (.invokestatic 47, 3) := by decide +kernel
theorem d48 : decode yB 48 = .ok (.putfield 15, 3) := by decide +kernel
theorem d51 : decode yB 51 = .ok (.aload_n 0, 1) := by decide +kernel
theorem d52 : decode yB 52 = .ok (.aload 5, 2) := by decide +kernel
theorem d54 : decode yB 54 = .ok (.putfield 9, 3) := by decide +kernel
theorem d57 : decode yB 57 = .ok (.return_, 1) := by decide +kernel
def site : List Cond := [.fieldLink "java/lang/String" 38 "java/lang/String" "COMPACT_STRINGS" "Z", Cmp3.tab, CodL.tab, .laysFinal "java/lang/String" "java/lang/String" "value" "[B", .fieldLink "java/lang/String" 9 "java/lang/String" "value" "[B", .laysFinal "java/lang/String" "java/lang/String" "coder" "B", .fieldLink "java/lang/String" 15 "java/lang/String" "coder" "B"] ++ objW "java/lang/String" 1 ++ staticW "java/lang/String" 177 Cmp3.yN ++ staticW "java/lang/String" 47 CodL.yN
def tab : Cond := tabOf yN yB 6 none site
def P (a : Addr) (D : Cell) (fV fC : Field) (b : Addr) (A : Cell) (z : Int32) (o len : Nat) (args : Array Value) (s : State) : Prop := args = #[.ref a, .ref b, .int (Int32.ofNat o), .int (Int32.ofNat len), .null] ∧ Blank "java/lang/String" a D s ∧ Found "java/lang/String" "value" "[B" fV s ∧ Found "java/lang/String" "coder" "B" fC s ∧ Ch b A s ∧ StaticIs s "java/lang/String" "COMPACT_STRINGS" "Z" (.int z) ∧ ¬ z = 0 ∧ 0 < len ∧ o + len ≤ A.slots.size ∧ len ≤ 536870912 ∧ ∀ i, i < len → ¬ 255 < cv A (o + i)
def E (a : Addr) (D : Cell) (fV fC : Field) (A : Cell) (o len : Nat) (r : Option Value) (s u : State) : Prop := Got a D fV fC A o len r s u
/-- len > 0, no char of the range above 255: a Latin-1 String of their low bytes -/
theorem law (l : Launch) (a : Addr) (D : Cell) (fV fC : Field) (b : Addr) (A : Cell) (z : Int32) (o len : Nat) : Law l yN 5 4 2 35 yB 6 none site (P a D fV fC b A z o len) (E a D fV fC A o len) [⟨a, fC.slot⟩, ⟨a, fV.slot⟩] 1 len := by
  refine Law.of_walk (plainFor_of_name (by decide +kernel)) (by decide +kernel) (by decide +kernel) (by decide) (fun _ _ h => by rw [h.1]; rfl) (fun _ U U' hal hh h => ⟨h.1, h.2.1.mv hal hh, h.2.2.1.al hal, h.2.2.2.1.al hal, h.2.2.2.2.1.mv hal hh, h.2.2.2.2.2.1.there hal hh, h.2.2.2.2.2.2⟩) (fun r U U' V V' h1 hal h2 h => Got.mv r U U' V V' h1 hal h2 h) ?_
  intro p e s m args below meth c s₁ X0 hexec hbytes hml hret hlk hnm hown hh0 W hP
  obtain ⟨rfl, hB, f1, f2, hA, s1, hz, l0, l1, l2, hp⟩ := hP
  have a31 := hA.1.2.2.2
  have c1 : Steps p.tables e below (s₁.setTop (entryFrame m #[.ref a, .ref b, .int (Int32.ofNat o), .int (Int32.ofNat len), .null] 6)) (s₁.setTop (mkF m 0 #[.val (.ref a), .val (.ref b), .val (.int (Int32.ofNat o)), .val (.int (Int32.ofNat len)), .val .null, .unset] [])) := entry rfl
  have c2 : Steps p.tables e below (s₁.setTop (entryFrame m #[.ref a, .ref b, .int (Int32.ofNat o), .int (Int32.ofNat len), .null] 6)) (s₁.setTop (mkF m 1 #[.val (.ref a), .val (.ref b), .val (.int (Int32.ofNat o)), .val (.int (Int32.ofNat len)), .val .null, .unset] [.ref a])) := c1.trans (by
    refine XS.aloadN X0.here hexec rfl (hb hbytes d0) rfl rfl ?_
    exact Steps.refl _)
  obtain ⟨T3, X3, q3, st3⟩ := X0.oinit hexec hown (wks W (objW "java/lang/String" 1)) (g := (mkF m 1 #[.val (.ref a), .val (.ref b), .val (.int (Int32.ofNat o)), .val (.int (Int32.ofNat len)), .val .null, .unset] [.ref a])) rfl (by rw [hml]; rfl) (rest := []) rfl (hb hbytes d1) (W := 0) (by show 2 * 0 + 0 ≤ _; decide) (Nat.le_of_ble_eq_true rfl) (Nat.le_of_ble_eq_true rfl)
  have hh3 := q3.trans hh0
  have c4 : Steps p.tables e below (s₁.setTop (entryFrame m #[.ref a, .ref b, .int (Int32.ofNat o), .int (Int32.ofNat len), .null] 6)) (T3.setTop (mkF m 27 #[.val (.ref a), .val (.ref b), .val (.int (Int32.ofNat o)), .val (.int (Int32.ofNat len)), .val .null, .unset] [])) := (c2.trans (st3 _ (Steps.refl _))).trans (by
    refine XS.iloadN X3.here hexec rfl (hb hbytes d4) rfl ?_
    refine XS.ifYes X3.here hexec rfl (pc0 := 5) rfl (hb hbytes d5) rfl (i0_ne_t (nz32 (by omega) l0)) (by decide) rfl ?_
    exact Steps.refl _)
  obtain ⟨T5, X5, q5, st5⟩ := X3.sget hexec hown (wk W (.fieldLink "java/lang/String" 38 "java/lang/String" "COMPACT_STRINGS" "Z")) s1 (fun _ _ h => by rw [hh3]; exact h) (g := (mkF m 27 #[.val (.ref a), .val (.ref b), .val (.int (Int32.ofNat o)), .val (.int (Int32.ofNat len)), .val .null, .unset] [])) rfl (hb hbytes d27)
  have hh5 := q5.trans hh3
  have c6 : Steps p.tables e below (s₁.setTop (entryFrame m #[.ref a, .ref b, .int (Int32.ofNat o), .int (Int32.ofNat len), .null] 6)) (T5.setTop (mkF m 30 #[.val (.ref a), .val (.ref b), .val (.int (Int32.ofNat o)), .val (.int (Int32.ofNat len)), .val .null, .unset] [.int z])) := c4.trans (st5 _ (Steps.refl _))
  have c7 : Steps p.tables e below (s₁.setTop (entryFrame m #[.ref a, .ref b, .int (Int32.ofNat o), .int (Int32.ofNat len), .null] 6)) (T5.setTop (mkF m 36 #[.val (.ref a), .val (.ref b), .val (.int (Int32.ofNat o)), .val (.int (Int32.ofNat len)), .val .null, .unset] [.int (Int32.ofNat len), .int (Int32.ofNat o), .ref b])) := c6.trans (by
    refine XS.ifNo X5.here hexec rfl (hb hbytes d30) rfl (i0_eq_f hz) ?_
    refine XS.aloadN X5.here hexec rfl (hb hbytes d33) rfl rfl ?_
    refine XS.iloadN X5.here hexec rfl (hb hbytes d34) rfl ?_
    refine XS.iloadN X5.here hexec rfl (hb hbytes d35) rfl ?_
    exact Steps.refl _)
  obtain ⟨v8, T8, X8, E8, g8⟩ := X5.callS hexec (Cmp3.law l b A o len) hown (wks W (staticW "java/lang/String" 177 Cmp3.yN)) (wk W Cmp3.tab) (W := 0) (Nat.le_of_ble_eq_true rfl) (Nat.le_of_ble_eq_true rfl) (Nat.le_refl _) (by show 0 + len ≤ len; omega) (g := (mkF m 36 #[.val (.ref a), .val (.ref b), .val (.int (Int32.ofNat o)), .val (.int (Int32.ofNat len)), .val .null, .unset] [.int (Int32.ofNat len), .int (Int32.ofNat o), .ref b])) rfl (by rw [hml]; rfl) c7 (argsL := [.ref b, .int (Int32.ofNat o), .int (Int32.ofNat len)]) (rest := []) rfl rfl (by show 2 * 0 + 0 ≤ _; decide) (hb hbytes d36) (⟨rfl, hA.mv X5.warmed.alike hh5, l1, l2, hp⟩)
  obtain ⟨e8, z8⟩ := E8
  obtain ⟨rfl, N, n1, n2, n3, n4, n5, n6⟩ := NewArr.mv _ T5 s _ _ hh5.symm (Vm.Alike.refl _) rfl e8
  rw [hh5] at z8
  have hB1 := hB.keep X8.warmed.alike (n6 _ _ hB.1)
  have hne : s.heap.size ≠ a := (Nat.ne_of_lt (Array.getElem?_eq_some_iff.mp hB.1).1).symm
  have c9 : Steps p.tables e below (s₁.setTop (entryFrame m #[.ref a, .ref b, .int (Int32.ofNat o), .int (Int32.ofNat len), .null] 6)) (T8.setTop (mkF m 39 #[.val (.ref a), .val (.ref b), .val (.int (Int32.ofNat o)), .val (.int (Int32.ofNat len)), .val .null, .unset] [.ref s.heap.size])) := g8
  have c10 : Steps p.tables e below (s₁.setTop (entryFrame m #[.ref a, .ref b, .int (Int32.ofNat o), .int (Int32.ofNat len), .null] 6)) (T8.setTop (mkF m 45 #[.val (.ref a), .val (.ref b), .val (.int (Int32.ofNat o)), .val (.int (Int32.ofNat len)), .val .null, .val (.ref s.heap.size)] [.int (Int32.ofNat N.slots.size), .ref s.heap.size, .ref a])) := by
    have hc : Steps p.tables e below (s₁.setTop (entryFrame m #[.ref a, .ref b, .int (Int32.ofNat o), .int (Int32.ofNat len), .null] 6)) (T8.setTop (mkF m 45 #[.val (.ref a), .val (.ref b), .val (.int (Int32.ofNat o)), .val (.int (Int32.ofNat len)), .val .null, .val (.ref s.heap.size)] [.int (Int32.ofNat len), .ref s.heap.size, .ref a])) := c9.trans (by
      refine XS.astore X8.here hexec rfl (hb hbytes d39) rfl rfl rfl ?_
      refine XS.aloadN X8.here hexec rfl (hb hbytes d41) rfl rfl ?_
      refine XS.aload X8.here hexec rfl (hb hbytes d42) rfl rfl ?_
      refine XS.iloadN X8.here hexec rfl (hb hbytes d44) rfl ?_
      exact Steps.refl _)
    rw [n4]; exact hc
  obtain ⟨v11, T11, X11, E11, g11⟩ := X8.callS hexec (CodL.law l s.heap.size N) hown (wks W (staticW "java/lang/String" 47 CodL.yN)) (wk W CodL.tab) (W := 1) (Nat.le_of_ble_eq_true rfl) (Nat.le_of_ble_eq_true rfl) (Nat.le_refl _) (by show 0 + len + 0 ≤ len; omega) (g := (mkF m 45 #[.val (.ref a), .val (.ref b), .val (.int (Int32.ofNat o)), .val (.int (Int32.ofNat len)), .val .null, .val (.ref s.heap.size)] [.int (Int32.ofNat N.slots.size), .ref s.heap.size, .ref a])) rfl (by rw [hml]; rfl) c10 (argsL := [.ref s.heap.size, .int (Int32.ofNat N.slots.size)]) (rest := [.ref a]) rfl rfl (by show 2 * 0 + (1 + 0) ≤ _; decide) (hb hbytes d45) (⟨rfl, n1⟩)
  obtain ⟨rfl, q11⟩ := E11
  have hB11 := hB1.mv (X8.warmed.alike.symm.trans X11.warmed.alike) q11
  have c12 : Steps p.tables e below (s₁.setTop (entryFrame m #[.ref a, .ref b, .int (Int32.ofNat o), .int (Int32.ofNat len), .null] 6)) (T11.setTop (mkF m 48 #[.val (.ref a), .val (.ref b), .val (.int (Int32.ofNat o)), .val (.int (Int32.ofNat len)), .val .null, .val (.ref s.heap.size)] [.int 0, .ref a])) := g11
  obtain ⟨T13, X13, p13, bl13, sl13, st13⟩ := X11.finit hexec hown (wk W (.fieldLink "java/lang/String" 15 "java/lang/String" "coder" "B")) (Or.inr ⟨_, (wk W (.laysFinal "java/lang/String" "java/lang/String" "coder" "B"))⟩) (Or.inl ⟨rfl, hnm⟩) f2 (Or.inl rfl) hB11 (t := .byte) (by decide +kernel) rfl (g := (mkF m 48 #[.val (.ref a), .val (.ref b), .val (.int (Int32.ofNat o)), .val (.int (Int32.ofNat len)), .val .null, .val (.ref s.heap.size)] [.int 0, .ref a])) rfl (rest := []) rfl (hb hbytes d48)
  have c14 : Steps p.tables e below (s₁.setTop (entryFrame m #[.ref a, .ref b, .int (Int32.ofNat o), .int (Int32.ofNat len), .null] 6)) (T13.setTop (mkF m 54 #[.val (.ref a), .val (.ref b), .val (.int (Int32.ofNat o)), .val (.int (Int32.ofNat len)), .val .null, .val (.ref s.heap.size)] [.ref s.heap.size, .ref a])) := (c12.trans (st13 _ (Steps.refl _))).trans (by
    refine XS.aloadN X13.here hexec rfl (hb hbytes d51) rfl rfl ?_
    refine XS.aload X13.here hexec rfl (hb hbytes d52) rfl rfl ?_
    exact Steps.refl _)
  obtain ⟨T15, X15, p15, bl15, sl15, st15⟩ := X13.finit hexec hown (wk W (.fieldLink "java/lang/String" 9 "java/lang/String" "value" "[B")) (Or.inr ⟨_, (wk W (.laysFinal "java/lang/String" "java/lang/String" "value" "[B"))⟩) (Or.inl ⟨rfl, hnm⟩) f1 (Or.inl rfl) bl13 (t := (.array .byte)) (by decide +kernel) rfl (g := (mkF m 54 #[.val (.ref a), .val (.ref b), .val (.int (Int32.ofNat o)), .val (.int (Int32.ofNat len)), .val .null, .val (.ref s.heap.size)] [.ref s.heap.size, .ref a])) rfl (rest := []) rfl (hb hbytes d54)
  have c16 : Steps p.tables e below (s₁.setTop (entryFrame m #[.ref a, .ref b, .int (Int32.ofNat o), .int (Int32.ofNat len), .null] 6)) (T15.setTop (mkF m 57 #[.val (.ref a), .val (.ref b), .val (.int (Int32.ofNat o)), .val (.int (Int32.ofNat len)), .val .null, .val (.ref s.heap.size)] [])) := c14.trans (st15 _ (Steps.refl _))
  have ap := apart (Or.inr ⟨_, (wk W (.laysFinal "java/lang/String" "java/lang/String" "value" "[B"))⟩) (Or.inr ⟨_, (wk W (.laysFinal "java/lang/String" "java/lang/String" "coder" "B"))⟩) f1 f2 (t₁ := .array .byte) (t₂ := .byte) (by decide +kernel) (by decide +kernel) (by decide)
  have al := X8.warmed.alike.symm.trans X15.warmed.alike
  have n7 : T11.heap[s.heap.size]? = some N := by rw [q11]; exact n1.1
  exact ⟨T15, none, _, _, _, X15, by simp, rfl, by omega, (fun _ => rfl), ⟨rfl, _, N, bl15, ((Same.refl D _).set _ (by simp)).set _ (by simp), sl15, (Cell.slots_setSlot_ne _ ap).trans sl13, n1.keep al (p15.other hne (p13.other hne n7)), n2, by rw [al.findClass]; exact n3, n4, n5, fun y c h1 h2 => p15.other h1 (p13.other h1 (by rw [q11]; exact n6 y c h2)), by rw [p15.2.2, p13.2.2, q11]; exact z8⟩, fun fs hl => c16.trans (X15.returnOut hexec hret (hb hbytes d57) hl)⟩
end New4
namespace New1
def yN : MethodName := ⟨"java/lang/String", "<init>", "([C)V"⟩
abbrev yB : ByteArray := jdk_42_method_3_code
theorem d0 : decode yB 0 = .ok (.aload_n 0, 1) := by decide +kernel
theorem d1 : decode yB 1 = .ok (.aload_n 1, 1) := by decide +kernel
theorem d2 : decode yB 2 = .ok (.iconst 0, 1) := by decide +kernel
theorem d3 : decode yB 3 = .ok (.aload_n 1, 1) := by decide +kernel
theorem d4 : decode yB 4 = .ok (.arraylength, 1) := by decide +kernel
theorem d5 : decode yB 5 = .ok (.aconst_null, 1) := by decide +kernel
theorem d6 : decode yB 6 = .ok (.invokespecial 27, 3) := by decide +kernel
theorem d9 : decode yB 9 = .ok (.return_, 1) := by decide +kernel
def site : List Cond := [New4.tab] ++ initW "java/lang/String" 27 New4.yN
def tab : Cond := tabOf yN yB 2 none site
def P (a : Addr) (D : Cell) (fV fC : Field) (b : Addr) (A : Cell) (z : Int32) (args : Array Value) (s : State) : Prop := args = #[.ref a, .ref b] ∧ Blank "java/lang/String" a D s ∧ Found "java/lang/String" "value" "[B" fV s ∧ Found "java/lang/String" "coder" "B" fC s ∧ Ch b A s ∧ StaticIs s "java/lang/String" "COMPACT_STRINGS" "Z" (.int z) ∧ ¬ z = 0 ∧ 0 < A.slots.size ∧ A.slots.size ≤ 536870912 ∧ ∀ i, i < A.slots.size → ¬ 255 < cv A i
def E (a : Addr) (D : Cell) (fV fC : Field) (A : Cell) (r : Option Value) (s u : State) : Prop := Got a D fV fC A 0 A.slots.size r s u
/-- new String(chars), not empty, no char above 255: a Latin-1 String of their low bytes -/
theorem law (l : Launch) (a : Addr) (D : Cell) (fV fC : Field) (b : Addr) (A : Cell) (z : Int32) : Law l yN 2 1 3 52 yB 2 none site (P a D fV fC b A z) (E a D fV fC A) [⟨a, fC.slot⟩, ⟨a, fV.slot⟩] 1 A.slots.size := by
  refine Law.of_walk (plainFor_of_name (by decide +kernel)) (by decide +kernel) (by decide +kernel) (by decide) (fun _ _ h => by rw [h.1]; rfl) (fun _ U U' hal hh h => ⟨h.1, h.2.1.mv hal hh, h.2.2.1.al hal, h.2.2.2.1.al hal, h.2.2.2.2.1.mv hal hh, h.2.2.2.2.2.1.there hal hh, h.2.2.2.2.2.2⟩) (fun r U U' V V' h1 hal h2 h => Got.mv r U U' V V' h1 hal h2 h) ?_
  intro p e s m args below meth c s₁ X0 hexec hbytes hml hret hlk hnm hown hh0 W hP
  obtain ⟨rfl, hB, f1, f2, hA, s1, hz, l0, l2, hp⟩ := hP
  have c1 : Steps p.tables e below (s₁.setTop (entryFrame m #[.ref a, .ref b] 2)) (s₁.setTop (mkF m 0 #[.val (.ref a), .val (.ref b)] [])) := entry rfl
  have c2 : Steps p.tables e below (s₁.setTop (entryFrame m #[.ref a, .ref b] 2)) (s₁.setTop (mkF m 6 #[.val (.ref a), .val (.ref b)] [.null, .int (Int32.ofNat A.slots.size), .int 0, .ref b, .ref a])) := c1.trans (by
    refine XS.aloadN X0.here hexec rfl (hb hbytes d0) rfl rfl ?_
    refine XS.aloadN X0.here hexec rfl (hb hbytes d1) rfl rfl ?_
    refine iconstV X0.here hexec rfl 0 (hb hbytes d2) (by decide) ?_
    refine XS.aloadN X0.here hexec rfl (hb hbytes d3) rfl rfl ?_
    refine X0.alen hexec (hA.1.mv X0.warmed.alike hh0) rfl rfl (hb hbytes d4) ?_
    refine XS.aconstNull X0.here hexec rfl (hb hbytes d5) ?_
    exact Steps.refl _)
  obtain ⟨v3, T3, X3, E3, g3⟩ := X0.callN hexec (New4.law l a D fV fC b A z 0 A.slots.size) rfl hown (wks W (initW "java/lang/String" 27 New4.yN)) (W New4.tab (by simp only [site, List.mem_cons, List.mem_append, true_or, or_true])) (W := 0) (Nat.le_of_ble_eq_true rfl) (Nat.le_of_ble_eq_true rfl) (Nat.le_refl _) (by show 0 + A.slots.size ≤ A.slots.size; omega) (g := (mkF m 6 #[.val (.ref a), .val (.ref b)] [.null, .int (Int32.ofNat A.slots.size), .int (Int32.ofNat 0), .ref b, .ref a])) rfl (by rw [hml]; rfl) c2 (argsL := [.ref b, .int (Int32.ofNat 0), .int (Int32.ofNat A.slots.size), .null]) (rest := []) rfl rfl (by show 2 * 0 + 0 ≤ _; decide) (hb hbytes d6) (⟨rfl, hB.mv X0.warmed.alike hh0, f1.al X0.warmed.alike, f2.al X0.warmed.alike, hA.mv X0.warmed.alike hh0, s1.there X0.warmed.alike hh0, hz, l0, by omega, l2, fun i hi => by rw [Nat.zero_add]; exact hp i hi⟩)
  have e0 := Got.mv _ s₁ s _ _ hh0.symm (Vm.Alike.refl _) rfl E3
  obtain rfl := e0.1
  have c4 : Steps p.tables e below (s₁.setTop (entryFrame m #[.ref a, .ref b] 2)) (T3.setTop (mkF m 9 #[.val (.ref a), .val (.ref b)] [])) := g3
  exact ⟨T3, none, _, _, _, X3, by simp, rfl, by omega, (fun _ => rfl), e0, fun fs hl => c4.trans (X3.returnOut hexec hret (hb hbytes d9) hl)⟩
theorem pays {l : Launch} {R : Room} {p : Program} {e : Env} {below : List Frame} {s : State} {sargs : Array Value} {len W : Nat} (a : Addr) (D : Cell) (fV fC : Field) (b : Addr) (A : Cell) (z : Int32) (htab : tab.before sargs s = true) (hfr : 4 ≤ R.frames) (hlo : W + 65 ≤ R.locals) :
    Back l R p e below s sargs yN len W (fun A₁ a₁ => A₁.cells + 1 ≤ R.cells ∧ A₁.slots + A.slots.size ≤ R.slots ∧ P a D fV fC b A z a₁ A₁.U) (fun A₁ _ v₁ B₁ => E a D fV fC A v₁ A₁.U B₁.U ∧ B₁.locs = A₁.locs ++ [⟨a, fC.slot⟩, ⟨a, fV.slot⟩] ∧ B₁.cells = A₁.cells + 1 ∧ B₁.slots = A₁.slots + A.slots.size) :=
  (law l a D fV fC b A z).pays htab hfr (by omega)
end New1
/-- the byte, read back as charAt reads it, is the char -/
theorem lo8_mask {x : Int32} (h0 : ¬ x < 0) (h1 : ¬ 255 < x) : lo8 x &&& 255 = x := by
  have t : ∀ k : Fin 256, lo8 (Int32.ofNat k.val) &&& 255 = Int32.ofNat k.val := by decide +kernel
  rw [Int32.lt_iff_toInt_lt] at h0 h1
  have e0 : (0 : Int32).toInt = 0 := rfl
  have e1 : (255 : Int32).toInt = 255 := rfl
  obtain ⟨k, hk⟩ : ∃ k : Nat, x.toInt = k := ⟨x.toInt.toNat, by omega⟩
  have hx : x = Int32.ofNat k := Int32.toInt_inj.mp (by rw [hk, Int32.toInt_ofNat_small (by omega)])
  rw [hx]
  exact t ⟨k, by omega⟩
end StrChars
namespace StrChars.Road
open Jvm Sem ClassFile Op Lib Jvm.Stand Jvm.Free Jvm.Free.XT
open Jvm.Lib.Cold (StaticIs)
abbrev ST : String := "java/lang/String"
/-- every table word that New1's law asks, flat -/
abbrev words : List Jvm.Cond := [.code New1.yN New1.yB 2 none, .initialized ST, .methodLink ST 27 New4.yN, .instanceMethod New4.yN,
  .code New4.yN New4.yB 6 none, .fieldLink ST 38 ST "COMPACT_STRINGS" "Z", .laysFinal ST ST "value" "[B", .fieldLink ST 9 ST "value" "[B", .laysFinal ST ST "coder" "B", .fieldLink ST 15 ST "coder" "B",
  .methodLink ST 1 Lib.objectInit, .instanceMethod Lib.objectInit, .code Lib.objectInit ⟨#[0xb1]⟩ 1 none, .methodLink ST 177 Cmp3.yN, .static Cmp3.yN, .methodLink ST 47 CodL.yN, .static CodL.yN,
  .code Cmp3.yN Cmp3.yB 6 (some (.array .byte)), .initialized U16, .arrayClass .byte, .methodLink U16 115 Cmp5.yN, .static Cmp5.yN, .code Cmp5.yN Cmp5.yB 7 (some .int), .code CodL.yN CodL.yB 2 (some .byte)]
theorem tab_of {a : Array Value} {s : State} (h : ∀ w ∈ words, w.before a s = true) : New1.tab.before a s = true := by
  have h5 : Cmp5.tab.before a s = true := unparts (wk h (.code Cmp5.yN Cmp5.yB 7 (some .int))) (wks h (.initialized Cmp5.yN.cls :: Cmp5.site))
  have hc : CodL.tab.before a s = true := unparts (wk h (.code CodL.yN CodL.yB 2 (some .byte))) (wks h (.initialized CodL.yN.cls :: CodL.site))
  have q5 : ∀ w ∈ Cmp5.tab :: words, w.before a s = true := fun w hw => (List.mem_cons.mp hw).elim (fun e => e ▸ h5) (h w)
  have h3 : Cmp3.tab.before a s = true := unparts (wk q5 (.code Cmp3.yN Cmp3.yB 6 (some (.array .byte)))) (wks q5 (.initialized Cmp3.yN.cls :: Cmp3.site))
  have q3 : ∀ w ∈ Cmp3.tab :: CodL.tab :: words, w.before a s = true := fun w hw => (List.mem_cons.mp hw).elim (fun e => e ▸ h3) fun hw => (List.mem_cons.mp hw).elim (fun e => e ▸ hc) (h w)
  have h4 : New4.tab.before a s = true := unparts (wk q3 (.code New4.yN New4.yB 6 none)) (wks q3 (.initialized New4.yN.cls :: New4.site))
  have q4 : ∀ w ∈ New4.tab :: words, w.before a s = true := fun w hw => (List.mem_cons.mp hw).elim (fun e => e ▸ h4) (h w)
  exact unparts (wk q4 (.code New1.yN New1.yB 2 none)) (wks q4 (.initialized New1.yN.cls :: New1.site))
/-- the words ride from the start Z to the walk's own state -/
theorem moved {Z s : State} {a0 args : Array Value} (hZ : Z.Warmed39 s.vm) (hw : ∀ d ∈ words, d.before a0 Z = true) : ∀ d ∈ words, d.before args s = true := fun d hd => by
  have q := hw d hd
  have t : ∀ d ∈ words, d = .arrayClass .byte ∨ (d.onTables && d.keepsFace) = true := by decide +kernel
  rcases t d hd with rfl | t
  · exact RoadKit.mvA hZ q
  · exact RoadKit.mv hZ q t
/-- WHAT COMES BACK, over the tables of the start Z: h the heap at the call, h' behind it -/
def Q (Z : State) (x : Addr) (A : Cell) (h : Heap) (v : Option Value) (h' : Heap) (L : List Loc) : Prop := v = none ∧ (∀ y ∈ L, y.base = x) ∧ RoadKit.Keep h h' [x] ∧ h'.size = h.size + 1 ∧ RoadKit.Exa Z h' x ST ∧ RoadKit.Fld Z h' x ST "value" "[B" (.ref h.size) ∧ RoadKit.Fld Z h' x ST "coder" "B" (.int 0) ∧
  (∃ V : Cell, RoadKit.Arr Z h' h.size V .byte ∧ V.vm = .none ∧ Z.vm.findClass "[B" = some V.cls ∧ V.slots.size = A.slots.size ∧ ∀ j, j < A.slots.size → V.slots[j]? = some (.int (lo8 (cv A j)))) ∧
  ∀ (O n d : String) (w : Value), RoadKit.Fld Z h x O n d w → RoadKit.slotOf Z O n d ≠ RoadKit.slotOf Z ST "value" "[B" → RoadKit.slotOf Z O n d ≠ RoadKit.slotOf Z ST "coder" "B" → RoadKit.Fld Z h' x O n d w
/-- **new String(chars) AT A CALL, IN THE ROAD'S FORM**: for specialBack behind newO: x the fresh String, b the char[] with the cell A -/
theorem back {p : Program} {l : Launch} {e : Env} {R : Room} {s : State} {args : Array Value} {below : List Frame} {len W : Nat} {Z : State} {a0 : Array Value} {h : Heap} (hZ : Z.Warmed39 s.vm) (hw : ∀ d ∈ words, d.before a0 Z = true) {kI : Nat} (wi : (Jvm.Cond.instantiable ST kI).before a0 Z = true)
    {x b : Addr} {A : Cell} {z : Int32} {v0 c0 : Value} (E : RoadKit.Exa Z h x ST) (V : RoadKit.Fld Z h x ST "value" "[B" v0) (C : RoadKit.Fld Z h x ST "coder" "B" c0) (K : RoadKit.Arr Z h b A .char) (hty : Typed .char A) (S : RoadKit.Sta Z h ST "COMPACT_STRINGS" "Z" (.int z)) (hz : ¬ z = 0)
    (l0 : 0 < A.slots.size) (l2 : A.slots.size ≤ 536870912) (hp : ∀ i, i < A.slots.size → ¬ 255 < cv A i) (hfr : 4 ≤ R.frames) (hlo : W + 65 ≤ R.locals) :
    Back l R p e below s args New1.yN len W (fun P a => a = #[.ref x, .ref b] ∧ P.U.heap = h ∧ P.cells + 1 ≤ R.cells ∧ P.slots + A.slots.size ≤ R.slots)
      (fun P _ v B => ∃ L, Q Z x A h v B.U.heap L ∧ B.locs = P.locs ++ L ∧ B.cells = P.cells + 1 ∧ B.slots = P.slots + A.slots.size) := by
  intro m meth c P g ig mk a X hg hsize hdg hW hn hp'
  obtain ⟨rfl, rfl, r1, r2⟩ := hp'
  have al : Z.vm.Alike P.U.vm := hZ.alike.trans X.warmed.alike
  obtain ⟨D, cfV, kV, iV, fV, hD, gV, stV, knV, obV, asV, slV⟩ := id V
  obtain ⟨D', cfC, kC, iC, fC, hD', gC, stC, -, -, asC, slC⟩ := id C
  cases hD.symm.trans hD'
  obtain ⟨D2, kD, e1, e2, e3, e4, e5⟩ := id E
  cases hD.symm.trans e1
  obtain ⟨c2, k2, i1, i2, i3, -⟩ := Cond.instantiable_spec wi
  cases e2.symm.trans i1
  cases e3.symm.trans i2
  obtain ⟨kU, u1, u2⟩ := al.2.2 _ _ e3
  have hB : Blank ST x D P.U := ⟨hD, ⟨knV, fun q hq => by rw [hq] at obV; cases obV⟩, by rw [al.findClass]; exact e2, kU, u1, by rw [u2]; exact i3, by rw [u2]; exact e5 i3⟩
  have F1 : Found ST "value" "[B" fV P.U := ⟨SBG.found_only al ⟨cfV, kV, iV, gV⟩, stV⟩
  have F2 : Found ST "coder" "B" fC P.U := ⟨SBG.found_only al ⟨cfC, kC, iC, gC⟩, stC⟩
  have hA : Ch b A P.U := ⟨⟨K.1, State.isArrayOf_alike al K.2.1, K.2.2, by omega⟩, hty⟩
  have hS : StaticIs P.U ST "COMPACT_STRINGS" "Z" (.int z) := by
    obtain ⟨cfS, iS, kS, fS, st, cS, t1, t2, t3, t4, t5, t6, t7⟩ := S
    exact StaticIs.there (s := { Z with heap := P.U.heap }) ⟨cfS, iS, kS, fS, st, cS, t1, t2, t3, t4, t5, (fun q => by rw [q] at t6; cases t6), t7⟩ al rfl
  obtain ⟨v, B, X', ⟨⟨hv, E', V', q1, q2, q3, q4, q5, q6, q7, q8, q9, q10, q11⟩, hl, hc, hs⟩, st⟩ := New1.pays x D fV fC b A z (tab_of (moved hZ hw)) hfr hlo m meth c P g ig mk _ X hg hsize hdg hW hn ⟨r1, r2, rfl, hB, F1, F2, hA, hS, hz, l0, l2, hp⟩
  have al' : Z.vm.Alike B.U.vm := hZ.alike.trans X'.warmed.alike
  have hsz : E'.slots.size = D.slots.size := by
    obtain ⟨-, -, -, kB, w1, w2, w3⟩ := q1
    obtain ⟨kB', y1, y2⟩ := al'.2.2 _ _ e3
    rw [q2.2.1] at w1
    cases w1.symm.trans y1
    rw [w3, e5 i3, y2]
  refine ⟨v, B, X', ⟨_, ⟨hv, ?_, ⟨by omega, fun y cy hy hn' => q10 y cy (by simpa using hn') hy, fun y cy hy => ?_⟩, q11, ⟨E', _, q1.1, by rw [q2.2.1]; exact e2, by rw [q2.2.1]; exact e3, by rw [q2.1]; exact obV, fun _ => by rw [hsz]; exact e5 i3⟩,
    ⟨E', cfV, kV, iV, fV, q1.1, gV, stV, by rw [q2.1]; exact knV, by rw [q2.1]; exact obV, by rw [q2.2.1]; exact asV, q3⟩, ⟨E', cfC, kC, iC, fC, q1.1, gC, stC, by rw [q2.1]; exact knV, by rw [q2.1]; exact obV, by rw [q2.2.1]; exact asC, q4⟩,
    ⟨V', ⟨q5.1, State.isArrayOf_alike al'.symm q5.2.1, q5.2.2.1⟩, q6, by rw [← al'.findClass]; exact q7, q8, fun j hj => by have := q9 j hj; rwa [Nat.zero_add] at this⟩, fun O n d w F n1 n2 => ?_⟩, hl, hc, hs⟩, st⟩
  · intro y hy
    simp only [List.mem_cons, List.not_mem_nil, or_false] at hy
    rcases hy with rfl | rfl <;> rfl
  · by_cases q : y = x
    · subst q
      cases hD.symm.trans hy
      exact ⟨E', q1.1, q2.2.1, q2.1, hsz⟩
    · exact ⟨cy, q10 y cy q hy, rfl, rfl, rfl⟩
  · obtain ⟨D3, cf, k, i, f, g1, g2, g3, g4, g5, g6, g7⟩ := F
    cases hD.symm.trans g1
    simp only [RoadKit.slotOf, g2, gV, gC, Option.map_some, Option.getD_some] at n1 n2
    exact ⟨E', cf, k, i, f, q1.1, g2, g3, by rw [q2.1]; exact g4, by rw [q2.1]; exact g5, by rw [q2.2.1]; exact g6, by rw [q2.2.2 f.slot (by simp [n1, n2])]; exact g7⟩
end StrChars.Road
namespace StrChars.Road
open Jvm Sem ClassFile Op Lib Jvm.Stand Jvm.Free Jvm.Free.XT
/-- WHAT COMES BACK, the byte[] as a list of values -/
def QA (Z : State) (x : Addr) (zn : Int32) (cs : List Int32) (h : Heap) (v : Option Value) (h' : Heap) (L : List Loc) : Prop := v = none ∧ (∀ y ∈ L, y.base = x) ∧ RoadKit.Keep h h' [x] ∧ h'.size = h.size + 1 ∧ RoadKit.Exa Z h' x ST ∧ RoadKit.Fld Z h' x ST "value" "[B" (.ref h.size) ∧ RoadKit.Fld Z h' x ST "coder" "B" (.int 0) ∧
  (∃ kb, Z.vm.findClass "[B" = some kb ∧ RoadKit.Arv Z h' h.size kb .byte zn (cs.map fun c => .int (lo8 c)) (.int 0)) ∧
  ∀ (O n d : String) (w : Value), RoadKit.Fld Z h x O n d w → RoadKit.slotOf Z O n d ≠ RoadKit.slotOf Z ST "value" "[B" → RoadKit.slotOf Z O n d ≠ RoadKit.slotOf Z ST "coder" "B" → RoadKit.Fld Z h' x O n d w
/-- **new String(chars) AT A CALL, THE ARRAYS AS LISTS**: the char[] at b holds cs, not empty, no char above 255 -/
theorem backArv {p : Program} {l : Launch} {e : Env} {R : Room} {s : State} {args : Array Value} {below : List Frame} {len W : Nat} {Z : State} {a0 : Array Value} {h : Heap} (hZ : Z.Warmed39 s.vm) (hw : ∀ d ∈ words, d.before a0 Z = true) {kI : Nat} (wi : (Jvm.Cond.instantiable ST kI).before a0 Z = true)
    {x b : Addr} {k : ClassId} {zn z : Int32} {cs : List Int32} {dv v0 c0 : Value} (E : RoadKit.Exa Z h x ST) (V : RoadKit.Fld Z h x ST "value" "[B" v0) (C : RoadKit.Fld Z h x ST "coder" "B" c0) (K : RoadKit.Arv Z h b k .char zn (cs.map Value.int) dv) (S : RoadKit.Sta Z h ST "COMPACT_STRINGS" "Z" (.int z)) (hz : ¬ z = 0)
    (hlen : zn.toNatClampNeg = cs.length) (h0 : 0 < cs.length) (hbig : cs.length ≤ 536870912) (hall : ∀ c ∈ cs, ¬ 255 < c) (hfr : 4 ≤ R.frames) (hlo : W + 65 ≤ R.locals) :
    Back l R p e below s args New1.yN len W (fun P a => a = #[.ref x, .ref b] ∧ P.U.heap = h ∧ P.cells + 1 ≤ R.cells ∧ P.slots + cs.length ≤ R.slots)
      (fun P _ v B => ∃ L, QA Z x zn cs h v B.U.heap L ∧ B.locs = P.locs ++ L ∧ B.cells = P.cells + 1 ∧ B.slots = P.slots + cs.length) := by
  obtain ⟨A, K1, K2, K3, K4, K5, K6⟩ := K
  have e : A.slots.size = cs.length := K3.trans hlen
  have hat : ∀ (i : Nat) (hi : i < cs.length), A.slots[i]? = some (.int cs[i]) := fun i hi => by rw [K5 i (by omega)]; simp [List.getD_eq_getElem?_getD, hi]
  have hcv : ∀ (i : Nat) (hi : i < cs.length), cv A i = cs[i] := fun i hi => by unfold cv; rw [hat i hi]
  have hty : Typed .char A := fun i v hv => by
    have hi : i < A.slots.size := (Array.getElem?_eq_some_iff.mp hv).1
    have q := K5 i hi
    rw [hv] at q
    rw [Option.some.inj q]
    exact K6 i hi
  refine Back.mono (back hZ hw wi E V C K1 hty S hz (by omega) (by omega) (fun i hi => by rw [hcv i (by omega)]; exact hall _ (List.getElem_mem _)) hfr hlo) (fun P a hp => ⟨hp.1, hp.2.1, hp.2.2.1, by rw [e]; exact hp.2.2.2⟩) (fun P a v B hp hq => ?_)
  obtain ⟨L, ⟨q1, q2, q3, q4, q5, q6, q7, ⟨V', v1, v2, v3, v4, v5⟩, q9⟩, hl, hc, hs⟩ := hq
  refine ⟨L, ⟨q1, q2, q3, q4, q5, q6, q7, ⟨V'.cls, v3, V', v1, rfl, by rw [v4, e, hlen], K4, fun i hi => ?_, fun i hi => ?_⟩, q9⟩, hl, hc, by rw [hs, e]⟩
  · have hi' : i < cs.length := by omega
    rw [v5 i (by omega), hcv i hi']; simp [List.getD_eq_getElem?_getD, hi']
  · have hi' : i < cs.length := by omega
    simp only [List.getD_eq_getElem?_getD, List.getElem?_map, List.getElem?_eq_getElem hi', Option.map_some, Option.getD_some]
    exact fits_lo8 _
end StrChars.Road
namespace StrChars.Road
open Jvm Sem ClassFile Op Lib Jvm.Stand Jvm.Free Jvm.Free.XT
/-- WHAT COMES BACK, in the writer's own shape -/
def QV (Z : State) (x : Addr) (N : Int32) (bs : List Int32) (h : Heap) (n0 : Nat) (v : Option Value) (h' : Heap) (L : List Loc) : Prop := v = none ∧ RoadKit.Fr n0 L ∧ RoadKit.Keep h h' [x] ∧ RoadKit.Exa Z h' x ST ∧ RoadKit.Fld Z h' x ST "coder" "B" (.int 0) ∧
  ∃ (t : Addr) (kb : ClassId), n0 ≤ t ∧ h.size ≤ t ∧ ¬ t = x ∧ RoadKit.Fld Z h' x ST "value" "[B" (.ref t) ∧ RoadKit.Arv Z h' t kb .byte N (bs.map Value.int) (.int 0)
/-- **new String(chars) AT A CALL, FOR THE WRITER**: a char[] of n known ints, each 0 to 255 -/
theorem backV {p : Program} {l : Launch} {e : Env} {R : Room} {s : State} {args : Array Value} {below : List Frame} {len W : Nat} {Z : State} {a0 : Array Value} {h : Heap} (hZ : Z.Warmed39 s.vm) (hw : ∀ d ∈ words, d.before a0 Z = true) {kI : Nat} (wi : (Jvm.Cond.instantiable ST kI).before a0 Z = true)
    {x b : Addr} {kC : ClassId} {cs bs : List Int32} {d v0 c0 : Value} {z N : Int32} {n n0 : Nat} (hx0 : n0 ≤ x) (hh0 : n0 ≤ h.size) (E : RoadKit.Exa Z h x ST) (V : RoadKit.Fld Z h x ST "value" "[B" v0) (C : RoadKit.Fld Z h x ST "coder" "B" c0) (K : RoadKit.Arv Z h b kC .char N (cs.map Value.int) d) (S : RoadKit.Sta Z h ST "COMPACT_STRINGS" "Z" (.int z)) (hz : ¬ z = 0)
    (hn : cs.length = n) (hN : N = Int32.ofNat n) (l0 : 0 < n) (l2 : n ≤ 4000) (hp : ∀ c ∈ cs, ¬ c < 0 ∧ ¬ (255 : Int32) < c) (hb : bs = cs.map (fun c => c.toInt8.toInt32)) (hfr : 4 ≤ R.frames) (hlo : W + 65 ≤ R.locals) :
    Back l R p e below s args (⟨"java/lang/String", "<init>", "([C)V"⟩ : MethodName) len W (fun P a => a = #[.ref x, .ref b] ∧ P.U.heap = h ∧ P.cells + 1 ≤ R.cells ∧ P.slots + n ≤ R.slots)
      (fun P _ v B => ∃ L, QV Z x N bs h n0 v B.U.heap L ∧ B.locs = P.locs ++ L ∧ B.cells = P.cells + 1 ∧ B.slots = P.slots + n) := by
  subst hn hN hb
  refine Back.mono (backArv hZ hw wi E V C K S hz (n32 (by omega)) l0 (by omega) (fun c hc => (hp c hc).2) hfr hlo) (fun P a hp => hp) (fun P a v B hp hq => ?_)
  obtain ⟨L, ⟨q1, q2, q3, q4, q5, q6, q7, ⟨kb, v1, v2⟩, q9⟩, hl, hc, hs⟩ := hq
  exact ⟨L, ⟨q1, fun y hy => by rw [q2 y hy]; exact hx0, q3, q5, q7, h.size, kb, hh0, Nat.le_refl _, Nat.ne_of_gt E.lt, q6, by rw [List.map_map]; exact v2⟩, hl, hc, hs⟩
end StrChars.Road
namespace StrChars
open Jvm Sem ClassFile Op Lib Jvm.Stand Jvm.Free.XT Jvm.Free.ALB Jvm.Free.JM Jvm.Free
open Jvm.Lib.Cold (StaticIs)
def hi8 (x : Int32) : Int32 := lo8 (x >>> ((8 : Int32) &&& 31))
/-- what StringUTF16.getChar makes of two bytes -/
def pairCh (u v : Int32) : Int32 := (((u &&& 255) <<< ((0 : Int32) &&& 31)) ||| ((v &&& 255) <<< ((8 : Int32) &&& 31))).toUInt32.toUInt16.toUInt32.toInt32
theorem shr0 (c : Int32) : c >>> ((0 : Int32) &&& 31) = c := by
  have e : ((0 : Int32) &&& 31) = 0 := by decide
  rw [e]
  apply Int32.toBitVec_inj.mp
  rw [Int32.toBitVec_shiftRight]
  have e1 : ((0 : Int32).toBitVec.smod 32) = 0#32 := by decide
  rw [e1, BitVec.sshiftRight_eq']
  exact BitVec.sshiftRight_zero
theorem lo8_and (x : Int32) : (lo8 x &&& 255).toBitVec.toNat = x.toBitVec.toNat % 256 := by
  have h : (lo8 x).toBitVec = (x.toBitVec.signExtend 8).signExtend 32 := by rw [lo8, Int8.toBitVec_toInt32, Int32.toBitVec_toInt8]
  rw [Int32.toBitVec_and, BitVec.toNat_and, h]
  have e : ((x.toBitVec.signExtend 8).signExtend 32).toNat % 256 = x.toBitVec.toNat % 256 := by
    rw [BitVec.toNat_signExtend]
    have hlt := x.toBitVec.isLt
    simp only [BitVec.toNat_setWidth, BitVec.toNat_signExtend]
    split <;> split <;> omega
  rw [← e]
  exact Nat.and_two_pow_sub_one_eq_mod _ 8
theorem pair_says {c : Int32} (h0 : ¬ c < 0) (h1 : ¬ 65535 < c) : pairCh (lo8 c) (hi8 c) = c := by
  rw [Int32.lt_iff_toInt_lt] at h0 h1
  have e0 : (0 : Int32).toInt = 0 := rfl
  have e1 : (65535 : Int32).toInt = 65535 := rfl
  have hc : c.toInt = c.toBitVec.toNat := by
    have := c.toBitVec.isLt
    have e : c.toInt = c.toBitVec.toInt := rfl
    rw [e] at h0 h1
    rw [e]
    rw [BitVec.toInt_eq_toNat_cond] at h0 h1 ⊢
    split at h0 <;> split <;> omega
  have hn : c.toBitVec.toNat < 65536 := by omega
  have a1 := lo8_and c
  have a2 : (hi8 c &&& 255).toBitVec.toNat = c.toBitVec.toNat / 256 := by
    rw [hi8, lo8_and]
    have e : ((8 : Int32) &&& 31) = 8 := by decide
    rw [e, Int32.toBitVec_shiftRight]
    have e2 : ((8 : Int32).toBitVec.smod 32) = 8#32 := by decide
    rw [e2, BitVec.sshiftRight_eq', BitVec.toNat_sshiftRight_of_msb_false (by rw [BitVec.msb_eq_false_iff_two_mul_lt]; omega)]
    show c.toBitVec.toNat >>> 8 % 256 = _
    rw [Nat.shiftRight_eq_div_pow]
    omega
  unfold pairCh
  apply Int32.toBitVec_inj.mp
  apply BitVec.eq_of_toNat_eq
  have f0 : ((0 : Int32) &&& 31) = 0 := by decide
  have f8 : ((8 : Int32) &&& 31) = 8 := by decide
  rw [f0, f8]
  have g : (((lo8 c &&& 255) <<< (0 : Int32)) ||| ((hi8 c &&& 255) <<< (8 : Int32))).toBitVec.toNat = c.toBitVec.toNat := by
    rw [Int32.toBitVec_or, Int32.toBitVec_shiftLeft, Int32.toBitVec_shiftLeft]
    have s0 : ((0 : Int32).toBitVec.smod 32) = 0#32 := by decide
    have s8 : ((8 : Int32).toBitVec.smod 32) = 8#32 := by decide
    rw [s0, s8, BitVec.toNat_or]
    simp only [BitVec.shiftLeft_eq', BitVec.toNat_shiftLeft, a1, a2]
    show (c.toBitVec.toNat % 256) <<< 0 % 2 ^ 32 ||| (c.toBitVec.toNat / 256) <<< 8 % 2 ^ 32 = _
    rw [Nat.shiftLeft_zero, Nat.mod_eq_of_lt (show c.toBitVec.toNat % 256 < 2 ^ 32 by omega), Nat.mod_eq_of_lt (show (c.toBitVec.toNat / 256) <<< 8 < 2 ^ 32 by rw [Nat.shiftLeft_eq]; omega), Nat.or_comm, ← Nat.shiftLeft_add_eq_or_of_lt (by omega), Nat.shiftLeft_eq]
    omega
  show BitVec.toNat (((((lo8 c &&& 255) <<< (0 : Int32)) ||| ((hi8 c &&& 255) <<< (8 : Int32))).toBitVec.setWidth 16).setWidth 32) = _
  rw [BitVec.toNat_setWidth, BitVec.toNat_setWidth, g]
  omega
end StrChars
namespace StrChars
open Jvm Sem ClassFile Op Lib Jvm.Stand Jvm.Free.XT Jvm.Free.ALB Jvm.Free.JM Jvm.Free
open Jvm.Lib.Cold (StaticIs)
theorem shr1 {n : Nat} (h : 2 * n < 2 ^ 31) : Int32.ofNat (2 * n) >>> ((1 : Int32) &&& 31) = Int32.ofNat n := by
  have e : ((1 : Int32) &&& 31) = 1 := by decide
  rw [e]
  apply Int32.toBitVec_inj.mp
  rw [Int32.toBitVec_shiftRight]
  have e1 : ((1 : Int32).toBitVec.smod 32) = 1#32 := by decide
  have hm : (BitVec.ofNat 32 (2 * n)).toNat = 2 * n := by rw [BitVec.toNat_ofNat, Nat.mod_eq_of_lt (by omega)]
  rw [e1, BitVec.sshiftRight_eq']
  apply BitVec.eq_of_toNat_eq
  show ((BitVec.ofNat 32 (2 * n)).sshiftRight 1).toNat = (BitVec.ofNat 32 n).toNat
  rw [BitVec.toNat_sshiftRight_of_msb_false (by rw [BitVec.msb_eq_false_iff_two_mul_lt, hm]; omega), hm, BitVec.toNat_ofNat, Nat.shiftRight_eq_div_pow]
  omega
/-- charAt's cast of a byte read back -/
def chr8 (u : Int32) : Int32 := (u &&& 255).toUInt32.toUInt16.toUInt32.toInt32
theorem chr8_lo8 {c : Int32} (h0 : ¬ c < 0) (h1 : ¬ 255 < c) : chr8 (lo8 c) = c := by
  have t : ∀ k : Fin 256, (Int32.ofNat k.val).toUInt32.toUInt16.toUInt32.toInt32 = Int32.ofNat k.val := by decide +kernel
  unfold chr8
  rw [lo8_mask h0 h1]
  rw [Int32.lt_iff_toInt_lt] at h0 h1
  have e0 : (0 : Int32).toInt = 0 := rfl
  have e1 : (255 : Int32).toInt = 255 := rfl
  obtain ⟨k, hk⟩ : ∃ k : Nat, c.toInt = k := ⟨c.toInt.toNat, by omega⟩
  have hx : c = Int32.ofNat k := Int32.toInt_inj.mp (by rw [hk, Int32.toInt_ofNat_small (by omega)])
  rw [hx]
  exact t ⟨k, by omega⟩
theorem narrow_ch {c : Int32} (h0 : ¬ c < 0) (h1 : ¬ 65535 < c) : narrow .char (.int c) = .int c := by
  have q : narrow .char (.int (pairCh (lo8 c) (hi8 c))) = .int (pairCh (lo8 c) (hi8 c)) := narrow_c _
  rwa [pair_says h0 h1] at q
/-- the array's cell V codes the n chars f 0 .. f (n - 1) by the coder cd, as the JDK does: coder 1 just where some char is above 255 -/
def Cod (cd : Int32) (n : Nat) (f : Nat → Int32) (V : Cell) : Prop := (cd = 0 ∧ V.slots.size = n ∧ ∀ j, j < n → V.slots[j]? = some (.int (lo8 (f j))) ∧ ¬ 255 < f j) ∨ (cd = 1 ∧ V.slots.size = 2 * n ∧ (∀ j, j < n → V.slots[2 * j]? = some (.int (lo8 (f j))) ∧ V.slots[2 * j + 1]? = some (.int (hi8 (f j)))) ∧ ∃ j, j < n ∧ 255 < f j)
theorem Cod.cd {cd : Int32} {n : Nat} {f : Nat → Int32} {V : Cell} (h : Cod cd n f V) : cd = 0 ∨ cd = 1 := h.imp (fun q => q.1) fun q => q.1
theorem Cod.len {cd : Int32} {n : Nat} {f : Nat → Int32} {V : Cell} (h : Cod cd n f V) (hs : V.slots.size < 2 ^ 31) : Int32.ofNat V.slots.size >>> (cd &&& 31) = Int32.ofNat n := by
  rcases h with ⟨rfl, h, -⟩ | ⟨rfl, h, -⟩
  · rw [shr0, h]
  · rw [h, shr1 (by omega)]
/-- **x is a String of the n chars f 0 .. f (n - 1)**, Latin-1 or UTF-16; its array at t has the cell V -/
def Txt (x t : Addr) (V : Cell) (cd : Int32) (n : Nat) (f : Nat → Int32) (U : State) : Prop := Exact "java/lang/String" x U ∧ Has x "java/lang/String" "value" "[B" (.ref t) U ∧ Has x "java/lang/String" "coder" "B" (.int cd) U ∧ XT.Arr .byte t V U ∧ Cod cd n f V ∧ ∀ j, j < n → ¬ f j < 0 ∧ ¬ 65535 < f j
theorem Txt.mv {x t : Addr} {V : Cell} {cd : Int32} {n : Nat} {f : Nat → Int32} {U U' : State} (h : Txt x t V cd n f U) (hal : U.vm.Alike U'.vm) (hh : U'.heap = U.heap) : Txt x t V cd n f U' := ⟨h.1.mv hal hh, h.2.1.mv hal hh, h.2.2.1.mv hal hh, h.2.2.2.1.mv hal hh, h.2.2.2.2⟩
namespace Cdr
def yN : MethodName := ⟨"java/lang/String", "coder", "()B"⟩
abbrev yB : ByteArray := jdk_42_method_152_code
theorem d0 : decode yB 0 = .ok (.getstatic 38, 3) := by decide +kernel
theorem d3 : decode yB 3 = .ok (.ifCond (.eq) 10, 3) := by decide +kernel
theorem d6 : decode yB 6 = .ok (.aload_n 0, 1) := by decide +kernel
theorem d7 : decode yB 7 = .ok (.getfield 15, 3) := by decide +kernel
theorem d10 : decode yB 10 = .ok (.goto 4, 3) := by decide +kernel
theorem d14 : decode yB 14 = .ok (.ireturn, 1) := by decide +kernel
def site : List Cond := [.fieldLink "java/lang/String" 38 "java/lang/String" "COMPACT_STRINGS" "Z", .fieldLink "java/lang/String" 15 "java/lang/String" "coder" "B"]
def tab : Cond := tabOf yN yB 1 (some .byte) site
def P (x : Addr) (cd z : Int32) (args : Array Value) (s : State) : Prop := args = #[.ref x] ∧ Has x "java/lang/String" "coder" "B" (.int cd) s ∧ (cd = 0 ∨ cd = 1) ∧ StaticIs s "java/lang/String" "COMPACT_STRINGS" "Z" (.int z) ∧ ¬ z = 0
def E (cd : Int32) (r : Option Value) (s u : State) : Prop := XT.PureE (some (.int cd)) r s u
theorem law (l : Launch) (x : Addr) (cd z : Int32) : Law l yN 1 0 0 0 yB 1 (some .byte) site (P x cd z) (E cd) [] 0 0 := by
  refine Law.of_walk (plainFor_of_name (by decide +kernel)) (by decide +kernel) (by decide +kernel) (by decide) (fun _ _ h => by rw [h.1]; rfl) (fun _ U U' hal hh h => ⟨h.1, h.2.1.mv hal hh, h.2.2.1, h.2.2.2.1.there hal hh, h.2.2.2.2⟩) (fun r U U' V V' h1 hal h2 h => XT.PureE.mv r U U' V V' h1 hal h2 h) ?_
  intro p e s m args below meth c s₁ X0 hexec hbytes hml hret hlk hnm hown hh0 W hP
  obtain ⟨rfl, hx, hc, s1, hz⟩ := hP
  have c1 : Steps p.tables e below (s₁.setTop (entryFrame m #[.ref x] 1)) (s₁.setTop (mkF m 0 #[.val (.ref x)] [])) := entry rfl
  obtain ⟨T2, X2, q2, st2⟩ := X0.sget hexec hown (wk W (.fieldLink "java/lang/String" 38 "java/lang/String" "COMPACT_STRINGS" "Z")) s1 (fun _ _ h => by rw [hh0]; exact h) (g := (mkF m 0 #[.val (.ref x)] [])) rfl (hb hbytes d0)
  have hh2 := q2.trans hh0
  have c3 : Steps p.tables e below (s₁.setTop (entryFrame m #[.ref x] 1)) (T2.setTop (mkF m 7 #[.val (.ref x)] [.ref x])) := (c1.trans (st2 _ (Steps.refl _))).trans (by
    refine XS.ifNo X2.here hexec rfl (hb hbytes d3) rfl (i0_eq_f hz) ?_
    refine XS.aloadN X2.here hexec rfl (hb hbytes d6) rfl rfl ?_
    exact Steps.refl _)
  obtain ⟨T4, X4, q4, st4⟩ := X2.hget hexec hown (wk W (.fieldLink "java/lang/String" 15 "java/lang/String" "coder" "B")) (hx.mv X2.warmed.alike hh2) (g := (mkF m 7 #[.val (.ref x)] [.ref x])) rfl (rest := []) rfl (hb hbytes d7)
  have c5 : Steps p.tables e below (s₁.setTop (entryFrame m #[.ref x] 1)) (T4.setTop (mkF m 14 #[.val (.ref x)] [.int cd])) := (c3.trans (st4 _ (Steps.refl _))).trans (by
    refine XS.goto X4.here hexec rfl (pc0 := 10) rfl (hb hbytes d10) (by decide) rfl ?_
    exact Steps.refl _)
  exact ⟨T4, some (.int cd), _, _, _, X4, rfl, rfl, rfl, (fun h => by cases h), ⟨rfl, q4.trans hh2⟩, fun fs hl => c5.trans (X4.ireturnOut hexec hret (by rcases hc with rfl | rfl <;> rfl) (Or.inr (Or.inr (Or.inl rfl))) (hb hbytes d14) hl)⟩
end Cdr
namespace Len
def yN : MethodName := ⟨"java/lang/String", "length", "()I"⟩
abbrev yB : ByteArray := jdk_42_method_54_code
theorem d0 : decode yB 0 = .ok (.aload_n 0, 1) := by decide +kernel
theorem d1 : decode yB 1 = .ok (.getfield 9, 3) := by decide +kernel
theorem d4 : decode yB 4 = .ok (.arraylength, 1) := by decide +kernel
theorem d5 : decode yB 5 = .ok (.aload_n 0, 1) := by decide +kernel
theorem d6 : decode yB 6 = .ok (.invokevirtual 335, 3) := by decide +kernel
theorem d9 : decode yB 9 = .ok (.ishr, 1) := by decide +kernel
theorem d10 : decode yB 10 = .ok (.ireturn, 1) := by decide +kernel
def site : List Cond := [.fieldLink "java/lang/String" 9 "java/lang/String" "value" "[B", Cdr.tab] ++ virtW "java/lang/String" 335 "java/lang/String" Cdr.yN Cdr.yN
def tab : Cond := tabOf yN yB 1 (some .int) site
def P (x t : Addr) (V : Cell) (cd : Int32) (n : Nat) (f : Nat → Int32) (z : Int32) (args : Array Value) (s : State) : Prop := args = #[.ref x] ∧ Txt x t V cd n f s ∧ StaticIs s "java/lang/String" "COMPACT_STRINGS" "Z" (.int z) ∧ ¬ z = 0
def E (n : Nat) (r : Option Value) (s u : State) : Prop := XT.PureE (some (.int (Int32.ofNat n))) r s u
/-- length() of a String of n chars, in either coding -/
theorem law (l : Launch) (x t : Addr) (V : Cell) (cd : Int32) (n : Nat) (f : Nat → Int32) (z : Int32) : Law l yN 1 0 1 13 yB 1 (some .int) site (P x t V cd n f z) (E n) [] 0 0 := by
  refine Law.of_walk (plainFor_of_name (by decide +kernel)) (by decide +kernel) (by decide +kernel) (by decide) (fun _ _ h => by rw [h.1]; rfl) (fun _ U U' hal hh h => ⟨h.1, h.2.1.mv hal hh, h.2.2.1.there hal hh, h.2.2.2⟩) (fun r U U' V V' h1 hal h2 h => XT.PureE.mv r U U' V V' h1 hal h2 h) ?_
  intro p e s m args below meth c s₁ X0 hexec hbytes hml hret hlk hnm hown hh0 W hP
  obtain ⟨rfl, hx, s1, hz⟩ := hP
  have v31 := hx.2.2.2.1.2.2.2
  have c1 : Steps p.tables e below (s₁.setTop (entryFrame m #[.ref x] 1)) (s₁.setTop (mkF m 1 #[.val (.ref x)] [.ref x])) := Steps.trans (entry rfl) (by
    show Steps p.tables e below (s₁.setTop (mkF m 0 #[.val (.ref x)] [])) _
    refine XS.aloadN X0.here hexec rfl (hb hbytes d0) rfl rfl ?_
    exact Steps.refl _)
  obtain ⟨T2, X2, q2, st2⟩ := X0.hget hexec hown (wk W (.fieldLink "java/lang/String" 9 "java/lang/String" "value" "[B")) (hx.mv X0.warmed.alike hh0).2.1 (g := (mkF m 1 #[.val (.ref x)] [.ref x])) rfl (rest := []) rfl (hb hbytes d1)
  have hh2 := q2.trans hh0
  have hx2 := hx.mv X2.warmed.alike hh2
  have c3 : Steps p.tables e below (s₁.setTop (entryFrame m #[.ref x] 1)) (T2.setTop (mkF m 6 #[.val (.ref x)] [.ref x, .int (Int32.ofNat V.slots.size)])) := (c1.trans (st2 _ (Steps.refl _))).trans (by
    refine X2.alen hexec hx2.2.2.2.1 rfl rfl (hb hbytes d4) ?_
    refine XS.aloadN X2.here hexec rfl (hb hbytes d5) rfl rfl ?_
    exact Steps.refl _)
  obtain ⟨v4, T4, X4, E4, g4⟩ := X2.callV hexec (Cdr.law l x cd z) hown (wks W (virtW "java/lang/String" 335 "java/lang/String" Cdr.yN Cdr.yN)) rfl (by decide) (wk W Cdr.tab) (W := 1) (Nat.le_of_ble_eq_true rfl) (Nat.le_of_ble_eq_true rfl) (Nat.le_refl _) (Nat.le_refl _) (hx2.1.fc X2.warmed.alike) hx2.1.is (g := (mkF m 6 #[.val (.ref x)] [.ref x, .int (Int32.ofNat V.slots.size)])) rfl (by rw [hml]; rfl) c3 (argsL := []) (rest := [.int (Int32.ofNat V.slots.size)]) rfl rfl (by show 2 * 0 + (1 + 0) ≤ _; decide) (hb hbytes d6) (⟨rfl, hx2.2.2.1, hx.2.2.2.2.1.cd, s1.there X2.warmed.alike hh2, hz⟩)
  obtain ⟨rfl, q4⟩ := E4
  have c5 : Steps p.tables e below (s₁.setTop (entryFrame m #[.ref x] 1)) (T4.setTop (mkF m 10 #[.val (.ref x)] [.int (Int32.ofNat V.slots.size >>> (cd &&& 31))])) := Steps.trans g4 (by
    refine ishr X4.here hexec rfl (hb hbytes d9) rfl ?_
    exact Steps.refl _)
  rw [hx.2.2.2.2.1.len v31] at c5
  exact ⟨T4, some (.int (Int32.ofNat n)), _, _, _, X4, rfl, rfl, rfl, (fun h => by cases h), ⟨rfl, q4.trans hh2⟩, fun fs hl => c5.trans (X4.ireturnOut hexec hret rfl (Or.inl rfl) (hb hbytes d10) hl)⟩
theorem pays {l : Launch} {R : Room} {p : Program} {e : Env} {below : List Frame} {s : State} {sargs : Array Value} {len W : Nat} (x t : Addr) (V : Cell) (cd : Int32) (n : Nat) (f : Nat → Int32) (z : Int32) (htab : tab.before sargs s = true) (hfr : 2 ≤ R.frames) (hlo : W + 25 ≤ R.locals) :
    Back l R p e below s sargs yN len W (fun A₁ a₁ => A₁.cells + 0 ≤ R.cells ∧ A₁.slots + 0 ≤ R.slots ∧ P x t V cd n f z a₁ A₁.U) (fun A₁ _ v₁ B₁ => E n v₁ A₁.U B₁.U ∧ B₁.locs = A₁.locs ++ [] ∧ B₁.cells = A₁.cells + 0 ∧ B₁.slots = A₁.slots + 0) :=
  (law l x t V cd n f z).pays htab hfr (by omega)
end Len
namespace IsL
def yN : MethodName := ⟨"java/lang/String", "isLatin1", "()Z"⟩
abbrev yB : ByteArray := jdk_42_method_154_code
theorem d0 : decode yB 0 = .ok (.getstatic 38, 3) := by decide +kernel
theorem d3 : decode yB 3 = .ok (.ifCond (.eq) 14, 3) := by decide +kernel
theorem d6 : decode yB 6 = .ok (.aload_n 0, 1) := by decide +kernel
theorem d7 : decode yB 7 = .ok (.getfield 15, 3) := by decide +kernel
theorem d10 : decode yB 10 = .ok (.ifCond (.ne) 7, 3) := by decide +kernel
theorem d13 : decode yB 13 = .ok (.iconst 1, 1) := by decide +kernel
theorem d14 : decode yB 14 = .ok (.goto 4, 3) := by decide +kernel
theorem d17 : decode yB 17 = .ok (.iconst 0, 1) := by decide +kernel
theorem d18 : decode yB 18 = .ok (.ireturn, 1) := by decide +kernel
def site : List Cond := [.fieldLink "java/lang/String" 38 "java/lang/String" "COMPACT_STRINGS" "Z", .fieldLink "java/lang/String" 15 "java/lang/String" "coder" "B"]
def tab : Cond := tabOf yN yB 1 (some .boolean) site
def P (x : Addr) (cd z : Int32) (args : Array Value) (s : State) : Prop := args = #[.ref x] ∧ Has x "java/lang/String" "coder" "B" (.int cd) s ∧ (cd = 0 ∨ cd = 1) ∧ StaticIs s "java/lang/String" "COMPACT_STRINGS" "Z" (.int z) ∧ ¬ z = 0
def E (cd : Int32) (r : Option Value) (s u : State) : Prop := XT.PureE (some (.int (1 - cd))) r s u
theorem law (l : Launch) (x : Addr) (cd z : Int32) : Law l yN 1 0 0 0 yB 1 (some .boolean) site (P x cd z) (E cd) [] 0 0 := by
  refine Law.of_walk (plainFor_of_name (by decide +kernel)) (by decide +kernel) (by decide +kernel) (by decide) (fun _ _ h => by rw [h.1]; rfl) (fun _ U U' hal hh h => ⟨h.1, h.2.1.mv hal hh, h.2.2.1, h.2.2.2.1.there hal hh, h.2.2.2.2⟩) (fun r U U' V V' h1 hal h2 h => XT.PureE.mv r U U' V V' h1 hal h2 h) ?_
  intro p e s m args below meth c s₁ X0 hexec hbytes hml hret hlk hnm hown hh0 W hP
  obtain ⟨rfl, hx, hc, s1, hz⟩ := hP
  have c1 : Steps p.tables e below (s₁.setTop (entryFrame m #[.ref x] 1)) (s₁.setTop (mkF m 0 #[.val (.ref x)] [])) := entry rfl
  obtain ⟨T2, X2, q2, st2⟩ := X0.sget hexec hown (wk W (.fieldLink "java/lang/String" 38 "java/lang/String" "COMPACT_STRINGS" "Z")) s1 (fun _ _ h => by rw [hh0]; exact h) (g := (mkF m 0 #[.val (.ref x)] [])) rfl (hb hbytes d0)
  have hh2 := q2.trans hh0
  have c3 : Steps p.tables e below (s₁.setTop (entryFrame m #[.ref x] 1)) (T2.setTop (mkF m 7 #[.val (.ref x)] [.ref x])) := (c1.trans (st2 _ (Steps.refl _))).trans (by
    refine XS.ifNo X2.here hexec rfl (hb hbytes d3) rfl (i0_eq_f hz) ?_
    refine XS.aloadN X2.here hexec rfl (hb hbytes d6) rfl rfl ?_
    exact Steps.refl _)
  obtain ⟨T4, X4, q4, st4⟩ := X2.hget hexec hown (wk W (.fieldLink "java/lang/String" 15 "java/lang/String" "coder" "B")) (hx.mv X2.warmed.alike hh2) (g := (mkF m 7 #[.val (.ref x)] [.ref x])) rfl (rest := []) rfl (hb hbytes d7)
  have c5 : Steps p.tables e below (s₁.setTop (entryFrame m #[.ref x] 1)) (T4.setTop (mkF m 10 #[.val (.ref x)] [.int cd])) := c3.trans (st4 _ (Steps.refl _))
  have c6 : Steps p.tables e below (s₁.setTop (entryFrame m #[.ref x] 1)) (T4.setTop (mkF m 18 #[.val (.ref x)] [.int (1 - cd)])) := by
    rcases hc with rfl | rfl
    · exact c5.trans (by
        refine XS.ifNo X4.here hexec rfl (hb hbytes d10) rfl (i0_ne_f rfl) ?_
        refine iconstV X4.here hexec rfl 1 (hb hbytes d13) (by decide) ?_
        refine XS.goto X4.here hexec rfl (pc0 := 14) rfl (hb hbytes d14) (by decide) rfl ?_
        exact Steps.refl _)
    · exact c5.trans (by
        refine XS.ifYes X4.here hexec rfl (pc0 := 10) rfl (hb hbytes d10) rfl (i0_ne_t (by decide)) (by decide) rfl ?_
        refine iconstV X4.here hexec rfl 0 (hb hbytes d17) (by decide) ?_
        exact Steps.refl _)
  exact ⟨T4, some (.int (1 - cd)), _, _, _, X4, rfl, rfl, rfl, (fun h => by cases h), ⟨rfl, q4.trans hh2⟩, fun fs hl => c6.trans (X4.ireturnOut hexec hret (by rcases hc with rfl | rfl <;> rfl) (Or.inr (Or.inl rfl)) (hb hbytes d18) hl)⟩
end IsL
namespace LChA
def yN : MethodName := ⟨"java/lang/StringLatin1", "charAt", "([BI)C"⟩
abbrev yB : ByteArray := jdk_43_method_2_code
theorem d0 : decode yB 0 = .ok (.iload_n 1, 1) := by decide +kernel
theorem d1 : decode yB 1 = .ok (.aload_n 0, 1) := by decide +kernel
theorem d2 : decode yB 2 = .ok (.arraylength, 1) := by decide +kernel
theorem d3 : decode yB 3 = .ok (.invokestatic 9, 3) := by decide +kernel
theorem d6 : decode yB 6 = .ok (.aload_n 0, 1) := by decide +kernel
theorem d7 : decode yB 7 = .ok (.iload_n 1, 1) := by decide +kernel
theorem d8 : decode yB 8 = .ok (.baload, 1) := by decide +kernel
theorem d9 : decode yB 9 = .ok (.sipush 255, 3) := by decide +kernel
theorem d12 : decode yB 12 = .ok (.iand, 1) := by decide +kernel
theorem d13 : decode yB 13 = .ok (.i2c, 1) := by decide +kernel
theorem d14 : decode yB 14 = .ok (.ireturn, 1) := by decide +kernel
def site : List Cond := [JO.Str_checkIndex.tab] ++ staticW "java/lang/StringLatin1" 9 JO.Str_checkIndex.yN
def tab : Cond := tabOf yN yB 2 (some .char) site
def P (t : Addr) (V : Cell) (i : Nat) (u : Int32) (fm : Value) (args : Array Value) (s : State) : Prop := args = #[.ref t, .int (Int32.ofNat i)] ∧ XT.Arr .byte t V s ∧ V.slots[i]? = some (.int u) ∧ (StaticIs s "jdk/internal/util/Preconditions" "SIOOBE_FORMATTER" "Ljava/util/function/BiFunction;" fm ∧ fm.isRef = true)
def E (u : Int32) (r : Option Value) (s w : State) : Prop := XT.PureE (some (.int (chr8 u))) r s w
theorem law (l : Launch) (t : Addr) (V : Cell) (i : Nat) (u : Int32) (fm : Value) : Law l yN 2 2 2 27 yB 2 (some .char) site (P t V i u fm) (E u) [] 0 0 := by
  refine Law.of_walk (plainFor_of_name (by decide +kernel)) (by decide +kernel) (by decide +kernel) (by decide) (fun _ _ h => by rw [h.1]; rfl) (fun _ U U' hal hh h => ⟨h.1, h.2.1.mv hal hh, h.2.2.1, h.2.2.2.1.there hal hh, h.2.2.2.2⟩) (fun r U U' V V' h1 hal h2 h => XT.PureE.mv r U U' V V' h1 hal h2 h) ?_
  intro p e s m args below meth c s₁ X0 hexec hbytes hml hret hlk hnm hown hh0 W hP
  obtain ⟨rfl, hV, hu, s1, rf⟩ := hP
  have v31 := hV.2.2.2
  have hi : i < V.slots.size := (Array.getElem?_eq_some_iff.mp hu).1
  have c1 : Steps p.tables e below (s₁.setTop (entryFrame m #[.ref t, .int (Int32.ofNat i)] 2)) (s₁.setTop (mkF m 0 #[.val (.ref t), .val (.int (Int32.ofNat i))] [])) := entry rfl
  have c2 : Steps p.tables e below (s₁.setTop (entryFrame m #[.ref t, .int (Int32.ofNat i)] 2)) (s₁.setTop (mkF m 3 #[.val (.ref t), .val (.int (Int32.ofNat i))] [.int (Int32.ofNat V.slots.size), .int (Int32.ofNat i)])) := c1.trans (by
    refine XS.iloadN X0.here hexec rfl (hb hbytes d0) rfl ?_
    refine XS.aloadN X0.here hexec rfl (hb hbytes d1) rfl rfl ?_
    refine X0.alen hexec (hV.mv X0.warmed.alike hh0) rfl rfl (hb hbytes d2) ?_
    exact Steps.refl _)
  obtain ⟨v3, T3, X3, E3, g3⟩ := X0.callS hexec (JO.Str_checkIndex.law l (Int32.ofNat i) (Int32.ofNat V.slots.size) fm) hown (wks W (staticW "java/lang/StringLatin1" 9 JO.Str_checkIndex.yN)) (wk W JO.Str_checkIndex.tab) (W := 0) (Nat.le_of_ble_eq_true rfl) (Nat.le_of_ble_eq_true rfl) (Nat.le_refl _) (Nat.le_refl _) (g := (mkF m 3 #[.val (.ref t), .val (.int (Int32.ofNat i))] [.int (Int32.ofNat V.slots.size), .int (Int32.ofNat i)])) rfl (by rw [hml]; rfl) c2 (argsL := [.int (Int32.ofNat i), .int (Int32.ofNat V.slots.size)]) (rest := []) rfl rfl (by show 2 * 0 + 0 ≤ _; decide) (hb hbytes d3) (⟨rfl, rf, s1.there X0.warmed.alike hh0, Int32.ofNat_not_neg (by omega), lt32 v31 hi⟩)
  obtain ⟨rfl, q3⟩ := E3
  have hh3 := q3.trans hh0
  have c4 : Steps p.tables e below (s₁.setTop (entryFrame m #[.ref t, .int (Int32.ofNat i)] 2)) (T3.setTop (mkF m 14 #[.val (.ref t), .val (.int (Int32.ofNat i))] [.int (chr8 u)])) := Steps.trans g3 (by
    refine XS.aloadN X3.here hexec rfl (hb hbytes d6) rfl rfl ?_
    refine XS.iloadN X3.here hexec rfl (hb hbytes d7) rfl ?_
    refine X3.aget hexec (hV.mv X3.warmed.alike hh3) rfl hu rfl rfl (hb hbytes d8) ?_
    refine sipushV X3.here hexec rfl 255 (hb hbytes d9) (by decide) ?_
    refine XS.iand X3.here hexec rfl (hb hbytes d12) rfl ?_
    refine i2c X3.here hexec rfl (hb hbytes d13) rfl ?_
    exact Steps.refl _)
  exact ⟨T3, some (.int (chr8 u)), _, _, _, X3, rfl, rfl, rfl, (fun h => by cases h), ⟨rfl, hh3⟩, fun fs hl => c4.trans (X3.ireturnOut hexec hret (narrow_c _) (Or.inr (Or.inr (Or.inr (Or.inl rfl)))) (hb hbytes d14) hl)⟩
end LChA
end StrChars
namespace StrChars.Road
open Jvm Sem ClassFile Op Lib Jvm.Stand Jvm.Free Jvm.Free.XT
open Jvm.Lib.Cold (StaticIs)
theorem consq {a : Array Value} {s : State} {c : Jvm.Cond} {L : List Jvm.Cond} (h0 : c.before a s = true) (h : ∀ w ∈ L, w.before a s = true) : ∀ w ∈ c :: L, w.before a s = true := fun w hw => (List.mem_cons.mp hw).elim (fun e => e ▸ h0) (h w)
/-- the words of String.length(), either coding -/
abbrev wordsLen : List Jvm.Cond := [.code Len.yN Len.yB 1 (some .int), .initialized ST, .fieldLink ST 9 ST "value" "[B", .fieldLink ST 38 ST "COMPACT_STRINGS" "Z", .fieldLink ST 15 ST "coder" "B", .code Cdr.yN Cdr.yB 1 (some .byte), .methodLink ST 335 Cdr.yN, .declares Cdr.yN, .selects ST Cdr.yN Cdr.yN, .instanceMethod Cdr.yN]
theorem tabLen_of {a : Array Value} {s : State} (h : ∀ w ∈ wordsLen, w.before a s = true) : Len.tab.before a s = true := by
  have hc : Cdr.tab.before a s = true := unparts (wk h (.code Cdr.yN Cdr.yB 1 (some .byte))) (wks h (.initialized Cdr.yN.cls :: Cdr.site))
  have q := consq hc h
  exact unparts (wk q (.code Len.yN Len.yB 1 (some .int))) (wks q (.initialized Len.yN.cls :: Len.site))
theorem movedLen {Z s : State} {a0 args : Array Value} (hZ : Z.Warmed39 s.vm) (hw : ∀ d ∈ wordsLen, d.before a0 Z = true) : ∀ d ∈ wordsLen, d.before args s = true := fun d hd => by
  have q := hw d hd
  have t : ∀ d ∈ wordsLen, d = .arrayClass .byte ∨ (d.onTables && d.keepsFace) = true := by decide +kernel
  rcases t d hd with rfl | t
  · exact RoadKit.mvA hZ q
  · exact RoadKit.mv hZ q t
/-- the bytes of the chars cs, low before high -/
def wideBytes : List Int32 → List Value
  | [] => []
  | c :: cs => .int (lo8 c) :: .int (hi8 c) :: wideBytes cs
theorem wide_lo (d : Value) : ∀ (cs : List Int32) (j : Nat), j < cs.length → (wideBytes cs).getD (2 * j) d = .int (lo8 (cs.getD j 0))
  | [], j, h => absurd h (Nat.not_lt_zero j)
  | c :: cs, 0, _ => rfl
  | c :: cs, j + 1, h => by
    have q := wide_lo d cs j (by simpa using h)
    rw [show 2 * (j + 1) = 2 * j + 1 + 1 from by omega]
    simpa [wideBytes] using q
theorem wide_hi (d : Value) : ∀ (cs : List Int32) (j : Nat), j < cs.length → (wideBytes cs).getD (2 * j + 1) d = .int (hi8 (cs.getD j 0))
  | [], j, h => absurd h (Nat.not_lt_zero j)
  | c :: cs, 0, _ => rfl
  | c :: cs, j + 1, h => by
    have q := wide_hi d cs j (by simpa using h)
    rw [show 2 * (j + 1) + 1 = 2 * j + 1 + 1 + 1 from by omega]
    simpa [wideBytes] using q
theorem low_at (d : Value) (cs : List Int32) (j : Nat) (h : j < cs.length) : (cs.map fun c => Value.int (lo8 c)).getD j d = .int (lo8 (cs.getD j 0)) := by
  simp [List.getD_eq_getElem?_getD, h]
/-- an array of N2 bytes vs codes the chars cs by the coder cd -/
def CodA (cs : List Int32) (cd N2 : Int32) (vs : List Value) : Prop := (cd = 0 ∧ N2 = Int32.ofNat cs.length ∧ vs = (cs.map fun c => Value.int (lo8 c)) ∧ ∀ c ∈ cs, ¬ 255 < c) ∨ (cd = 1 ∧ N2 = Int32.ofNat (2 * cs.length) ∧ vs = wideBytes cs ∧ ∃ c ∈ cs, 255 < c)
theorem CodA.cod {cs : List Int32} {cd N2 : Int32} {vs : List Value} {V : Cell} (h : CodA cs cd N2 vs) (hn : 2 * cs.length < 2 ^ 31) (hs : V.slots.size = N2.toNatClampNeg) (hv : RoadKit.Has V vs (.int 0)) : Cod cd cs.length (fun j => cs.getD j 0) V := by
  rcases h with ⟨rfl, rfl, rfl, h⟩ | ⟨rfl, rfl, rfl, c, hc, hw⟩
  · rw [n32 (by omega)] at hs
    exact Or.inl ⟨rfl, hs, fun j hj => ⟨by rw [hv j (by omega), low_at _ _ _ hj], by
      have e : cs.getD j 0 = cs[j] := by simp [List.getD_eq_getElem?_getD, hj]
      show ¬ 255 < cs.getD j 0
      rw [e]; exact h _ (List.getElem_mem _)⟩⟩
  · rw [n32 (by omega)] at hs
    obtain ⟨j, hj, rfl⟩ := List.getElem_of_mem hc
    exact Or.inr ⟨rfl, hs, fun j hj => ⟨by rw [hv _ (by omega), wide_lo _ _ _ hj], by rw [hv _ (by omega), wide_hi _ _ _ hj]⟩, j, hj, by
      have e : cs.getD j 0 = cs[j] := by simp [List.getD_eq_getElem?_getD, hj]
      show 255 < cs.getD j 0
      rw [e]; exact hw⟩
/-- an object of exactly java/lang/String, its two fields found: as the laws ask it -/
theorem strObj {Z U : State} {a0 : Array Value} {kI : Nat} (wi : (Jvm.Cond.instantiable ST kI).before a0 Z = true) (al : Z.vm.Alike U.vm) {x : Addr} {v0 c0 : Value} (E : RoadKit.Exa Z U.heap x ST) (V : RoadKit.Fld Z U.heap x ST "value" "[B" v0) (C : RoadKit.Fld Z U.heap x ST "coder" "B" c0) :
    ∃ (D : Cell) (fV fC : Field), Blank ST x D U ∧ Found ST "value" "[B" fV U ∧ Found ST "coder" "B" fC U ∧ D.slots[fV.slot]? = some v0 ∧ D.slots[fC.slot]? = some c0 ∧ RoadKit.slotOf Z ST "value" "[B" = fV.slot ∧ RoadKit.slotOf Z ST "coder" "B" = fC.slot := by
  obtain ⟨D, cfV, kV, iV, fV, hD, gV, stV, knV, obV, asV, slV⟩ := V
  obtain ⟨D', cfC, kC, iC, fC, hD', gC, stC, -, -, asC, slC⟩ := C
  cases hD.symm.trans hD'
  obtain ⟨D2, kD, e1, e2, e3, e4, e5⟩ := E
  cases hD.symm.trans e1
  obtain ⟨c2, k2, i1, i2, i3, -⟩ := Cond.instantiable_spec wi
  cases e2.symm.trans i1
  cases e3.symm.trans i2
  obtain ⟨kU, u1, u2⟩ := al.2.2 _ _ e3
  exact ⟨D, fV, fC, ⟨hD, ⟨knV, fun q hq => by rw [hq] at obV; cases obV⟩, by rw [al.findClass]; exact e2, kU, u1, by rw [u2]; exact i3, by rw [u2]; exact e5 i3⟩, ⟨SBG.found_only al ⟨cfV, kV, iV, gV⟩, stV⟩, ⟨SBG.found_only al ⟨cfC, kC, iC, gC⟩, stC⟩, slV, slC, by simp [RoadKit.slotOf, gV], by simp [RoadKit.slotOf, gC]⟩
theorem sta_is {Z U : State} (al : Z.vm.Alike U.vm) {C n d : String} {v : Value} (S : RoadKit.Sta Z U.heap C n d v) : StaticIs U C n d v := by
  obtain ⟨cfS, iS, kS, fS, st, cS, t1, t2, t3, t4, t5, t6, t7⟩ := S
  exact StaticIs.there (s := { Z with heap := U.heap }) ⟨cfS, iS, kS, fS, st, cS, t1, t2, t3, t4, t5, (fun q => by rw [q] at t6; cases t6), t7⟩ al rfl
/-- **length() OF SUCH A STRING** -/
theorem lenW {p : Program} {l : Launch} {e : Env} {R : Room} {s : State} {args : Array Value} {below : List Frame} {len W : Nat} {Z : State} {a0 : Array Value} {h : Heap} (hZ : Z.Warmed39 s.vm) (hw : ∀ d ∈ wordsLen, d.before a0 Z = true) {kI : Nat} (wi : (Jvm.Cond.instantiable ST kI).before a0 Z = true)
    {x t : Addr} {kb : ClassId} {cs : List Int32} {cd N2 z : Int32} {vs : List Value} (E : RoadKit.Exa Z h x ST) (V : RoadKit.Fld Z h x ST "value" "[B" (.ref t)) (C : RoadKit.Fld Z h x ST "coder" "B" (.int cd)) (K : RoadKit.Arv Z h t kb .byte N2 vs (.int 0)) (hc : CodA cs cd N2 vs) (hb : ∀ c ∈ cs, ¬ c < 0 ∧ ¬ (65535 : Int32) < c)
    (S : RoadKit.Sta Z h ST "COMPACT_STRINGS" "Z" (.int z)) (hz : ¬ z = 0) (l2 : cs.length ≤ 4000) (hfr : 2 ≤ R.frames) (hlo : W + 25 ≤ R.locals) :
    Back l R p e below s args (⟨"java/lang/String", "length", "()I"⟩ : MethodName) len W (fun P a => a = #[.ref x] ∧ P.U.heap = h ∧ P.cells + 0 ≤ R.cells ∧ P.slots + 0 ≤ R.slots)
      (fun P _ v B => ∃ L, (v = some (.int (Int32.ofNat cs.length)) ∧ L = [] ∧ B.U.heap = h) ∧ B.locs = P.locs ++ L ∧ B.cells = P.cells + 0 ∧ B.slots = P.slots + 0) := by
  obtain ⟨A, K1, K2, K3, K4, K5, K6⟩ := K
  have hcod := hc.cod (by omega) K3 K5
  intro m meth c P g ig mk a X hg hsize hdg hW hn hp'
  obtain ⟨rfl, rfl, r1, r2⟩ := hp'
  have al : Z.vm.Alike P.U.vm := hZ.alike.trans X.warmed.alike
  obtain ⟨D, fV, fC, hB, F1, F2, g1, g2, -, -⟩ := strObj wi al E V C
  have hx : Txt x t A cd cs.length (fun j => cs.getD j 0) P.U := ⟨⟨_, hB.2.2.1, D, hB.1, rfl, by cases q : D.vm <;> first | rfl | exact absurd q (hB.2.1.2 _)⟩, Has.of hB F1 g1, Has.of hB F2 g2, ⟨K1.1, State.isArrayOf_alike al K1.2.1, K1.2.2, by rcases hcod with ⟨-, q, -⟩ | ⟨-, q, -⟩ <;> omega⟩, hcod, fun j hj => by
    have e : cs.getD j 0 = cs[j] := by simp [List.getD_eq_getElem?_getD, hj]
    show ¬ cs.getD j 0 < 0 ∧ ¬ 65535 < cs.getD j 0
    rw [e]; exact hb _ (List.getElem_mem _)⟩
  obtain ⟨v, B, X', ⟨⟨hv, hh⟩, hl, hk, hs⟩, st⟩ := Len.pays x t A cd cs.length (fun j => cs.getD j 0) z (tabLen_of (movedLen hZ hw)) hfr hlo m meth c P g ig mk _ X hg hsize hdg hW hn ⟨r1, r2, rfl, hx, sta_is al S, hz⟩
  exact ⟨v, B, X', ⟨[], ⟨hv, rfl, hh⟩, hl, hk, hs⟩, st⟩
end StrChars.Road
namespace StrChars.Road
open Jvm Sem ClassFile Op Lib Jvm.Stand Jvm.Free Jvm.Free.XT
open Jvm.Lib.Cold (StaticIs)
/-- the road's facts of a String, as the laws ask it -/
theorem txt_of {Z U : State} {a0 : Array Value} {kI : Nat} (wi : (Jvm.Cond.instantiable ST kI).before a0 Z = true) (al : Z.vm.Alike U.vm) {x t : Addr} {kb : ClassId} {cs : List Int32} {cd N2 : Int32} {vs : List Value} (E : RoadKit.Exa Z U.heap x ST) (V : RoadKit.Fld Z U.heap x ST "value" "[B" (.ref t)) (C : RoadKit.Fld Z U.heap x ST "coder" "B" (.int cd)) (K : RoadKit.Arv Z U.heap t kb .byte N2 vs (.int 0)) (hc : CodA cs cd N2 vs) (hb : ∀ c ∈ cs, ¬ c < 0 ∧ ¬ (65535 : Int32) < c) (l2 : cs.length ≤ 4000) :
    ∃ A, Txt x t A cd cs.length (fun j => cs.getD j 0) U := by
  obtain ⟨A, K1, K2, K3, K4, K5, K6⟩ := K
  have hcod := hc.cod (by omega) K3 K5
  obtain ⟨D, fV, fC, hB, F1, F2, g1, g2, -, -⟩ := strObj wi al E V C
  exact ⟨A, ⟨_, hB.2.2.1, D, hB.1, rfl, by cases q : D.vm <;> first | rfl | exact absurd q (hB.2.1.2 _)⟩, Has.of hB F1 g1, Has.of hB F2 g2, ⟨K1.1, State.isArrayOf_alike al K1.2.1, K1.2.2, by rcases hcod with ⟨-, q, -⟩ | ⟨-, q, -⟩ <;> omega⟩, hcod, fun j hj => by
    have e : cs.getD j 0 = cs[j] := by simp [List.getD_eq_getElem?_getD, hj]
    show ¬ cs.getD j 0 < 0 ∧ ¬ 65535 < cs.getD j 0
    rw [e]; exact hb _ (List.getElem_mem _)⟩
end StrChars.Road
namespace StrChars
open Jvm Sem ClassFile Op Lib Jvm.Stand Jvm.Free.XT Jvm.Free.ALB Jvm.Free.JM Jvm.Free
open Jvm.Lib.Cold (StaticIs)
namespace ChN
def yN : MethodName := ⟨"java/lang/String", "charAt", "(I)C"⟩
abbrev yB : ByteArray := jdk_42_method_56_code
theorem d0 : decode yB 0 = .ok (.aload_n 0, 1) := by decide +kernel
theorem d1 : decode yB 1 = .ok (.invokevirtual 492, 3) := by decide +kernel
theorem d4 : decode yB 4 = .ok (.ifCond (.eq) 12, 3) := by decide +kernel
theorem d7 : decode yB 7 = .ok (.aload_n 0, 1) := by decide +kernel
theorem d8 : decode yB 8 = .ok (.getfield 9, 3) := by decide +kernel
theorem d11 : decode yB 11 = .ok (.iload_n 1, 1) := by decide +kernel
theorem d12 : decode yB 12 = .ok (.invokestatic 495, 3) := by decide +kernel
theorem d15 : decode yB 15 = .ok (.ireturn, 1) := by decide +kernel
def site : List Cond := [.fieldLink "java/lang/String" 9 "java/lang/String" "value" "[B", IsL.tab, LChA.tab] ++ virtW "java/lang/String" 492 "java/lang/String" IsL.yN IsL.yN ++ staticW "java/lang/String" 495 LChA.yN
def tab : Cond := tabOf yN yB 2 (some .char) site
def P (x t : Addr) (V : Cell) (n : Nat) (f : Nat → Int32) (z : Int32) (fm : Value) (i : Nat) (args : Array Value) (s : State) : Prop := args = #[.ref x, .int (Int32.ofNat i)] ∧ Txt x t V 0 n f s ∧ i < n ∧ StaticIs s "java/lang/String" "COMPACT_STRINGS" "Z" (.int z) ∧ ¬ z = 0 ∧ StaticIs s "jdk/internal/util/Preconditions" "SIOOBE_FORMATTER" "Ljava/util/function/BiFunction;" fm ∧ fm.isRef = true
def E (f : Nat → Int32) (i : Nat) (r : Option Value) (s u : State) : Prop := XT.PureE (some (.int (f i))) r s u
/-- charAt(i) of a Latin-1 String of n chars, i < n: f i -/
theorem law (l : Launch) (x t : Addr) (V : Cell) (n : Nat) (f : Nat → Int32) (z : Int32) (fm : Value) (i : Nat) : Law l yN 2 1 3 40 yB 2 (some .char) site (P x t V n f z fm i) (E f i) [] 0 0 := by
  refine Law.of_walk (plainFor_of_name (by decide +kernel)) (by decide +kernel) (by decide +kernel) (by decide) (fun _ _ h => by rw [h.1]; rfl) (fun _ U U' hal hh h => ⟨h.1, h.2.1.mv hal hh, h.2.2.1, h.2.2.2.1.there hal hh, h.2.2.2.2.1, h.2.2.2.2.2.1.there hal hh, h.2.2.2.2.2.2⟩) (fun r U U' V V' h1 hal h2 h => XT.PureE.mv r U U' V V' h1 hal h2 h) ?_
  intro p e s m args below meth c s₁ X0 hexec hbytes hml hret hlk hnm hown hh0 W hP
  obtain ⟨rfl, hx, hi, s1, hz, s3, rf⟩ := hP
  have v31 := hx.2.2.2.1.2.2.2
  have hr := hx.2.2.2.2.2 i hi
  have hx0 := hx.mv X0.warmed.alike hh0
  have c1 : Steps p.tables e below (s₁.setTop (entryFrame m #[.ref x, .int (Int32.ofNat i)] 2)) (s₁.setTop (mkF m 1 #[.val (.ref x), .val (.int (Int32.ofNat i))] [.ref x])) := Steps.trans (entry rfl) (by
    show Steps p.tables e below (s₁.setTop (mkF m 0 #[.val (.ref x), .val (.int (Int32.ofNat i))] [])) _
    refine XS.aloadN X0.here hexec rfl (hb hbytes d0) rfl rfl ?_
    exact Steps.refl _)
  obtain ⟨v2, T2, X2, E2, g2⟩ := X0.callV hexec (IsL.law l x 0 z) hown (wks W (virtW "java/lang/String" 492 "java/lang/String" IsL.yN IsL.yN)) rfl (by decide) (wk W IsL.tab) (W := 0) (Nat.le_of_ble_eq_true rfl) (Nat.le_of_ble_eq_true rfl) (Nat.le_refl _) (Nat.le_refl _) (hx0.1.fc X0.warmed.alike) hx0.1.is (g := (mkF m 1 #[.val (.ref x), .val (.int (Int32.ofNat i))] [.ref x])) rfl (by rw [hml]; rfl) c1 (argsL := []) (rest := []) rfl rfl (by show 2 * 0 + 0 ≤ _; decide) (hb hbytes d1) (⟨rfl, hx0.2.2.1, hx.2.2.2.2.1.cd, s1.there X0.warmed.alike hh0, hz⟩)
  obtain ⟨rfl, q2⟩ := E2
  have hh2 := q2.trans hh0
  have hx2 := hx.mv X2.warmed.alike hh2
  obtain ⟨-, k1, k2⟩ | ⟨k0, -⟩ := hx.2.2.2.2.1
  · have c3 : Steps p.tables e below (s₁.setTop (entryFrame m #[.ref x, .int (Int32.ofNat i)] 2)) (T2.setTop (mkF m 8 #[.val (.ref x), .val (.int (Int32.ofNat i))] [.ref x])) := Steps.trans g2 (by
      refine XS.ifNo X2.here hexec rfl (hb hbytes d4) rfl (i0_eq_f (by decide)) ?_
      refine XS.aloadN X2.here hexec rfl (hb hbytes d7) rfl rfl ?_
      exact Steps.refl _)
    obtain ⟨T4, X4, q4, st4⟩ := X2.hget hexec hown (wk W (.fieldLink "java/lang/String" 9 "java/lang/String" "value" "[B")) hx2.2.1 (g := (mkF m 8 #[.val (.ref x), .val (.int (Int32.ofNat i))] [.ref x])) rfl (rest := []) rfl (hb hbytes d8)
    have hh4 := q4.trans hh2
    have c5 : Steps p.tables e below (s₁.setTop (entryFrame m #[.ref x, .int (Int32.ofNat i)] 2)) (T4.setTop (mkF m 12 #[.val (.ref x), .val (.int (Int32.ofNat i))] [.int (Int32.ofNat i), .ref t])) := (c3.trans (st4 _ (Steps.refl _))).trans (by
      refine XS.iloadN X4.here hexec rfl (hb hbytes d11) rfl ?_
      exact Steps.refl _)
    obtain ⟨v6, T6, X6, E6, g6⟩ := X4.callS hexec (LChA.law l t V i (lo8 (f i)) fm) hown (wks W (staticW "java/lang/String" 495 LChA.yN)) (wk W LChA.tab) (W := 0) (Nat.le_of_ble_eq_true rfl) (Nat.le_of_ble_eq_true rfl) (Nat.le_refl _) (Nat.le_refl _) (g := (mkF m 12 #[.val (.ref x), .val (.int (Int32.ofNat i))] [.int (Int32.ofNat i), .ref t])) rfl (by rw [hml]; rfl) c5 (argsL := [.ref t, .int (Int32.ofNat i)]) (rest := []) rfl rfl (by show 2 * 0 + 0 ≤ _; decide) (hb hbytes d12) (⟨rfl, hx.2.2.2.1.mv X4.warmed.alike hh4, (k2 i hi).1, s3.there X4.warmed.alike hh4, rf⟩)
    obtain ⟨rfl, q6⟩ := E6
    rw [chr8_lo8 hr.1 (k2 i hi).2] at g6
    exact ⟨T6, some (.int (f i)), _, _, _, X6, rfl, rfl, rfl, (fun h => by cases h), ⟨rfl, q6.trans hh4⟩, fun fs hl => Steps.trans g6 (X6.ireturnOut hexec hret (narrow_ch hr.1 hr.2) (Or.inr (Or.inr (Or.inr (Or.inl rfl)))) (hb hbytes d15) hl)⟩
  · exact absurd k0 (by decide)
theorem pays {l : Launch} {R : Room} {p : Program} {e : Env} {below : List Frame} {s : State} {sargs : Array Value} {len W : Nat} (x t : Addr) (V : Cell) (n : Nat) (f : Nat → Int32) (z : Int32) (fm : Value) (i : Nat) (htab : tab.before sargs s = true) (hfr : 4 ≤ R.frames) (hlo : W + 53 ≤ R.locals) :
    Back l R p e below s sargs yN len W (fun A₁ a₁ => A₁.cells + 0 ≤ R.cells ∧ A₁.slots + 0 ≤ R.slots ∧ P x t V n f z fm i a₁ A₁.U) (fun A₁ _ v₁ B₁ => E f i v₁ A₁.U B₁.U ∧ B₁.locs = A₁.locs ++ [] ∧ B₁.cells = A₁.cells + 0 ∧ B₁.slots = A₁.slots + 0) :=
  (law l x t V n f z fm i).pays htab hfr (by omega)
end ChN
end StrChars
namespace StrChars.Road
open Jvm Sem ClassFile Op Lib Jvm.Stand Jvm.Free Jvm.Free.XT
open Jvm.Lib.Cold (StaticIs)
/-- the words of String.charAt(int), the Latin-1 road alone -/
abbrev wordsChN : List Jvm.Cond := [.code ChN.yN ChN.yB 2 (some .char), .initialized ST, .fieldLink ST 9 ST "value" "[B", .fieldLink ST 38 ST "COMPACT_STRINGS" "Z", .fieldLink ST 15 ST "coder" "B", .code IsL.yN IsL.yB 1 (some .boolean), .methodLink ST 492 IsL.yN, .declares IsL.yN, .selects ST IsL.yN IsL.yN, .instanceMethod IsL.yN,
  .methodLink ST 495 LChA.yN, .static LChA.yN, .code LChA.yN LChA.yB 2 (some .char), .initialized "java/lang/StringLatin1", .methodLink "java/lang/StringLatin1" 9 JO.Str_checkIndex.yN, .static JO.Str_checkIndex.yN, .code JO.Str_checkIndex.yN JO.Str_checkIndex.yB 2 none,
  .fieldLink ST 1053 "jdk/internal/util/Preconditions" "SIOOBE_FORMATTER" "Ljava/util/function/BiFunction;", .methodLink ST 1059 JC.PreCheck.yN, .static JC.PreCheck.yN, .code JC.PreCheck.yN JC.PreCheck.yB 3 (some .int), .initialized "jdk/internal/util/Preconditions"]
theorem tabChN_of {a : Array Value} {s : State} (h : ∀ w ∈ wordsChN, w.before a s = true) : ChN.tab.before a s = true := by
  have hp : JC.PreCheck.tab.before a s = true := unparts (wk h (.code JC.PreCheck.yN JC.PreCheck.yB 3 (some .int))) (wks h (.initialized JC.PreCheck.yN.cls :: JC.PreCheck.site))
  have qk := consq hp h
  have hk : JO.Str_checkIndex.tab.before a s = true := unparts (wk qk (.code JO.Str_checkIndex.yN JO.Str_checkIndex.yB 2 none)) (wks qk (.initialized JO.Str_checkIndex.yN.cls :: JO.Str_checkIndex.site))
  have ql := consq hk h
  have hl : LChA.tab.before a s = true := unparts (wk ql (.code LChA.yN LChA.yB 2 (some .char))) (wks ql (.initialized LChA.yN.cls :: LChA.site))
  have hi : IsL.tab.before a s = true := unparts (wk h (.code IsL.yN IsL.yB 1 (some .boolean))) (wks h (.initialized IsL.yN.cls :: IsL.site))
  have q := consq hi (consq hl h)
  exact unparts (wk q (.code ChN.yN ChN.yB 2 (some .char))) (wks q (.initialized ChN.yN.cls :: ChN.site))
theorem movedChN {Z s : State} {a0 args : Array Value} (hZ : Z.Warmed39 s.vm) (hw : ∀ d ∈ wordsChN, d.before a0 Z = true) : ∀ d ∈ wordsChN, d.before args s = true := fun d hd => by
  have t : ∀ d ∈ wordsChN, (d.onTables && d.keepsFace) = true := by decide +kernel
  exact RoadKit.mv hZ (hw d hd) (t d hd)
/-- **charAt(i) OF A LATIN-1 STRING**, i < n: the char -/
theorem chN {p : Program} {l : Launch} {e : Env} {R : Room} {s : State} {args : Array Value} {below : List Frame} {len W : Nat} {Z : State} {a0 : Array Value} {h : Heap} (hZ : Z.Warmed39 s.vm) (hw : ∀ d ∈ wordsChN, d.before a0 Z = true) {kI : Nat} (wi : (Jvm.Cond.instantiable ST kI).before a0 Z = true)
    {x t : Addr} {kb : ClassId} {cs : List Int32} {N2 z : Int32} {vs : List Value} {fm : Value} {i : Nat} {j : Int32} (E : RoadKit.Exa Z h x ST) (V : RoadKit.Fld Z h x ST "value" "[B" (.ref t)) (C : RoadKit.Fld Z h x ST "coder" "B" (.int 0)) (K : RoadKit.Arv Z h t kb .byte N2 vs (.int 0)) (hc : CodA cs 0 N2 vs) (hb : ∀ c ∈ cs, ¬ c < 0 ∧ ¬ (65535 : Int32) < c)
    (S : RoadKit.Sta Z h ST "COMPACT_STRINGS" "Z" (.int z)) (hz : ¬ z = 0) (F : RoadKit.Sta Z h "jdk/internal/util/Preconditions" "SIOOBE_FORMATTER" "Ljava/util/function/BiFunction;" fm) (rf : fm.isRef = true) (l2 : cs.length ≤ 4000) (hi : i < cs.length) (hj : j = Int32.ofNat i) (hfr : 4 ≤ R.frames) (hlo : W + 53 ≤ R.locals) :
    Back l R p e below s args (⟨"java/lang/String", "charAt", "(I)C"⟩ : MethodName) len W (fun P a => a = #[.ref x, .int j] ∧ P.U.heap = h ∧ P.cells + 0 ≤ R.cells ∧ P.slots + 0 ≤ R.slots)
      (fun P _ v B => ∃ L, (v = some (.int (cs.getD i 0)) ∧ L = [] ∧ B.U.heap = h) ∧ B.locs = P.locs ++ L ∧ B.cells = P.cells + 0 ∧ B.slots = P.slots + 0) := by
  subst hj
  intro m meth c P g ig mk a X hg hsize hdg hW hn hp'
  obtain ⟨rfl, rfl, r1, r2⟩ := hp'
  have al : Z.vm.Alike P.U.vm := hZ.alike.trans X.warmed.alike
  obtain ⟨A, hx⟩ := txt_of wi al E V C K hc hb l2
  obtain ⟨v, B, X', ⟨⟨hv, hh⟩, hl, hk, hs⟩, st⟩ := ChN.pays x t A cs.length (fun j => cs.getD j 0) z fm i (tabChN_of (movedChN hZ hw)) hfr hlo m meth c P g ig mk _ X hg hsize hdg hW hn ⟨r1, r2, rfl, hx, hi, sta_is al S, hz, sta_is al F, rf⟩
  exact ⟨v, B, X', ⟨[], ⟨hv, rfl, hh⟩, hl, hk, hs⟩, st⟩
/-- what backV says of its String, as the contracts of this text ask it: cs's low bytes, coder 0 -/
theorem codOf {cs : List Int32} {n : Nat} (hn : cs.length = n) (hb : ∀ c ∈ cs, ¬ 255 < c) : CodA cs 0 (Int32.ofNat n) ((cs.map lo8).map Value.int) := Or.inl ⟨rfl, by rw [hn], by simp [List.map_map, Function.comp_def], hb⟩
end StrChars.Road
end Jvm.Pilot.@@N@@
set_option maxRecDepth 65536
set_option maxHeartbeats 40000000
namespace Jvm.Pilot.@@N@@
open Jvm Jvm.ClassFile Sem Op Lib Jvm.Free Jvm.Stand Jvm.LawKit Jvm.RoadKit Bundle Jvm.Own Jvm.Pilot.@@N@@.Jvm.D
theorem pn_0 : plainName "java/lang/String" = true := by first | (simp [plainName, overriddenIn]; done) | decide +kernel
theorem pd_0 : parseMethodDescriptor "([CIILjava/lang/Void;)V" = some ⟨[(.array .char), .int, .int, (.object "java/lang/Void")], none⟩ := by decide +kernel
theorem pd_1 : parseMethodDescriptor "([C)V" = some ⟨[(.array .char)], none⟩ := by decide +kernel
theorem pn_1 : plainName "java/lang/AbstractStringBuilder" = true := by first | (simp [plainName, overriddenIn]; done) | decide +kernel
theorem pd_2 : parseMethodDescriptor "(I)V" = some ⟨[.int], none⟩ := by decide +kernel
theorem pn_2 : plainName "java/lang/StringBuilder" = true := by first | (simp [plainName, overriddenIn]; done) | decide +kernel
theorem pn_3 : plainName "java/lang/StringLatin1" = true := by first | (simp [plainName, overriddenIn]; done) | decide +kernel
theorem pd_3 : parseMethodDescriptor "(C)Z" = some ⟨[.char], some .boolean⟩ := by decide +kernel
theorem pd_4 : parseMethodDescriptor "()Z" = some ⟨[], some .boolean⟩ := by decide +kernel
theorem pd_5 : parseMethodDescriptor "(C)Ljava/lang/AbstractStringBuilder;" = some ⟨[.char], some (.object "java/lang/AbstractStringBuilder")⟩ := by decide +kernel
theorem pd_6 : parseMethodDescriptor "(C)Ljava/lang/StringBuilder;" = some ⟨[.char], some (.object "java/lang/StringBuilder")⟩ := by decide +kernel
theorem pd_7 : parseMethodDescriptor "()[B" = some ⟨[], some (.array .byte)⟩ := by decide +kernel
theorem pd_8 : parseMethodDescriptor "()I" = some ⟨[], some .int⟩ := by decide +kernel
theorem pn_4 : plainName "java/util/Arrays" = true := by first | (simp [plainName, overriddenIn]; done) | decide +kernel
theorem pd_9 : parseMethodDescriptor "(II)V" = some ⟨[.int, .int], none⟩ := by decide +kernel
theorem pd_10 : parseMethodDescriptor "(II)I" = some ⟨[.int, .int], some .int⟩ := by decide +kernel
theorem pd_11 : parseMethodDescriptor "([BII)[B" = some ⟨[(.array .byte), .int, .int], some (.array .byte)⟩ := by decide +kernel
theorem pd_12 : parseMethodDescriptor "(Ljava/lang/AbstractStringBuilder;Ljava/lang/Void;)V" = some ⟨[(.object "java/lang/AbstractStringBuilder"), (.object "java/lang/Void")], none⟩ := by decide +kernel
theorem pd_13 : parseMethodDescriptor "(Ljava/lang/StringBuilder;)V" = some ⟨[(.object "java/lang/StringBuilder")], none⟩ := by decide +kernel
theorem pd_14 : parseMethodDescriptor "()Ljava/lang/String;" = some ⟨[], some (.object "java/lang/String")⟩ := by decide +kernel
theorem pd_15 : parseMethodDescriptor "(I)Z" = some ⟨[.int], some .boolean⟩ := by decide +kernel
theorem pd_16 : parseMethodDescriptor "([BIII)I" = some ⟨[(.array .byte), .int, .int, .int], some .int⟩ := by decide +kernel
theorem pd_17 : parseMethodDescriptor "(I)I" = some ⟨[.int], some .int⟩ := by decide +kernel
theorem pn_5 : plainName "com/example/proviso/proviso/MessageTemplateEscapePinLaw" = true := by first | (simp [plainName, overriddenIn]; done) | decide +kernel
theorem pd_18 : parseMethodDescriptor "(I)C" = some ⟨[.int], some .char⟩ := by decide +kernel
theorem pd_19 : parseMethodDescriptor "([CIC)I" = some ⟨[(.array .char), .int, .char], some .int⟩ := by decide +kernel
theorem pd_20 : parseMethodDescriptor "(Ljava/lang/String;[CII)Z" = some ⟨[(.object "java/lang/String"), (.array .char), .int, .int], some .boolean⟩ := by decide +kernel
theorem pn_6 : plainName "com/example/proviso/proviso/MessageTemplate" = true := by first | (simp [plainName, overriddenIn]; done) | decide +kernel
theorem pd_21 : parseMethodDescriptor "(Ljava/lang/String;)Ljava/lang/String;" = some ⟨[(.object "java/lang/String")], some (.object "java/lang/String")⟩ := by decide +kernel

def Str (V : Vw) (h : Heap) (m : Nat) (x : Nat) (cs : List Int32) : Prop := ∃ (t : Nat) (kb : ClassId) (cd N2 : Int32) (vs : List Value), x < m ∧ t < m ∧ m ≤ h.size ∧ Exa V.Z h x "java/lang/String" ∧ Fld V.Z h x "java/lang/String" "value" "[B" (.ref t) ∧ Fld V.Z h x "java/lang/String" "coder" "B" (.int cd) ∧ Arv V.Z h t kb .byte N2 vs (.int 0) ∧ StrChars.Road.CodA cs cd N2 vs ∧ (∀ c ∈ cs, ¬ c < 0 ∧ ¬ (65535 : Int32) < c) ∧ cs.length ≤ 4000
theorem Str.ext {V : Vw} {h h' : Heap} {m : Nat} {x : Nat} {cs : List Int32} (E : Ext h h') (S : Str V h m x cs) : Str V h' m x cs := by
  obtain ⟨t, kb, cd, N2, vs, a1, a2, a3, a4, a5, a6, a7, a8⟩ := S
  exact ⟨t, kb, cd, N2, vs, a1, a2, Nat.le_trans a3 E.1, a4.ext E, a5.ext E, a6.ext E, a7.ext E, a8⟩
theorem Str.up {V : Vw} {h : Heap} {m m' : Nat} {x : Nat} {cs : List Int32} (S : Str V h m x cs) (q : m ≤ m') (r : m' ≤ h.size) : Str V h m' x cs := by
  obtain ⟨t, kb, cd, N2, vs, a1, a2, a3, a8⟩ := S
  exact ⟨t, kb, cd, N2, vs, by omega, by omega, r, a8⟩
theorem Str.keep {V : Vw} {h h' : Heap} {ws : List Addr} {m : Nat} {x : Nat} {cs : List Int32} (K : Keep h h' ws) (q : ∀ w ∈ ws, m ≤ w) (S : Str V h m x cs) : Str V h' m x cs := by
  obtain ⟨t, kb, cd, N2, vs, a1, a2, a3, a4, a5, a6, a7, a8⟩ := S
  have nx : x ∉ ws := fun z => absurd (q x z) (by omega)
  have nt : t ∉ ws := fun z => absurd (q t z) (by omega)
  exact ⟨t, kb, cd, N2, vs, a1, a2, Nat.le_trans a3 K.1, a4.keep K, a5.keep K nx, a6.keep K nx, a7.keep K nt, a8⟩
theorem Str.keepE {V : Vw} {h h' : Heap} {a : Nat} {C : String} {n m : Nat} {x : Nat} {cs : List Int32} (K : Keep h h' [a]) (E : Exa V.Z h a C) (hC : C ≠ "java/lang/String") (wi : (Jvm.Cond.instantiable C n).before V.a0 V.Z = true) (S : Str V h m x cs) : Str V h' m x cs := by
  obtain ⟨t, kb, cd, N2, vs, a1, a2, a3, a4, a5, a6, a7, a8⟩ := S
  have nx : x ∉ [a] := ninS (a4.ne E (Ne.symm hC)) nin0
  have nt : t ∉ [a] := ninS (Ne.symm (E.neArv a7 wi)) nin0
  exact ⟨t, kb, cd, N2, vs, a1, a2, Nat.le_trans a3 K.1, a4.keep K, a5.keep K nx, a6.keep K nx, a7.keep K nt, a8⟩
theorem Arr.neTy {Z : State} {h : Heap} {a b : Nat} {c d : Cell} {ty ty' : FieldType} (A : RoadKit.Arr Z h a c ty) (D : RoadKit.Arr Z h b d ty') (q : ty ≠ ty') : a ≠ b := fun e => by
  subst e
  cases A.1.symm.trans D.1
  obtain ⟨-, k1, h1, c1, g1⟩ := A.2.1
  obtain ⟨-, k2, h2, c2, g2⟩ := D.2.1
  cases h1.symm.trans h2
  rw [g1] at g2
  injection g2 with _ g3
  exact q g3
theorem Str.keepA {V : Vw} {h h' : Heap} {a : Nat} {k : ClassId} {ty : FieldType} {z : Int32} {us : List Value} {dv : Value} {n m : Nat} {x : Nat} {cs : List Int32} (K : Keep h h' [a]) (A : Arv V.Z h a k ty z us dv) (hty : ty ≠ .byte) (wi : (Jvm.Cond.instantiable "java/lang/String" n).before V.a0 V.Z = true) (S : Str V h m x cs) : Str V h' m x cs := by
  obtain ⟨t, kb, cd, N2, vs, a1, a2, a3, a4, a5, a6, a7, a8⟩ := S
  have nx : x ∉ [a] := ninS (a4.neArv A wi) nin0
  have nt : t ∉ [a] := ninS (fun e => by obtain ⟨c1, A1, -⟩ := A; obtain ⟨c2, A2, -⟩ := a7; exact Arr.neTy A1 A2 hty e.symm) nin0
  exact ⟨t, kb, cd, N2, vs, a1, a2, Nat.le_trans a3 K.1, a4.keep K, a5.keep K nx, a6.keep K nx, a7.keep K nt, a8⟩
theorem Str.exa {V : Vw} {h : Heap} {m : Nat} {x : Nat} {cs : List Int32} (S : Str V h m x cs) : Exa V.Z h x "java/lang/String" := by
  obtain ⟨t, kb, cd, N2, vs, a1, a2, a3, a4, -⟩ := S; exact a4
theorem Str.lt {V : Vw} {h : Heap} {m : Nat} {x : Nat} {cs : List Int32} (S : Str V h m x cs) : x < m ∧ m ≤ h.size := by
  obtain ⟨t, kb, cd, N2, vs, a1, a2, a3, a4, -⟩ := S; exact ⟨a1, a3⟩
theorem up16 {cs : List Int32} (h : ∀ c ∈ cs, By c) : ∀ c ∈ cs, ¬ c < 0 ∧ ¬ (65535 : Int32) < c := fun c hc => ⟨(h c hc).1, fun q => (h c hc).2 (by
  rw [Int32.lt_iff_toInt_lt] at q ⊢; have e1 : (65535 : Int32).toInt = 65535 := rfl; have e2 : (255 : Int32).toInt = 255 := rfl; omega)⟩

def Qsm (q : Prop) (h0 : Heap) : Qt := fun v h _ => ∃ b : Int32, v = some (.int b) ∧ h = h0 ∧ (b = 1 ∧ q ∨ b = 0 ∧ ¬ q)
theorem bt {b : Int32} {q : Prop} (h : b = 1 ∧ q ∨ b = 0 ∧ ¬ q) (c : ¬ b = 0) : q := h.elim (fun x => x.2) (fun x => absurd x.1 c)
theorem bf {b : Int32} {q : Prop} (h : b = 1 ∧ q ∨ b = 0 ∧ ¬ q) (c : b = 0) : ¬ q := h.elim (fun x => absurd (x.1.symm.trans c) (by decide)) (fun x => x.2)
theorem beq {b c : Int32} {q r : Prop} (h : b = 1 ∧ q ∨ b = 0 ∧ ¬ q) (k : c = 1 ∧ r ∨ c = 0 ∧ ¬ r) (e : q ↔ r) : b = c := by
  rcases h with ⟨rfl, x⟩ | ⟨rfl, x⟩ <;> rcases k with ⟨rfl, y⟩ | ⟨rfl, y⟩ <;> first | rfl | exact absurd (e.mp x) y | exact absurd (e.mpr y) x
theorem bnar {b : Int32} {q : Prop} (h : b = 1 ∧ q ∨ b = 0 ∧ ¬ q) : RoadKit.nar .boolean b = b := by rcases h with ⟨rfl, x⟩ | ⟨rfl, x⟩ <;> rfl
def Qmk (V : Vw) (cs : List Int32) (h0 : Heap) : Qt := fun v h _ => ∃ x : Nat, v = some (.ref x) ∧ Ext h0 h ∧ Str V h h.size x cs
theorem Keep.ext0 {h h1 h2 : Heap} {ws : List Addr} (E : Ext h h1) (K : Keep h1 h2 ws) (q : ∀ w ∈ ws, h.size ≤ w) : Ext h h2 := ⟨Nat.le_trans E.1 K.1, fun a c hc => K.2.1 a c (E.2 a c hc) fun z => absurd (Array.getElem?_eq_some_iff.mp hc).1 (Nat.not_lt.mpr (q a z))⟩
theorem Ext.wr0 {h h1 h2 : Heap} {a : Nat} {j : Nat} {v : Value} (E : Ext h h1) (W : Wr h1 h2 a j v) (q : h.size ≤ a) : Ext h h2 := Keep.ext0 E (Keep.of_wr W) (fun w hw => by cases List.mem_singleton.mp hw; exact q)
theorem Ext.refl0 (h : Heap) : Ext h h := ⟨Nat.le_refl _, fun _ _ q => q⟩
theorem nby {c : Int32} (h : By c) : RoadKit.nar .char c = c := by
  have f := c_i2c c
  obtain ⟨a, b⟩ := h
  rw [Int32.lt_iff_toInt_lt] at a b
  have e0 : (0 : Int32).toInt = 0 := rfl
  have e1 : (255 : Int32).toInt = 255 := rfl
  show c.toUInt32.toUInt16.toUInt32.toInt32 = c
  rw [← Int32.toInt_inj]; omega
theorem by0 : ∀ c ∈ ([] : List Int32), By c := fun _ q => nomatch q
theorem by1 {a : Int32} (h : By a) : ∀ c ∈ [a], By c := fun c hc => by cases List.mem_singleton.mp hc; exact h
theorem byS {a : Int32} {l : List Int32} (h : By a) (t : ∀ c ∈ l, By c) : ∀ c ∈ a :: l, By c := fun c hc => by rcases List.mem_cons.mp hc with rfl | hc; exact h; exact t c hc
def Qn (V : Vw) (x : Nat) (cs : List Int32) (h0 : Heap) : Qt := fun v h _ => v = none ∧ Keep h0 h [x] ∧ Str V h h.size x cs
theorem wds (V : Vw) (hw : ∀ d ∈ tables_1, d.before V.a0 V.Z = true) (ws : List Jvm.Cond) (h : ∀ d ∈ ws, d ∈ tables_1) : ∀ d ∈ ws, d.before V.a0 V.Z = true := fun d hd => hw d (h d hd)
theorem pay_newN (V : Vw) (hw : ∀ d ∈ tables_1, d.before V.a0 V.Z = true) (K : Cx) (B : Bx) (W : Nat) (x b : Nat) (kC : ClassId) (cs : List Int32) (N : Int32) (h : Heap) (ps : List Addr) (d v0 c0 : Value) (zx : V.Z.heap.size ≤ x) (zh : V.Z.heap.size ≤ h.size) (E : Exa V.Z h x "java/lang/String") (Fv : Fld V.Z h x "java/lang/String" "value" "[B" v0) (Fc : Fld V.Z h x "java/lang/String" "coder" "B" c0) (A : Arv V.Z h b kC .char N (cs.map Value.int) d) (O : Ext V.Z.heap h) (cz : Int32) (hCS : Sta V.Z V.Z.heap "java/lang/String" "COMPACT_STRINGS" "Z" (.int cz)) (hcz : ¬ cz = 0) (hN : N = Int32.ofNat cs.length) (l0 : 0 < cs.length) (l2 : cs.length ≤ 4000) (hp : ∀ c ∈ cs, By c) (hxp : x ∈ ps) (hfr : 4 ≤ B.R.frames) (hlo : W + 65 ≤ B.R.locals) :
    Pays V K B (⟨"java/lang/String", "<init>", "([C)V"⟩ : MethodName) 3 W #[.ref x, .ref b] h ps 1 cs.length (Qn V x cs h) :=
  Pays.back (ws := [x]) (fun s hZ => StrChars.Road.backV (W := W) hZ (wds V hw _ (by decide +kernel)) (kI := 4) (wd hw 6 rfl) (cs := cs) (bs := cs.map (fun c => c.toInt8.toInt32)) (n := cs.length) zx zh E Fv Fc A (hCS.ext O) hcz rfl hN l0 l2 hp rfl hfr hlo)
    (fun v h' L q => by
      obtain ⟨q1, q2, q3, q4, q5, t, kb, q6, q7, q8, q9, q10⟩ := q
      exact ⟨q2, q3, q1, q3, t, kb, 0, N, _, q4.lt, q10.lt, Nat.le_refl _, q4, q9, q5, q10, Or.inl ⟨rfl, hN, by simp [List.map_map, Function.comp_def, StrChars.lo8], fun c hc => (hp c hc).2⟩, up16 hp, l2⟩)
    (by simpa using zx) (fun vm al P y hy => by cases List.mem_singleton.mp hy; exact (P _ hxp).2)
theorem satoms (V : Vw) (hw : ∀ d ∈ tables_1, d.before V.a0 V.Z = true) : ∀ a ∈ Bundle.stringAtoms, a.before V.a0 V.Z = true := wds V hw _ (by decide +kernel)
theorem d0_0 : decode jdk_42_method_149_code 0 = .ok (.aload_n 0, 1) := by decide +kernel
theorem d0_1 : decode jdk_42_method_149_code 1 = .ok (.invokespecial 1, 3) := by decide +kernel
theorem d0_4 : decode jdk_42_method_149_code 4 = .ok (.iload_n 3, 1) := by decide +kernel
theorem d0_5 : decode jdk_42_method_149_code 5 = .ok (.ifCond .ne 22, 3) := by decide +kernel
theorem d0_8 : decode jdk_42_method_149_code 8 = .ok (.aload_n 0, 1) := by decide +kernel
theorem d0_9 : decode jdk_42_method_149_code 9 = .ok (.ldc 7, 2) := by decide +kernel
theorem d0_11 : decode jdk_42_method_149_code 11 = .ok (.getfield 9, 3) := by decide +kernel
theorem d0_14 : decode jdk_42_method_149_code 14 = .ok (.putfield 9, 3) := by decide +kernel
theorem d0_17 : decode jdk_42_method_149_code 17 = .ok (.aload_n 0, 1) := by decide +kernel
theorem d0_18 : decode jdk_42_method_149_code 18 = .ok (.ldc 7, 2) := by decide +kernel
theorem d0_20 : decode jdk_42_method_149_code 20 = .ok (.getfield 15, 3) := by decide +kernel
theorem d0_23 : decode jdk_42_method_149_code 23 = .ok (.putfield 15, 3) := by decide +kernel
theorem d0_26 : decode jdk_42_method_149_code 26 = .ok (.return_, 1) := by decide +kernel
theorem d0_27 : decode jdk_42_method_149_code 27 = .ok (.getstatic 38, 3) := by decide +kernel
theorem d0_30 : decode jdk_42_method_149_code 30 = .ok (.ifCond .eq 28, 3) := by decide +kernel
theorem d0_33 : decode jdk_42_method_149_code 33 = .ok (.aload_n 1, 1) := by decide +kernel
theorem d0_34 : decode jdk_42_method_149_code 34 = .ok (.iload_n 2, 1) := by decide +kernel
theorem d0_35 : decode jdk_42_method_149_code 35 = .ok (.iload_n 3, 1) := by decide +kernel
theorem d0_36 : decode jdk_42_method_149_code 36 = .ok (.invokestatic 177, 3) := by decide +kernel
theorem d0_39 : decode jdk_42_method_149_code 39 = .ok (.astore 5, 2) := by decide +kernel
theorem d0_41 : decode jdk_42_method_149_code 41 = .ok (.aload_n 0, 1) := by decide +kernel
theorem d0_42 : decode jdk_42_method_149_code 42 = .ok (.aload 5, 2) := by decide +kernel
theorem d0_44 : decode jdk_42_method_149_code 44 = .ok (.iload_n 3, 1) := by decide +kernel
theorem d0_45 : decode jdk_42_method_149_code 45 = .ok (.invokestatic 47, 3) := by decide +kernel
theorem d0_48 : decode jdk_42_method_149_code 48 = .ok (.putfield 15, 3) := by decide +kernel
theorem d0_51 : decode jdk_42_method_149_code 51 = .ok (.aload_n 0, 1) := by decide +kernel
theorem d0_52 : decode jdk_42_method_149_code 52 = .ok (.aload 5, 2) := by decide +kernel
theorem d0_54 : decode jdk_42_method_149_code 54 = .ok (.putfield 9, 3) := by decide +kernel
theorem d0_57 : decode jdk_42_method_149_code 57 = .ok (.return_, 1) := by decide +kernel
theorem d0_58 : decode jdk_42_method_149_code 58 = .ok (.aload_n 0, 1) := by decide +kernel
theorem d0_59 : decode jdk_42_method_149_code 59 = .ok (.iconst 1, 1) := by decide +kernel
theorem d0_60 : decode jdk_42_method_149_code 60 = .ok (.putfield 15, 3) := by decide +kernel
theorem d0_63 : decode jdk_42_method_149_code 63 = .ok (.aload_n 0, 1) := by decide +kernel
theorem d0_64 : decode jdk_42_method_149_code 64 = .ok (.aload_n 1, 1) := by decide +kernel
theorem d0_65 : decode jdk_42_method_149_code 65 = .ok (.iload_n 2, 1) := by decide +kernel
theorem d0_66 : decode jdk_42_method_149_code 66 = .ok (.iload_n 3, 1) := by decide +kernel
theorem d0_67 : decode jdk_42_method_149_code 67 = .ok (.invokestatic 180, 3) := by decide +kernel
theorem d0_70 : decode jdk_42_method_149_code 70 = .ok (.putfield 9, 3) := by decide +kernel
theorem d0_73 : decode jdk_42_method_149_code 73 = .ok (.return_, 1) := by decide +kernel
abbrev b_new4 : Bx := (⟨"java/lang/String", "<init>", "([CIILjava/lang/Void;)V"⟩, jdk_42_method_149_code, 6, none, { frames := 1, cells := 4, slots := 8, locals := 24 })
theorem c_new4e (V : Vw) (hw : ∀ d ∈ tables_1, d.before V.a0 V.Z = true) (hm : ("java/lang/String", 7) ∈ V.EL) (hn : V.nar = false) (x b : Nat) (h : Heap) (ps : List Addr) (zx : V.Z.heap.size ≤ x) (hxp : x ∈ ps) (E : Exa V.Z h x "java/lang/String") (Fv : Fld V.Z h x "java/lang/String" "value" "[B" .null) (Fc : Fld V.Z h x "java/lang/String" "coder" "B" (.int 0)) : Con V b_new4 #[.ref x, .ref b, .int 0, .int 0, .null] h ps (Qn V x [] h) := Con.of (plainFor_of_name pn_0) (L := [.val (.ref x), .val (.ref b), .val (.int (0 : Int32)), .val (.int (0 : Int32)), .val (.null), .unset]) rfl fun K => by
  have lx := ltN E.lt
  refine r_aloadN 1 rfl d0_0 rfl rfl ?_
  refine r_initO 0 4 rfl d0_1 (wd hw 15 rfl) (wd hw 16 rfl) (wd hw 17 rfl) rfl (by decide) (Nat.le_of_eq rfl) (by decide) ?_
  refine r_iloadN 5 rfl d0_4 rfl ?_
  refine r_if_ne 27 8 d0_5 (by decide) rfl rfl (fun c1 => ?_) (fun c1 => ?_)
  · exact absurd rfl c1
  refine r_aloadN 9 rfl d0_8 rfl rfl ?_
  refine r_ldcS [] (0 : Int32) 0 11 rfl d0_9 (wd hw 18 rfl) (satoms V hw) hm hn (by decide) (by decide) rfl (by decide) (by decide) (by decide) (by decide) fun a2 b3 k4 h5 Eh5 Xh5 Ch5 Yh5 Ah5 Nh5 => ?_
  have f6 := Exa.ext Eh5 E
  have f7 := Fld.ext Eh5 Fv
  have f8 := Fld.ext Eh5 Fc
  have sh5 := Eh5.1
  have la2 := ltN Xh5.lt
  have lb3 := ltN Ah5.lt
  have n1xh5 := neN (Nh5 _ hxp).1
  have n2xh5 := neN (Nh5 _ hxp).2
  refine r_getfield 14 rfl d0_11 (wd hw 24 rfl) Yh5 ?_
  refine r_putfield 17 rfl d0_14 (wd hw 24 rfl) f7 f6 (Or.inr ⟨wd hw 20 rfl, rfl, rfl⟩) (wd hw 6 rfl) (ty := (.array .byte)) (by decide) rfl rfl zx (Or.inr hxp) fun h9 Wh9 => ?_
  have sh9 := Wh9.size
  have f10 := Exa.wr Wh9 f6
  have f11 := Fld.same Wh9 f7
  have f12 := Fld.other Wh9 f8 (Or.inr (slot_ne (C := "java/lang/String") (Or.inr (wd hw 21 rfl)) (Or.inr (wd hw 20 rfl)) (by decide) (t := .byte) (by decide) (t' := (.array .byte)) (by decide)))
  have f13 := Exa.wr Wh9 Xh5
  have f14 := Fld.other Wh9 Ch5 (Or.inl (neA (by omega)))
  have f15 := Fld.other Wh9 Yh5 (Or.inl (neA (by omega)))
  have f16 := Arv.other Ah5 Wh9 (neA (by omega))
  refine r_aloadN 18 rfl d0_17 rfl rfl ?_
  refine r_ldcS [] (0 : Int32) 0 20 rfl d0_18 (wd hw 18 rfl) (satoms V hw) hm hn (by decide) (by decide) rfl (by decide) (by decide) (by decide) (by decide) fun a17 b18 k19 h20 Eh20 Xh20 Ch20 Yh20 Ah20 Nh20 => ?_
  have f21 := Exa.ext Eh20 f10
  have f22 := Fld.ext Eh20 f11
  have f23 := Fld.ext Eh20 f12
  have f24 := Exa.ext Eh20 f13
  have f25 := Fld.ext Eh20 f14
  have f26 := Fld.ext Eh20 f15
  have f27 := f16.ext Eh20
  have sh20 := Eh20.1
  have la17 := ltN Xh20.lt
  have lb18 := ltN Ah20.lt
  have n1xh20 := neN (Nh20 _ hxp).1
  have n2xh20 := neN (Nh20 _ hxp).2
  refine r_getfield 23 rfl d0_20 (wd hw 25 rfl) Ch20 ?_
  refine r_putfield 26 rfl d0_23 (wd hw 25 rfl) f23 f21 (Or.inr ⟨wd hw 21 rfl, rfl, rfl⟩) (wd hw 6 rfl) (ty := .byte) (by decide) (by decide) (by decide) zx (Or.inr hxp) fun h28 Wh28 => ?_
  have sh28 := Wh28.size
  have f29 := Exa.wr Wh28 f21
  have f30 := Fld.other Wh28 f22 (Or.inr (slot_ne (C := "java/lang/String") (Or.inr (wd hw 20 rfl)) (Or.inr (wd hw 21 rfl)) (by decide) (t := (.array .byte)) (by decide) (t' := .byte) (by decide)))
  have f31 := Fld.same Wh28 f23
  have f32 := Exa.wr Wh28 f24
  have f33 := Fld.other Wh28 f25 (Or.inl (neA (by omega)))
  have f34 := Fld.other Wh28 f26 (Or.inl (neA (by omega)))
  have f35 := Arv.other f27 Wh28 (neA (by omega))
  have f36 := Exa.wr Wh28 Xh20
  have f37 := Fld.other Wh28 Ch20 (Or.inl (neA (by omega)))
  have f38 := Fld.other Wh28 Yh20 (Or.inl (neA (by omega)))
  have f39 := Arv.other Ah20 Wh28 (neA (by omega))
  have KK : Keep h h28 [x] := ((((Keep.refl _ _).ext Eh5).wr Wh9 (Or.inl (by simp))).ext Eh20).wr Wh28 (Or.inl (by simp))
  refine r_ret rfl d0_26 (by decide) (by decide) [] (fun _ q => nomatch q) ?_
  exact ⟨rfl, KK, b3, _, 0, 0, [], f29.lt, f35.lt, Nat.le_refl _, f29, f30, f31, f35, Or.inl ⟨rfl, rfl, rfl, fun _ q => nomatch q⟩, (fun _ q => nomatch q), by decide⟩
theorem d1_0 : decode jdk_42_method_3_code 0 = .ok (.aload_n 0, 1) := by decide +kernel
theorem d1_1 : decode jdk_42_method_3_code 1 = .ok (.aload_n 1, 1) := by decide +kernel
theorem d1_2 : decode jdk_42_method_3_code 2 = .ok (.iconst 0, 1) := by decide +kernel
theorem d1_3 : decode jdk_42_method_3_code 3 = .ok (.aload_n 1, 1) := by decide +kernel
theorem d1_4 : decode jdk_42_method_3_code 4 = .ok (.arraylength, 1) := by decide +kernel
theorem d1_5 : decode jdk_42_method_3_code 5 = .ok (.aconst_null, 1) := by decide +kernel
theorem d1_6 : decode jdk_42_method_3_code 6 = .ok (.invokespecial 27, 3) := by decide +kernel
theorem d1_9 : decode jdk_42_method_3_code 9 = .ok (.return_, 1) := by decide +kernel
abbrev b_new1 : Bx := (⟨"java/lang/String", "<init>", "([C)V"⟩, jdk_42_method_3_code, 2, none, { frames := 2, cells := 4, slots := 8, locals := 44 })
theorem c_new1e (V : Vw) (hw : ∀ d ∈ tables_1, d.before V.a0 V.Z = true) (hm : ("java/lang/String", 7) ∈ V.EL) (hn : V.nar = false) (x b : Nat) (kC : ClassId) (vs : List Value) (d : Value) (h : Heap) (ps : List Addr) (zx : V.Z.heap.size ≤ x) (hxp : x ∈ ps) (E : Exa V.Z h x "java/lang/String") (Fv : Fld V.Z h x "java/lang/String" "value" "[B" .null) (Fc : Fld V.Z h x "java/lang/String" "coder" "B" (.int 0)) (A : Arv V.Z h b kC .char 0 vs d) : Con V b_new1 #[.ref x, .ref b] h ps (Qn V x [] h) := Con.of (plainFor_of_name pn_0) (L := [.val (.ref x), .val (.ref b)]) rfl fun K => by
  refine r_aloadN 1 rfl d1_0 rfl rfl ?_
  refine r_aloadN 2 rfl d1_1 rfl rfl ?_
  refine r_iconst (0 : Int32) 3 rfl d1_2 rfl ?_
  refine r_aloadN 4 rfl d1_3 rfl rfl ?_
  refine r_arraylength 5 rfl d1_4 A ?_
  refine r_null 6 rfl d1_5 ?_
  refine r_special 9 rfl d1_6 rfl (wd hw 11 rfl) (wd hw 12 rfl) (wd hw 14 rfl) (by decide) (Pays.con (K := K) (B := b_new1) (c_new4e V hw hm hn x b h _ zx hxp E Fv Fc) (wd hw 14 rfl) (wd hw 7 rfl) (by decide) (by decide)) (W := 0) (argsL := [.ref b, .int (0 : Int32), .int (0 : Int32), .null]) (lenOf pd_0 rfl) rfl rfl rfl (Nat.le_of_eq rfl) (Nat.le_of_ble_eq_true rfl) (Nat.le_of_ble_eq_true rfl) fun v43 h44 ps40 q42 z41 => ?_
  obtain ⟨rfl, K1, S1⟩ := q42
  show Own.Run V K b_new1 _ h44 _ 4 8 9 [.val (.ref x), .val (.ref b)] []
  refine r_ret rfl d1_9 (by decide) (by decide) [] (fun _ q => nomatch q) ?_
  exact ⟨rfl, K1, S1⟩
theorem pay_newE (V : Vw) (hw : ∀ d ∈ tables_1, d.before V.a0 V.Z = true) (K : Cx) (B : Bx) (W : Nat) (hm : ("java/lang/String", 7) ∈ V.EL) (hn : V.nar = false) (x b : Nat) (kC : ClassId) (vs : List Value) (d : Value) (h : Heap) (ps : List Addr) (zx : V.Z.heap.size ≤ x) (hxp : x ∈ ps) (E : Exa V.Z h x "java/lang/String") (Fv : Fld V.Z h x "java/lang/String" "value" "[B" .null) (Fc : Fld V.Z h x "java/lang/String" "coder" "B" (.int 0)) (A : Arv V.Z h b kC .char 0 vs d) (hfr : 3 ≤ B.R.frames) (hlo : W + 57 ≤ B.R.locals) :
    Pays V K B (⟨"java/lang/String", "<init>", "([C)V"⟩ : MethodName) 3 W #[.ref x, .ref b] h ps 4 8 (Qn V x [] h) := Pays.con (B' := b_new1) (c_new1e V hw hm hn x b kC vs d h ps zx hxp E Fv Fc A) (wd hw 10 rfl) (wd hw 7 rfl) hfr (by show W + (2 + 11) + 44 ≤ _; omega)
theorem pay_len (V : Vw) (hw : ∀ d ∈ tables_1, d.before V.a0 V.Z = true) (K : Cx) (B : Bx) (W : Nat) (x : Nat) (m : Nat) (cs : List Int32) (h : Heap) (ps : List Addr) (S : Str V h m x cs) (O : Ext V.Z.heap h) (cz : Int32) (hCS : Sta V.Z V.Z.heap "java/lang/String" "COMPACT_STRINGS" "Z" (.int cz)) (hcz : ¬ cz = 0) (hfr : 2 ≤ B.R.frames) (hlo : W + 25 ≤ B.R.locals) : Pays V K B (⟨"java/lang/String", "length", "()I"⟩ : MethodName) 3 W #[.ref x] h ps 0 0 (fun v h' _ => v = some (.int (Int32.ofNat cs.length)) ∧ h' = h) := by
  obtain ⟨t, kb, cd, N2, vs, a1, a2, a3, a4, a5, a6, a7, a8, a9, a10⟩ := S
  exact Pays.back (ws := []) (Q0 := fun v h' L => v = some (.int (Int32.ofNat cs.length)) ∧ L = [] ∧ h' = h) (fun s hZ => StrChars.Road.lenW (W := W) hZ (wds V hw _ (by decide +kernel)) (kI := 4) (wd hw 6 rfl) a4 a5 a6 a7 a8 a9 (hCS.ext O) hcz a10 hfr hlo) (fun v h' L q => ⟨by rw [q.2.1]; exact Fr.nil _, by rw [q.2.2]; exact Keep.refl _ _, q.1, q.2.2⟩) all0 (fun vm al P => all0)
theorem pay_ch (V : Vw) (hw : ∀ d ∈ tables_1, d.before V.a0 V.Z = true) (K : Cx) (B : Bx) (W : Nat) (x : Nat) (m i : Nat) (j : Int32) (cs : List Int32) (h : Heap) (ps : List Addr) (S : Str V h m x cs) (hby : ∀ c ∈ cs, ¬ 255 < c) (O : Ext V.Z.heap h) (cz : Int32) (hCS : Sta V.Z V.Z.heap "java/lang/String" "COMPACT_STRINGS" "Z" (.int cz)) (hcz : ¬ cz = 0) (fm : Value) (hFM : Sta V.Z V.Z.heap "jdk/internal/util/Preconditions" "SIOOBE_FORMATTER" "Ljava/util/function/BiFunction;" fm) (rf : fm.isRef = true) (hi : i < cs.length) (hj : j = Int32.ofNat i) (hfr : 4 ≤ B.R.frames) (hlo : W + 53 ≤ B.R.locals) : Pays V K B (⟨"java/lang/String", "charAt", "(I)C"⟩ : MethodName) 3 W #[.ref x, .int j] h ps 0 0 (fun v h' _ => v = some (.int (cs.getD i 0)) ∧ h' = h) := by
  obtain ⟨t, kb, cd, N2, vs, a1, a2, a3, a4, a5, a6, a7, a8, a9, a10⟩ := S
  have hcd : cd = 0 := by rcases a8 with q | ⟨-, -, -, c, hc, hq⟩; exact q.1; exact absurd hq (hby c hc)
  subst hcd
  exact Pays.back (ws := []) (Q0 := fun v h' L => v = some (.int (cs.getD i 0)) ∧ L = [] ∧ h' = h) (fun s hZ => StrChars.Road.chN (W := W) hZ (wds V hw _ (by decide +kernel)) (kI := 4) (wd hw 6 rfl) a4 a5 a6 a7 a8 a9 (hCS.ext O) hcz (hFM.ext O) rf a10 hi hj hfr hlo) (fun v h' L q => ⟨by rw [q.2.1]; exact Fr.nil _, by rw [q.2.2]; exact Keep.refl _ _, q.1, q.2.2⟩) all0 (fun vm al P => all0)
theorem ofN_nat {n : Nat} (h : n < 2 ^ 31) : (Int32.ofNat n).toNatClampNeg = n := by
  have q : (Int32.ofNat n).toInt = n := Int32.toInt_ofNat_small h
  simp only [Int32.toNatClampNeg, q]; omega
theorem ofN_lt {n k : Nat} (h : n < 2 ^ 31) (g : k < 2 ^ 31) : Int32.ofNat n < Int32.ofNat k ↔ n < k := by
  have q : (Int32.ofNat n).toInt = n := Int32.toInt_ofNat_small h
  have r : (Int32.ofNat k).toInt = k := Int32.toInt_ofNat_small g
  rw [Int32.lt_iff_toInt_lt, q, r]; omega
theorem ofN_nn {n : Nat} (h : n < 2 ^ 31) : ¬ Int32.ofNat n < 0 := by
  have q : (Int32.ofNat n).toInt = n := Int32.toInt_ofNat_small h
  rw [Int32.lt_iff_toInt_lt, q]; have : (0 : Int32).toInt = 0 := rfl; omega
theorem ofN_s (n : Nat) : Int32.ofNat n + 1 = Int32.ofNat (n + 1) := (Int32.ofNat_add n 1).symm
theorem by_int {x : Int32} (h : By x) : 0 ≤ x.toInt ∧ x.toInt ≤ 255 := by
  obtain ⟨a, b⟩ := h
  rw [Int32.lt_iff_toInt_lt] at a b
  have e0 : (0 : Int32).toInt = 0 := rfl
  have e1 : (255 : Int32).toInt = 255 := rfl
  omega
theorem lo8_by {x y : Int32} (hx : By x) (hy : By y) (e : x.toInt8.toInt32 = y.toInt8.toInt32) : x = y := by
  have a := c_i2b x
  have b := c_i2b y
  have c := by_int hx
  have d := by_int hy
  rw [e] at a
  rw [← Int32.toInt_inj]; omega
theorem vsGet (cs : List Int32) (i : Nat) (h : i < cs.length) : ((cs.map fun c => Value.int (StrChars.lo8 c))).getD i (.int 0) = .int ((cs.getD i 0).toInt8.toInt32) := by
  simp [List.getD_eq_getElem?_getD, h, StrChars.lo8]

def Qi (z : Int32) (h0 : Heap) : Qt := fun v h _ => v = some (.int z) ∧ h = h0
def Qu (h0 : Heap) : Qt := fun v h _ => v = none ∧ h = h0

def Sb (V : Vw) (h : Heap) (s t cap : Nat) (cs : List Int32) : Prop := ∃ kb : ClassId, V.Z.heap.size ≤ s ∧ V.Z.heap.size ≤ t ∧ Exa V.Z h s "java/lang/StringBuilder" ∧ Fld V.Z h s "java/lang/AbstractStringBuilder" "value" "[B" (.ref t) ∧ Fld V.Z h s "java/lang/AbstractStringBuilder" "coder" "B" (.int 0) ∧ Fld V.Z h s "java/lang/AbstractStringBuilder" "count" "I" (.int (Int32.ofNat cs.length)) ∧ Arv V.Z h t kb .byte (Int32.ofNat cap) (cs.map fun c => Value.int (StrChars.lo8 c)) (.int 0) ∧ cs.length ≤ cap ∧ cap ≤ 4000
theorem Sb.ext {V : Vw} {h h' : Heap} {s t cap : Nat} {cs : List Int32} (E : Ext h h') (S : Sb V h s t cap cs) : Sb V h' s t cap cs := by
  obtain ⟨kb, zs, zt, X, Fv, Fc, Fn, A, r⟩ := S
  exact ⟨kb, zs, zt, X.ext E, Fv.ext E, Fc.ext E, Fn.ext E, A.ext E, r⟩
theorem Keep.wide {h h' : Heap} {ws ws' : List Addr} (K : Keep h h' ws) (q : ∀ x ∈ ws, x ∈ ws') : Keep h h' ws' := (Keep.refl h ws').trans K (fun x hx => Or.inl (q x hx))
theorem Sb.exa {V : Vw} {h : Heap} {s t cap : Nat} {cs : List Int32} (S : Sb V h s t cap cs) : Exa V.Z h s "java/lang/StringBuilder" := by
  obtain ⟨kb, zs, zt, X, r⟩ := S; exact X
theorem Sb.zt {V : Vw} {h : Heap} {s t cap : Nat} {cs : List Int32} (S : Sb V h s t cap cs) : V.Z.heap.size ≤ t := by
  obtain ⟨kb, zs, zt, X, r⟩ := S; exact zt

def Qsi (V : Vw) (s cap : Nat) (h0 : Heap) : Qt := fun v h ps => v = none ∧ ∃ t : Nat, t ∈ ps ∧ h0.size ≤ t ∧ Keep h0 h [s] ∧ Sb V h s t cap []
theorem d2_0 : decode jdk_68_method_2_code 0 = .ok (.aload_n 0, 1) := by decide +kernel
theorem d2_1 : decode jdk_68_method_2_code 1 = .ok (.invokespecial 3, 3) := by decide +kernel
theorem d2_4 : decode jdk_68_method_2_code 4 = .ok (.getstatic 18, 3) := by decide +kernel
theorem d2_7 : decode jdk_68_method_2_code 7 = .ok (.ifCond .eq 18, 3) := by decide +kernel
theorem d2_10 : decode jdk_68_method_2_code 10 = .ok (.aload_n 0, 1) := by decide +kernel
theorem d2_11 : decode jdk_68_method_2_code 11 = .ok (.iload_n 1, 1) := by decide +kernel
theorem d2_12 : decode jdk_68_method_2_code 12 = .ok (.newarray .byte, 2) := by decide +kernel
theorem d2_14 : decode jdk_68_method_2_code 14 = .ok (.putfield 15, 3) := by decide +kernel
theorem d2_17 : decode jdk_68_method_2_code 17 = .ok (.aload_n 0, 1) := by decide +kernel
theorem d2_18 : decode jdk_68_method_2_code 18 = .ok (.iconst 0, 1) := by decide +kernel
theorem d2_19 : decode jdk_68_method_2_code 19 = .ok (.putfield 22, 3) := by decide +kernel
theorem d2_22 : decode jdk_68_method_2_code 22 = .ok (.goto 16, 3) := by decide +kernel
theorem d2_25 : decode jdk_68_method_2_code 25 = .ok (.aload_n 0, 1) := by decide +kernel
theorem d2_26 : decode jdk_68_method_2_code 26 = .ok (.iload_n 1, 1) := by decide +kernel
theorem d2_27 : decode jdk_68_method_2_code 27 = .ok (.invokestatic 26, 3) := by decide +kernel
theorem d2_30 : decode jdk_68_method_2_code 30 = .ok (.putfield 15, 3) := by decide +kernel
theorem d2_33 : decode jdk_68_method_2_code 33 = .ok (.aload_n 0, 1) := by decide +kernel
theorem d2_34 : decode jdk_68_method_2_code 34 = .ok (.iconst 1, 1) := by decide +kernel
theorem d2_35 : decode jdk_68_method_2_code 35 = .ok (.putfield 22, 3) := by decide +kernel
theorem d2_38 : decode jdk_68_method_2_code 38 = .ok (.return_, 1) := by decide +kernel
abbrev b_asbi : Bx := (⟨"java/lang/AbstractStringBuilder", "<init>", "(I)V"⟩, jdk_68_method_2_code, 2, none, { frames := 1, cells := 1, slots := 11, locals := 12 })
theorem c_asbi (V : Vw) (hw : ∀ d ∈ tables_1, d.before V.a0 V.Z = true) (cz : Int32) (hCS : Sta V.Z V.Z.heap "java/lang/String" "COMPACT_STRINGS" "Z" (.int cz)) (hcz : ¬ cz = 0) (s cap : Nat) (hcap : cap ≤ 11) (h : Heap) (ps : List Addr) (zs : V.Z.heap.size ≤ s) (X : Exa V.Z h s "java/lang/StringBuilder") (Fv : Fld V.Z h s "java/lang/AbstractStringBuilder" "value" "[B" .null) (Fc : Fld V.Z h s "java/lang/AbstractStringBuilder" "coder" "B" (.int 0)) (Fn : Fld V.Z h s "java/lang/AbstractStringBuilder" "count" "I" (.int 0)) : Con V b_asbi #[.ref s, .int (Int32.ofNat cap)] h ps (Qsi V s cap h) := Con.of (plainFor_of_name pn_1) (L := [.val (.ref s), .val (.int (Int32.ofNat cap))]) rfl fun K => by
  have ls := ltN X.lt
  refine r_aloadN 1 rfl d2_0 rfl rfl ?_
  refine r_initO 0 4 rfl d2_1 (wd hw 53 rfl) (wd hw 16 rfl) (wd hw 17 rfl) rfl (by decide) (Nat.le_of_eq rfl) (by decide) ?_
  refine r_getstatic 7 rfl d2_4 (wd hw 54 rfl) hCS ?_
  refine r_if_eq 25 10 d2_7 (by decide) rfl rfl (fun c45 => ?_) (fun c45 => ?_)
  · exact absurd c45 hcz
  refine r_aloadN 11 rfl d2_10 rfl rfl ?_
  refine r_iloadN 12 rfl d2_11 rfl ?_
  refine r_newarray 11 14 rfl d2_12 (wd hw 19 rfl) (ofN_nn (by omega)) (by rw [ofN_nat (by omega)]; exact hcap) (by decide) (by decide) (by decide) fun a46 h47 k48 ga46 za46 Eh47 Aa46 => ?_
  have f49 := Exa.ext Eh47 X
  have f50 := Fld.ext Eh47 Fv
  have f51 := Fld.ext Eh47 Fc
  have f52 := Fld.ext Eh47 Fn
  have sh47 := Eh47.1
  have la46 := ltN Aa46.lt
  refine r_putfield 17 rfl d2_14 (wd hw 55 rfl) f50 f49 (Or.inl (wd hw 56 rfl)) (wd hw 31 rfl) (ty := (.array .byte)) (by decide) rfl rfl zs (Or.inl (by decide)) fun h53 Wh53 => ?_
  have sh53 := Wh53.size
  have f54 := Exa.wr Wh53 f49
  have f55 := Fld.same Wh53 f50
  have f56 := Fld.other Wh53 f51 (Or.inr (slot_ne (C := "java/lang/StringBuilder") (Or.inl (wd hw 58 rfl)) (Or.inl (wd hw 56 rfl)) (by decide) (t := .byte) (by decide) (t' := (.array .byte)) (by decide)))
  have f57 := Fld.other Wh53 f52 (Or.inr (slot_ne (C := "java/lang/StringBuilder") (Or.inl (wd hw 86 rfl)) (Or.inl (wd hw 56 rfl)) (by decide) (t := .int) (by decide) (t' := (.array .byte)) (by decide)))
  have f58 := Arv.other Aa46 Wh53 (neA (by omega))
  refine r_aloadN 18 rfl d2_17 rfl rfl ?_
  refine r_iconst (0 : Int32) 19 rfl d2_18 rfl ?_
  refine r_putfield 22 rfl d2_19 (wd hw 57 rfl) f56 f54 (Or.inl (wd hw 58 rfl)) (wd hw 31 rfl) (ty := .byte) (by decide) (by decide) (by decide) zs (Or.inl (by decide)) fun h59 Wh59 => ?_
  have sh59 := Wh59.size
  have f60 := Exa.wr Wh59 f54
  have f61 := Fld.other Wh59 f55 (Or.inr (slot_ne (C := "java/lang/StringBuilder") (Or.inl (wd hw 56 rfl)) (Or.inl (wd hw 58 rfl)) (by decide) (t := (.array .byte)) (by decide) (t' := .byte) (by decide)))
  have f62 := Fld.same Wh59 f56
  have f63 := Fld.other Wh59 f57 (Or.inr (slot_ne (C := "java/lang/StringBuilder") (Or.inl (wd hw 86 rfl)) (Or.inl (wd hw 58 rfl)) (by decide) (t := .int) (by decide) (t' := .byte) (by decide)))
  have f64 := Arv.other f58 Wh59 (neA (by omega))
  refine r_goto 38 d2_22 (by decide) rfl ?_
  refine r_ret rfl d2_38 (by decide) (by decide) [a46] (fun y hy => by cases List.mem_singleton.mp hy; simp) ?_
  exact ⟨rfl, a46, List.mem_singleton.mpr rfl, by omega, ((((Keep.refl _ _).ext Eh47).wr Wh53 (Or.inl (by simp))).wr Wh59 (Or.inl (by simp))), _, zs, za46, f60, f61, f62, f63, f64, Nat.zero_le _, by omega⟩
theorem d3_0 : decode jdk_67_method_2_code 0 = .ok (.aload_n 0, 1) := by decide +kernel
theorem d3_1 : decode jdk_67_method_2_code 1 = .ok (.iload_n 1, 1) := by decide +kernel
theorem d3_2 : decode jdk_67_method_2_code 2 = .ok (.invokespecial 1, 3) := by decide +kernel
theorem d3_5 : decode jdk_67_method_2_code 5 = .ok (.return_, 1) := by decide +kernel
abbrev b_sbi : Bx := (⟨"java/lang/StringBuilder", "<init>", "(I)V"⟩, jdk_67_method_2_code, 2, none, { frames := 2, cells := 1, slots := 11, locals := 28 })
theorem c_sbi (V : Vw) (hw : ∀ d ∈ tables_1, d.before V.a0 V.Z = true) (cz : Int32) (hCS : Sta V.Z V.Z.heap "java/lang/String" "COMPACT_STRINGS" "Z" (.int cz)) (hcz : ¬ cz = 0) (s : Nat) (cap : Nat) (hcap : cap ≤ 11) (h : Heap) (ps : List Addr) (zs : V.Z.heap.size ≤ s) (X : Exa V.Z h s "java/lang/StringBuilder") (Fv : Fld V.Z h s "java/lang/AbstractStringBuilder" "value" "[B" .null) (Fc : Fld V.Z h s "java/lang/AbstractStringBuilder" "coder" "B" (.int 0)) (Fn : Fld V.Z h s "java/lang/AbstractStringBuilder" "count" "I" (.int 0)) : Con V b_sbi #[.ref s, .int (Int32.ofNat cap)] h ps (Qsi V s cap h) := Con.of (plainFor_of_name pn_2) (L := [.val (.ref s), .val (.int (Int32.ofNat cap))]) rfl fun K => by
  refine r_aloadN 1 rfl d3_0 rfl rfl ?_
  refine r_iloadN 2 rfl d3_1 rfl ?_
  refine r_special 5 rfl d3_2 rfl (wd hw 47 rfl) (wd hw 48 rfl) (wd hw 52 rfl) (by decide) (Pays.con (K := K) (B := b_sbi) (c_asbi V hw cz hCS hcz s cap hcap h _ zs X Fv Fc Fn) (wd hw 52 rfl) (wd hw 51 rfl) (by decide) (by decide)) (W := 0) (argsL := [.int (Int32.ofNat cap)]) (lenOf pd_2 rfl) rfl rfl rfl (Nat.le_of_eq rfl) (Nat.le_of_ble_eq_true rfl) (Nat.le_of_ble_eq_true rfl) fun v67 h68 psx q66 z65 => ?_
  obtain ⟨rfl, t, ht, lt, K1, S1⟩ := q66
  show Own.Run V K b_sbi _ h68 _ 1 11 5 [.val (.ref s), .val (.int (Int32.ofNat cap))] []
  refine r_ret rfl d3_5 (by decide) (by decide) psx (fun y hy => List.mem_append_left _ hy) ?_
  exact ⟨rfl, t, ht, lt, K1, S1⟩
theorem d4_0 : decode jdk_68_method_9_code 0 = .ok (.aload_n 0, 1) := by decide +kernel
theorem d4_1 : decode jdk_68_method_9_code 1 = .ok (.getfield 15, 3) := by decide +kernel
theorem d4_4 : decode jdk_68_method_9_code 4 = .ok (.arraylength, 1) := by decide +kernel
theorem d4_5 : decode jdk_68_method_9_code 5 = .ok (.aload_n 0, 1) := by decide +kernel
theorem d4_6 : decode jdk_68_method_9_code 6 = .ok (.getfield 22, 3) := by decide +kernel
theorem d4_9 : decode jdk_68_method_9_code 9 = .ok (.ishr, 1) := by decide +kernel
theorem d4_10 : decode jdk_68_method_9_code 10 = .ok (.istore_n 2, 1) := by decide +kernel
theorem d4_11 : decode jdk_68_method_9_code 11 = .ok (.iload_n 1, 1) := by decide +kernel
theorem d4_12 : decode jdk_68_method_9_code 12 = .ok (.iload_n 2, 1) := by decide +kernel
theorem d4_13 : decode jdk_68_method_9_code 13 = .ok (.isub, 1) := by decide +kernel
theorem d4_14 : decode jdk_68_method_9_code 14 = .ok (.ifCond .le 24, 3) := by decide +kernel
theorem d4_17 : decode jdk_68_method_9_code 17 = .ok (.aload_n 0, 1) := by decide +kernel
theorem d4_18 : decode jdk_68_method_9_code 18 = .ok (.aload_n 0, 1) := by decide +kernel
theorem d4_19 : decode jdk_68_method_9_code 19 = .ok (.getfield 15, 3) := by decide +kernel
theorem d4_22 : decode jdk_68_method_9_code 22 = .ok (.aload_n 0, 1) := by decide +kernel
theorem d4_23 : decode jdk_68_method_9_code 23 = .ok (.iload_n 1, 1) := by decide +kernel
theorem d4_24 : decode jdk_68_method_9_code 24 = .ok (.invokevirtual 104, 3) := by decide +kernel
theorem d4_27 : decode jdk_68_method_9_code 27 = .ok (.aload_n 0, 1) := by decide +kernel
theorem d4_28 : decode jdk_68_method_9_code 28 = .ok (.getfield 22, 3) := by decide +kernel
theorem d4_31 : decode jdk_68_method_9_code 31 = .ok (.ishl, 1) := by decide +kernel
theorem d4_32 : decode jdk_68_method_9_code 32 = .ok (.invokestatic 108, 3) := by decide +kernel
theorem d4_35 : decode jdk_68_method_9_code 35 = .ok (.putfield 15, 3) := by decide +kernel
theorem d4_38 : decode jdk_68_method_9_code 38 = .ok (.return_, 1) := by decide +kernel
abbrev b_ens : Bx := (⟨"java/lang/AbstractStringBuilder", "ensureCapacityInternal", "(I)V"⟩, jdk_68_method_9_code, 3, none, { frames := 0, cells := 0, slots := 0, locals := 0 })
theorem c_ens (V : Vw) (hw : ∀ d ∈ tables_1, d.before V.a0 V.Z = true) (n : Nat) (s t cap : Nat) (cs : List Int32) (h : Heap) (ps : List Addr) (S : Sb V h s t cap cs) (hn : n ≤ cap) : Con V b_ens #[.ref s, .int (Int32.ofNat n)] h ps (Qu h) := Con.of (plainFor_of_name pn_1) (L := [.val (.ref s), .val (.int (Int32.ofNat n)), .unset]) rfl fun K => by
  obtain ⟨kb, zs, zt, X, Fv, Fc, Fn, A, lc, lcap⟩ := id S
  refine r_aloadN 1 rfl d4_0 rfl rfl ?_
  refine r_getfield 4 rfl d4_1 (wd hw 55 rfl) Fv ?_
  refine r_arraylength 5 rfl d4_4 A ?_
  refine r_aloadN 6 rfl d4_5 rfl rfl ?_
  refine r_getfield 9 rfl d4_6 (wd hw 57 rfl) Fc ?_
  refine r_ishr 10 rfl d4_9 ?_
  rw [shr0]
  refine r_istoreN [.val (.ref s), .val (.int (Int32.ofNat n)), .val (.int (Int32.ofNat cap))] 11 rfl d4_10 rfl ?_
  refine r_iloadN 12 rfl d4_11 rfl ?_
  refine r_iloadN 13 rfl d4_12 rfl ?_
  refine r_isub 14 rfl d4_13 ?_
  refine r_if_le 38 17 d4_14 (by decide) rfl rfl (fun c69 => ?_) (fun c69 => ?_)
  rotate_left
  · exact absurd c69 (sub_nle hn (by omega))
  refine r_ret rfl d4_38 (by decide) (by decide) [] (fun _ q => nomatch q) ?_
  exact ⟨rfl, rfl⟩
theorem d5_0 : decode jdk_43_method_3_code 0 = .ok (.iload_n 0, 1) := by decide +kernel
theorem d5_1 : decode jdk_43_method_3_code 1 = .ok (.sipush 255, 3) := by decide +kernel
theorem d5_4 : decode jdk_43_method_3_code 4 = .ok (.if_icmp .gt 7, 3) := by decide +kernel
theorem d5_7 : decode jdk_43_method_3_code 7 = .ok (.iconst 1, 1) := by decide +kernel
theorem d5_8 : decode jdk_43_method_3_code 8 = .ok (.goto 4, 3) := by decide +kernel
theorem d5_11 : decode jdk_43_method_3_code 11 = .ok (.iconst 0, 1) := by decide +kernel
theorem d5_12 : decode jdk_43_method_3_code 12 = .ok (.ireturn, 1) := by decide +kernel
abbrev b_canEnc : Bx := (⟨"java/lang/StringLatin1", "canEncode", "(C)Z"⟩, jdk_43_method_3_code, 1, some .boolean, { frames := 0, cells := 0, slots := 0, locals := 0 })
theorem c_canEnc (V : Vw) (hw : ∀ d ∈ tables_1, d.before V.a0 V.Z = true) (c : Int32) (hc : By c) (h : Heap) (ps : List Addr) : Con V b_canEnc #[.int c] h ps (fun v h' _ => v = some (.int 1) ∧ h' = h) := Con.of (plainFor_of_name pn_3) (L := [.val (.int c)]) rfl fun K => by
  refine r_iloadN 1 rfl d5_0 rfl ?_
  refine r_sipush (255 : Int32) 4 rfl d5_1 rfl ?_
  refine r_icmp_gt 11 7 d5_4 (by decide) rfl rfl (fun c70 => ?_) (fun c70 => ?_)
  · exact absurd c70 hc.2
  refine r_iconst (1 : Int32) 8 rfl d5_7 rfl ?_
  refine r_goto 12 d5_8 (by decide) rfl ?_
  refine r_nret (t := .boolean) (1 : Int32) rfl (by simp) rfl d5_12 (by decide) (by decide) [] (fun _ q => nomatch q) ?_
  exact ⟨rfl, rfl⟩
theorem d6_0 : decode jdk_68_method_68_code 0 = .ok (.getstatic 18, 3) := by decide +kernel
theorem d6_3 : decode jdk_68_method_68_code 3 = .ok (.ifCond .eq 14, 3) := by decide +kernel
theorem d6_6 : decode jdk_68_method_68_code 6 = .ok (.aload_n 0, 1) := by decide +kernel
theorem d6_7 : decode jdk_68_method_68_code 7 = .ok (.getfield 22, 3) := by decide +kernel
theorem d6_10 : decode jdk_68_method_68_code 10 = .ok (.ifCond .ne 7, 3) := by decide +kernel
theorem d6_13 : decode jdk_68_method_68_code 13 = .ok (.iconst 1, 1) := by decide +kernel
theorem d6_14 : decode jdk_68_method_68_code 14 = .ok (.goto 4, 3) := by decide +kernel
theorem d6_17 : decode jdk_68_method_68_code 17 = .ok (.iconst 0, 1) := by decide +kernel
theorem d6_18 : decode jdk_68_method_68_code 18 = .ok (.ireturn, 1) := by decide +kernel
abbrev b_aLat : Bx := (⟨"java/lang/AbstractStringBuilder", "isLatin1", "()Z"⟩, jdk_68_method_68_code, 1, some .boolean, { frames := 0, cells := 0, slots := 0, locals := 0 })
theorem c_aLat (V : Vw) (hw : ∀ d ∈ tables_1, d.before V.a0 V.Z = true) (cz : Int32) (hCS : Sta V.Z V.Z.heap "java/lang/String" "COMPACT_STRINGS" "Z" (.int cz)) (hcz : ¬ cz = 0) (s t cap : Nat) (cs : List Int32) (h : Heap) (ps : List Addr) (S : Sb V h s t cap cs) : Con V b_aLat #[.ref s] h ps (Qi 1 h) := Con.of (plainFor_of_name pn_1) (L := [.val (.ref s)]) rfl fun K => by
  obtain ⟨kb, zs, zt, X, Fv, Fc, Fn, A, lc, lcap⟩ := id S
  refine r_getstatic 3 rfl d6_0 (wd hw 54 rfl) hCS ?_
  refine r_if_eq 17 6 d6_3 (by decide) rfl rfl (fun c71 => ?_) (fun c71 => ?_)
  · exact absurd c71 hcz
  refine r_aloadN 7 rfl d6_6 rfl rfl ?_
  refine r_getfield 10 rfl d6_7 (wd hw 57 rfl) Fc ?_
  refine r_if_ne 17 13 d6_10 (by decide) rfl rfl (fun c72 => ?_) (fun c72 => ?_)
  · exact absurd rfl c72
  refine r_iconst (1 : Int32) 14 rfl d6_13 rfl ?_
  refine r_goto 18 d6_14 (by decide) rfl ?_
  refine r_nret (t := .boolean) (1 : Int32) rfl (by simp) rfl d6_18 (by decide) (by decide) [] (fun _ q => nomatch q) ?_
  exact ⟨rfl, rfl⟩
theorem setG (f : Int32 → Value) (cs : List Int32) (c : Int32) (d : Value) : (cs.map f ++ List.replicate 1 d).set cs.length (f c) = (cs ++ [c]).map f := by
  rw [List.set_append_right _ _ (by simp)]; simp
theorem d7_0 : decode jdk_68_method_31_code 0 = .ok (.aload_n 0, 1) := by decide +kernel
theorem d7_1 : decode jdk_68_method_31_code 1 = .ok (.aload_n 0, 1) := by decide +kernel
theorem d7_2 : decode jdk_68_method_31_code 2 = .ok (.getfield 79, 3) := by decide +kernel
theorem d7_5 : decode jdk_68_method_31_code 5 = .ok (.iconst 1, 1) := by decide +kernel
theorem d7_6 : decode jdk_68_method_31_code 6 = .ok (.iadd, 1) := by decide +kernel
theorem d7_7 : decode jdk_68_method_31_code 7 = .ok (.invokevirtual 100, 3) := by decide +kernel
theorem d7_10 : decode jdk_68_method_31_code 10 = .ok (.aload_n 0, 1) := by decide +kernel
theorem d7_11 : decode jdk_68_method_31_code 11 = .ok (.invokevirtual 83, 3) := by decide +kernel
theorem d7_14 : decode jdk_68_method_31_code 14 = .ok (.ifCond .eq 31, 3) := by decide +kernel
theorem d7_17 : decode jdk_68_method_31_code 17 = .ok (.iload_n 1, 1) := by decide +kernel
theorem d7_18 : decode jdk_68_method_31_code 18 = .ok (.invokestatic 191, 3) := by decide +kernel
theorem d7_21 : decode jdk_68_method_31_code 21 = .ok (.ifCond .eq 24, 3) := by decide +kernel
theorem d7_24 : decode jdk_68_method_31_code 24 = .ok (.aload_n 0, 1) := by decide +kernel
theorem d7_25 : decode jdk_68_method_31_code 25 = .ok (.getfield 15, 3) := by decide +kernel
theorem d7_28 : decode jdk_68_method_31_code 28 = .ok (.aload_n 0, 1) := by decide +kernel
theorem d7_29 : decode jdk_68_method_31_code 29 = .ok (.dup, 1) := by decide +kernel
theorem d7_30 : decode jdk_68_method_31_code 30 = .ok (.getfield 79, 3) := by decide +kernel
theorem d7_33 : decode jdk_68_method_31_code 33 = .ok (.dup_x1, 1) := by decide +kernel
theorem d7_34 : decode jdk_68_method_31_code 34 = .ok (.iconst 1, 1) := by decide +kernel
theorem d7_35 : decode jdk_68_method_31_code 35 = .ok (.iadd, 1) := by decide +kernel
theorem d7_36 : decode jdk_68_method_31_code 36 = .ok (.putfield 79, 3) := by decide +kernel
theorem d7_39 : decode jdk_68_method_31_code 39 = .ok (.iload_n 1, 1) := by decide +kernel
theorem d7_40 : decode jdk_68_method_31_code 40 = .ok (.i2b, 1) := by decide +kernel
theorem d7_41 : decode jdk_68_method_31_code 41 = .ok (.bastore, 1) := by decide +kernel
theorem d7_42 : decode jdk_68_method_31_code 42 = .ok (.goto 33, 3) := by decide +kernel
theorem d7_45 : decode jdk_68_method_31_code 45 = .ok (.aload_n 0, 1) := by decide +kernel
theorem d7_46 : decode jdk_68_method_31_code 46 = .ok (.invokevirtual 83, 3) := by decide +kernel
theorem d7_49 : decode jdk_68_method_31_code 49 = .ok (.ifCond .eq 7, 3) := by decide +kernel
theorem d7_52 : decode jdk_68_method_31_code 52 = .ok (.aload_n 0, 1) := by decide +kernel
theorem d7_53 : decode jdk_68_method_31_code 53 = .ok (.invokevirtual 195, 3) := by decide +kernel
theorem d7_56 : decode jdk_68_method_31_code 56 = .ok (.aload_n 0, 1) := by decide +kernel
theorem d7_57 : decode jdk_68_method_31_code 57 = .ok (.getfield 15, 3) := by decide +kernel
theorem d7_60 : decode jdk_68_method_31_code 60 = .ok (.aload_n 0, 1) := by decide +kernel
theorem d7_61 : decode jdk_68_method_31_code 61 = .ok (.dup, 1) := by decide +kernel
theorem d7_62 : decode jdk_68_method_31_code 62 = .ok (.getfield 79, 3) := by decide +kernel
theorem d7_65 : decode jdk_68_method_31_code 65 = .ok (.dup_x1, 1) := by decide +kernel
theorem d7_66 : decode jdk_68_method_31_code 66 = .ok (.iconst 1, 1) := by decide +kernel
theorem d7_67 : decode jdk_68_method_31_code 67 = .ok (.iadd, 1) := by decide +kernel
theorem d7_68 : decode jdk_68_method_31_code 68 = .ok (.putfield 79, 3) := by decide +kernel
theorem d7_71 : decode jdk_68_method_31_code 71 = .ok (.iload_n 1, 1) := by decide +kernel
theorem d7_72 : decode jdk_68_method_31_code 72 = .ok (.invokestatic 197, 3) := by decide +kernel
theorem d7_75 : decode jdk_68_method_31_code 75 = .ok (.aload_n 0, 1) := by decide +kernel
theorem d7_76 : decode jdk_68_method_31_code 76 = .ok (.areturn, 1) := by decide +kernel
abbrev b_apC : Bx := (⟨"java/lang/AbstractStringBuilder", "append", "(C)Ljava/lang/AbstractStringBuilder;"⟩, jdk_68_method_31_code, 2, some (.object "java/lang/AbstractStringBuilder"), { frames := 2, cells := 0, slots := 0, locals := 40 })
def Qap (V : Vw) (s t cap : Nat) (cs : List Int32) (h0 : Heap) : Qt := fun v h _ => v = some (.ref s) ∧ Keep h0 h [s, t] ∧ Sb V h s t cap cs
theorem c_apC (V : Vw) (hw : ∀ d ∈ tables_1, d.before V.a0 V.Z = true) (cz : Int32) (hCS : Sta V.Z V.Z.heap "java/lang/String" "COMPACT_STRINGS" "Z" (.int cz)) (hcz : ¬ cz = 0) (s t cap : Nat) (cs : List Int32) (h : Heap) (ps : List Addr) (S : Sb V h s t cap cs) (mt : t ∈ ps) (c : Int32) (hb : By c) (hle : cs.length + 1 ≤ cap) : Con V b_apC #[.ref s, .int c] h ps (Qap V s t cap (cs ++ [c]) h) := Con.of (plainFor_of_name pn_1) (L := [.val (.ref s), .val (.int c)]) rfl fun K => by
  obtain ⟨kb, zs, zt, X, Fv, Fc, Fn, A, lc, lcap⟩ := id S
  have nst := neN (X.neArv A (wd hw 31 rfl))
  refine r_aloadN 1 rfl d7_0 rfl rfl ?_
  refine r_aloadN 2 rfl d7_1 rfl rfl ?_
  refine r_getfield 5 rfl d7_2 (wd hw 85 rfl) Fn ?_
  refine r_iconst (1 : Int32) 6 rfl d7_5 rfl ?_
  refine r_iadd 7 rfl d7_6 ?_
  rw [ofN_s]
  refine r_private 10 rfl d7_7 (wd hw 180 rfl) (wd hw 182 rfl) (wd hw 183 rfl) (wd hw 181 rfl) (wd hw 184 rfl) (by decide) X (Pays.con (K := K) (B := b_apC) (c_ens V hw (cs.length + 1) s t cap cs h _ S hle) (wd hw 184 rfl) (wd hw 51 rfl) (by decide) (by decide)) (W := 0) (argsL := [.int (Int32.ofNat (cs.length + 1))]) (lenOf pd_2 rfl) rfl rfl rfl (Nat.le_of_eq rfl) (Nat.le_of_ble_eq_true rfl) (Nat.le_of_ble_eq_true rfl) fun v76 h77 ps73 q75 z74 => ?_
  obtain ⟨rfl, es78⟩ := q75
  subst h77
  show Own.Run V K b_apC _ h _ 0 0 10 [.val (.ref s), .val (.int c)] []
  refine r_aloadN 11 rfl d7_10 rfl rfl ?_
  refine r_virtual 14 rfl d7_11 (wd hw 185 rfl) (wd hw 88 rfl) (wd hw 90 rfl) (wd hw 89 rfl) (nfS (wd hw 90 rfl)) (by decide) X (Pays.con (K := K) (B := b_apC) (c_aLat V hw cz hCS hcz s t cap cs h _ S) (wd hw 91 rfl) (wd hw 51 rfl) (by decide) (by decide)) (W := 0) (argsL := []) (lenOf pd_4 rfl) rfl rfl rfl (Nat.le_of_eq rfl) (Nat.le_of_ble_eq_true rfl) (Nat.le_of_ble_eq_true rfl) fun v82 h83 ps79 q81 z80 => ?_
  obtain ⟨rfl, es84⟩ := q81
  subst h83
  show Own.Run V K b_apC _ h _ 0 0 14 [.val (.ref s), .val (.int c)] [.int (1 : Int32)]
  refine r_if_eq 45 17 d7_14 (by decide) rfl rfl (fun c85 => ?_) (fun c85 => ?_)
  · exact absurd c85 (by decide)
  refine r_iloadN 18 rfl d7_17 rfl ?_
  refine r_static 21 rfl d7_18 (wd hw 186 rfl) (wd hw 187 rfl) (wd hw 136 rfl) (wd hw 188 rfl) (by decide) (Pays.con (K := K) (B := b_apC) (c_canEnc V hw c hb h _) (wd hw 188 rfl) (wd hw 136 rfl) (by decide) (by decide)) (W := 0) (argsL := [.int c]) (lenOf pd_3 rfl) rfl rfl rfl (Nat.le_of_eq rfl) (Nat.le_of_ble_eq_true rfl) (Nat.le_of_ble_eq_true rfl) fun v89 h90 ps86 q88 z87 => ?_
  obtain ⟨rfl, es91⟩ := q88
  subst h90
  show Own.Run V K b_apC _ h _ 0 0 21 [.val (.ref s), .val (.int c)] [.int (1 : Int32)]
  refine r_if_eq 45 24 d7_21 (by decide) rfl rfl (fun c92 => ?_) (fun c92 => ?_)
  · exact absurd c92 (by decide)
  refine r_aloadN 25 rfl d7_24 rfl rfl ?_
  refine r_getfield 28 rfl d7_25 (wd hw 55 rfl) Fv ?_
  refine r_aloadN 29 rfl d7_28 rfl rfl ?_
  refine r_dup 30 rfl d7_29 rfl ?_
  refine r_getfield 33 rfl d7_30 (wd hw 85 rfl) Fn ?_
  refine r_dupX1 34 rfl d7_33 rfl rfl ?_
  refine r_iconst (1 : Int32) 35 rfl d7_34 rfl ?_
  refine r_iadd 36 rfl d7_35 ?_
  rw [ofN_s]
  refine r_putfield 39 rfl d7_36 (wd hw 85 rfl) Fn X (Or.inl (wd hw 86 rfl)) (wd hw 31 rfl) (ty := .int) (by decide) rfl rfl zs (Or.inl (by decide)) fun h93 Wh93 => ?_
  have sh93 := Wh93.size
  have f94 := Exa.wr Wh93 X
  have f95 := Fld.other Wh93 Fv (Or.inr (slot_ne (C := "java/lang/StringBuilder") (Or.inl (wd hw 56 rfl)) (Or.inl (wd hw 86 rfl)) (by decide) (t := (.array .byte)) (by decide) (t' := .int) (by decide)))
  have f96 := Fld.other Wh93 Fc (Or.inr (slot_ne (C := "java/lang/StringBuilder") (Or.inl (wd hw 58 rfl)) (Or.inl (wd hw 86 rfl)) (by decide) (t := .byte) (by decide) (t' := .int) (by decide)))
  have f97 := Fld.same Wh93 Fn
  have f98 := Arv.other A Wh93 (neA (by omega))
  refine r_iloadN 40 rfl d7_39 rfl ?_
  refine r_i2b 41 rfl d7_40 ?_
  have A2 := Arv.pad (vs' := cs.map (fun c => Value.int (StrChars.lo8 c)) ++ List.replicate 1 (.int 0)) f98 (pad_rep _ _ 1)
  refine r_bastore cs.length 42 rfl d7_41 A2 ⟨ofN_nn (by omega), (ofN_lt (by omega) (by omega)).mpr (by omega)⟩ (ofN_nat (by omega)) (by simp) zt (by simp [mt]) (StrChars.lo8 c) (by simp [StrChars.lo8]) fun h99 Wh99 A3 => ?_
  rw [setG (fun c => Value.int (StrChars.lo8 c)) cs c] at A3
  have f100 := Exa.wr Wh99 f94
  have f101 := Fld.other Wh99 f95 (Or.inl (neA (by omega)))
  have f102 := Fld.other Wh99 f96 (Or.inl (neA (by omega)))
  have f103 := Fld.other Wh99 f97 (Or.inl (neA (by omega)))
  refine r_goto 75 d7_42 (by decide) rfl ?_
  refine r_aloadN 76 rfl d7_75 rfl rfl ?_
  refine r_aret (t := (.object "java/lang/AbstractStringBuilder")) rfl rfl rfl d7_76 (by decide) (by decide) [] (fun _ q => nomatch q) ?_
  exact ⟨rfl, ((Keep.refl _ _).wr Wh93 (Or.inl (by simp))).wr Wh99 (Or.inl (by simp)), kb, zs, zt, f100, f101, f102, by rw [List.length_append]; exact f103, A3, by rw [List.length_append]; exact hle, lcap⟩
theorem d8_0 : decode jdk_67_method_14_code 0 = .ok (.aload_n 0, 1) := by decide +kernel
theorem d8_1 : decode jdk_67_method_14_code 1 = .ok (.iload_n 1, 1) := by decide +kernel
theorem d8_2 : decode jdk_67_method_14_code 2 = .ok (.invokespecial 50, 3) := by decide +kernel
theorem d8_5 : decode jdk_67_method_14_code 5 = .ok (.pop, 1) := by decide +kernel
theorem d8_6 : decode jdk_67_method_14_code 6 = .ok (.aload_n 0, 1) := by decide +kernel
theorem d8_7 : decode jdk_67_method_14_code 7 = .ok (.areturn, 1) := by decide +kernel
abbrev b_sbC : Bx := (⟨"java/lang/StringBuilder", "append", "(C)Ljava/lang/StringBuilder;"⟩, jdk_67_method_14_code, 2, some (.object "java/lang/StringBuilder"), { frames := 3, cells := 0, slots := 0, locals := 56 })
theorem c_sbC (V : Vw) (hw : ∀ d ∈ tables_1, d.before V.a0 V.Z = true) (cz : Int32) (hCS : Sta V.Z V.Z.heap "java/lang/String" "COMPACT_STRINGS" "Z" (.int cz)) (hcz : ¬ cz = 0) (s t cap : Nat) (cs : List Int32) (h : Heap) (ps : List Addr) (S : Sb V h s t cap cs) (mt : t ∈ ps) (c : Int32) (hb : By c) (hle : cs.length + 1 ≤ cap) : Con V b_sbC #[.ref s, .int c] h ps (Qap V s t cap (cs ++ [c]) h) := Con.of (plainFor_of_name pn_2) (L := [.val (.ref s), .val (.int c)]) rfl fun K => by
  refine r_aloadN 1 rfl d8_0 rfl rfl ?_
  refine r_iloadN 2 rfl d8_1 rfl ?_
  refine r_super 5 rfl d8_2 (by decide) (wd hw 176 rfl) (wd hw 83 rfl) (wd hw 177 rfl) (wd hw 179 rfl) (wd hw 74 rfl) rfl (by decide) S.exa (Pays.con (K := K) (B := b_sbC) (c_apC V hw cz hCS hcz s t cap cs h _ S (by simp [mt]) c hb hle) (wd hw 179 rfl) (wd hw 51 rfl) (by decide) (by decide)) (W := 0) (argsL := [.int c]) (lenOf pd_5 rfl) rfl rfl rfl (Nat.le_of_eq rfl) (Nat.le_of_ble_eq_true rfl) (Nat.le_of_ble_eq_true rfl) fun v107 h108 ps104 q106 z105 => ?_
  obtain ⟨rfl, K1, S1⟩ := q106
  show Own.Run V K b_sbC _ h108 _ 0 0 5 [.val (.ref s), .val (.int c)] [.ref s]
  refine r_pop 6 rfl d8_5 rfl ?_
  refine r_aloadN 7 rfl d8_6 rfl rfl ?_
  refine r_aret (t := (.object "java/lang/StringBuilder")) rfl rfl rfl d8_7 (by decide) (by decide) [] (fun _ q => nomatch q) ?_
  exact ⟨rfl, K1, S1⟩
theorem d9_0 : decode jdk_68_method_64_code 0 = .ok (.aload_n 0, 1) := by decide +kernel
theorem d9_1 : decode jdk_68_method_64_code 1 = .ok (.getfield 15, 3) := by decide +kernel
theorem d9_4 : decode jdk_68_method_64_code 4 = .ok (.areturn, 1) := by decide +kernel
abbrev b_getV : Bx := (⟨"java/lang/AbstractStringBuilder", "getValue", "()[B"⟩, jdk_68_method_64_code, 1, some (.array .byte), { frames := 0, cells := 0, slots := 0, locals := 0 })
theorem c_getV (V : Vw) (hw : ∀ d ∈ tables_1, d.before V.a0 V.Z = true) (s t cap : Nat) (cs : List Int32) (h : Heap) (ps : List Addr) (S : Sb V h s t cap cs) : Con V b_getV #[.ref s] h ps (fun v h' _ => v = some (.ref t) ∧ h' = h) := Con.of (plainFor_of_name pn_1) (L := [.val (.ref s)]) rfl fun K => by
  obtain ⟨kb, zs, zt, X, Fv, Fc, Fn, A, lc, lcap⟩ := id S
  refine r_aloadN 1 rfl d9_0 rfl rfl ?_
  refine r_getfield 4 rfl d9_1 (wd hw 55 rfl) Fv ?_
  refine r_aret (t := (.array .byte)) rfl rfl rfl d9_4 (by decide) (by decide) [] (fun _ q => nomatch q) ?_
  exact ⟨rfl, rfl⟩
theorem d10_0 : decode jdk_68_method_6_code 0 = .ok (.aload_n 0, 1) := by decide +kernel
theorem d10_1 : decode jdk_68_method_6_code 1 = .ok (.getfield 79, 3) := by decide +kernel
theorem d10_4 : decode jdk_68_method_6_code 4 = .ok (.ireturn, 1) := by decide +kernel
abbrev b_aLen : Bx := (⟨"java/lang/AbstractStringBuilder", "length", "()I"⟩, jdk_68_method_6_code, 1, some .int, { frames := 0, cells := 0, slots := 0, locals := 0 })
theorem c_aLen (V : Vw) (hw : ∀ d ∈ tables_1, d.before V.a0 V.Z = true) (s t cap : Nat) (cs : List Int32) (h : Heap) (ps : List Addr) (S : Sb V h s t cap cs) : Con V b_aLen #[.ref s] h ps (Qi (Int32.ofNat cs.length) h) := Con.of (plainFor_of_name pn_1) (L := [.val (.ref s)]) rfl fun K => by
  obtain ⟨kb, zs, zt, X, Fv, Fc, Fn, A, lc, lcap⟩ := id S
  refine r_aloadN 1 rfl d10_0 rfl rfl ?_
  refine r_getfield 4 rfl d10_1 (wd hw 85 rfl) Fn ?_
  refine r_iret rfl d10_4 (by decide) (by decide) [] (fun _ q => nomatch q) ?_
  exact ⟨rfl, rfl⟩
theorem d11_0 : decode jdk_67_method_93_code 0 = .ok (.aload_n 0, 1) := by decide +kernel
theorem d11_1 : decode jdk_67_method_93_code 1 = .ok (.invokespecial 343, 3) := by decide +kernel
theorem d11_4 : decode jdk_67_method_93_code 4 = .ok (.ireturn, 1) := by decide +kernel
abbrev b_sLen : Bx := (⟨"java/lang/StringBuilder", "length", "()I"⟩, jdk_67_method_93_code, 1, some .int, { frames := 1, cells := 0, slots := 0, locals := 14 })
theorem c_sLen (V : Vw) (hw : ∀ d ∈ tables_1, d.before V.a0 V.Z = true) (s t cap : Nat) (cs : List Int32) (h : Heap) (ps : List Addr) (S : Sb V h s t cap cs) : Con V b_sLen #[.ref s] h ps (Qi (Int32.ofNat cs.length) h) := Con.of (plainFor_of_name pn_2) (L := [.val (.ref s)]) rfl fun K => by
  refine r_aloadN 1 rfl d11_0 rfl rfl ?_
  refine r_super 4 rfl d11_1 (by decide) (wd hw 82 rfl) (wd hw 83 rfl) (wd hw 78 rfl) (wd hw 84 rfl) (wd hw 74 rfl) rfl (by decide) S.exa (Pays.con (K := K) (B := b_sLen) (c_aLen V hw s t cap cs h _ S) (wd hw 84 rfl) (wd hw 51 rfl) (by decide) (by decide)) (W := 0) (argsL := []) (lenOf pd_8 rfl) rfl rfl rfl (Nat.le_of_eq rfl) (Nat.le_of_ble_eq_true rfl) (Nat.le_of_ble_eq_true rfl) fun v112 h113 ps109 q111 z110 => ?_
  obtain ⟨rfl, es114⟩ := q111
  subst h113
  show Own.Run V K b_sLen _ h _ 0 0 4 [.val (.ref s)] [.int (Int32.ofNat cs.length)]
  refine r_iret rfl d11_4 (by decide) (by decide) [] (fun _ q => nomatch q) ?_
  exact ⟨rfl, rfl⟩
theorem d12_0 : decode jdk_65_method_131_code 0 = .ok (.iload_n 1, 1) := by decide +kernel
theorem d12_1 : decode jdk_65_method_131_code 1 = .ok (.iload_n 0, 1) := by decide +kernel
theorem d12_2 : decode jdk_65_method_131_code 2 = .ok (.if_icmp .ge 35, 3) := by decide +kernel
theorem d12_5 : decode jdk_65_method_131_code 5 = .ok (.new 43, 3) := by decide +kernel
theorem d12_8 : decode jdk_65_method_131_code 8 = .ok (.dup, 1) := by decide +kernel
theorem d12_9 : decode jdk_65_method_131_code 9 = .ok (.new 45, 3) := by decide +kernel
theorem d12_12 : decode jdk_65_method_131_code 12 = .ok (.dup, 1) := by decide +kernel
theorem d12_13 : decode jdk_65_method_131_code 13 = .ok (.invokespecial 47, 3) := by decide +kernel
theorem d12_16 : decode jdk_65_method_131_code 16 = .ok (.iload_n 0, 1) := by decide +kernel
theorem d12_17 : decode jdk_65_method_131_code 17 = .ok (.invokevirtual 54, 3) := by decide +kernel
theorem d12_20 : decode jdk_65_method_131_code 20 = .ok (.ldc_w 337, 3) := by decide +kernel
theorem d12_23 : decode jdk_65_method_131_code 23 = .ok (.invokevirtual 50, 3) := by decide +kernel
theorem d12_26 : decode jdk_65_method_131_code 26 = .ok (.iload_n 1, 1) := by decide +kernel
theorem d12_27 : decode jdk_65_method_131_code 27 = .ok (.invokevirtual 54, 3) := by decide +kernel
theorem d12_30 : decode jdk_65_method_131_code 30 = .ok (.invokevirtual 61, 3) := by decide +kernel
theorem d12_33 : decode jdk_65_method_131_code 33 = .ok (.invokespecial 65, 3) := by decide +kernel
theorem d12_36 : decode jdk_65_method_131_code 36 = .ok (.athrow, 1) := by decide +kernel
theorem d12_37 : decode jdk_65_method_131_code 37 = .ok (.return_, 1) := by decide +kernel
abbrev b_chk : Bx := (⟨"java/util/Arrays", "checkLength", "(II)V"⟩, jdk_65_method_131_code, 2, none, { frames := 0, cells := 0, slots := 0, locals := 0 })
theorem c_chk (V : Vw) (hw : ∀ d ∈ tables_1, d.before V.a0 V.Z = true) (n : Nat) (hn : n ≤ 4000) (h : Heap) (ps : List Addr) : Con V b_chk #[.int 0, .int (Int32.ofNat n)] h ps (Qu h) := Con.of (plainFor_of_name pn_4) (L := [.val (.int (0 : Int32)), .val (.int (Int32.ofNat n))]) rfl fun K => by
  refine r_iloadN 1 rfl d12_0 rfl ?_
  refine r_iloadN 2 rfl d12_1 rfl ?_
  refine r_icmp_ge 37 5 d12_2 (by decide) rfl rfl (fun c115 => ?_) (fun c115 => ?_)
  rotate_left
  · exact absurd c115 (ofN_nn (by omega))
  refine r_ret rfl d12_37 (by decide) (by decide) [] (fun _ q => nomatch q) ?_
  exact ⟨rfl, rfl⟩
theorem d13_0 : decode jdk_29_method_69_code 0 = .ok (.iload_n 0, 1) := by decide +kernel
theorem d13_1 : decode jdk_29_method_69_code 1 = .ok (.iload_n 1, 1) := by decide +kernel
theorem d13_2 : decode jdk_29_method_69_code 2 = .ok (.if_icmp .gt 7, 3) := by decide +kernel
theorem d13_5 : decode jdk_29_method_69_code 5 = .ok (.iload_n 0, 1) := by decide +kernel
theorem d13_6 : decode jdk_29_method_69_code 6 = .ok (.goto 4, 3) := by decide +kernel
theorem d13_9 : decode jdk_29_method_69_code 9 = .ok (.iload_n 1, 1) := by decide +kernel
theorem d13_10 : decode jdk_29_method_69_code 10 = .ok (.ireturn, 1) := by decide +kernel
abbrev b_min : Bx := (⟨"java/lang/Math", "min", "(II)I"⟩, jdk_29_method_69_code, 2, some .int, { frames := 0, cells := 0, slots := 0, locals := 0 })
def mn2 (a b : Int32) : Int32 := if b < a then b else a
theorem c_min (V : Vw) (hw : ∀ d ∈ tables_1, d.before V.a0 V.Z = true) (a b : Int32) (h : Heap) (ps : List Addr) : Con V b_min #[.int a, .int b] h ps (Qi (mn2 a b) h) := Con.of (by decide +kernel) (L := [.val (.int a), .val (.int b)]) rfl fun K => by
  refine r_iloadN 1 rfl d13_0 rfl ?_
  refine r_iloadN 2 rfl d13_1 rfl ?_
  refine r_icmp_gt 9 5 d13_2 (by decide) rfl rfl (fun c116 => ?_) (fun c116 => ?_)
  · refine r_iloadN 10 rfl d13_9 rfl ?_
    refine r_iret rfl d13_10 (by decide) (by decide) [] (fun _ q => nomatch q) ?_
    exact ⟨by rw [show mn2 a b = b from if_pos c116], rfl⟩
  · refine r_iloadN 6 rfl d13_5 rfl ?_
    refine r_goto 10 d13_6 (by decide) rfl ?_
    refine r_iret rfl d13_10 (by decide) (by decide) [] (fun _ q => nomatch q) ?_
    exact ⟨by rw [show mn2 a b = a from if_neg c116], rfl⟩
def Qcr (V : Vw) (cs : List Int32) (h0 : Heap) : Qt := fun v h _ => ∃ (u : Nat) (k : ClassId), v = some (.ref u) ∧ Ext h0 h ∧ h0.size ≤ u ∧ Arv V.Z h u k .byte (Int32.ofNat cs.length) (cs.map fun c => Value.int (StrChars.lo8 c)) (.int 0)
theorem d14_0 : decode jdk_65_method_133_code 0 = .ok (.iload_n 1, 1) := by decide +kernel
theorem d14_1 : decode jdk_65_method_133_code 1 = .ok (.iload_n 2, 1) := by decide +kernel
theorem d14_2 : decode jdk_65_method_133_code 2 = .ok (.invokestatic 343, 3) := by decide +kernel
theorem d14_5 : decode jdk_65_method_133_code 5 = .ok (.iload_n 2, 1) := by decide +kernel
theorem d14_6 : decode jdk_65_method_133_code 6 = .ok (.iload_n 1, 1) := by decide +kernel
theorem d14_7 : decode jdk_65_method_133_code 7 = .ok (.isub, 1) := by decide +kernel
theorem d14_8 : decode jdk_65_method_133_code 8 = .ok (.istore_n 3, 1) := by decide +kernel
theorem d14_9 : decode jdk_65_method_133_code 9 = .ok (.iload_n 3, 1) := by decide +kernel
theorem d14_10 : decode jdk_65_method_133_code 10 = .ok (.newarray .byte, 2) := by decide +kernel
theorem d14_12 : decode jdk_65_method_133_code 12 = .ok (.astore 4, 2) := by decide +kernel
theorem d14_14 : decode jdk_65_method_133_code 14 = .ok (.aload_n 0, 1) := by decide +kernel
theorem d14_15 : decode jdk_65_method_133_code 15 = .ok (.iload_n 1, 1) := by decide +kernel
theorem d14_16 : decode jdk_65_method_133_code 16 = .ok (.aload 4, 2) := by decide +kernel
theorem d14_18 : decode jdk_65_method_133_code 18 = .ok (.iconst 0, 1) := by decide +kernel
theorem d14_19 : decode jdk_65_method_133_code 19 = .ok (.aload_n 0, 1) := by decide +kernel
theorem d14_20 : decode jdk_65_method_133_code 20 = .ok (.arraylength, 1) := by decide +kernel
theorem d14_21 : decode jdk_65_method_133_code 21 = .ok (.iload_n 1, 1) := by decide +kernel
theorem d14_22 : decode jdk_65_method_133_code 22 = .ok (.isub, 1) := by decide +kernel
theorem d14_23 : decode jdk_65_method_133_code 23 = .ok (.iload_n 3, 1) := by decide +kernel
theorem d14_24 : decode jdk_65_method_133_code 24 = .ok (.invokestatic 304, 3) := by decide +kernel
theorem d14_27 : decode jdk_65_method_133_code 27 = .ok (.invokestatic 150, 3) := by decide +kernel
theorem d14_30 : decode jdk_65_method_133_code 30 = .ok (.aload 4, 2) := by decide +kernel
theorem d14_32 : decode jdk_65_method_133_code 32 = .ok (.areturn, 1) := by decide +kernel
abbrev b_corB : Bx := (⟨"java/util/Arrays", "copyOfRangeByte", "([BII)[B"⟩, jdk_65_method_133_code, 5, some (.array .byte), { frames := 1, cells := 1, slots := 11, locals := 46 })
theorem c_corB (V : Vw) (hw : ∀ d ∈ tables_1, d.before V.a0 V.Z = true) (t cap : Nat) (kb : ClassId) (cs : List Int32) (h : Heap) (ps : List Addr) (A : Arv V.Z h t kb .byte (Int32.ofNat cap) (cs.map fun c => Value.int (StrChars.lo8 c)) (.int 0)) (hlt : cs.length < cap) (lcap : cap ≤ 11) : Con V b_corB #[.ref t, .int 0, .int (Int32.ofNat cs.length)] h ps (Qcr V cs h) := Con.of (plainFor_of_name pn_4) (L := [.val (.ref t), .val (.int (0 : Int32)), .val (.int (Int32.ofNat cs.length)), .unset, .unset]) rfl fun K => by
  refine r_iloadN 1 rfl d14_0 rfl ?_
  refine r_iloadN 2 rfl d14_1 rfl ?_
  refine r_static 5 rfl d14_2 (wd hw 99 rfl) (wd hw 100 rfl) (wd hw 94 rfl) (wd hw 101 rfl) (by decide) (Pays.con (K := K) (B := b_corB) (c_chk V hw cs.length (by omega) h _) (wd hw 101 rfl) (wd hw 94 rfl) (by decide) (by decide)) (W := 0) (argsL := [.int (0 : Int32), .int (Int32.ofNat cs.length)]) (lenOf pd_9 rfl) rfl rfl rfl (Nat.le_of_eq rfl) (Nat.le_of_ble_eq_true rfl) (Nat.le_of_ble_eq_true rfl) fun v120 h121 ps117 q119 z118 => ?_
  obtain ⟨rfl, es122⟩ := q119
  subst h121
  show Own.Run V K b_corB _ h _ 0 0 5 [.val (.ref t), .val (.int (0 : Int32)), .val (.int (Int32.ofNat cs.length)), .unset, .unset] []
  refine r_iloadN 6 rfl d14_5 rfl ?_
  refine r_iloadN 7 rfl d14_6 rfl ?_
  refine r_isub 8 rfl d14_7 ?_
  rw [sub0]
  refine r_istoreN [.val (.ref t), .val (.int (0 : Int32)), .val (.int (Int32.ofNat cs.length)), .val (.int (Int32.ofNat cs.length)), .unset] 9 rfl d14_8 rfl ?_
  refine r_iloadN 10 rfl d14_9 rfl ?_
  refine r_newarray 11 12 rfl d14_10 (wd hw 19 rfl) (ofN_nn (by omega)) (by rw [ofN_nat (by omega)]; exact (by omega)) (by decide) (by decide) (by decide) fun a123 h124 k125 ga123 za123 Eh124 Aa123 => ?_
  have f126 := A.ext Eh124
  have sh124 := Eh124.1
  have la123 := ltN Aa123.lt
  refine r_astore [.val (.ref t), .val (.int (0 : Int32)), .val (.int (Int32.ofNat cs.length)), .val (.int (Int32.ofNat cs.length)), .val (.ref a123)] 14 rfl d14_12 rfl rfl ?_
  refine r_aloadN 15 rfl d14_14 rfl rfl ?_
  refine r_iloadN 16 rfl d14_15 rfl ?_
  refine r_aload 18 rfl d14_16 rfl rfl ?_
  refine r_iconst (0 : Int32) 19 rfl d14_18 rfl ?_
  refine r_aloadN 20 rfl d14_19 rfl rfl ?_
  refine r_arraylength 21 rfl d14_20 f126 ?_
  refine r_iloadN 22 rfl d14_21 rfl ?_
  refine r_isub 23 rfl d14_22 ?_
  rw [sub0]
  refine r_iloadN 24 rfl d14_23 rfl ?_
  refine r_static 27 rfl d14_24 (wd hw 102 rfl) (wd hw 103 rfl) (wd hw 104 rfl) (wd hw 105 rfl) (by decide) (Pays.con (K := K) (B := b_corB) (c_min V hw (Int32.ofNat cap) (Int32.ofNat cs.length) h124 _) (wd hw 105 rfl) (wd hw 104 rfl) (by decide) (by decide)) (W := 4) (argsL := [.int (Int32.ofNat cap), .int (Int32.ofNat cs.length)]) (lenOf pd_10 rfl) rfl rfl rfl (Nat.le_of_eq rfl) (Nat.le_of_ble_eq_true rfl) (Nat.le_of_ble_eq_true rfl) fun v130 h131 ps127 q129 z128 => ?_
  obtain ⟨rfl, es132⟩ := q129
  subst h131
  show Own.Run V K b_corB _ h124 _ 1 11 27 [.val (.ref t), .val (.int (0 : Int32)), .val (.int (Int32.ofNat cs.length)), .val (.int (Int32.ofNat cs.length)), .val (.ref a123)] [.int (mn2 (Int32.ofNat cap) (Int32.ofNat cs.length)), .int (0 : Int32), .ref a123, .int (0 : Int32), .ref t]
  rw [show (mn2 (Int32.ofNat cap) (Int32.ofNat cs.length)) = Int32.ofNat cs.length from if_pos ((ofN_lt (by omega) (by omega)).mpr hlt)]
  refine r_acopy 0 0 cs.length 0 (cs.map fun c => Value.int (StrChars.lo8 c)) 30 rfl d14_27 (wd hw 106 rfl) (wd hw 109 rfl) (wd hw 107 rfl) (wd hw 108 rfl) f126 Aa123 (rfl) (rfl) (rfl) (by rw [ofN_nat (by omega)]; omega) (by rw [ofN_nat (by omega)]; omega) (fun j hj => cpyG _ cs _ j (by rw [ofN_nat (by omega)] at hj; exact hj)) za123 (by simp) rfl (by decide) (Nat.le_of_eq rfl) (by decide) fun h133 Kh133 Ah133 => ?_
  refine r_aload 32 rfl d14_30 rfl rfl ?_
  refine r_aret (t := (.array .byte)) rfl rfl rfl d14_32 (by decide) (by decide) [] (fun _ q => nomatch q) ?_
  exact ⟨_, _, rfl, Keep.ext0 Eh124 Kh133 (fun w hw' => by cases List.mem_singleton.mp hw'; exact leA (by omega)), by omega, Ah133⟩
theorem d15_0 : decode jdk_65_method_132_code 0 = .ok (.iload_n 1, 1) := by decide +kernel
theorem d15_1 : decode jdk_65_method_132_code 1 = .ok (.ifCond .ne 9, 3) := by decide +kernel
theorem d15_4 : decode jdk_65_method_132_code 4 = .ok (.iload_n 2, 1) := by decide +kernel
theorem d15_5 : decode jdk_65_method_132_code 5 = .ok (.aload_n 0, 1) := by decide +kernel
theorem d15_6 : decode jdk_65_method_132_code 6 = .ok (.arraylength, 1) := by decide +kernel
theorem d15_7 : decode jdk_65_method_132_code 7 = .ok (.if_icmp .eq 10, 3) := by decide +kernel
theorem d15_10 : decode jdk_65_method_132_code 10 = .ok (.aload_n 0, 1) := by decide +kernel
theorem d15_11 : decode jdk_65_method_132_code 11 = .ok (.iload_n 1, 1) := by decide +kernel
theorem d15_12 : decode jdk_65_method_132_code 12 = .ok (.iload_n 2, 1) := by decide +kernel
theorem d15_13 : decode jdk_65_method_132_code 13 = .ok (.invokestatic 339, 3) := by decide +kernel
theorem d15_16 : decode jdk_65_method_132_code 16 = .ok (.areturn, 1) := by decide +kernel
theorem d15_17 : decode jdk_65_method_132_code 17 = .ok (.aload_n 0, 1) := by decide +kernel
theorem d15_18 : decode jdk_65_method_132_code 18 = .ok (.invokevirtual 310, 3) := by decide +kernel
theorem d15_21 : decode jdk_65_method_132_code 21 = .ok (.checkcast 311, 3) := by decide +kernel
theorem d15_24 : decode jdk_65_method_132_code 24 = .ok (.areturn, 1) := by decide +kernel
abbrev b_cor : Bx := (⟨"java/util/Arrays", "copyOfRange", "([BII)[B"⟩, jdk_65_method_132_code, 3, some (.array .byte), { frames := 2, cells := 1, slots := 11, locals := 64 })
theorem c_cor (V : Vw) (hw : ∀ d ∈ tables_1, d.before V.a0 V.Z = true) (t cap : Nat) (kb : ClassId) (cs : List Int32) (h : Heap) (ps : List Addr) (A : Arv V.Z h t kb .byte (Int32.ofNat cap) (cs.map fun c => Value.int (StrChars.lo8 c)) (.int 0)) (hlt : cs.length < cap) (lcap : cap ≤ 11) : Con V b_cor #[.ref t, .int 0, .int (Int32.ofNat cs.length)] h ps (Qcr V cs h) := Con.of (plainFor_of_name pn_4) (L := [.val (.ref t), .val (.int (0 : Int32)), .val (.int (Int32.ofNat cs.length))]) rfl fun K => by
  refine r_iloadN 1 rfl d15_0 rfl ?_
  refine r_if_ne 10 4 d15_1 (by decide) rfl rfl (fun c134 => ?_) (fun c134 => ?_)
  · exact absurd rfl c134
  refine r_iloadN 5 rfl d15_4 rfl ?_
  refine r_aloadN 6 rfl d15_5 rfl rfl ?_
  refine r_arraylength 7 rfl d15_6 A ?_
  refine r_icmp_eq 17 10 d15_7 (by decide) rfl rfl (fun c135 => ?_) (fun c135 => ?_)
  · exact absurd ((ofN_lt (by omega) (by omega)).mpr hlt) (by rw [c135]; exact Int32.lt_irrefl)
  refine r_aloadN 11 rfl d15_10 rfl rfl ?_
  refine r_iloadN 12 rfl d15_11 rfl ?_
  refine r_iloadN 13 rfl d15_12 rfl ?_
  refine r_static 16 rfl d15_13 (wd hw 96 rfl) (wd hw 97 rfl) (wd hw 94 rfl) (wd hw 98 rfl) (by decide) (Pays.con (K := K) (B := b_cor) (c_corB V hw t cap kb cs h _ A hlt lcap) (wd hw 98 rfl) (wd hw 94 rfl) (by decide) (by decide)) (W := 0) (argsL := [.ref t, .int (0 : Int32), .int (Int32.ofNat cs.length)]) (lenOf pd_11 rfl) rfl rfl rfl (Nat.le_of_eq rfl) (Nat.le_of_ble_eq_true rfl) (Nat.le_of_ble_eq_true rfl) fun v139 h140 ps136 q138 z137 => ?_
  obtain ⟨u, ku, rfl, E1, gu, A1⟩ := q138
  show Own.Run V K b_cor _ h140 _ 1 11 16 [.val (.ref t), .val (.int (0 : Int32)), .val (.int (Int32.ofNat cs.length))] [.ref u]
  refine r_aret (t := (.array .byte)) rfl rfl rfl d15_16 (by decide) (by decide) [] (fun _ q => nomatch q) ?_
  exact ⟨_, _, rfl, E1, gu, A1⟩
theorem d16_0 : decode jdk_42_method_150_code 0 = .ok (.aload_n 0, 1) := by decide +kernel
theorem d16_1 : decode jdk_42_method_150_code 1 = .ok (.invokespecial 1, 3) := by decide +kernel
theorem d16_4 : decode jdk_42_method_150_code 4 = .ok (.aload_n 1, 1) := by decide +kernel
theorem d16_5 : decode jdk_42_method_150_code 5 = .ok (.invokevirtual 552, 3) := by decide +kernel
theorem d16_8 : decode jdk_42_method_150_code 8 = .ok (.astore_n 3, 1) := by decide +kernel
theorem d16_9 : decode jdk_42_method_150_code 9 = .ok (.aload_n 1, 1) := by decide +kernel
theorem d16_10 : decode jdk_42_method_150_code 10 = .ok (.invokevirtual 549, 3) := by decide +kernel
theorem d16_13 : decode jdk_42_method_150_code 13 = .ok (.istore 4, 2) := by decide +kernel
theorem d16_15 : decode jdk_42_method_150_code 15 = .ok (.aload_n 1, 1) := by decide +kernel
theorem d16_16 : decode jdk_42_method_150_code 16 = .ok (.invokevirtual 1047, 3) := by decide +kernel
theorem d16_19 : decode jdk_42_method_150_code 19 = .ok (.ifCond .eq 22, 3) := by decide +kernel
theorem d16_22 : decode jdk_42_method_150_code 22 = .ok (.aload_n 0, 1) := by decide +kernel
theorem d16_23 : decode jdk_42_method_150_code 23 = .ok (.iconst 0, 1) := by decide +kernel
theorem d16_24 : decode jdk_42_method_150_code 24 = .ok (.putfield 15, 3) := by decide +kernel
theorem d16_27 : decode jdk_42_method_150_code 27 = .ok (.aload_n 0, 1) := by decide +kernel
theorem d16_28 : decode jdk_42_method_150_code 28 = .ok (.aload_n 3, 1) := by decide +kernel
theorem d16_29 : decode jdk_42_method_150_code 29 = .ok (.iconst 0, 1) := by decide +kernel
theorem d16_30 : decode jdk_42_method_150_code 30 = .ok (.iload 4, 2) := by decide +kernel
theorem d16_32 : decode jdk_42_method_150_code 32 = .ok (.invokestatic 54, 3) := by decide +kernel
theorem d16_35 : decode jdk_42_method_150_code 35 = .ok (.putfield 9, 3) := by decide +kernel
theorem d16_38 : decode jdk_42_method_150_code 38 = .ok (.goto 59, 3) := by decide +kernel
theorem d16_41 : decode jdk_42_method_150_code 41 = .ok (.getstatic 38, 3) := by decide +kernel
theorem d16_44 : decode jdk_42_method_150_code 44 = .ok (.ifCond .eq 35, 3) := by decide +kernel
theorem d16_47 : decode jdk_42_method_150_code 47 = .ok (.aload_n 1, 1) := by decide +kernel
theorem d16_48 : decode jdk_42_method_150_code 48 = .ok (.getfield 1048, 3) := by decide +kernel
theorem d16_51 : decode jdk_42_method_150_code 51 = .ok (.ifCond .eq 28, 3) := by decide +kernel
theorem d16_54 : decode jdk_42_method_150_code 54 = .ok (.aload_n 0, 1) := by decide +kernel
theorem d16_55 : decode jdk_42_method_150_code 55 = .ok (.aload_n 3, 1) := by decide +kernel
theorem d16_56 : decode jdk_42_method_150_code 56 = .ok (.iconst 0, 1) := by decide +kernel
theorem d16_57 : decode jdk_42_method_150_code 57 = .ok (.iload 4, 2) := by decide +kernel
theorem d16_59 : decode jdk_42_method_150_code 59 = .ok (.invokestatic 1051, 3) := by decide +kernel
theorem d16_62 : decode jdk_42_method_150_code 62 = .ok (.putfield 9, 3) := by decide +kernel
theorem d16_65 : decode jdk_42_method_150_code 65 = .ok (.aload_n 0, 1) := by decide +kernel
theorem d16_66 : decode jdk_42_method_150_code 66 = .ok (.aload_n 0, 1) := by decide +kernel
theorem d16_67 : decode jdk_42_method_150_code 67 = .ok (.getfield 9, 3) := by decide +kernel
theorem d16_70 : decode jdk_42_method_150_code 70 = .ok (.iload 4, 2) := by decide +kernel
theorem d16_72 : decode jdk_42_method_150_code 72 = .ok (.invokestatic 47, 3) := by decide +kernel
theorem d16_75 : decode jdk_42_method_150_code 75 = .ok (.putfield 15, 3) := by decide +kernel
theorem d16_78 : decode jdk_42_method_150_code 78 = .ok (.return_, 1) := by decide +kernel
theorem d16_79 : decode jdk_42_method_150_code 79 = .ok (.aload_n 0, 1) := by decide +kernel
theorem d16_80 : decode jdk_42_method_150_code 80 = .ok (.iconst 1, 1) := by decide +kernel
theorem d16_81 : decode jdk_42_method_150_code 81 = .ok (.putfield 15, 3) := by decide +kernel
theorem d16_84 : decode jdk_42_method_150_code 84 = .ok (.aload_n 0, 1) := by decide +kernel
theorem d16_85 : decode jdk_42_method_150_code 85 = .ok (.aload_n 3, 1) := by decide +kernel
theorem d16_86 : decode jdk_42_method_150_code 86 = .ok (.iconst 0, 1) := by decide +kernel
theorem d16_87 : decode jdk_42_method_150_code 87 = .ok (.iload 4, 2) := by decide +kernel
theorem d16_89 : decode jdk_42_method_150_code 89 = .ok (.iconst 1, 1) := by decide +kernel
theorem d16_90 : decode jdk_42_method_150_code 90 = .ok (.ishl, 1) := by decide +kernel
theorem d16_91 : decode jdk_42_method_150_code 91 = .ok (.invokestatic 54, 3) := by decide +kernel
theorem d16_94 : decode jdk_42_method_150_code 94 = .ok (.putfield 9, 3) := by decide +kernel
theorem d16_97 : decode jdk_42_method_150_code 97 = .ok (.return_, 1) := by decide +kernel
abbrev b_sn2 : Bx := (⟨"java/lang/String", "<init>", "(Ljava/lang/AbstractStringBuilder;Ljava/lang/Void;)V"⟩, jdk_42_method_150_code, 5, none, { frames := 3, cells := 1, slots := 11, locals := 82 })
theorem c_sn2 (V : Vw) (hw : ∀ d ∈ tables_1, d.before V.a0 V.Z = true) (cz : Int32) (hCS : Sta V.Z V.Z.heap "java/lang/String" "COMPACT_STRINGS" "Z" (.int cz)) (hcz : ¬ cz = 0) (s t cap : Nat) (cs : List Int32) (h : Heap) (ps : List Addr) (S : Sb V h s t cap cs) (hlt : cs.length < cap) (lc2 : cap ≤ 11) (hby : ∀ c ∈ cs, By c) (x : Nat) (zx : V.Z.heap.size ≤ x) (hxp : x ∈ ps) (E : Exa V.Z h x "java/lang/String") (Gv : Fld V.Z h x "java/lang/String" "value" "[B" .null) (Gc : Fld V.Z h x "java/lang/String" "coder" "B" (.int 0)) : Con V b_sn2 #[.ref x, .ref s, .null] h ps (Qn V x cs h) := Con.of (plainFor_of_name pn_0) (L := [.val (.ref x), .val (.ref s), .val (.null), .unset, .unset]) rfl fun K => by
  obtain ⟨kb, zs, zt, X, Fv, Fc, Fn, A, lc, lcap⟩ := id S
  have nxs := neN (E.ne X (by decide))
  have nxt := neN (E.neArv A (wd hw 6 rfl))
  have lx := ltN E.lt
  have ltt := ltN A.lt
  refine r_aloadN 1 rfl d16_0 rfl rfl ?_
  refine r_initO 0 4 rfl d16_1 (wd hw 15 rfl) (wd hw 16 rfl) (wd hw 17 rfl) rfl (by decide) (Nat.le_of_eq rfl) (by decide) ?_
  refine r_aloadN 5 rfl d16_4 rfl rfl ?_
  refine r_virtual 8 rfl d16_5 (wd hw 71 rfl) (wd hw 72 rfl) (wd hw 74 rfl) (wd hw 73 rfl) (nfS (wd hw 74 rfl)) (by decide) X (Pays.con (K := K) (B := b_sn2) (c_getV V hw s t cap cs h _ S) (wd hw 75 rfl) (wd hw 51 rfl) (by decide) (by decide)) (W := 0) (argsL := []) (lenOf pd_7 rfl) rfl rfl rfl (Nat.le_of_eq rfl) (Nat.le_of_ble_eq_true rfl) (Nat.le_of_ble_eq_true rfl) fun v144 h145 ps141 q143 z142 => ?_
  obtain ⟨rfl, es146⟩ := q143
  subst h145
  show Own.Run V K b_sn2 _ h _ 0 0 8 [.val (.ref x), .val (.ref s), .val (.null), .unset, .unset] [.ref t]
  refine r_astoreN [.val (.ref x), .val (.ref s), .val (.null), .val (.ref t), .unset] 9 rfl d16_8 rfl rfl ?_
  refine r_aloadN 10 rfl d16_9 rfl rfl ?_
  refine r_virtual 13 rfl d16_10 (wd hw 76 rfl) (wd hw 77 rfl) (wd hw 79 rfl) (wd hw 80 rfl) (nfO (wd hw 74 rfl) rfl) (by decide) X (Pays.con (K := K) (B := b_sn2) (c_sLen V hw s t cap cs h _ S) (wd hw 81 rfl) (wd hw 32 rfl) (by decide) (by decide)) (W := 0) (argsL := []) (lenOf pd_8 rfl) rfl rfl rfl (Nat.le_of_eq rfl) (Nat.le_of_ble_eq_true rfl) (Nat.le_of_ble_eq_true rfl) fun v150 h151 ps147 q149 z148 => ?_
  obtain ⟨rfl, es152⟩ := q149
  subst h151
  show Own.Run V K b_sn2 _ h _ 0 0 13 [.val (.ref x), .val (.ref s), .val (.null), .val (.ref t), .unset] [.int (Int32.ofNat cs.length)]
  refine r_istore [.val (.ref x), .val (.ref s), .val (.null), .val (.ref t), .val (.int (Int32.ofNat cs.length))] 15 rfl d16_13 rfl ?_
  refine r_aloadN 16 rfl d16_15 rfl rfl ?_
  refine r_virtual 19 rfl d16_16 (wd hw 87 rfl) (wd hw 88 rfl) (wd hw 90 rfl) (wd hw 89 rfl) (nfS (wd hw 90 rfl)) (by decide) X (Pays.con (K := K) (B := b_sn2) (c_aLat V hw cz hCS hcz s t cap cs h _ S) (wd hw 91 rfl) (wd hw 51 rfl) (by decide) (by decide)) (W := 0) (argsL := []) (lenOf pd_4 rfl) rfl rfl rfl (Nat.le_of_eq rfl) (Nat.le_of_ble_eq_true rfl) (Nat.le_of_ble_eq_true rfl) fun v156 h157 ps153 q155 z154 => ?_
  obtain ⟨rfl, es158⟩ := q155
  subst h157
  show Own.Run V K b_sn2 _ h _ 0 0 19 [.val (.ref x), .val (.ref s), .val (.null), .val (.ref t), .val (.int (Int32.ofNat cs.length))] [.int (1 : Int32)]
  refine r_if_eq 41 22 d16_19 (by decide) rfl rfl (fun c159 => ?_) (fun c159 => ?_)
  · exact absurd c159 (by decide)
  refine r_aloadN 23 rfl d16_22 rfl rfl ?_
  refine r_iconst (0 : Int32) 24 rfl d16_23 rfl ?_
  refine r_putfield 27 rfl d16_24 (wd hw 25 rfl) Gc E (Or.inr ⟨wd hw 21 rfl, rfl, rfl⟩) (wd hw 6 rfl) (ty := .byte) (by decide) (by decide) (by decide) zx (Or.inr (by simp [hxp])) fun h160 Wh160 => ?_
  have sh160 := Wh160.size
  have f161 := Exa.wr Wh160 X
  have f162 := Exa.wr Wh160 E
  have f163 := Fld.other Wh160 Gv (Or.inr (slot_ne (C := "java/lang/String") (Or.inr (wd hw 20 rfl)) (Or.inr (wd hw 21 rfl)) (by decide) (t := (.array .byte)) (by decide) (t' := .byte) (by decide)))
  have f164 := Fld.same Wh160 Gc
  have f165 := Arv.other A Wh160 (neA (by omega))
  refine r_aloadN 28 rfl d16_27 rfl rfl ?_
  refine r_aloadN 29 rfl d16_28 rfl rfl ?_
  refine r_iconst (0 : Int32) 30 rfl d16_29 rfl ?_
  refine r_iload 32 rfl d16_30 rfl ?_
  refine r_static 35 rfl d16_32 (wd hw 92 rfl) (wd hw 93 rfl) (wd hw 94 rfl) (wd hw 95 rfl) (by decide) (Pays.con (K := K) (B := b_sn2) (c_cor V hw t cap kb cs h160 _ f165 hlt lc2) (wd hw 95 rfl) (wd hw 94 rfl) (by decide) (by decide)) (W := 1) (argsL := [.ref t, .int (0 : Int32), .int (Int32.ofNat cs.length)]) (lenOf pd_11 rfl) rfl rfl rfl (Nat.le_of_eq rfl) (Nat.le_of_ble_eq_true rfl) (Nat.le_of_ble_eq_true rfl) fun v169 h170 ps166 q168 z167 => ?_
  obtain ⟨u, ku, rfl, E1, gu, A1⟩ := q168
  have f171 := Exa.ext E1 f161
  have f172 := Exa.ext E1 f162
  have f173 := Fld.ext E1 f163
  have f174 := Fld.ext E1 f164
  have f175 := f165.ext E1
  have sh170 := E1.1
  show Own.Run V K b_sn2 _ h170 _ 1 11 35 [.val (.ref x), .val (.ref s), .val (.null), .val (.ref t), .val (.int (Int32.ofNat cs.length))] [.ref u, .ref x]
  have lu := ltN A1.lt
  refine r_putfield 38 rfl d16_35 (wd hw 24 rfl) f173 f172 (Or.inr ⟨wd hw 20 rfl, rfl, rfl⟩) (wd hw 6 rfl) (ty := (.array .byte)) (by decide) rfl rfl zx (Or.inr (by simp [hxp])) fun h176 Wh176 => ?_
  have sh176 := Wh176.size
  have f177 := Exa.wr Wh176 f171
  have f178 := Exa.wr Wh176 f172
  have f179 := Fld.same Wh176 f173
  have f180 := Fld.other Wh176 f174 (Or.inr (slot_ne (C := "java/lang/String") (Or.inr (wd hw 21 rfl)) (Or.inr (wd hw 20 rfl)) (by decide) (t := .byte) (by decide) (t' := (.array .byte)) (by decide)))
  have f181 := Arv.other f175 Wh176 (neA (by omega))
  have f182 := Arv.other A1 Wh176 (neA (by omega))
  refine r_goto 97 d16_38 (by decide) rfl ?_
  refine r_ret rfl d16_97 (by decide) (by decide) [] (fun _ q => nomatch q) ?_
  exact ⟨rfl, ((((Keep.refl _ _).wr Wh160 (Or.inl (by simp))).ext E1).wr Wh176 (Or.inl (by simp))), u, ku, 0, _, _, f178.lt, f182.lt, Nat.le_refl _, f178, f179, f180, f182, Or.inl ⟨rfl, rfl, rfl, fun c hc => (hby c hc).2⟩, up16 hby, by omega⟩
theorem d17_0 : decode jdk_42_method_53_code 0 = .ok (.aload_n 0, 1) := by decide +kernel
theorem d17_1 : decode jdk_42_method_53_code 1 = .ok (.aload_n 1, 1) := by decide +kernel
theorem d17_2 : decode jdk_42_method_53_code 2 = .ok (.aconst_null, 1) := by decide +kernel
theorem d17_3 : decode jdk_42_method_53_code 3 = .ok (.invokespecial 489, 3) := by decide +kernel
theorem d17_6 : decode jdk_42_method_53_code 6 = .ok (.return_, 1) := by decide +kernel
abbrev b_sn1 : Bx := (⟨"java/lang/String", "<init>", "(Ljava/lang/StringBuilder;)V"⟩, jdk_42_method_53_code, 2, none, { frames := 4, cells := 1, slots := 11, locals := 100 })
theorem c_sn1 (V : Vw) (hw : ∀ d ∈ tables_1, d.before V.a0 V.Z = true) (cz : Int32) (hCS : Sta V.Z V.Z.heap "java/lang/String" "COMPACT_STRINGS" "Z" (.int cz)) (hcz : ¬ cz = 0) (s t cap : Nat) (cs : List Int32) (h : Heap) (ps : List Addr) (S : Sb V h s t cap cs) (hlt : cs.length < cap) (lc2 : cap ≤ 11) (hby : ∀ c ∈ cs, By c) (x : Nat) (zx : V.Z.heap.size ≤ x) (hxp : x ∈ ps) (E : Exa V.Z h x "java/lang/String") (Gv : Fld V.Z h x "java/lang/String" "value" "[B" .null) (Gc : Fld V.Z h x "java/lang/String" "coder" "B" (.int 0)) : Con V b_sn1 #[.ref x, .ref s] h ps (Qn V x cs h) := Con.of (plainFor_of_name pn_0) (L := [.val (.ref x), .val (.ref s)]) rfl fun K => by
  refine r_aloadN 1 rfl d17_0 rfl rfl ?_
  refine r_aloadN 2 rfl d17_1 rfl rfl ?_
  refine r_null 3 rfl d17_2 ?_
  refine r_special 6 rfl d17_3 rfl (wd hw 68 rfl) (wd hw 69 rfl) (wd hw 70 rfl) (by decide) (Pays.con (K := K) (B := b_sn1) (c_sn2 V hw cz hCS hcz s t cap cs h _ S hlt lc2 hby x zx (by simp [hxp]) E Gv Gc) (wd hw 70 rfl) (wd hw 7 rfl) (by decide) (by decide)) (W := 0) (argsL := [.ref s, .null]) (lenOf pd_12 rfl) rfl rfl rfl (Nat.le_of_eq rfl) (Nat.le_of_ble_eq_true rfl) (Nat.le_of_ble_eq_true rfl) fun v186 h187 ps183 q185 z184 => ?_
  obtain ⟨rfl, K1, S1⟩ := q185
  show Own.Run V K b_sn1 _ h187 _ 1 11 6 [.val (.ref x), .val (.ref s)] []
  refine r_ret rfl d17_6 (by decide) (by decide) [] (fun _ q => nomatch q) ?_
  exact ⟨rfl, K1, S1⟩
theorem d18_0 : decode jdk_67_method_42_code 0 = .ok (.new 18, 3) := by decide +kernel
theorem d18_3 : decode jdk_67_method_42_code 3 = .ok (.dup, 1) := by decide +kernel
theorem d18_4 : decode jdk_67_method_42_code 4 = .ok (.aload_n 0, 1) := by decide +kernel
theorem d18_5 : decode jdk_67_method_42_code 5 = .ok (.invokespecial 137, 3) := by decide +kernel
theorem d18_8 : decode jdk_67_method_42_code 8 = .ok (.areturn, 1) := by decide +kernel
abbrev b_toS : Bx := (⟨"java/lang/StringBuilder", "toString", "()Ljava/lang/String;"⟩, jdk_67_method_42_code, 1, some (.object "java/lang/String"), { frames := 5, cells := 2, slots := 15, locals := 118 })
theorem c_toS (V : Vw) (hw : ∀ d ∈ tables_1, d.before V.a0 V.Z = true) (cz : Int32) (hCS : Sta V.Z V.Z.heap "java/lang/String" "COMPACT_STRINGS" "Z" (.int cz)) (hcz : ¬ cz = 0) (s t cap : Nat) (cs : List Int32) (h : Heap) (ps : List Addr) (S : Sb V h s t cap cs) (hlt : cs.length < cap) (lc2 : cap ≤ 11) (hby : ∀ c ∈ cs, By c) : Con V b_toS #[.ref s] h ps (Qmk V cs h) := Con.of (plainFor_of_name pn_2) (L := [.val (.ref s)]) rfl fun K => by
  refine r_new 3 rfl d18_0 (wd hw 64 rfl) (wd hw 6 rfl) (wd hw 7 rfl) (by decide) (by decide) fun a188 h189 ga188 za188 Eh189 Xa188 Da188 => ?_
  have sh189 := Eh189.1
  have la188 := ltN Xa188.lt
  have f190 : Fld V.Z h189 a188 "java/lang/String" "value" "[B" (.null) := Da188 (Or.inr (wd hw 20 rfl)) (ty := (.array .byte)) (by decide)
  have f191 : Fld V.Z h189 a188 "java/lang/String" "coder" "B" (.int (0 : Int32)) := Da188 (Or.inr (wd hw 21 rfl)) (ty := .byte) (by decide)
  refine r_dup 4 rfl d18_3 rfl ?_
  refine r_aloadN 5 rfl d18_4 rfl rfl ?_
  refine r_special 8 rfl d18_5 rfl (wd hw 65 rfl) (wd hw 66 rfl) (wd hw 67 rfl) (by decide) (Pays.con (K := K) (B := b_toS) (c_sn1 V hw cz hCS hcz s t cap cs h189 _ (S.ext Eh189) hlt lc2 hby a188 za188 (by simp) Xa188 f190 f191) (wd hw 67 rfl) (wd hw 7 rfl) (by decide) (by decide)) (W := 1) (argsL := [.ref s]) (lenOf pd_13 rfl) rfl rfl rfl (Nat.le_of_eq rfl) (Nat.le_of_ble_eq_true rfl) (Nat.le_of_ble_eq_true rfl) fun v195 h196 ps192 q194 z193 => ?_
  obtain ⟨rfl, K1, S1⟩ := q194
  show Own.Run V K b_toS _ h196 _ 2 15 8 [.val (.ref s)] [.ref a188]
  refine r_aret (t := (.object "java/lang/String")) rfl rfl rfl d18_8 (by decide) (by decide) [] (fun _ q => nomatch q) ?_
  exact ⟨_, rfl, Keep.ext0 Eh189 K1 (fun w hw' => by cases List.mem_singleton.mp hw'; exact leA (by omega)), S1⟩
theorem d19_0 : decode jdk_42_method_154_code 0 = .ok (.getstatic 38, 3) := by decide +kernel
theorem d19_3 : decode jdk_42_method_154_code 3 = .ok (.ifCond .eq 14, 3) := by decide +kernel
theorem d19_6 : decode jdk_42_method_154_code 6 = .ok (.aload_n 0, 1) := by decide +kernel
theorem d19_7 : decode jdk_42_method_154_code 7 = .ok (.getfield 15, 3) := by decide +kernel
theorem d19_10 : decode jdk_42_method_154_code 10 = .ok (.ifCond .ne 7, 3) := by decide +kernel
theorem d19_13 : decode jdk_42_method_154_code 13 = .ok (.iconst 1, 1) := by decide +kernel
theorem d19_14 : decode jdk_42_method_154_code 14 = .ok (.goto 4, 3) := by decide +kernel
theorem d19_17 : decode jdk_42_method_154_code 17 = .ok (.iconst 0, 1) := by decide +kernel
theorem d19_18 : decode jdk_42_method_154_code 18 = .ok (.ireturn, 1) := by decide +kernel
abbrev b_isL : Bx := (⟨"java/lang/String", "isLatin1", "()Z"⟩, jdk_42_method_154_code, 1, some .boolean, { frames := 0, cells := 0, slots := 0, locals := 0 })
theorem c_isL (V : Vw) (hw : ∀ d ∈ tables_1, d.before V.a0 V.Z = true) (cz : Int32) (hCS : Sta V.Z V.Z.heap "java/lang/String" "COMPACT_STRINGS" "Z" (.int cz)) (hcz : ¬ cz = 0) (x : Nat) (h : Heap) (ps : List Addr) (F : Fld V.Z h x "java/lang/String" "coder" "B" (.int 0)) : Con V b_isL #[.ref x] h ps (fun v h' _ => v = some (.int 1) ∧ h' = h) := Con.of (plainFor_of_name pn_0) (L := [.val (.ref x)]) rfl fun K => by
  refine r_getstatic 3 rfl d19_0 (wd hw 43 rfl) hCS ?_
  refine r_if_eq 17 6 d19_3 (by decide) rfl rfl (fun c197 => ?_) (fun c197 => ?_)
  · exact absurd c197 hcz
  refine r_aloadN 7 rfl d19_6 rfl rfl ?_
  refine r_getfield 10 rfl d19_7 (wd hw 25 rfl) F ?_
  refine r_if_ne 17 13 d19_10 (by decide) rfl rfl (fun c198 => ?_) (fun c198 => ?_)
  · exact absurd rfl c198
  refine r_iconst (1 : Int32) 14 rfl d19_13 rfl ?_
  refine r_goto 18 d19_14 (by decide) rfl ?_
  refine r_nret (t := .boolean) (1 : Int32) rfl (by simp) rfl d19_18 (by decide) (by decide) [] (fun _ q => nomatch q) ?_
  exact ⟨rfl, rfl⟩
theorem d20_0 : decode jdk_29_method_65_code 0 = .ok (.iload_n 0, 1) := by decide +kernel
theorem d20_1 : decode jdk_29_method_65_code 1 = .ok (.iload_n 1, 1) := by decide +kernel
theorem d20_2 : decode jdk_29_method_65_code 2 = .ok (.if_icmp .lt 7, 3) := by decide +kernel
theorem d20_5 : decode jdk_29_method_65_code 5 = .ok (.iload_n 0, 1) := by decide +kernel
theorem d20_6 : decode jdk_29_method_65_code 6 = .ok (.goto 4, 3) := by decide +kernel
theorem d20_9 : decode jdk_29_method_65_code 9 = .ok (.iload_n 1, 1) := by decide +kernel
theorem d20_10 : decode jdk_29_method_65_code 10 = .ok (.ireturn, 1) := by decide +kernel
abbrev b_max : Bx := (⟨"java/lang/Math", "max", "(II)I"⟩, jdk_29_method_65_code, 2, some .int, { frames := 0, cells := 0, slots := 0, locals := 0 })
def mx2 (a b : Int32) : Int32 := if a < b then b else a
theorem c_max (V : Vw) (hw : ∀ d ∈ tables_1, d.before V.a0 V.Z = true) (a b : Int32) (h : Heap) (ps : List Addr) : Con V b_max #[.int a, .int b] h ps (Qi (mx2 a b) h) := Con.of (by decide +kernel) (L := [.val (.int a), .val (.int b)]) rfl fun K => by
  refine r_iloadN 1 rfl d20_0 rfl ?_
  refine r_iloadN 2 rfl d20_1 rfl ?_
  refine r_icmp_lt 9 5 d20_2 (by decide) rfl rfl (fun c199 => ?_) (fun c199 => ?_)
  · refine r_iloadN 10 rfl d20_9 rfl ?_
    refine r_iret rfl d20_10 (by decide) (by decide) [] (fun _ q => nomatch q) ?_
    exact ⟨by rw [show mx2 a b = b from if_pos c199], rfl⟩
  · refine r_iloadN 6 rfl d20_5 rfl ?_
    refine r_goto 10 d20_6 (by decide) rfl ?_
    refine r_iret rfl d20_10 (by decide) (by decide) [] (fun _ q => nomatch q) ?_
    exact ⟨by rw [show mx2 a b = a from if_neg c199], rfl⟩
def Qix (ch : Int32) (cs : List Int32) (h0 : Heap) : Qt := fun v h _ => ∃ r : Int32, v = some (.int r) ∧ h = h0 ∧ (¬ r < 0 ↔ ch ∈ cs)
theorem d21_0 : decode jdk_43_method_4_code 0 = .ok (.iload_n 0, 1) := by decide +kernel
theorem d21_1 : decode jdk_43_method_4_code 1 = .ok (.ifCond .lt 14, 3) := by decide +kernel
theorem d21_4 : decode jdk_43_method_4_code 4 = .ok (.iload_n 0, 1) := by decide +kernel
theorem d21_5 : decode jdk_43_method_4_code 5 = .ok (.sipush 255, 3) := by decide +kernel
theorem d21_8 : decode jdk_43_method_4_code 8 = .ok (.if_icmp .gt 7, 3) := by decide +kernel
theorem d21_11 : decode jdk_43_method_4_code 11 = .ok (.iconst 1, 1) := by decide +kernel
theorem d21_12 : decode jdk_43_method_4_code 12 = .ok (.goto 4, 3) := by decide +kernel
theorem d21_15 : decode jdk_43_method_4_code 15 = .ok (.iconst 0, 1) := by decide +kernel
theorem d21_16 : decode jdk_43_method_4_code 16 = .ok (.ireturn, 1) := by decide +kernel
abbrev b_canI : Bx := (⟨"java/lang/StringLatin1", "canEncode", "(I)Z"⟩, jdk_43_method_4_code, 1, some .boolean, { frames := 0, cells := 0, slots := 0, locals := 0 })
theorem c_canI (V : Vw) (hw : ∀ d ∈ tables_1, d.before V.a0 V.Z = true) (c : Int32) (hc : By c) (h : Heap) (ps : List Addr) : Con V b_canI #[.int c] h ps (Qi 1 h) := Con.of (plainFor_of_name pn_3) (L := [.val (.int c)]) rfl fun K => by
  refine r_iloadN 1 rfl d21_0 rfl ?_
  refine r_if_lt 15 4 d21_1 (by decide) rfl rfl (fun c200 => ?_) (fun c200 => ?_)
  · exact absurd c200 hc.1
  refine r_iloadN 5 rfl d21_4 rfl ?_
  refine r_sipush (255 : Int32) 8 rfl d21_5 rfl ?_
  refine r_icmp_gt 15 11 d21_8 (by decide) rfl rfl (fun c201 => ?_) (fun c201 => ?_)
  · exact absurd c201 hc.2
  refine r_iconst (1 : Int32) 12 rfl d21_11 rfl ?_
  refine r_goto 16 d21_12 (by decide) rfl ?_
  refine r_nret (t := .boolean) (1 : Int32) rfl (by simp) rfl d21_16 (by decide) (by decide) [] (fun _ q => nomatch q) ?_
  exact ⟨rfl, rfl⟩
theorem d22_0 : decode jdk_43_method_23_code 0 = .ok (.iload_n 1, 1) := by decide +kernel
theorem d22_1 : decode jdk_43_method_23_code 1 = .ok (.i2b, 1) := by decide +kernel
theorem d22_2 : decode jdk_43_method_23_code 2 = .ok (.istore 4, 2) := by decide +kernel
theorem d22_4 : decode jdk_43_method_23_code 4 = .ok (.iload_n 2, 1) := by decide +kernel
theorem d22_5 : decode jdk_43_method_23_code 5 = .ok (.istore 5, 2) := by decide +kernel
theorem d22_7 : decode jdk_43_method_23_code 7 = .ok (.iload 5, 2) := by decide +kernel
theorem d22_9 : decode jdk_43_method_23_code 9 = .ok (.iload_n 3, 1) := by decide +kernel
theorem d22_10 : decode jdk_43_method_23_code 10 = .ok (.if_icmp .ge 21, 3) := by decide +kernel
theorem d22_13 : decode jdk_43_method_23_code 13 = .ok (.aload_n 0, 1) := by decide +kernel
theorem d22_14 : decode jdk_43_method_23_code 14 = .ok (.iload 5, 2) := by decide +kernel
theorem d22_16 : decode jdk_43_method_23_code 16 = .ok (.baload, 1) := by decide +kernel
theorem d22_17 : decode jdk_43_method_23_code 17 = .ok (.iload 4, 2) := by decide +kernel
theorem d22_19 : decode jdk_43_method_23_code 19 = .ok (.if_icmp .ne 6, 3) := by decide +kernel
theorem d22_22 : decode jdk_43_method_23_code 22 = .ok (.iload 5, 2) := by decide +kernel
theorem d22_24 : decode jdk_43_method_23_code 24 = .ok (.ireturn, 1) := by decide +kernel
theorem d22_25 : decode jdk_43_method_23_code 25 = .ok (.iinc 5 1, 3) := by decide +kernel
theorem d22_28 : decode jdk_43_method_23_code 28 = .ok (.goto (-21), 3) := by decide +kernel
theorem d22_31 : decode jdk_43_method_23_code 31 = .ok (.iconst (-1), 1) := by decide +kernel
theorem d22_32 : decode jdk_43_method_23_code 32 = .ok (.ireturn, 1) := by decide +kernel
abbrev b_iofc : Bx := (⟨"java/lang/StringLatin1", "indexOfChar", "([BIII)I"⟩, jdk_43_method_23_code, 6, some .int, { frames := 0, cells := 0, slots := 0, locals := 0 })
theorem c_iofc (V : Vw) (hw : ∀ d ∈ tables_1, d.before V.a0 V.Z = true) (t : Nat) (kt : ClassId) (cs : List Int32) (hb : ∀ c ∈ cs, By c) (hl : cs.length ≤ 4000) (ch : Int32) (hc : By ch) (h : Heap) (ps : List Addr) (A : Arv V.Z h t kt .byte (Int32.ofNat cs.length) (cs.map fun c => Value.int (StrChars.lo8 c)) (.int 0)) : Con V b_iofc #[.ref t, .int ch, .int 0, .int (Int32.ofNat cs.length)] h ps (Qix ch cs h) := Con.of (plainFor_of_name pn_3) (L := [.val (.ref t), .val (.int ch), .val (.int (0 : Int32)), .val (.int (Int32.ofNat cs.length)), .unset, .unset]) rfl fun K => by
  have loop : ∀ k i, i + k = cs.length → (∀ j, j < i → cs.getD j 0 ≠ ch) → Own.Run V K b_iofc (Qix ch cs h) h ps 0 0 7 [.val (.ref t), .val (.int ch), .val (.int 0), .val (.int (Int32.ofNat cs.length)), .val (.int ch.toInt8.toInt32), .val (.int (Int32.ofNat i))] [] := by
    intro k
    induction k with
    | zero =>
      intro i hi hj
      refine r_iload 9 rfl d22_7 rfl ?_
      refine r_iloadN 10 rfl d22_9 rfl ?_
      refine r_icmp_ge 31 13 d22_10 (by decide) rfl rfl (fun c202 => ?_) (fun c202 => ?_)
      rotate_left
      · exact absurd ((ofN_lt (by omega) (by omega)).mp c202) (by omega)
      refine r_iconst (-1 : Int32) 32 rfl d22_31 rfl ?_
      refine r_iret rfl d22_32 (by decide) (by decide) [] (fun _ q => nomatch q) ?_
      exact ⟨_, rfl, rfl, ⟨fun q => absurd (by decide) q, fun q => by
        obtain ⟨j, hj1, hj2⟩ := List.getElem_of_mem q
        exact absurd (by simp [List.getD_eq_getElem?_getD, hj1, hj2]) (hj j (by omega))⟩⟩
    | succ k ih =>
      intro i hi hj
      have hlt : i < cs.length := by omega
      have hm : cs.getD i 0 ∈ cs := by simp [List.getD_eq_getElem?_getD, hlt]
      refine r_iload 9 rfl d22_7 rfl ?_
      refine r_iloadN 10 rfl d22_9 rfl ?_
      refine r_icmp_ge 31 13 d22_10 (by decide) rfl rfl (fun c203 => ?_) (fun c203 => ?_)
      · exact absurd ((ofN_lt (by omega) (by omega)).mpr hlt) c203
      refine r_aloadN 14 rfl d22_13 rfl rfl ?_
      refine r_iload 16 rfl d22_14 rfl ?_
      refine r_baload (v := .int ((cs.getD i 0).toInt8.toInt32)) 17 rfl d22_16 A ⟨ofN_nn (by omega), (ofN_lt (by omega) (by omega)).mpr hlt⟩ (by rw [ofN_nat (by omega)]; exact vsGet cs i hlt) ?_
      refine r_iload 19 rfl d22_17 rfl ?_
      refine r_icmp_ne 25 22 d22_19 (by decide) rfl rfl (fun c204 => ?_) (fun c204 => ?_)
      · refine r_iinc (1) [.val (.ref t), .val (.int ch), .val (.int (0 : Int32)), .val (.int (Int32.ofNat cs.length)), .val (.int ch.toInt8.toInt32), .val (.int ((Int32.ofNat i) + (1 : Int32)))] 28 rfl d22_25 rfl rfl rfl ?_
        refine r_goto 7 d22_28 (by decide) rfl ?_
        rw [ofN_s]
        exact ih (i + 1) (by omega) (fun j hj' => by rcases Nat.lt_succ_iff_lt_or_eq.mp hj' with q | rfl; exact hj j q; exact fun e => c204 (by rw [e]))
      · refine r_iload 24 rfl d22_22 rfl ?_
        refine r_iret rfl d22_24 (by decide) (by decide) [] (fun _ q => nomatch q) ?_
        exact ⟨_, rfl, rfl, ⟨fun _ => by rw [← lo8_by (hb _ hm) hc c204]; exact hm, fun _ => ofN_nn (by omega)⟩⟩
  refine r_iloadN 1 rfl d22_0 rfl ?_
  refine r_i2b 2 rfl d22_1 ?_
  refine r_istore [.val (.ref t), .val (.int ch), .val (.int (0 : Int32)), .val (.int (Int32.ofNat cs.length)), .val (.int ch.toInt8.toInt32), .unset] 4 rfl d22_2 rfl ?_
  refine r_iloadN 5 rfl d22_4 rfl ?_
  refine r_istore [.val (.ref t), .val (.int ch), .val (.int (0 : Int32)), .val (.int (Int32.ofNat cs.length)), .val (.int ch.toInt8.toInt32), .val (.int (0 : Int32))] 7 rfl d22_5 rfl ?_
  exact loop cs.length 0 (by omega) (fun j hj => absurd hj (Nat.not_lt_zero j))
theorem d23_0 : decode jdk_43_method_22_code 0 = .ok (.iload_n 1, 1) := by decide +kernel
theorem d23_1 : decode jdk_43_method_22_code 1 = .ok (.invokestatic 88, 3) := by decide +kernel
theorem d23_4 : decode jdk_43_method_22_code 4 = .ok (.ifCond .ne 5, 3) := by decide +kernel
theorem d23_7 : decode jdk_43_method_22_code 7 = .ok (.iconst (-1), 1) := by decide +kernel
theorem d23_8 : decode jdk_43_method_22_code 8 = .ok (.ireturn, 1) := by decide +kernel
theorem d23_9 : decode jdk_43_method_22_code 9 = .ok (.iload_n 2, 1) := by decide +kernel
theorem d23_10 : decode jdk_43_method_22_code 10 = .ok (.iconst 0, 1) := by decide +kernel
theorem d23_11 : decode jdk_43_method_22_code 11 = .ok (.invokestatic 92, 3) := by decide +kernel
theorem d23_14 : decode jdk_43_method_22_code 14 = .ok (.istore_n 2, 1) := by decide +kernel
theorem d23_15 : decode jdk_43_method_22_code 15 = .ok (.iload_n 3, 1) := by decide +kernel
theorem d23_16 : decode jdk_43_method_22_code 16 = .ok (.aload_n 0, 1) := by decide +kernel
theorem d23_17 : decode jdk_43_method_22_code 17 = .ok (.arraylength, 1) := by decide +kernel
theorem d23_18 : decode jdk_43_method_22_code 18 = .ok (.invokestatic 38, 3) := by decide +kernel
theorem d23_21 : decode jdk_43_method_22_code 21 = .ok (.istore_n 3, 1) := by decide +kernel
theorem d23_22 : decode jdk_43_method_22_code 22 = .ok (.iload_n 2, 1) := by decide +kernel
theorem d23_23 : decode jdk_43_method_22_code 23 = .ok (.iload_n 3, 1) := by decide +kernel
theorem d23_24 : decode jdk_43_method_22_code 24 = .ok (.if_icmp .lt 5, 3) := by decide +kernel
theorem d23_27 : decode jdk_43_method_22_code 27 = .ok (.iconst (-1), 1) := by decide +kernel
theorem d23_28 : decode jdk_43_method_22_code 28 = .ok (.ireturn, 1) := by decide +kernel
theorem d23_29 : decode jdk_43_method_22_code 29 = .ok (.aload_n 0, 1) := by decide +kernel
theorem d23_30 : decode jdk_43_method_22_code 30 = .ok (.iload_n 1, 1) := by decide +kernel
theorem d23_31 : decode jdk_43_method_22_code 31 = .ok (.iload_n 2, 1) := by decide +kernel
theorem d23_32 : decode jdk_43_method_22_code 32 = .ok (.iload_n 3, 1) := by decide +kernel
theorem d23_33 : decode jdk_43_method_22_code 33 = .ok (.invokestatic 95, 3) := by decide +kernel
theorem d23_36 : decode jdk_43_method_22_code 36 = .ok (.ireturn, 1) := by decide +kernel
abbrev b_liof : Bx := (⟨"java/lang/StringLatin1", "indexOf", "([BIII)I"⟩, jdk_43_method_22_code, 4, some .int, { frames := 1, cells := 0, slots := 0, locals := 20 })
theorem c_liof (V : Vw) (hw : ∀ d ∈ tables_1, d.before V.a0 V.Z = true) (t : Nat) (kt : ClassId) (cs : List Int32) (hb : ∀ c ∈ cs, By c) (hl : cs.length ≤ 4000) (ch : Int32) (hc : By ch) (h : Heap) (ps : List Addr) (A : Arv V.Z h t kt .byte (Int32.ofNat cs.length) (cs.map fun c => Value.int (StrChars.lo8 c)) (.int 0)) : Con V b_liof #[.ref t, .int ch, .int 0, .int (Int32.ofNat cs.length)] h ps (Qix ch cs h) := Con.of (plainFor_of_name pn_3) (L := [.val (.ref t), .val (.int ch), .val (.int (0 : Int32)), .val (.int (Int32.ofNat cs.length))]) rfl fun K => by
  refine r_iloadN 1 rfl d23_0 rfl ?_
  refine r_static 4 rfl d23_1 (wd hw 161 rfl) (wd hw 162 rfl) (wd hw 136 rfl) (wd hw 163 rfl) (by decide) (Pays.con (K := K) (B := b_liof) (c_canI V hw ch hc h _) (wd hw 163 rfl) (wd hw 136 rfl) (by decide) (by decide)) (W := 0) (argsL := [.int ch]) (lenOf pd_15 rfl) rfl rfl rfl (Nat.le_of_eq rfl) (Nat.le_of_ble_eq_true rfl) (Nat.le_of_ble_eq_true rfl) fun v208 h209 ps205 q207 z206 => ?_
  obtain ⟨rfl, es210⟩ := q207
  subst h209
  show Own.Run V K b_liof _ h _ 0 0 4 [.val (.ref t), .val (.int ch), .val (.int (0 : Int32)), .val (.int (Int32.ofNat cs.length))] [.int (1 : Int32)]
  refine r_if_ne 9 7 d23_4 (by decide) rfl rfl (fun c211 => ?_) (fun c211 => ?_)
  rotate_left
  · exact absurd c211 (by decide)
  refine r_iloadN 10 rfl d23_9 rfl ?_
  refine r_iconst (0 : Int32) 11 rfl d23_10 rfl ?_
  refine r_static 14 rfl d23_11 (wd hw 164 rfl) (wd hw 165 rfl) (wd hw 104 rfl) (wd hw 166 rfl) (by decide) (Pays.con (K := K) (B := b_liof) (c_max V hw 0 0 h _) (wd hw 166 rfl) (wd hw 104 rfl) (by decide) (by decide)) (W := 0) (argsL := [.int (0 : Int32), .int (0 : Int32)]) (lenOf pd_10 rfl) rfl rfl rfl (Nat.le_of_eq rfl) (Nat.le_of_ble_eq_true rfl) (Nat.le_of_ble_eq_true rfl) fun v215 h216 ps212 q214 z213 => ?_
  obtain ⟨rfl, es217⟩ := q214
  subst h216
  show Own.Run V K b_liof _ h _ 0 0 14 [.val (.ref t), .val (.int ch), .val (.int (0 : Int32)), .val (.int (Int32.ofNat cs.length))] [.int (0 : Int32)]
  refine r_istoreN [.val (.ref t), .val (.int ch), .val (.int (0 : Int32)), .val (.int (Int32.ofNat cs.length))] 15 rfl d23_14 rfl ?_
  refine r_iloadN 16 rfl d23_15 rfl ?_
  refine r_aloadN 17 rfl d23_16 rfl rfl ?_
  refine r_arraylength 18 rfl d23_17 A ?_
  refine r_static 21 rfl d23_18 (wd hw 167 rfl) (wd hw 103 rfl) (wd hw 104 rfl) (wd hw 105 rfl) (by decide) (Pays.con (K := K) (B := b_liof) (c_min V hw (Int32.ofNat cs.length) (Int32.ofNat cs.length) h _) (wd hw 105 rfl) (wd hw 104 rfl) (by decide) (by decide)) (W := 0) (argsL := [.int (Int32.ofNat cs.length), .int (Int32.ofNat cs.length)]) (lenOf pd_10 rfl) rfl rfl rfl (Nat.le_of_eq rfl) (Nat.le_of_ble_eq_true rfl) (Nat.le_of_ble_eq_true rfl) fun v221 h222 ps218 q220 z219 => ?_
  obtain ⟨rfl, es223⟩ := q220
  subst h222
  show Own.Run V K b_liof _ h _ 0 0 21 [.val (.ref t), .val (.int ch), .val (.int (0 : Int32)), .val (.int (Int32.ofNat cs.length))] [.int (mn2 (Int32.ofNat cs.length) (Int32.ofNat cs.length))]
  rw [show mn2 (Int32.ofNat cs.length) (Int32.ofNat cs.length) = Int32.ofNat cs.length from ite_self _]
  refine r_istoreN [.val (.ref t), .val (.int ch), .val (.int (0 : Int32)), .val (.int (Int32.ofNat cs.length))] 22 rfl d23_21 rfl ?_
  refine r_iloadN 23 rfl d23_22 rfl ?_
  refine r_iloadN 24 rfl d23_23 rfl ?_
  refine r_icmp_lt 29 27 d23_24 (by decide) rfl rfl (fun c224 => ?_) (fun c224 => ?_)
  · refine r_aloadN 30 rfl d23_29 rfl rfl ?_
    refine r_iloadN 31 rfl d23_30 rfl ?_
    refine r_iloadN 32 rfl d23_31 rfl ?_
    refine r_iloadN 33 rfl d23_32 rfl ?_
    refine r_static 36 rfl d23_33 (wd hw 168 rfl) (wd hw 169 rfl) (wd hw 136 rfl) (wd hw 170 rfl) (by decide) (Pays.con (K := K) (B := b_liof) (c_iofc V hw t kt cs hb hl ch hc h _ A) (wd hw 170 rfl) (wd hw 136 rfl) (by decide) (by decide)) (W := 0) (argsL := [.ref t, .int ch, .int (0 : Int32), .int (Int32.ofNat cs.length)]) (lenOf pd_16 rfl) rfl rfl rfl (Nat.le_of_eq rfl) (Nat.le_of_ble_eq_true rfl) (Nat.le_of_ble_eq_true rfl) fun v228 h229 ps225 q227 z226 => ?_
    obtain ⟨r, rfl, es230, hr⟩ := q227
    subst h229
    show Own.Run V K b_liof _ h _ 0 0 36 [.val (.ref t), .val (.int ch), .val (.int (0 : Int32)), .val (.int (Int32.ofNat cs.length))] [.int r]
    refine r_iret rfl d23_36 (by decide) (by decide) [] (fun _ q => nomatch q) ?_
    exact ⟨_, rfl, rfl, hr⟩
  · refine r_iconst (-1 : Int32) 28 rfl d23_27 rfl ?_
    refine r_iret rfl d23_28 (by decide) (by decide) [] (fun _ q => nomatch q) ?_
    exact ⟨_, rfl, rfl, ⟨fun q => absurd (by decide) q, fun q => absurd ((ofN_lt (n := 0) (by omega) (by omega)).mpr (List.length_pos_of_mem q)) c224⟩⟩
theorem d24_0 : decode jdk_42_method_80_code 0 = .ok (.aload_n 0, 1) := by decide +kernel
theorem d24_1 : decode jdk_42_method_80_code 1 = .ok (.invokevirtual 492, 3) := by decide +kernel
theorem d24_4 : decode jdk_42_method_80_code 4 = .ok (.ifCond .eq 19, 3) := by decide +kernel
theorem d24_7 : decode jdk_42_method_80_code 7 = .ok (.aload_n 0, 1) := by decide +kernel
theorem d24_8 : decode jdk_42_method_80_code 8 = .ok (.getfield 9, 3) := by decide +kernel
theorem d24_11 : decode jdk_42_method_80_code 11 = .ok (.iload_n 1, 1) := by decide +kernel
theorem d24_12 : decode jdk_42_method_80_code 12 = .ok (.iload_n 2, 1) := by decide +kernel
theorem d24_13 : decode jdk_42_method_80_code 13 = .ok (.aload_n 0, 1) := by decide +kernel
theorem d24_14 : decode jdk_42_method_80_code 14 = .ok (.invokevirtual 505, 3) := by decide +kernel
theorem d24_17 : decode jdk_42_method_80_code 17 = .ok (.invokestatic 637, 3) := by decide +kernel
theorem d24_20 : decode jdk_42_method_80_code 20 = .ok (.goto 16, 3) := by decide +kernel
theorem d24_23 : decode jdk_42_method_80_code 23 = .ok (.aload_n 0, 1) := by decide +kernel
theorem d24_24 : decode jdk_42_method_80_code 24 = .ok (.getfield 9, 3) := by decide +kernel
theorem d24_27 : decode jdk_42_method_80_code 27 = .ok (.iload_n 1, 1) := by decide +kernel
theorem d24_28 : decode jdk_42_method_80_code 28 = .ok (.iload_n 2, 1) := by decide +kernel
theorem d24_29 : decode jdk_42_method_80_code 29 = .ok (.aload_n 0, 1) := by decide +kernel
theorem d24_30 : decode jdk_42_method_80_code 30 = .ok (.invokevirtual 505, 3) := by decide +kernel
theorem d24_33 : decode jdk_42_method_80_code 33 = .ok (.invokestatic 640, 3) := by decide +kernel
theorem d24_36 : decode jdk_42_method_80_code 36 = .ok (.ireturn, 1) := by decide +kernel
abbrev b_iof2 : Bx := (⟨"java/lang/String", "indexOf", "(II)I"⟩, jdk_42_method_80_code, 3, some .int, { frames := 2, cells := 0, slots := 0, locals := 45 })
theorem c_iof2 (V : Vw) (hw : ∀ d ∈ tables_1, d.before V.a0 V.Z = true) (cz : Int32) (hCS : Sta V.Z V.Z.heap "java/lang/String" "COMPACT_STRINGS" "Z" (.int cz)) (hcz : ¬ cz = 0) (x : Nat) (m : Nat) (cs : List Int32) (hb : ∀ c ∈ cs, By c) (ch : Int32) (hc : By ch) (h : Heap) (ps : List Addr) (S : Str V h m x cs) : Con V b_iof2 #[.ref x, .int ch, .int 0] h ps (Qix ch cs h) := Con.of (plainFor_of_name pn_0) (L := [.val (.ref x), .val (.int ch), .val (.int (0 : Int32))]) rfl fun K => by
  refine Run.old fun OX => ?_
  obtain ⟨t, kb, cd, N2, vs, a1, a2, a3, a4, a5, a6, a7, a8, a9, a10⟩ := id S
  obtain ⟨rfl, rfl, rfl, -⟩ : cd = 0 ∧ N2 = Int32.ofNat cs.length ∧ vs = (cs.map fun c => Value.int (StrChars.lo8 c)) ∧ True := by
    rcases a8 with q | ⟨-, -, -, c, hc, hq⟩
    · exact ⟨q.1, q.2.1, q.2.2.1, trivial⟩
    · exact absurd hq (hb c hc).2
  refine r_aloadN 1 rfl d24_0 rfl rfl ?_
  refine r_virtual 4 rfl d24_1 (wd hw 129 rfl) (wd hw 130 rfl) (wd hw 132 rfl) (wd hw 131 rfl) (nfS (wd hw 132 rfl)) (by decide) a4 (Pays.con (K := K) (B := b_iof2) (c_isL V hw cz hCS hcz x h _ a6) (wd hw 133 rfl) (wd hw 7 rfl) (by decide) (by decide)) (W := 0) (argsL := []) (lenOf pd_4 rfl) rfl rfl rfl (Nat.le_of_eq rfl) (Nat.le_of_ble_eq_true rfl) (Nat.le_of_ble_eq_true rfl) fun v234 h235 ps231 q233 z232 => ?_
  obtain ⟨rfl, es236⟩ := q233
  subst h235
  show Own.Run V K b_iof2 _ h _ 0 0 4 [.val (.ref x), .val (.int ch), .val (.int (0 : Int32))] [.int (1 : Int32)]
  refine r_if_eq 23 7 d24_4 (by decide) rfl rfl (fun c237 => ?_) (fun c237 => ?_)
  · exact absurd c237 (by decide)
  refine r_aloadN 8 rfl d24_7 rfl rfl ?_
  refine r_getfield 11 rfl d24_8 (wd hw 24 rfl) a5 ?_
  refine r_iloadN 12 rfl d24_11 rfl ?_
  refine r_iloadN 13 rfl d24_12 rfl ?_
  refine r_aloadN 14 rfl d24_13 rfl rfl ?_
  refine r_virtual 17 rfl d24_14 (wd hw 157 rfl) (wd hw 34 rfl) (wd hw 36 rfl) (wd hw 35 rfl) (nfS (wd hw 36 rfl)) (by decide) a4 (pay_len V hw K b_iof2 3 x m cs h _ S OX cz hCS hcz (by decide) (by decide)) (W := 3) (argsL := []) (lenOf pd_8 rfl) rfl rfl rfl (Nat.le_of_eq rfl) (Nat.le_of_ble_eq_true rfl) (Nat.le_of_ble_eq_true rfl) fun v241 h242 ps238 q240 z239 => ?_
  obtain ⟨rfl, es243⟩ := q240
  subst h242
  show Own.Run V K b_iof2 _ h _ 0 0 17 [.val (.ref x), .val (.int ch), .val (.int (0 : Int32))] [.int (Int32.ofNat cs.length), .int (0 : Int32), .int ch, .ref t]
  refine r_static 20 rfl d24_17 (wd hw 158 rfl) (wd hw 159 rfl) (wd hw 136 rfl) (wd hw 160 rfl) (by decide) (Pays.con (K := K) (B := b_iof2) (c_liof V hw t _ cs hb a10 ch hc h _ a7) (wd hw 160 rfl) (wd hw 136 rfl) (by decide) (by decide)) (W := 0) (argsL := [.ref t, .int ch, .int (0 : Int32), .int (Int32.ofNat cs.length)]) (lenOf pd_16 rfl) rfl rfl rfl (Nat.le_of_eq rfl) (Nat.le_of_ble_eq_true rfl) (Nat.le_of_ble_eq_true rfl) fun v247 h248 ps244 q246 z245 => ?_
  obtain ⟨r, rfl, es249, hr⟩ := q246
  subst h248
  show Own.Run V K b_iof2 _ h _ 0 0 20 [.val (.ref x), .val (.int ch), .val (.int (0 : Int32))] [.int r]
  refine r_goto 36 d24_20 (by decide) rfl ?_
  refine r_iret rfl d24_36 (by decide) (by decide) [] (fun _ q => nomatch q) ?_
  exact ⟨_, rfl, rfl, hr⟩
theorem d25_0 : decode jdk_42_method_79_code 0 = .ok (.aload_n 0, 1) := by decide +kernel
theorem d25_1 : decode jdk_42_method_79_code 1 = .ok (.iload_n 1, 1) := by decide +kernel
theorem d25_2 : decode jdk_42_method_79_code 2 = .ok (.iconst 0, 1) := by decide +kernel
theorem d25_3 : decode jdk_42_method_79_code 3 = .ok (.invokevirtual 633, 3) := by decide +kernel
theorem d25_6 : decode jdk_42_method_79_code 6 = .ok (.ireturn, 1) := by decide +kernel
abbrev b_iof : Bx := (⟨"java/lang/String", "indexOf", "(I)I"⟩, jdk_42_method_79_code, 2, some .int, { frames := 3, cells := 0, slots := 0, locals := 60 })
theorem c_iof (V : Vw) (hw : ∀ d ∈ tables_1, d.before V.a0 V.Z = true) (cz : Int32) (hCS : Sta V.Z V.Z.heap "java/lang/String" "COMPACT_STRINGS" "Z" (.int cz)) (hcz : ¬ cz = 0) (x : Nat) (m : Nat) (cs : List Int32) (hb : ∀ c ∈ cs, By c) (ch : Int32) (hc : By ch) (h : Heap) (ps : List Addr) (S : Str V h m x cs) : Con V b_iof #[.ref x, .int ch] h ps (Qix ch cs h) := Con.of (plainFor_of_name pn_0) (L := [.val (.ref x), .val (.int ch)]) rfl fun K => by
  refine r_aloadN 1 rfl d25_0 rfl rfl ?_
  refine r_iloadN 2 rfl d25_1 rfl ?_
  refine r_iconst (0 : Int32) 3 rfl d25_2 rfl ?_
  refine r_virtual 6 rfl d25_3 (wd hw 152 rfl) (wd hw 153 rfl) (wd hw 155 rfl) (wd hw 154 rfl) (nfS (wd hw 155 rfl)) (by decide) S.exa (Pays.con (K := K) (B := b_iof) (c_iof2 V hw cz hCS hcz x m cs hb ch hc h _ S) (wd hw 156 rfl) (wd hw 7 rfl) (by decide) (by decide)) (W := 0) (argsL := [.int ch, .int (0 : Int32)]) (lenOf pd_10 rfl) rfl rfl rfl (Nat.le_of_eq rfl) (Nat.le_of_ble_eq_true rfl) (Nat.le_of_ble_eq_true rfl) fun v253 h254 ps250 q252 z251 => ?_
  obtain ⟨r, rfl, es255, hr⟩ := q252
  subst h254
  show Own.Run V K b_iof _ h _ 0 0 6 [.val (.ref x), .val (.int ch)] [.int r]
  refine r_iret rfl d25_6 (by decide) (by decide) [] (fun _ q => nomatch q) ?_
  exact ⟨_, rfl, rfl, hr⟩
abbrev SPL : List Int32 := [123, 125, 36, 92]
def es (c : Int32) : List Int32 := if c ∈ SPL then [92, c] else [c]
theorem esY {c : Int32} (h : c ∈ SPL) (E : List Int32) : E ++ [92] ++ [c] = E ++ es c := by rw [es, if_pos h]; simp
theorem esN {c : Int32} (h : ¬ c ∈ SPL) (E : List Int32) : E ++ [c] = E ++ es c := by rw [es, if_neg h]
theorem es_by {c : Int32} (h : By c) : ∀ x ∈ es c, By x := by
  unfold es; split
  · exact byS ⟨by decide, by decide⟩ (by1 h)
  · exact by1 h
theorem es_len (c : Int32) : (es c).length ≤ 2 := by
  unfold es; split <;> exact Nat.le_of_ble_eq_true rfl
theorem by_app {a b : List Int32} (ha : ∀ c ∈ a, By c) (hb : ∀ c ∈ b, By c) : ∀ c ∈ a ++ b, By c := fun c hc => (List.mem_append.mp hc).elim (ha c) (hb c)
theorem app_len {a b : List Int32} {n : Nat} (ha : a.length ≤ n) (hb : b.length ≤ 2) : (a ++ b).length ≤ n + 2 := by rw [List.length_append]; omega
theorem nil_len : ([] : List Int32).length ≤ 0 := Nat.le_refl 0
theorem SPby : ∀ c ∈ SPL, By c := fun c hc => (by decide : ∀ c ∈ SPL, ¬ c < 0 ∧ ¬ 255 < c) c hc
theorem litStr {V : Vw} {h : Heap} {a b : Nat} {k : ClassId} {N : Int32} {vs : List Value} (cs : List Int32) (X : Exa V.Z h a "java/lang/String") (Cc : Fld V.Z h a "java/lang/String" "coder" "B" (.int 0)) (Y : Fld V.Z h a "java/lang/String" "value" "[B" (.ref b)) (A : Arv V.Z h b k .byte N vs (.int 0)) (hN : N = Int32.ofNat cs.length) (hv : vs = cs.map fun c => Value.int (StrChars.lo8 c)) (hb : ∀ c ∈ cs, By c) (hl : cs.length ≤ 4000) : Str V h h.size a cs :=
  ⟨b, k, 0, N, vs, X.lt, A.lt, Nat.le_refl _, X, Y, Cc, A, Or.inl ⟨rfl, hN, hv, fun c hc => (hb c hc).2⟩, up16 hb, hl⟩
theorem and4 {z x : Int32} (e : z = x &&& 3) : z = 0 ∨ z = 1 ∨ z = 2 ∨ z = 3 := by
  have h := c_and x 3 (by decide)
  rw [← e] at h
  simp only [← Int32.toInt_inj]
  have e0 : (0 : Int32).toInt = 0 := rfl
  have e1 : (1 : Int32).toInt = 1 := rfl
  have e2 : (2 : Int32).toInt = 2 := rfl
  have e3 : (3 : Int32).toInt = 3 := rfl
  omega
theorem spI {c : Int32} : c ∈ SPL ↔ c = 123 ∨ c = 125 ∨ c = 36 ∨ c = 92 := by simp [SPL]
theorem setC (cs : List Int32) (c : Int32) (d : Value) (n : Nat) : (cs.map Value.int ++ List.replicate (n + 1) d).set cs.length (.int c) = (cs ++ [c]).map Value.int ++ List.replicate n d := by
  rw [List.set_append_right _ _ (by simp)]; simp [List.replicate_succ]
def Qby (h0 : Heap) : Qt := fun v h _ => ∃ z : Int32, v = some (.int z) ∧ By z ∧ h = h0
theorem d26_0 : decode method_2_code 0 = .ok (.iload_n 0, 1) := by decide +kernel
theorem d26_1 : decode method_2_code 1 = .ok (.sipush 256, 3) := by decide +kernel
theorem d26_4 : decode method_2_code 4 = .ok (.iand, 1) := by decide +kernel
theorem d26_5 : decode method_2_code 5 = .ok (.ifCond .ne 36, 3) := by decide +kernel
theorem d26_8 : decode method_2_code 8 = .ok (.iload_n 0, 1) := by decide +kernel
theorem d26_9 : decode method_2_code 9 = .ok (.bipush 9, 2) := by decide +kernel
theorem d26_11 : decode method_2_code 11 = .ok (.iushr, 1) := by decide +kernel
theorem d26_12 : decode method_2_code 12 = .ok (.iconst 3, 1) := by decide +kernel
theorem d26_13 : decode method_2_code 13 = .ok (.iand, 1) := by decide +kernel
theorem d26_14 : decode method_2_code 14 = .ok (.istore_n 1, 1) := by decide +kernel
theorem d26_15 : decode method_2_code 15 = .ok (.iload_n 1, 1) := by decide +kernel
theorem d26_16 : decode method_2_code 16 = .ok (.ifCond .ne 6, 3) := by decide +kernel
theorem d26_19 : decode method_2_code 19 = .ok (.bipush 123, 2) := by decide +kernel
theorem d26_21 : decode method_2_code 21 = .ok (.ireturn, 1) := by decide +kernel
theorem d26_22 : decode method_2_code 22 = .ok (.iload_n 1, 1) := by decide +kernel
theorem d26_23 : decode method_2_code 23 = .ok (.iconst 1, 1) := by decide +kernel
theorem d26_24 : decode method_2_code 24 = .ok (.if_icmp .ne 6, 3) := by decide +kernel
theorem d26_27 : decode method_2_code 27 = .ok (.bipush 125, 2) := by decide +kernel
theorem d26_29 : decode method_2_code 29 = .ok (.ireturn, 1) := by decide +kernel
theorem d26_30 : decode method_2_code 30 = .ok (.iload_n 1, 1) := by decide +kernel
theorem d26_31 : decode method_2_code 31 = .ok (.iconst 2, 1) := by decide +kernel
theorem d26_32 : decode method_2_code 32 = .ok (.if_icmp .ne 6, 3) := by decide +kernel
theorem d26_35 : decode method_2_code 35 = .ok (.bipush 36, 2) := by decide +kernel
theorem d26_37 : decode method_2_code 37 = .ok (.ireturn, 1) := by decide +kernel
theorem d26_38 : decode method_2_code 38 = .ok (.bipush 92, 2) := by decide +kernel
theorem d26_40 : decode method_2_code 40 = .ok (.ireturn, 1) := by decide +kernel
theorem d26_41 : decode method_2_code 41 = .ok (.iload_n 0, 1) := by decide +kernel
theorem d26_42 : decode method_2_code 42 = .ok (.sipush 255, 3) := by decide +kernel
theorem d26_45 : decode method_2_code 45 = .ok (.iand, 1) := by decide +kernel
theorem d26_46 : decode method_2_code 46 = .ok (.i2c, 1) := by decide +kernel
theorem d26_47 : decode method_2_code 47 = .ok (.ireturn, 1) := by decide +kernel
abbrev b_draw : Bx := (⟨"com/example/proviso/proviso/MessageTemplateEscapePinLaw", "draw", "(I)C"⟩, method_2_code, 2, some .char, { frames := 0, cells := 0, slots := 0, locals := 0 })
theorem c_draw (V : Vw) (hw : ∀ d ∈ tables_1, d.before V.a0 V.Z = true) (p : Int32) (h : Heap) (ps : List Addr) : Con V b_draw #[.int p] h ps (Qby h) := Con.of (plainFor_of_name pn_5) (L := [.val (.int p), .unset]) rfl fun K => by
  refine r_iloadN 1 rfl d26_0 rfl ?_
  refine r_sipush (256 : Int32) 4 rfl d26_1 rfl ?_
  refine r_iand 5 rfl d26_4 ?_
  refine r_if_ne 41 8 d26_5 (by decide) rfl rfl (fun c256 => ?_) (fun c256 => ?_)
  · refine r_iloadN 42 rfl d26_41 rfl ?_
    refine r_sipush (255 : Int32) 45 rfl d26_42 rfl ?_
    refine r_iand 46 rfl d26_45 ?_
    refine r_i2c 47 rfl d26_46 ?_
    refine r_nret (t := .char) (p &&& (255 : Int32)).toUInt32.toUInt16.toUInt32.toInt32 rfl (by simp) (nc16 _) d26_47 (by decide) (by decide) [] (fun _ q => nomatch q) ?_
    exact ⟨_, rfl, by rw [i2c_mask]; exact By.mask _, rfl⟩
  refine r_iloadN 9 rfl d26_8 rfl ?_
  refine r_bipush (9 : Int32) 11 rfl d26_9 rfl ?_
  refine r_iushr 12 rfl d26_11 ?_
  refine r_iconst (3 : Int32) 13 rfl d26_12 rfl ?_
  refine r_iand 14 rfl d26_13 ?_
  refine r_gen fun k257 hk257 => ?_
  refine r_istoreN [.val (.int p), .val (.int k257)] 15 rfl d26_14 rfl ?_
  refine r_iloadN 16 rfl d26_15 rfl ?_
  refine r_if_ne 22 19 d26_16 (by decide) rfl rfl (fun c258 => ?_) (fun c258 => ?_)
  rotate_left
  · refine r_bipush (123 : Int32) 21 rfl d26_19 rfl ?_
    refine r_nret (t := .char) (123 : Int32) rfl (by simp) (by decide) d26_21 (by decide) (by decide) [] (fun _ q => nomatch q) ?_
    exact ⟨_, rfl, ⟨by decide, by decide⟩, rfl⟩
  refine r_iloadN 23 rfl d26_22 rfl ?_
  refine r_iconst (1 : Int32) 24 rfl d26_23 rfl ?_
  refine r_icmp_ne 30 27 d26_24 (by decide) rfl rfl (fun c259 => ?_) (fun c259 => ?_)
  rotate_left
  · refine r_bipush (125 : Int32) 29 rfl d26_27 rfl ?_
    refine r_nret (t := .char) (125 : Int32) rfl (by simp) (by decide) d26_29 (by decide) (by decide) [] (fun _ q => nomatch q) ?_
    exact ⟨_, rfl, ⟨by decide, by decide⟩, rfl⟩
  refine r_iloadN 31 rfl d26_30 rfl ?_
  refine r_iconst (2 : Int32) 32 rfl d26_31 rfl ?_
  refine r_icmp_ne 38 35 d26_32 (by decide) rfl rfl (fun c260 => ?_) (fun c260 => ?_)
  rotate_left
  · refine r_bipush (36 : Int32) 37 rfl d26_35 rfl ?_
    refine r_nret (t := .char) (36 : Int32) rfl (by simp) (by decide) d26_37 (by decide) (by decide) [] (fun _ q => nomatch q) ?_
    exact ⟨_, rfl, ⟨by decide, by decide⟩, rfl⟩
  refine r_bipush (92 : Int32) 40 rfl d26_38 rfl ?_
  refine r_nret (t := .char) (92 : Int32) rfl (by simp) (by decide) d26_40 (by decide) (by decide) [] (fun _ q => nomatch q) ?_
  exact ⟨_, rfl, ⟨by decide, by decide⟩, rfl⟩
theorem d27_0 : decode method_3_code 0 = .ok (.iload_n 0, 1) := by decide +kernel
theorem d27_1 : decode method_3_code 1 = .ok (.bipush 123, 2) := by decide +kernel
theorem d27_3 : decode method_3_code 3 = .ok (.if_icmp .eq 21, 3) := by decide +kernel
theorem d27_6 : decode method_3_code 6 = .ok (.iload_n 0, 1) := by decide +kernel
theorem d27_7 : decode method_3_code 7 = .ok (.bipush 125, 2) := by decide +kernel
theorem d27_9 : decode method_3_code 9 = .ok (.if_icmp .eq 15, 3) := by decide +kernel
theorem d27_12 : decode method_3_code 12 = .ok (.iload_n 0, 1) := by decide +kernel
theorem d27_13 : decode method_3_code 13 = .ok (.bipush 36, 2) := by decide +kernel
theorem d27_15 : decode method_3_code 15 = .ok (.if_icmp .eq 9, 3) := by decide +kernel
theorem d27_18 : decode method_3_code 18 = .ok (.iload_n 0, 1) := by decide +kernel
theorem d27_19 : decode method_3_code 19 = .ok (.bipush 92, 2) := by decide +kernel
theorem d27_21 : decode method_3_code 21 = .ok (.if_icmp .ne 7, 3) := by decide +kernel
theorem d27_24 : decode method_3_code 24 = .ok (.iconst 1, 1) := by decide +kernel
theorem d27_25 : decode method_3_code 25 = .ok (.goto 4, 3) := by decide +kernel
theorem d27_28 : decode method_3_code 28 = .ok (.iconst 0, 1) := by decide +kernel
theorem d27_29 : decode method_3_code 29 = .ok (.ireturn, 1) := by decide +kernel
abbrev b_sp : Bx := (⟨"com/example/proviso/proviso/MessageTemplateEscapePinLaw", "special", "(C)Z"⟩, method_3_code, 1, some .boolean, { frames := 0, cells := 0, slots := 0, locals := 0 })
theorem c_sp (V : Vw) (hw : ∀ d ∈ tables_1, d.before V.a0 V.Z = true) (c : Int32) (h : Heap) (ps : List Addr) : Con V b_sp #[.int c] h ps (Qsm (c ∈ SPL) h) := Con.of (plainFor_of_name pn_5) (L := [.val (.int c)]) rfl fun K => by
  refine r_iloadN 1 rfl d27_0 rfl ?_
  refine r_bipush (123 : Int32) 3 rfl d27_1 rfl ?_
  refine r_icmp_eq 24 6 d27_3 (by decide) rfl rfl (fun c261 => ?_) (fun c261 => ?_)
  · refine r_iconst (1 : Int32) 25 rfl d27_24 rfl ?_
    refine r_goto 29 d27_25 (by decide) rfl ?_
    refine r_nret (t := .boolean) (1 : Int32) rfl (by simp) rfl d27_29 (by decide) (by decide) [] (fun _ q => nomatch q) ?_
    exact ⟨_, rfl, rfl, Or.inl ⟨rfl, spI.mpr (Or.inl c261)⟩⟩
  refine r_iloadN 7 rfl d27_6 rfl ?_
  refine r_bipush (125 : Int32) 9 rfl d27_7 rfl ?_
  refine r_icmp_eq 24 12 d27_9 (by decide) rfl rfl (fun c262 => ?_) (fun c262 => ?_)
  · refine r_iconst (1 : Int32) 25 rfl d27_24 rfl ?_
    refine r_goto 29 d27_25 (by decide) rfl ?_
    refine r_nret (t := .boolean) (1 : Int32) rfl (by simp) rfl d27_29 (by decide) (by decide) [] (fun _ q => nomatch q) ?_
    exact ⟨_, rfl, rfl, Or.inl ⟨rfl, spI.mpr (Or.inr (Or.inl c262))⟩⟩
  refine r_iloadN 13 rfl d27_12 rfl ?_
  refine r_bipush (36 : Int32) 15 rfl d27_13 rfl ?_
  refine r_icmp_eq 24 18 d27_15 (by decide) rfl rfl (fun c263 => ?_) (fun c263 => ?_)
  · refine r_iconst (1 : Int32) 25 rfl d27_24 rfl ?_
    refine r_goto 29 d27_25 (by decide) rfl ?_
    refine r_nret (t := .boolean) (1 : Int32) rfl (by simp) rfl d27_29 (by decide) (by decide) [] (fun _ q => nomatch q) ?_
    exact ⟨_, rfl, rfl, Or.inl ⟨rfl, spI.mpr (Or.inr (Or.inr (Or.inl c263)))⟩⟩
  refine r_iloadN 19 rfl d27_18 rfl ?_
  refine r_bipush (92 : Int32) 21 rfl d27_19 rfl ?_
  refine r_icmp_ne 28 24 d27_21 (by decide) rfl rfl (fun c264 => ?_) (fun c264 => ?_)
  · refine r_iconst (0 : Int32) 29 rfl d27_28 rfl ?_
    refine r_nret (t := .boolean) (0 : Int32) rfl (by simp) rfl d27_29 (by decide) (by decide) [] (fun _ q => nomatch q) ?_
    exact ⟨_, rfl, rfl, Or.inr ⟨rfl, fun q => (spI.mp q).elim c261 fun q => q.elim c262 fun q => q.elim c263 c264⟩⟩
  · refine r_iconst (1 : Int32) 25 rfl d27_24 rfl ?_
    refine r_goto 29 d27_25 (by decide) rfl ?_
    refine r_nret (t := .boolean) (1 : Int32) rfl (by simp) rfl d27_29 (by decide) (by decide) [] (fun _ q => nomatch q) ?_
    exact ⟨_, rfl, rfl, Or.inl ⟨rfl, spI.mpr (Or.inr (Or.inr (Or.inr c264)))⟩⟩
theorem d28_0 : decode method_4_code 0 = .ok (.iload_n 2, 1) := by decide +kernel
theorem d28_1 : decode method_4_code 1 = .ok (.invokestatic 7, 3) := by decide +kernel
theorem d28_4 : decode method_4_code 4 = .ok (.ifCond .eq 18, 3) := by decide +kernel
theorem d28_7 : decode method_4_code 7 = .ok (.aload_n 0, 1) := by decide +kernel
theorem d28_8 : decode method_4_code 8 = .ok (.iload_n 1, 1) := by decide +kernel
theorem d28_9 : decode method_4_code 9 = .ok (.bipush 92, 2) := by decide +kernel
theorem d28_11 : decode method_4_code 11 = .ok (.castore, 1) := by decide +kernel
theorem d28_12 : decode method_4_code 12 = .ok (.aload_n 0, 1) := by decide +kernel
theorem d28_13 : decode method_4_code 13 = .ok (.iload_n 1, 1) := by decide +kernel
theorem d28_14 : decode method_4_code 14 = .ok (.iconst 1, 1) := by decide +kernel
theorem d28_15 : decode method_4_code 15 = .ok (.iadd, 1) := by decide +kernel
theorem d28_16 : decode method_4_code 16 = .ok (.iload_n 2, 1) := by decide +kernel
theorem d28_17 : decode method_4_code 17 = .ok (.castore, 1) := by decide +kernel
theorem d28_18 : decode method_4_code 18 = .ok (.iload_n 1, 1) := by decide +kernel
theorem d28_19 : decode method_4_code 19 = .ok (.iconst 2, 1) := by decide +kernel
theorem d28_20 : decode method_4_code 20 = .ok (.iadd, 1) := by decide +kernel
theorem d28_21 : decode method_4_code 21 = .ok (.ireturn, 1) := by decide +kernel
theorem d28_22 : decode method_4_code 22 = .ok (.aload_n 0, 1) := by decide +kernel
theorem d28_23 : decode method_4_code 23 = .ok (.iload_n 1, 1) := by decide +kernel
theorem d28_24 : decode method_4_code 24 = .ok (.iload_n 2, 1) := by decide +kernel
theorem d28_25 : decode method_4_code 25 = .ok (.castore, 1) := by decide +kernel
theorem d28_26 : decode method_4_code 26 = .ok (.iload_n 1, 1) := by decide +kernel
theorem d28_27 : decode method_4_code 27 = .ok (.iconst 1, 1) := by decide +kernel
theorem d28_28 : decode method_4_code 28 = .ok (.iadd, 1) := by decide +kernel
theorem d28_29 : decode method_4_code 29 = .ok (.ireturn, 1) := by decide +kernel
abbrev b_put : Bx := (⟨"com/example/proviso/proviso/MessageTemplateEscapePinLaw", "put", "([CIC)I"⟩, method_4_code, 3, some .int, { frames := 1, cells := 0, slots := 0, locals := 16 })
def Qpu (V : Vw) (o : Nat) (k : ClassId) (L : List Int32) (h0 : Heap) : Qt := fun v h _ => v = some (.int (Int32.ofNat L.length)) ∧ Keep h0 h [o] ∧ Arv V.Z h o k .char 6 (L.map Value.int) (.int 0)
theorem c_put (V : Vw) (hw : ∀ d ∈ tables_1, d.before V.a0 V.Z = true) (o : Nat) (k : ClassId) (L : List Int32) (c : Int32) (hc : By c) (h : Heap) (ps : List Addr) (zo : V.Z.heap.size ≤ o) (A : Arv V.Z h o k .char 6 (L.map Value.int) (.int 0)) (hl : L.length ≤ 4) : Con V b_put #[.ref o, .int (Int32.ofNat L.length), .int c] h ps (Qpu V o k (L ++ es c) h) := Con.of (plainFor_of_name pn_5) (L := [.val (.ref o), .val (.int (Int32.ofNat L.length)), .val (.int c)]) rfl fun K => by
  refine r_iloadN 1 rfl d28_0 rfl ?_
  refine r_static 4 rfl d28_1 (wd hw 192 rfl) (wd hw 193 rfl) (wd hw 2 rfl) (wd hw 194 rfl) (by decide) (Pays.con (K := K) (B := b_put) (c_sp V hw c h _) (wd hw 194 rfl) (wd hw 2 rfl) (by decide) (by decide)) (W := 0) (argsL := [.int c]) (lenOf pd_3 rfl) rfl rfl rfl (Nat.le_of_eq rfl) (Nat.le_of_ble_eq_true rfl) (Nat.le_of_ble_eq_true rfl) fun v268 h269 ps265 q267 z266 => ?_
  obtain ⟨e, rfl, es270, he⟩ := q267
  subst h269
  show Own.Run V K b_put _ h _ 0 0 4 [.val (.ref o), .val (.int (Int32.ofNat L.length)), .val (.int c)] [.int e]
  refine r_if_eq 22 7 d28_4 (by decide) rfl rfl (fun c0 => ?_) (fun c0 => ?_)
  · refine r_aloadN 23 rfl d28_22 rfl rfl ?_
    refine r_iloadN 24 rfl d28_23 rfl ?_
    refine r_iloadN 25 rfl d28_24 rfl ?_
    have P1 := Arv.pad (vs' := (L).map Value.int ++ List.replicate 1 (.int 0)) A (pad_rep _ _ 1)
    refine r_castore (L).length 26 rfl d28_25 P1 ⟨ofN_nn (by first | omega | (simp; omega)), (ofN_lt (k := 6) (by first | omega | (simp; omega)) (by decide)).mpr (by first | omega | (simp; omega))⟩ (ofN_nat (by first | omega | (simp; omega))) (by simp) zo c (nby hc) fun h271 Wh271 A1 => ?_
    rw [setC] at A1
    refine r_iloadN 27 rfl d28_26 rfl ?_
    refine r_iconst (1 : Int32) 28 rfl d28_27 rfl ?_
    refine r_iadd 29 rfl d28_28 ?_
    rw [ofN_s]
    refine r_iret rfl d28_29 (by decide) (by decide) [] (fun _ q => nomatch q) ?_
    exact ⟨by rw [es, if_neg (bf he c0)]; simp, Keep.of_wr Wh271, by rw [es, if_neg (bf he c0)]; exact (Arv.pad A1 (fun i => (pad_rep _ _ 0 i).symm))⟩
  · refine r_aloadN 8 rfl d28_7 rfl rfl ?_
    refine r_iloadN 9 rfl d28_8 rfl ?_
    refine r_bipush (92 : Int32) 11 rfl d28_9 rfl ?_
    have P1 := Arv.pad (vs' := (L).map Value.int ++ List.replicate 2 (.int 0)) A (pad_rep _ _ 2)
    refine r_castore (L).length 12 rfl d28_11 P1 ⟨ofN_nn (by first | omega | (simp; omega)), (ofN_lt (k := 6) (by first | omega | (simp; omega)) (by decide)).mpr (by first | omega | (simp; omega))⟩ (ofN_nat (by first | omega | (simp; omega))) (by simp) zo 92 (by decide) fun h272 Wh272 A1 => ?_
    rw [setC] at A1
    refine r_aloadN 13 rfl d28_12 rfl rfl ?_
    refine r_iloadN 14 rfl d28_13 rfl ?_
    refine r_iconst (1 : Int32) 15 rfl d28_14 rfl ?_
    refine r_iadd 16 rfl d28_15 ?_
    refine r_iloadN 17 rfl d28_16 rfl ?_
    rw [ofN_s]
    rw [show L.length + 1 = (L ++ [92]).length from by simp]
    refine r_castore (L ++ [92]).length 18 rfl d28_17 A1 ⟨ofN_nn (by first | omega | (simp; omega)), (ofN_lt (k := 6) (by first | omega | (simp; omega)) (by decide)).mpr (by first | omega | (simp; omega))⟩ (ofN_nat (by first | omega | (simp; omega))) (by simp) zo c (nby hc) fun h273 Wh273 A2 => ?_
    rw [setC (L ++ [92])] at A2
    refine r_iloadN 19 rfl d28_18 rfl ?_
    refine r_iconst (2 : Int32) 20 rfl d28_19 rfl ?_
    refine r_iadd 21 rfl d28_20 ?_
    rw [show Int32.ofNat L.length + 2 = Int32.ofNat (L.length + 2) from (Int32.ofNat_add _ 2).symm]
    refine r_iret rfl d28_21 (by decide) (by decide) [] (fun _ q => nomatch q) ?_
    exact ⟨by rw [es, if_pos (bt he c0)]; simp, (Keep.of_wr Wh272).wr Wh273 (Or.inl (by simp)), by rw [es, if_pos (bt he c0)]; have := (Arv.pad A2 (fun i => (pad_rep _ _ 0 i).symm)); simpa using this⟩
theorem d29_0 : decode method_5_code 0 = .ok (.iload_n 3, 1) := by decide +kernel
theorem d29_1 : decode method_5_code 1 = .ok (.iload_n 2, 1) := by decide +kernel
theorem d29_2 : decode method_5_code 2 = .ok (.if_icmp .ge 14, 3) := by decide +kernel
theorem d29_5 : decode method_5_code 5 = .ok (.aload_n 0, 1) := by decide +kernel
theorem d29_6 : decode method_5_code 6 = .ok (.iload_n 3, 1) := by decide +kernel
theorem d29_7 : decode method_5_code 7 = .ok (.invokevirtual 13, 3) := by decide +kernel
theorem d29_10 : decode method_5_code 10 = .ok (.aload_n 1, 1) := by decide +kernel
theorem d29_11 : decode method_5_code 11 = .ok (.iload_n 3, 1) := by decide +kernel
theorem d29_12 : decode method_5_code 12 = .ok (.caload, 1) := by decide +kernel
theorem d29_13 : decode method_5_code 13 = .ok (.if_icmp .ne 7, 3) := by decide +kernel
theorem d29_16 : decode method_5_code 16 = .ok (.iconst 1, 1) := by decide +kernel
theorem d29_17 : decode method_5_code 17 = .ok (.goto 4, 3) := by decide +kernel
theorem d29_20 : decode method_5_code 20 = .ok (.iconst 0, 1) := by decide +kernel
theorem d29_21 : decode method_5_code 21 = .ok (.ireturn, 1) := by decide +kernel
abbrev b_at : Bx := (⟨"com/example/proviso/proviso/MessageTemplateEscapePinLaw", "at", "(Ljava/lang/String;[CII)Z"⟩, method_5_code, 4, some .boolean, { frames := 5, cells := 0, slots := 0, locals := 70 })
theorem c_at (V : Vw) (hw : ∀ d ∈ tables_1, d.before V.a0 V.Z = true) (cz : Int32) (hCS : Sta V.Z V.Z.heap "java/lang/String" "COMPACT_STRINGS" "Z" (.int cz)) (hcz : ¬ cz = 0) (fm : Value) (hFM : Sta V.Z V.Z.heap "jdk/internal/util/Preconditions" "SIOOBE_FORMATTER" "Ljava/util/function/BiFunction;" fm) (rf : fm.isRef = true) (x m o : Nat) (k : ClassId) (L : List Int32) (i : Nat) (hi : i < 6) (h : Heap) (ps : List Addr) (S : Str V h m x L) (hb : ∀ c ∈ L, By c) (A : Arv V.Z h o k .char 6 (L.map Value.int) (.int 0)) (hl : L.length ≤ 6) : Con V b_at #[.ref x, .ref o, .int (Int32.ofNat L.length), .int (Int32.ofNat i)] h ps (Qi 1 h) := Con.of (plainFor_of_name pn_5) (L := [.val (.ref x), .val (.ref o), .val (.int (Int32.ofNat L.length)), .val (.int (Int32.ofNat i))]) rfl fun K => by
  refine Run.old fun OX => ?_
  refine r_iloadN 1 rfl d29_0 rfl ?_
  refine r_iloadN 2 rfl d29_1 rfl ?_
  refine r_icmp_ge 16 5 d29_2 (by decide) rfl rfl (fun c274 => ?_) (fun c274 => ?_)
  · refine r_iconst (1 : Int32) 17 rfl d29_16 rfl ?_
    refine r_goto 21 d29_17 (by decide) rfl ?_
    refine r_nret (t := .boolean) (1 : Int32) rfl (by simp) rfl d29_21 (by decide) (by decide) [] (fun _ q => nomatch q) ?_
    exact ⟨rfl, rfl⟩
  have hlt : i < L.length := (ofN_lt (by omega) (by omega)).mp c274
  refine r_aloadN 6 rfl d29_5 rfl rfl ?_
  refine r_iloadN 7 rfl d29_6 rfl ?_
  refine r_virtual 10 rfl d29_7 (wd hw 195 rfl) (wd hw 125 rfl) (wd hw 127 rfl) (wd hw 126 rfl) (nfS (wd hw 127 rfl)) (by decide) S.exa (pay_ch V hw K b_at 0 x m i (Int32.ofNat i) L h _ S (fun c hc => (hb c hc).2) OX cz hCS hcz fm hFM rf hlt rfl (by decide) (by decide)) (W := 0) (argsL := [.int (Int32.ofNat i)]) (lenOf pd_18 rfl) rfl rfl rfl (Nat.le_of_eq rfl) (Nat.le_of_ble_eq_true rfl) (Nat.le_of_ble_eq_true rfl) fun v278 h279 ps275 q277 z276 => ?_
  obtain ⟨rfl, es280⟩ := q277
  subst h279
  show Own.Run V K b_at _ h _ 0 0 10 [.val (.ref x), .val (.ref o), .val (.int (Int32.ofNat L.length)), .val (.int (Int32.ofNat i))] [.int (L.getD i 0)]
  refine r_aloadN 11 rfl d29_10 rfl rfl ?_
  refine r_iloadN 12 rfl d29_11 rfl ?_
  refine r_caload (v := .int (L.getD i 0)) 13 rfl d29_12 A ⟨ofN_nn (by omega), (ofN_lt (k := 6) (by omega) (by decide)).mpr hi⟩ (by rw [ofN_nat (by omega)]; simp [List.getD_eq_getElem?_getD, hlt]) ?_
  refine r_icmp_ne 20 16 d29_13 (by decide) rfl rfl (fun c281 => ?_) (fun c281 => ?_)
  · exact absurd rfl c281
  · refine r_iconst (1 : Int32) 17 rfl d29_16 rfl ?_
    refine r_goto 21 d29_17 (by decide) rfl ?_
    refine r_nret (t := .boolean) (1 : Int32) rfl (by simp) rfl d29_21 (by decide) (by decide) [] (fun _ q => nomatch q) ?_
    exact ⟨rfl, rfl⟩
theorem d30_0 : decode prog_12_method_4_code 0 = .ok (.new 7, 3) := by decide +kernel
theorem d30_3 : decode prog_12_method_4_code 3 = .ok (.dup, 1) := by decide +kernel
theorem d30_4 : decode prog_12_method_4_code 4 = .ok (.aload_n 0, 1) := by decide +kernel
theorem d30_5 : decode prog_12_method_4_code 5 = .ok (.invokevirtual 9, 3) := by decide +kernel
theorem d30_8 : decode prog_12_method_4_code 8 = .ok (.bipush 8, 2) := by decide +kernel
theorem d30_10 : decode prog_12_method_4_code 10 = .ok (.iadd, 1) := by decide +kernel
theorem d30_11 : decode prog_12_method_4_code 11 = .ok (.invokespecial 15, 3) := by decide +kernel
theorem d30_14 : decode prog_12_method_4_code 14 = .ok (.astore_n 1, 1) := by decide +kernel
theorem d30_15 : decode prog_12_method_4_code 15 = .ok (.iconst 0, 1) := by decide +kernel
theorem d30_16 : decode prog_12_method_4_code 16 = .ok (.istore_n 2, 1) := by decide +kernel
theorem d30_17 : decode prog_12_method_4_code 17 = .ok (.iload_n 2, 1) := by decide +kernel
theorem d30_18 : decode prog_12_method_4_code 18 = .ok (.aload_n 0, 1) := by decide +kernel
theorem d30_19 : decode prog_12_method_4_code 19 = .ok (.invokevirtual 9, 3) := by decide +kernel
theorem d30_22 : decode prog_12_method_4_code 22 = .ok (.if_icmp .ge 37, 3) := by decide +kernel
theorem d30_25 : decode prog_12_method_4_code 25 = .ok (.aload_n 0, 1) := by decide +kernel
theorem d30_26 : decode prog_12_method_4_code 26 = .ok (.iload_n 2, 1) := by decide +kernel
theorem d30_27 : decode prog_12_method_4_code 27 = .ok (.invokevirtual 73, 3) := by decide +kernel
theorem d30_30 : decode prog_12_method_4_code 30 = .ok (.istore_n 3, 1) := by decide +kernel
theorem d30_31 : decode prog_12_method_4_code 31 = .ok (.ldc 92, 2) := by decide +kernel
theorem d30_33 : decode prog_12_method_4_code 33 = .ok (.iload_n 3, 1) := by decide +kernel
theorem d30_34 : decode prog_12_method_4_code 34 = .ok (.invokevirtual 94, 3) := by decide +kernel
theorem d30_37 : decode prog_12_method_4_code 37 = .ok (.ifCond .lt 10, 3) := by decide +kernel
theorem d30_40 : decode prog_12_method_4_code 40 = .ok (.aload_n 1, 1) := by decide +kernel
theorem d30_41 : decode prog_12_method_4_code 41 = .ok (.bipush 92, 2) := by decide +kernel
theorem d30_43 : decode prog_12_method_4_code 43 = .ok (.invokevirtual 98, 3) := by decide +kernel
theorem d30_46 : decode prog_12_method_4_code 46 = .ok (.pop, 1) := by decide +kernel
theorem d30_47 : decode prog_12_method_4_code 47 = .ok (.aload_n 1, 1) := by decide +kernel
theorem d30_48 : decode prog_12_method_4_code 48 = .ok (.iload_n 3, 1) := by decide +kernel
theorem d30_49 : decode prog_12_method_4_code 49 = .ok (.invokevirtual 98, 3) := by decide +kernel
theorem d30_52 : decode prog_12_method_4_code 52 = .ok (.pop, 1) := by decide +kernel
theorem d30_53 : decode prog_12_method_4_code 53 = .ok (.iinc 2 1, 3) := by decide +kernel
theorem d30_56 : decode prog_12_method_4_code 56 = .ok (.goto (-39), 3) := by decide +kernel
theorem d30_59 : decode prog_12_method_4_code 59 = .ok (.aload_n 1, 1) := by decide +kernel
theorem d30_60 : decode prog_12_method_4_code 60 = .ok (.invokevirtual 66, 3) := by decide +kernel
theorem d30_63 : decode prog_12_method_4_code 63 = .ok (.areturn, 1) := by decide +kernel
abbrev b_esc0 : Bx := (⟨"com/example/proviso/proviso/MessageTemplate", "escape", "(Ljava/lang/String;)Ljava/lang/String;"⟩, prog_12_method_4_code, 4, some (.object "java/lang/String"), { frames := 6, cells := 4, slots := 60, locals := 130 })
theorem c_esc0 (V : Vw) (hw : ∀ d ∈ tables_1, d.before V.a0 V.Z = true) (hm : ("java/lang/String", 7) ∈ V.EL) (hn : V.nar = false) (cz : Int32) (hCS : Sta V.Z V.Z.heap "java/lang/String" "COMPACT_STRINGS" "Z" (.int cz)) (hcz : ¬ cz = 0) (fm : Value) (hFM : Sta V.Z V.Z.heap "jdk/internal/util/Preconditions" "SIOOBE_FORMATTER" "Ljava/util/function/BiFunction;" fm) (rf : fm.isRef = true) (hl92 : ("com/example/proviso/proviso/MessageTemplate", 92) ∈ V.EL) (x m : Nat)   (h : Heap) (ps : List Addr) (S : Str V h m x ([] : List Int32)) : Con V b_esc0 #[.ref x] h ps (Qmk V ([] : List Int32) h) := Con.of (plainFor_of_name pn_6) (L := [.val (.ref x), .unset, .unset, .unset]) rfl fun K => by
  have hbL : ∀ c ∈ ([] : List Int32), By c := by0
  have lm := S.lt.2
  refine r_new 3 rfl d30_0 (wd hw 30 rfl) (wd hw 31 rfl) (wd hw 32 rfl) (by decide) (by decide) fun a282 h283 ga282 za282 Eh283 Xa282 Da282 => ?_
  have f284 := Str.ext Eh283 S
  have f285 := Exa.ext Eh283 S.exa
  have sh283 := Eh283.1
  have la282 := ltN Xa282.lt
  have f286 : Fld V.Z h283 a282 "java/lang/AbstractStringBuilder" "value" "[B" (.null) := Da282 (Or.inl (wd hw 56 rfl)) (ty := (.array .byte)) (by decide)
  have f287 : Fld V.Z h283 a282 "java/lang/AbstractStringBuilder" "coder" "B" (.int (0 : Int32)) := Da282 (Or.inl (wd hw 58 rfl)) (ty := .byte) (by decide)
  have f288 : Fld V.Z h283 a282 "java/lang/AbstractStringBuilder" "count" "I" (.int (0 : Int32)) := Da282 (Or.inl (wd hw 86 rfl)) (ty := .int) (by decide)
  refine r_dup 4 rfl d30_3 rfl ?_
  refine r_aloadN 5 rfl d30_4 rfl rfl ?_
  refine Run.old fun OX1 => ?_
  refine r_virtual 8 rfl d30_5 (wd hw 33 rfl) (wd hw 34 rfl) (wd hw 36 rfl) (wd hw 35 rfl) (nfS (wd hw 36 rfl)) (by decide) f285 (pay_len V hw K b_esc0 2 x m ([] : List Int32) h283 _ f284 OX1 cz hCS hcz (by decide) (by decide)) (W := 2) (argsL := []) (lenOf pd_8 rfl) rfl rfl rfl (Nat.le_of_eq rfl) (Nat.le_of_ble_eq_true rfl) (Nat.le_of_ble_eq_true rfl) fun v292 h293 ps289 q291 z290 => ?_
  obtain ⟨rfl, es294⟩ := q291
  subst h293
  show Own.Run V K b_esc0 _ h283 _ 1 4 8 [.val (.ref x), .unset, .unset, .unset] [.int (Int32.ofNat 0), .ref a282, .ref a282]
  refine r_bipush (8 : Int32) 10 rfl d30_8 rfl ?_
  refine r_iadd 11 rfl d30_10 ?_
  rw [show Int32.ofNat 0 + 8 = Int32.ofNat 8 from by decide]
  refine r_special 14 rfl d30_11 rfl (wd hw 44 rfl) (wd hw 45 rfl) (wd hw 46 rfl) (by decide) (Pays.con (K := K) (B := b_esc0) (c_sbi V hw cz hCS hcz a282 8 (by decide) h283 _ za282 Xa282 f286 f287 f288) (wd hw 46 rfl) (wd hw 32 rfl) (by decide) (by decide)) (W := 1) (argsL := [.int (Int32.ofNat 8)]) (lenOf pd_2 rfl) rfl rfl rfl (Nat.le_of_eq rfl) (Nat.le_of_ble_eq_true rfl) (Nat.le_of_ble_eq_true rfl) fun v297 h298 psx q296 z295 => ?_
  obtain ⟨rfl, t, ht, lt, K1, SB⟩ := q296
  have f299 : Str V h298 m x ([] : List Int32) := by first | exact Str.keep K1 (fun w hw' => by cases List.mem_singleton.mp hw'; exact leA (by omega)) f284 | exact Str.keepE K1 Xa282 (by decide) (wd hw 31 rfl) f284
  have f300 := Exa.keep f285 K1
  have f301 := Exa.keep Xa282 K1
  show Own.Run V K b_esc0 _ h298 _ 2 15 14 [.val (.ref x), .unset, .unset, .unset] [.ref a282]
  have sh298 := K1.1
  have EE := Keep.ext0 Eh283 K1 (fun w hw' => by cases List.mem_singleton.mp hw'; exact leA (by omega))
  replace SB : Sb V h298 a282 t 8 ([] : List Int32) := SB
  refine r_astoreN [.val (.ref x), .val (.ref a282), .unset, .unset] 15 rfl d30_14 rfl rfl ?_
  refine r_iconst (0 : Int32) 16 rfl d30_15 rfl ?_
  refine r_istoreN [.val (.ref x), .val (.ref a282), .val (.int (0 : Int32)), .unset] 17 rfl d30_16 rfl ?_
  show Own.Run V K b_esc0 _ h298 _ 2 15 17 [.val (.ref x), .val (.ref a282), .val (.int (Int32.ofNat 0)), .unset] []
  refine r_iloadN 18 rfl d30_17 rfl ?_
  refine r_aloadN 19 rfl d30_18 rfl rfl ?_
  refine Run.old fun OX2 => ?_
  refine r_virtual 22 rfl d30_19 (wd hw 33 rfl) (wd hw 34 rfl) (wd hw 36 rfl) (wd hw 35 rfl) (nfS (wd hw 36 rfl)) (by decide) f300 (pay_len V hw K b_esc0 1 x m ([] : List Int32) h298 _ f299 OX2 cz hCS hcz (by decide) (by decide)) (W := 1) (argsL := []) (lenOf pd_8 rfl) rfl rfl rfl (Nat.le_of_eq rfl) (Nat.le_of_ble_eq_true rfl) (Nat.le_of_ble_eq_true rfl) fun v305 h306 ps302 q304 z303 => ?_
  obtain ⟨rfl, es307⟩ := q304
  subst h306
  show Own.Run V K b_esc0 _ h298 _ 2 15 22 [.val (.ref x), .val (.ref a282), .val (.int (Int32.ofNat 0)), .unset] [.int (Int32.ofNat 0), .int (Int32.ofNat 0)]
  refine r_icmp_ge 59 25 d30_22 (by decide) rfl rfl (fun c308 => ?_) (fun c308 => ?_)
  rotate_left
  · exact absurd c308 (by decide)
  refine r_aloadN 60 rfl d30_59 rfl rfl ?_
  refine r_virtual 63 rfl d30_60 (wd hw 59 rfl) (wd hw 60 rfl) (wd hw 62 rfl) (wd hw 61 rfl) (nfS (wd hw 62 rfl)) (by decide) (SB).exa (Pays.con (K := K) (B := b_esc0) (c_toS V hw cz hCS hcz a282 t 8 ([] : List Int32) h298 _ SB (by have := nil_len; omega) (by decide) by0) (wd hw 63 rfl) (wd hw 32 rfl) (by decide) (by decide)) (W := 0) (argsL := []) (lenOf pd_14 rfl) rfl rfl rfl (Nat.le_of_eq rfl) (Nat.le_of_ble_eq_true rfl) (Nat.le_of_ble_eq_true rfl) fun v312 h313 ps309 q311 z310 => ?_
  obtain ⟨y, rfl, EY, SY⟩ := q311
  show Own.Run V K b_esc0 _ h313 _ 4 30 63 [.val (.ref x), .val (.ref a282), .val (.int (Int32.ofNat 0)), .unset] [.ref y]
  refine r_aret (t := (.object "java/lang/String")) rfl rfl rfl d30_63 (by decide) (by decide) [] (fun _ q => nomatch q) ?_
  exact ⟨_, rfl, Ext.trans' EE EY, SY⟩
abbrev b_esc1 : Bx := (⟨"com/example/proviso/proviso/MessageTemplate", "escape", "(Ljava/lang/String;)Ljava/lang/String;"⟩, prog_12_method_4_code, 4, some (.object "java/lang/String"), { frames := 6, cells := 6, slots := 80, locals := 130 })
theorem c_esc1 (V : Vw) (hw : ∀ d ∈ tables_1, d.before V.a0 V.Z = true) (hm : ("java/lang/String", 7) ∈ V.EL) (hn : V.nar = false) (cz : Int32) (hCS : Sta V.Z V.Z.heap "java/lang/String" "COMPACT_STRINGS" "Z" (.int cz)) (hcz : ¬ cz = 0) (fm : Value) (hFM : Sta V.Z V.Z.heap "jdk/internal/util/Preconditions" "SIOOBE_FORMATTER" "Ljava/util/function/BiFunction;" fm) (rf : fm.isRef = true) (hl92 : ("com/example/proviso/proviso/MessageTemplate", 92) ∈ V.EL) (x m : Nat) (c0 : Int32) (hc0 : By c0) (h : Heap) (ps : List Addr) (S : Str V h m x ([c0] : List Int32)) : Con V b_esc1 #[.ref x] h ps (Qmk V (([] : List Int32) ++ es c0) h) := Con.of (plainFor_of_name pn_6) (L := [.val (.ref x), .unset, .unset, .unset]) rfl fun K => by
  have hbL : ∀ c ∈ ([c0] : List Int32), By c := (by1 hc0)
  have lm := S.lt.2
  refine r_new 3 rfl d30_0 (wd hw 30 rfl) (wd hw 31 rfl) (wd hw 32 rfl) (by decide) (by decide) fun a314 h315 ga314 za314 Eh315 Xa314 Da314 => ?_
  have f316 := Str.ext Eh315 S
  have f317 := Exa.ext Eh315 S.exa
  have sh315 := Eh315.1
  have la314 := ltN Xa314.lt
  have f318 : Fld V.Z h315 a314 "java/lang/AbstractStringBuilder" "value" "[B" (.null) := Da314 (Or.inl (wd hw 56 rfl)) (ty := (.array .byte)) (by decide)
  have f319 : Fld V.Z h315 a314 "java/lang/AbstractStringBuilder" "coder" "B" (.int (0 : Int32)) := Da314 (Or.inl (wd hw 58 rfl)) (ty := .byte) (by decide)
  have f320 : Fld V.Z h315 a314 "java/lang/AbstractStringBuilder" "count" "I" (.int (0 : Int32)) := Da314 (Or.inl (wd hw 86 rfl)) (ty := .int) (by decide)
  refine r_dup 4 rfl d30_3 rfl ?_
  refine r_aloadN 5 rfl d30_4 rfl rfl ?_
  refine Run.old fun OX1 => ?_
  refine r_virtual 8 rfl d30_5 (wd hw 33 rfl) (wd hw 34 rfl) (wd hw 36 rfl) (wd hw 35 rfl) (nfS (wd hw 36 rfl)) (by decide) f317 (pay_len V hw K b_esc1 2 x m ([c0] : List Int32) h315 _ f316 OX1 cz hCS hcz (by decide) (by decide)) (W := 2) (argsL := []) (lenOf pd_8 rfl) rfl rfl rfl (Nat.le_of_eq rfl) (Nat.le_of_ble_eq_true rfl) (Nat.le_of_ble_eq_true rfl) fun v324 h325 ps321 q323 z322 => ?_
  obtain ⟨rfl, es326⟩ := q323
  subst h325
  show Own.Run V K b_esc1 _ h315 _ 1 4 8 [.val (.ref x), .unset, .unset, .unset] [.int (Int32.ofNat 1), .ref a314, .ref a314]
  refine r_bipush (8 : Int32) 10 rfl d30_8 rfl ?_
  refine r_iadd 11 rfl d30_10 ?_
  rw [show Int32.ofNat 1 + 8 = Int32.ofNat 9 from by decide]
  refine r_special 14 rfl d30_11 rfl (wd hw 44 rfl) (wd hw 45 rfl) (wd hw 46 rfl) (by decide) (Pays.con (K := K) (B := b_esc1) (c_sbi V hw cz hCS hcz a314 9 (by decide) h315 _ za314 Xa314 f318 f319 f320) (wd hw 46 rfl) (wd hw 32 rfl) (by decide) (by decide)) (W := 1) (argsL := [.int (Int32.ofNat 9)]) (lenOf pd_2 rfl) rfl rfl rfl (Nat.le_of_eq rfl) (Nat.le_of_ble_eq_true rfl) (Nat.le_of_ble_eq_true rfl) fun v329 h330 psx q328 z327 => ?_
  obtain ⟨rfl, t, ht, lt, K1, SB⟩ := q328
  have f331 : Str V h330 m x ([c0] : List Int32) := by first | exact Str.keep K1 (fun w hw' => by cases List.mem_singleton.mp hw'; exact leA (by omega)) f316 | exact Str.keepE K1 Xa314 (by decide) (wd hw 31 rfl) f316
  have f332 := Exa.keep f317 K1
  have f333 := Exa.keep Xa314 K1
  show Own.Run V K b_esc1 _ h330 _ 2 15 14 [.val (.ref x), .unset, .unset, .unset] [.ref a314]
  have sh330 := K1.1
  have EE := Keep.ext0 Eh315 K1 (fun w hw' => by cases List.mem_singleton.mp hw'; exact leA (by omega))
  replace SB : Sb V h330 a314 t 9 ([] : List Int32) := SB
  refine r_astoreN [.val (.ref x), .val (.ref a314), .unset, .unset] 15 rfl d30_14 rfl rfl ?_
  refine r_iconst (0 : Int32) 16 rfl d30_15 rfl ?_
  refine r_istoreN [.val (.ref x), .val (.ref a314), .val (.int (0 : Int32)), .unset] 17 rfl d30_16 rfl ?_
  show Own.Run V K b_esc1 _ h330 _ 2 15 17 [.val (.ref x), .val (.ref a314), .val (.int (Int32.ofNat 0)), .unset] []
  refine r_iloadN 18 rfl d30_17 rfl ?_
  refine r_aloadN 19 rfl d30_18 rfl rfl ?_
  refine Run.old fun OX2 => ?_
  refine r_virtual 22 rfl d30_19 (wd hw 33 rfl) (wd hw 34 rfl) (wd hw 36 rfl) (wd hw 35 rfl) (nfS (wd hw 36 rfl)) (by decide) f332 (pay_len V hw K b_esc1 1 x m ([c0] : List Int32) h330 _ f331 OX2 cz hCS hcz (by decide) (by decide)) (W := 1) (argsL := []) (lenOf pd_8 rfl) rfl rfl rfl (Nat.le_of_eq rfl) (Nat.le_of_ble_eq_true rfl) (Nat.le_of_ble_eq_true rfl) fun v337 h338 ps334 q336 z335 => ?_
  obtain ⟨rfl, es339⟩ := q336
  subst h338
  show Own.Run V K b_esc1 _ h330 _ 2 15 22 [.val (.ref x), .val (.ref a314), .val (.int (Int32.ofNat 0)), .unset] [.int (Int32.ofNat 1), .int (Int32.ofNat 0)]
  refine r_icmp_ge 59 25 d30_22 (by decide) rfl rfl (fun c340 => ?_) (fun c340 => ?_)
  · exact absurd c340 (by decide)
  refine r_aloadN 26 rfl d30_25 rfl rfl ?_
  refine r_iloadN 27 rfl d30_26 rfl ?_
  refine Run.old fun OX3 => ?_
  refine r_virtual 30 rfl d30_27 (wd hw 124 rfl) (wd hw 125 rfl) (wd hw 127 rfl) (wd hw 126 rfl) (nfS (wd hw 127 rfl)) (by decide) f332 (pay_ch V hw K b_esc1 0 x m 0 (Int32.ofNat 0) ([c0] : List Int32) h330 _ f331 (fun c hc => (hbL c hc).2) OX3 cz hCS hcz fm hFM rf (Nat.le_of_ble_eq_true rfl) rfl (by decide) (by decide)) (W := 0) (argsL := [.int (Int32.ofNat 0)]) (lenOf pd_18 rfl) rfl rfl rfl (Nat.le_of_eq rfl) (Nat.le_of_ble_eq_true rfl) (Nat.le_of_ble_eq_true rfl) fun v344 h345 ps341 q343 z342 => ?_
  obtain ⟨rfl, es346⟩ := q343
  subst h345
  show Own.Run V K b_esc1 _ h330 _ 2 15 30 [.val (.ref x), .val (.ref a314), .val (.int (Int32.ofNat 0)), .unset] [.int c0]
  refine r_istoreN [.val (.ref x), .val (.ref a314), .val (.int (Int32.ofNat 0)), .val (.int c0)] 31 rfl d30_30 rfl ?_
  refine r_ldcS [.int 123, .int 125, .int 36, .int 92] (4 : Int32) 16 33 rfl d30_31 (wd hw 146 rfl) (satoms V hw) hl92 hn (by decide) (by decide) rfl (by decide) (by decide) (by decide) (by decide) fun a347 b348 k349 h350 Eh350 Xh350 Ch350 Yh350 Ah350 Nh350 => ?_
  have f351 := Str.ext Eh350 f331
  have f352 := Exa.ext Eh350 f332
  have f353 := Exa.ext Eh350 f333
  have sh350 := Eh350.1
  have la347 := ltN Xh350.lt
  have lb348 := ltN Ah350.lt
  have SL0 := litStr SPL Xh350 Ch350 Yh350 Ah350 rfl (by decide) SPby (by decide)
  have SB0 := Sb.ext Eh350 SB
  have EE0 := Ext.trans' EE Eh350
  refine r_iloadN 34 rfl d30_33 rfl ?_
  refine r_virtual 37 rfl d30_34 (wd hw 147 rfl) (wd hw 148 rfl) (wd hw 150 rfl) (wd hw 149 rfl) (nfS (wd hw 150 rfl)) (by decide) Xh350 (Pays.con (K := K) (B := b_esc1) (c_iof V hw cz hCS hcz a347 _ SPL SPby c0 hc0 h350 _ SL0) (wd hw 151 rfl) (wd hw 7 rfl) (by decide) (by decide)) (W := 0) (argsL := [.int c0]) (lenOf pd_17 rfl) rfl rfl rfl (Nat.le_of_eq rfl) (Nat.le_of_ble_eq_true rfl) (Nat.le_of_ble_eq_true rfl) fun v357 h358 ps354 q356 z355 => ?_
  obtain ⟨r0, rfl, es359, hr0⟩ := q356
  subst h358
  show Own.Run V K b_esc1 _ h350 _ 4 35 37 [.val (.ref x), .val (.ref a314), .val (.int (Int32.ofNat 0)), .val (.int c0)] [.int r0]
  have jl0 : ∀ (hJ0 : Heap) (pJ : List Addr), Ext h hJ0 → Str V hJ0 m x ([c0] : List Int32) → Sb V hJ0 a314 t 9 (([] : List Int32) ++ es c0) → t ∈ pJ → Own.Run V K b_esc1 (Qmk V (([] : List Int32) ++ es c0) h) hJ0 pJ 4 35 53 [.val (.ref x), .val (.ref a314), .val (.int (Int32.ofNat 0)), .val (.int c0)] [] := by
    intro hJ0 pJ EJ0 SX0 SJ0 mJ0
    have sJ0 := EJ0.1
    refine r_iinc (1) [.val (.ref x), .val (.ref a314), .val (.int (Int32.ofNat 0 + 1)), .val (.int c0)] 56 rfl d30_53 rfl rfl rfl ?_
    refine r_goto 17 d30_56 (by decide) rfl ?_
    rw [show Int32.ofNat 0 + 1 = Int32.ofNat 1 from by decide]
    refine r_iloadN 18 rfl d30_17 rfl ?_
    refine r_aloadN 19 rfl d30_18 rfl rfl ?_
    refine Run.old fun OX4 => ?_
    refine r_virtual 22 rfl d30_19 (wd hw 33 rfl) (wd hw 34 rfl) (wd hw 36 rfl) (wd hw 35 rfl) (nfS (wd hw 36 rfl)) (by decide) SX0.exa (pay_len V hw K b_esc1 1 x m ([c0] : List Int32) hJ0 _ SX0 OX4 cz hCS hcz (by decide) (by decide)) (W := 1) (argsL := []) (lenOf pd_8 rfl) rfl rfl rfl (Nat.le_of_eq rfl) (Nat.le_of_ble_eq_true rfl) (Nat.le_of_ble_eq_true rfl) fun v363 h364 ps360 q362 z361 => ?_
    obtain ⟨rfl, es365⟩ := q362
    subst h364
    show Own.Run V K b_esc1 _ hJ0 _ 4 35 22 [.val (.ref x), .val (.ref a314), .val (.int (Int32.ofNat 1)), .val (.int c0)] [.int (Int32.ofNat 1), .int (Int32.ofNat 1)]
    refine r_icmp_ge 59 25 d30_22 (by decide) rfl rfl (fun c366 => ?_) (fun c366 => ?_)
    rotate_left
    · exact absurd c366 (by decide)
    refine r_aloadN 60 rfl d30_59 rfl rfl ?_
    refine r_virtual 63 rfl d30_60 (wd hw 59 rfl) (wd hw 60 rfl) (wd hw 62 rfl) (wd hw 61 rfl) (nfS (wd hw 62 rfl)) (by decide) (SJ0).exa (Pays.con (K := K) (B := b_esc1) (c_toS V hw cz hCS hcz a314 t 9 (([] : List Int32) ++ es c0) hJ0 _ SJ0 (by have := (app_len nil_len (es_len c0)); omega) (by decide) (by_app by0 (es_by hc0))) (wd hw 63 rfl) (wd hw 32 rfl) (by decide) (by decide)) (W := 0) (argsL := []) (lenOf pd_14 rfl) rfl rfl rfl (Nat.le_of_eq rfl) (Nat.le_of_ble_eq_true rfl) (Nat.le_of_ble_eq_true rfl) fun v370 h371 ps367 q369 z368 => ?_
    obtain ⟨y, rfl, EY, SY⟩ := q369
    show Own.Run V K b_esc1 _ h371 _ 6 50 63 [.val (.ref x), .val (.ref a314), .val (.int (Int32.ofNat 1)), .val (.int c0)] [.ref y]
    refine r_aret (t := (.object "java/lang/String")) rfl rfl rfl d30_63 (by decide) (by decide) [] (fun _ q => nomatch q) ?_
    exact ⟨_, rfl, Ext.trans' EJ0 EY, SY⟩
  refine r_if_lt 47 40 d30_37 (by decide) rfl rfl (fun c372 => ?_) (fun c372 => ?_)
  · refine r_aloadN 48 rfl d30_47 rfl rfl ?_
    refine r_iloadN 49 rfl d30_48 rfl ?_
    refine r_virtual 52 rfl d30_49 (wd hw 171 rfl) (wd hw 172 rfl) (wd hw 174 rfl) (wd hw 173 rfl) (nfS (wd hw 174 rfl)) (by decide) f353 (Pays.con (K := K) (B := b_esc1) (c_sbC V hw cz hCS hcz a314 t 9 ([] : List Int32) h350 _ SB0 (by simp [ht]) c0 hc0 (by have := nil_len; simp only [List.length_append, List.length_cons, List.length_nil] at *; omega)) (wd hw 175 rfl) (wd hw 32 rfl) (by decide) (by decide)) (W := 0) (argsL := [.int c0]) (lenOf pd_6 rfl) rfl rfl rfl (Nat.le_of_eq rfl) (Nat.le_of_ble_eq_true rfl) (Nat.le_of_ble_eq_true rfl) fun v376 h377 ps373 q375 z374 => ?_
    obtain ⟨rfl, Kq0, Sq0⟩ := q375
    have f378 := Str.keep Kq0 (fun w hw' => by rcases List.mem_cons.mp hw' with rfl | hw'; exact leA (by omega); cases List.mem_singleton.mp hw'; exact leA (by omega)) f351
    have f379 := Exa.keep f352 Kq0
    have f380 := Exa.keep f353 Kq0
    have f381 := Exa.keep (SB0).exa Kq0
    show Own.Run V K b_esc1 _ h377 _ 4 35 52 [.val (.ref x), .val (.ref a314), .val (.int (Int32.ofNat 0)), .val (.int c0)] [.ref a314]
    have sh377 := Kq0.1
    refine r_pop 53 rfl d30_52 rfl ?_
    exact jl0 _ _ (Keep.ext0 EE0 Kq0 (fun w hw' => by rcases List.mem_cons.mp hw' with rfl | hw'; exact leA (by omega); cases List.mem_singleton.mp hw'; exact leA (by omega))) f378 (by rw [← esN (fun z => (hr0).mpr z c372)]; exact Sq0) (by simp [ht])
  · refine r_aloadN 41 rfl d30_40 rfl rfl ?_
    refine r_bipush (92 : Int32) 43 rfl d30_41 rfl ?_
    refine r_virtual 46 rfl d30_43 (wd hw 171 rfl) (wd hw 172 rfl) (wd hw 174 rfl) (wd hw 173 rfl) (nfS (wd hw 174 rfl)) (by decide) f353 (Pays.con (K := K) (B := b_esc1) (c_sbC V hw cz hCS hcz a314 t 9 ([] : List Int32) h350 _ SB0 (by simp [ht]) 92 ⟨by decide, by decide⟩ (by have := nil_len; simp only [List.length_append, List.length_cons, List.length_nil] at *; omega)) (wd hw 175 rfl) (wd hw 32 rfl) (by decide) (by decide)) (W := 0) (argsL := [.int (92 : Int32)]) (lenOf pd_6 rfl) rfl rfl rfl (Nat.le_of_eq rfl) (Nat.le_of_ble_eq_true rfl) (Nat.le_of_ble_eq_true rfl) fun v385 h386 ps382 q384 z383 => ?_
    obtain ⟨rfl, Kp0, Sp0⟩ := q384
    have f387 := Str.keep Kp0 (fun w hw' => by rcases List.mem_cons.mp hw' with rfl | hw'; exact leA (by omega); cases List.mem_singleton.mp hw'; exact leA (by omega)) f351
    have f388 := Exa.keep f352 Kp0
    have f389 := Exa.keep f353 Kp0
    have f390 := Exa.keep (SB0).exa Kp0
    show Own.Run V K b_esc1 _ h386 _ 4 35 46 [.val (.ref x), .val (.ref a314), .val (.int (Int32.ofNat 0)), .val (.int c0)] [.ref a314]
    have sh386 := Kp0.1
    refine r_pop 47 rfl d30_46 rfl ?_
    refine r_aloadN 48 rfl d30_47 rfl rfl ?_
    refine r_iloadN 49 rfl d30_48 rfl ?_
    refine r_virtual 52 rfl d30_49 (wd hw 171 rfl) (wd hw 172 rfl) (wd hw 174 rfl) (wd hw 173 rfl) (nfS (wd hw 174 rfl)) (by decide) (Sp0).exa (Pays.con (K := K) (B := b_esc1) (c_sbC V hw cz hCS hcz a314 t 9 (([] : List Int32) ++ [92]) h386 _ Sp0 (by simp [ht]) c0 hc0 (by have := nil_len; simp only [List.length_append, List.length_cons, List.length_nil] at *; omega)) (wd hw 175 rfl) (wd hw 32 rfl) (by decide) (by decide)) (W := 0) (argsL := [.int c0]) (lenOf pd_6 rfl) rfl rfl rfl (Nat.le_of_eq rfl) (Nat.le_of_ble_eq_true rfl) (Nat.le_of_ble_eq_true rfl) fun v394 h395 ps391 q393 z392 => ?_
    obtain ⟨rfl, Kq0, Sq0⟩ := q393
    have f396 := Str.keep Kq0 (fun w hw' => by rcases List.mem_cons.mp hw' with rfl | hw'; exact leA (by omega); cases List.mem_singleton.mp hw'; exact leA (by omega)) f387
    have f397 := Exa.keep f388 Kq0
    have f398 := Exa.keep (Sp0).exa Kq0
    show Own.Run V K b_esc1 _ h395 _ 4 35 52 [.val (.ref x), .val (.ref a314), .val (.int (Int32.ofNat 0)), .val (.int c0)] [.ref a314]
    have sh395 := Kq0.1
    refine r_pop 53 rfl d30_52 rfl ?_
    exact jl0 _ _ (Keep.ext0 (Keep.ext0 EE0 Kp0 (fun w hw' => by rcases List.mem_cons.mp hw' with rfl | hw'; exact leA (by omega); cases List.mem_singleton.mp hw'; exact leA (by omega))) Kq0 (fun w hw' => by rcases List.mem_cons.mp hw' with rfl | hw'; exact leA (by omega); cases List.mem_singleton.mp hw'; exact leA (by omega))) f396 (by rw [← esY ((hr0).mp c372)]; exact Sq0) (by simp [ht])
abbrev b_esc2 : Bx := (⟨"com/example/proviso/proviso/MessageTemplate", "escape", "(Ljava/lang/String;)Ljava/lang/String;"⟩, prog_12_method_4_code, 4, some (.object "java/lang/String"), { frames := 6, cells := 8, slots := 100, locals := 130 })
theorem c_esc2 (V : Vw) (hw : ∀ d ∈ tables_1, d.before V.a0 V.Z = true) (hm : ("java/lang/String", 7) ∈ V.EL) (hn : V.nar = false) (cz : Int32) (hCS : Sta V.Z V.Z.heap "java/lang/String" "COMPACT_STRINGS" "Z" (.int cz)) (hcz : ¬ cz = 0) (fm : Value) (hFM : Sta V.Z V.Z.heap "jdk/internal/util/Preconditions" "SIOOBE_FORMATTER" "Ljava/util/function/BiFunction;" fm) (rf : fm.isRef = true) (hl92 : ("com/example/proviso/proviso/MessageTemplate", 92) ∈ V.EL) (x m : Nat) (c0 c1 : Int32) (hc0 : By c0) (hc1 : By c1) (h : Heap) (ps : List Addr) (S : Str V h m x ([c0, c1] : List Int32)) : Con V b_esc2 #[.ref x] h ps (Qmk V ((([] : List Int32) ++ es c0) ++ es c1) h) := Con.of (plainFor_of_name pn_6) (L := [.val (.ref x), .unset, .unset, .unset]) rfl fun K => by
  have hbL : ∀ c ∈ ([c0, c1] : List Int32), By c := (byS hc0 (by1 hc1))
  have lm := S.lt.2
  refine r_new 3 rfl d30_0 (wd hw 30 rfl) (wd hw 31 rfl) (wd hw 32 rfl) (by decide) (by decide) fun a399 h400 ga399 za399 Eh400 Xa399 Da399 => ?_
  have f401 := Str.ext Eh400 S
  have f402 := Exa.ext Eh400 S.exa
  have sh400 := Eh400.1
  have la399 := ltN Xa399.lt
  have f403 : Fld V.Z h400 a399 "java/lang/AbstractStringBuilder" "value" "[B" (.null) := Da399 (Or.inl (wd hw 56 rfl)) (ty := (.array .byte)) (by decide)
  have f404 : Fld V.Z h400 a399 "java/lang/AbstractStringBuilder" "coder" "B" (.int (0 : Int32)) := Da399 (Or.inl (wd hw 58 rfl)) (ty := .byte) (by decide)
  have f405 : Fld V.Z h400 a399 "java/lang/AbstractStringBuilder" "count" "I" (.int (0 : Int32)) := Da399 (Or.inl (wd hw 86 rfl)) (ty := .int) (by decide)
  refine r_dup 4 rfl d30_3 rfl ?_
  refine r_aloadN 5 rfl d30_4 rfl rfl ?_
  refine Run.old fun OX1 => ?_
  refine r_virtual 8 rfl d30_5 (wd hw 33 rfl) (wd hw 34 rfl) (wd hw 36 rfl) (wd hw 35 rfl) (nfS (wd hw 36 rfl)) (by decide) f402 (pay_len V hw K b_esc2 2 x m ([c0, c1] : List Int32) h400 _ f401 OX1 cz hCS hcz (by decide) (by decide)) (W := 2) (argsL := []) (lenOf pd_8 rfl) rfl rfl rfl (Nat.le_of_eq rfl) (Nat.le_of_ble_eq_true rfl) (Nat.le_of_ble_eq_true rfl) fun v409 h410 ps406 q408 z407 => ?_
  obtain ⟨rfl, es411⟩ := q408
  subst h410
  show Own.Run V K b_esc2 _ h400 _ 1 4 8 [.val (.ref x), .unset, .unset, .unset] [.int (Int32.ofNat 2), .ref a399, .ref a399]
  refine r_bipush (8 : Int32) 10 rfl d30_8 rfl ?_
  refine r_iadd 11 rfl d30_10 ?_
  rw [show Int32.ofNat 2 + 8 = Int32.ofNat 10 from by decide]
  refine r_special 14 rfl d30_11 rfl (wd hw 44 rfl) (wd hw 45 rfl) (wd hw 46 rfl) (by decide) (Pays.con (K := K) (B := b_esc2) (c_sbi V hw cz hCS hcz a399 10 (by decide) h400 _ za399 Xa399 f403 f404 f405) (wd hw 46 rfl) (wd hw 32 rfl) (by decide) (by decide)) (W := 1) (argsL := [.int (Int32.ofNat 10)]) (lenOf pd_2 rfl) rfl rfl rfl (Nat.le_of_eq rfl) (Nat.le_of_ble_eq_true rfl) (Nat.le_of_ble_eq_true rfl) fun v414 h415 psx q413 z412 => ?_
  obtain ⟨rfl, t, ht, lt, K1, SB⟩ := q413
  have f416 : Str V h415 m x ([c0, c1] : List Int32) := by first | exact Str.keep K1 (fun w hw' => by cases List.mem_singleton.mp hw'; exact leA (by omega)) f401 | exact Str.keepE K1 Xa399 (by decide) (wd hw 31 rfl) f401
  have f417 := Exa.keep f402 K1
  have f418 := Exa.keep Xa399 K1
  show Own.Run V K b_esc2 _ h415 _ 2 15 14 [.val (.ref x), .unset, .unset, .unset] [.ref a399]
  have sh415 := K1.1
  have EE := Keep.ext0 Eh400 K1 (fun w hw' => by cases List.mem_singleton.mp hw'; exact leA (by omega))
  replace SB : Sb V h415 a399 t 10 ([] : List Int32) := SB
  refine r_astoreN [.val (.ref x), .val (.ref a399), .unset, .unset] 15 rfl d30_14 rfl rfl ?_
  refine r_iconst (0 : Int32) 16 rfl d30_15 rfl ?_
  refine r_istoreN [.val (.ref x), .val (.ref a399), .val (.int (0 : Int32)), .unset] 17 rfl d30_16 rfl ?_
  show Own.Run V K b_esc2 _ h415 _ 2 15 17 [.val (.ref x), .val (.ref a399), .val (.int (Int32.ofNat 0)), .unset] []
  refine r_iloadN 18 rfl d30_17 rfl ?_
  refine r_aloadN 19 rfl d30_18 rfl rfl ?_
  refine Run.old fun OX2 => ?_
  refine r_virtual 22 rfl d30_19 (wd hw 33 rfl) (wd hw 34 rfl) (wd hw 36 rfl) (wd hw 35 rfl) (nfS (wd hw 36 rfl)) (by decide) f417 (pay_len V hw K b_esc2 1 x m ([c0, c1] : List Int32) h415 _ f416 OX2 cz hCS hcz (by decide) (by decide)) (W := 1) (argsL := []) (lenOf pd_8 rfl) rfl rfl rfl (Nat.le_of_eq rfl) (Nat.le_of_ble_eq_true rfl) (Nat.le_of_ble_eq_true rfl) fun v422 h423 ps419 q421 z420 => ?_
  obtain ⟨rfl, es424⟩ := q421
  subst h423
  show Own.Run V K b_esc2 _ h415 _ 2 15 22 [.val (.ref x), .val (.ref a399), .val (.int (Int32.ofNat 0)), .unset] [.int (Int32.ofNat 2), .int (Int32.ofNat 0)]
  refine r_icmp_ge 59 25 d30_22 (by decide) rfl rfl (fun c425 => ?_) (fun c425 => ?_)
  · exact absurd c425 (by decide)
  refine r_aloadN 26 rfl d30_25 rfl rfl ?_
  refine r_iloadN 27 rfl d30_26 rfl ?_
  refine Run.old fun OX3 => ?_
  refine r_virtual 30 rfl d30_27 (wd hw 124 rfl) (wd hw 125 rfl) (wd hw 127 rfl) (wd hw 126 rfl) (nfS (wd hw 127 rfl)) (by decide) f417 (pay_ch V hw K b_esc2 0 x m 0 (Int32.ofNat 0) ([c0, c1] : List Int32) h415 _ f416 (fun c hc => (hbL c hc).2) OX3 cz hCS hcz fm hFM rf (Nat.le_of_ble_eq_true rfl) rfl (by decide) (by decide)) (W := 0) (argsL := [.int (Int32.ofNat 0)]) (lenOf pd_18 rfl) rfl rfl rfl (Nat.le_of_eq rfl) (Nat.le_of_ble_eq_true rfl) (Nat.le_of_ble_eq_true rfl) fun v429 h430 ps426 q428 z427 => ?_
  obtain ⟨rfl, es431⟩ := q428
  subst h430
  show Own.Run V K b_esc2 _ h415 _ 2 15 30 [.val (.ref x), .val (.ref a399), .val (.int (Int32.ofNat 0)), .unset] [.int c0]
  refine r_istoreN [.val (.ref x), .val (.ref a399), .val (.int (Int32.ofNat 0)), .val (.int c0)] 31 rfl d30_30 rfl ?_
  refine r_ldcS [.int 123, .int 125, .int 36, .int 92] (4 : Int32) 16 33 rfl d30_31 (wd hw 146 rfl) (satoms V hw) hl92 hn (by decide) (by decide) rfl (by decide) (by decide) (by decide) (by decide) fun a432 b433 k434 h435 Eh435 Xh435 Ch435 Yh435 Ah435 Nh435 => ?_
  have f436 := Str.ext Eh435 f416
  have f437 := Exa.ext Eh435 f417
  have f438 := Exa.ext Eh435 f418
  have sh435 := Eh435.1
  have la432 := ltN Xh435.lt
  have lb433 := ltN Ah435.lt
  have SL0 := litStr SPL Xh435 Ch435 Yh435 Ah435 rfl (by decide) SPby (by decide)
  have SB0 := Sb.ext Eh435 SB
  have EE0 := Ext.trans' EE Eh435
  refine r_iloadN 34 rfl d30_33 rfl ?_
  refine r_virtual 37 rfl d30_34 (wd hw 147 rfl) (wd hw 148 rfl) (wd hw 150 rfl) (wd hw 149 rfl) (nfS (wd hw 150 rfl)) (by decide) Xh435 (Pays.con (K := K) (B := b_esc2) (c_iof V hw cz hCS hcz a432 _ SPL SPby c0 hc0 h435 _ SL0) (wd hw 151 rfl) (wd hw 7 rfl) (by decide) (by decide)) (W := 0) (argsL := [.int c0]) (lenOf pd_17 rfl) rfl rfl rfl (Nat.le_of_eq rfl) (Nat.le_of_ble_eq_true rfl) (Nat.le_of_ble_eq_true rfl) fun v442 h443 ps439 q441 z440 => ?_
  obtain ⟨r0, rfl, es444, hr0⟩ := q441
  subst h443
  show Own.Run V K b_esc2 _ h435 _ 4 35 37 [.val (.ref x), .val (.ref a399), .val (.int (Int32.ofNat 0)), .val (.int c0)] [.int r0]
  have jl0 : ∀ (hJ0 : Heap) (pJ : List Addr), Ext h hJ0 → Str V hJ0 m x ([c0, c1] : List Int32) → Sb V hJ0 a399 t 10 (([] : List Int32) ++ es c0) → t ∈ pJ → Own.Run V K b_esc2 (Qmk V ((([] : List Int32) ++ es c0) ++ es c1) h) hJ0 pJ 4 35 53 [.val (.ref x), .val (.ref a399), .val (.int (Int32.ofNat 0)), .val (.int c0)] [] := by
    intro hJ0 pJ EJ0 SX0 SJ0 mJ0
    have sJ0 := EJ0.1
    refine r_iinc (1) [.val (.ref x), .val (.ref a399), .val (.int (Int32.ofNat 0 + 1)), .val (.int c0)] 56 rfl d30_53 rfl rfl rfl ?_
    refine r_goto 17 d30_56 (by decide) rfl ?_
    rw [show Int32.ofNat 0 + 1 = Int32.ofNat 1 from by decide]
    refine r_iloadN 18 rfl d30_17 rfl ?_
    refine r_aloadN 19 rfl d30_18 rfl rfl ?_
    refine Run.old fun OX4 => ?_
    refine r_virtual 22 rfl d30_19 (wd hw 33 rfl) (wd hw 34 rfl) (wd hw 36 rfl) (wd hw 35 rfl) (nfS (wd hw 36 rfl)) (by decide) SX0.exa (pay_len V hw K b_esc2 1 x m ([c0, c1] : List Int32) hJ0 _ SX0 OX4 cz hCS hcz (by decide) (by decide)) (W := 1) (argsL := []) (lenOf pd_8 rfl) rfl rfl rfl (Nat.le_of_eq rfl) (Nat.le_of_ble_eq_true rfl) (Nat.le_of_ble_eq_true rfl) fun v448 h449 ps445 q447 z446 => ?_
    obtain ⟨rfl, es450⟩ := q447
    subst h449
    show Own.Run V K b_esc2 _ hJ0 _ 4 35 22 [.val (.ref x), .val (.ref a399), .val (.int (Int32.ofNat 1)), .val (.int c0)] [.int (Int32.ofNat 2), .int (Int32.ofNat 1)]
    refine r_icmp_ge 59 25 d30_22 (by decide) rfl rfl (fun c451 => ?_) (fun c451 => ?_)
    · exact absurd c451 (by decide)
    refine r_aloadN 26 rfl d30_25 rfl rfl ?_
    refine r_iloadN 27 rfl d30_26 rfl ?_
    refine Run.old fun OX5 => ?_
    refine r_virtual 30 rfl d30_27 (wd hw 124 rfl) (wd hw 125 rfl) (wd hw 127 rfl) (wd hw 126 rfl) (nfS (wd hw 127 rfl)) (by decide) SX0.exa (pay_ch V hw K b_esc2 0 x m 1 (Int32.ofNat 1) ([c0, c1] : List Int32) hJ0 _ SX0 (fun c hc => (hbL c hc).2) OX5 cz hCS hcz fm hFM rf (Nat.le_of_ble_eq_true rfl) rfl (by decide) (by decide)) (W := 0) (argsL := [.int (Int32.ofNat 1)]) (lenOf pd_18 rfl) rfl rfl rfl (Nat.le_of_eq rfl) (Nat.le_of_ble_eq_true rfl) (Nat.le_of_ble_eq_true rfl) fun v455 h456 ps452 q454 z453 => ?_
    obtain ⟨rfl, es457⟩ := q454
    subst h456
    show Own.Run V K b_esc2 _ hJ0 _ 4 35 30 [.val (.ref x), .val (.ref a399), .val (.int (Int32.ofNat 1)), .val (.int c0)] [.int c1]
    refine r_istoreN [.val (.ref x), .val (.ref a399), .val (.int (Int32.ofNat 1)), .val (.int c1)] 31 rfl d30_30 rfl ?_
    refine r_ldcS [.int 123, .int 125, .int 36, .int 92] (4 : Int32) 16 33 rfl d30_31 (wd hw 146 rfl) (satoms V hw) hl92 hn (by decide) (by decide) rfl (by decide) (by decide) (by decide) (by decide) fun a458 b459 k460 h461 Eh461 Xh461 Ch461 Yh461 Ah461 Nh461 => ?_
    have f462 := Str.ext Eh461 SX0
    have f463 := Exa.ext Eh461 SX0.exa
    have sh461 := Eh461.1
    have la458 := ltN Xh461.lt
    have lb459 := ltN Ah461.lt
    have SL1 := litStr SPL Xh461 Ch461 Yh461 Ah461 rfl (by decide) SPby (by decide)
    have SB1 := Sb.ext Eh461 SJ0
    have EE1 := Ext.trans' EJ0 Eh461
    refine r_iloadN 34 rfl d30_33 rfl ?_
    refine r_virtual 37 rfl d30_34 (wd hw 147 rfl) (wd hw 148 rfl) (wd hw 150 rfl) (wd hw 149 rfl) (nfS (wd hw 150 rfl)) (by decide) Xh461 (Pays.con (K := K) (B := b_esc2) (c_iof V hw cz hCS hcz a458 _ SPL SPby c1 hc1 h461 _ SL1) (wd hw 151 rfl) (wd hw 7 rfl) (by decide) (by decide)) (W := 0) (argsL := [.int c1]) (lenOf pd_17 rfl) rfl rfl rfl (Nat.le_of_eq rfl) (Nat.le_of_ble_eq_true rfl) (Nat.le_of_ble_eq_true rfl) fun v467 h468 ps464 q466 z465 => ?_
    obtain ⟨r1, rfl, es469, hr1⟩ := q466
    subst h468
    show Own.Run V K b_esc2 _ h461 _ 6 55 37 [.val (.ref x), .val (.ref a399), .val (.int (Int32.ofNat 1)), .val (.int c1)] [.int r1]
    have jl1 : ∀ (hJ1 : Heap) (pJ : List Addr), Ext h hJ1 → Str V hJ1 m x ([c0, c1] : List Int32) → Sb V hJ1 a399 t 10 ((([] : List Int32) ++ es c0) ++ es c1) → t ∈ pJ → Own.Run V K b_esc2 (Qmk V ((([] : List Int32) ++ es c0) ++ es c1) h) hJ1 pJ 6 55 53 [.val (.ref x), .val (.ref a399), .val (.int (Int32.ofNat 1)), .val (.int c1)] [] := by
      intro hJ1 pJ EJ1 SX1 SJ1 mJ1
      have sJ1 := EJ1.1
      refine r_iinc (1) [.val (.ref x), .val (.ref a399), .val (.int (Int32.ofNat 1 + 1)), .val (.int c1)] 56 rfl d30_53 rfl rfl rfl ?_
      refine r_goto 17 d30_56 (by decide) rfl ?_
      rw [show Int32.ofNat 1 + 1 = Int32.ofNat 2 from by decide]
      refine r_iloadN 18 rfl d30_17 rfl ?_
      refine r_aloadN 19 rfl d30_18 rfl rfl ?_
      refine Run.old fun OX6 => ?_
      refine r_virtual 22 rfl d30_19 (wd hw 33 rfl) (wd hw 34 rfl) (wd hw 36 rfl) (wd hw 35 rfl) (nfS (wd hw 36 rfl)) (by decide) SX1.exa (pay_len V hw K b_esc2 1 x m ([c0, c1] : List Int32) hJ1 _ SX1 OX6 cz hCS hcz (by decide) (by decide)) (W := 1) (argsL := []) (lenOf pd_8 rfl) rfl rfl rfl (Nat.le_of_eq rfl) (Nat.le_of_ble_eq_true rfl) (Nat.le_of_ble_eq_true rfl) fun v473 h474 ps470 q472 z471 => ?_
      obtain ⟨rfl, es475⟩ := q472
      subst h474
      show Own.Run V K b_esc2 _ hJ1 _ 6 55 22 [.val (.ref x), .val (.ref a399), .val (.int (Int32.ofNat 2)), .val (.int c1)] [.int (Int32.ofNat 2), .int (Int32.ofNat 2)]
      refine r_icmp_ge 59 25 d30_22 (by decide) rfl rfl (fun c476 => ?_) (fun c476 => ?_)
      rotate_left
      · exact absurd c476 (by decide)
      refine r_aloadN 60 rfl d30_59 rfl rfl ?_
      refine r_virtual 63 rfl d30_60 (wd hw 59 rfl) (wd hw 60 rfl) (wd hw 62 rfl) (wd hw 61 rfl) (nfS (wd hw 62 rfl)) (by decide) (SJ1).exa (Pays.con (K := K) (B := b_esc2) (c_toS V hw cz hCS hcz a399 t 10 ((([] : List Int32) ++ es c0) ++ es c1) hJ1 _ SJ1 (by have := (app_len (app_len nil_len (es_len c0)) (es_len c1)); omega) (by decide) (by_app (by_app by0 (es_by hc0)) (es_by hc1))) (wd hw 63 rfl) (wd hw 32 rfl) (by decide) (by decide)) (W := 0) (argsL := []) (lenOf pd_14 rfl) rfl rfl rfl (Nat.le_of_eq rfl) (Nat.le_of_ble_eq_true rfl) (Nat.le_of_ble_eq_true rfl) fun v480 h481 ps477 q479 z478 => ?_
      obtain ⟨y, rfl, EY, SY⟩ := q479
      show Own.Run V K b_esc2 _ h481 _ 8 70 63 [.val (.ref x), .val (.ref a399), .val (.int (Int32.ofNat 2)), .val (.int c1)] [.ref y]
      refine r_aret (t := (.object "java/lang/String")) rfl rfl rfl d30_63 (by decide) (by decide) [] (fun _ q => nomatch q) ?_
      exact ⟨_, rfl, Ext.trans' EJ1 EY, SY⟩
    refine r_if_lt 47 40 d30_37 (by decide) rfl rfl (fun c482 => ?_) (fun c482 => ?_)
    · refine r_aloadN 48 rfl d30_47 rfl rfl ?_
      refine r_iloadN 49 rfl d30_48 rfl ?_
      refine r_virtual 52 rfl d30_49 (wd hw 171 rfl) (wd hw 172 rfl) (wd hw 174 rfl) (wd hw 173 rfl) (nfS (wd hw 174 rfl)) (by decide) (SB1).exa (Pays.con (K := K) (B := b_esc2) (c_sbC V hw cz hCS hcz a399 t 10 (([] : List Int32) ++ es c0) h461 _ SB1 (by simp [mJ0]) c1 hc1 (by have := (app_len nil_len (es_len c0)); simp only [List.length_append, List.length_cons, List.length_nil] at *; omega)) (wd hw 175 rfl) (wd hw 32 rfl) (by decide) (by decide)) (W := 0) (argsL := [.int c1]) (lenOf pd_6 rfl) rfl rfl rfl (Nat.le_of_eq rfl) (Nat.le_of_ble_eq_true rfl) (Nat.le_of_ble_eq_true rfl) fun v486 h487 ps483 q485 z484 => ?_
      obtain ⟨rfl, Kq1, Sq1⟩ := q485
      have f488 := Str.keep Kq1 (fun w hw' => by rcases List.mem_cons.mp hw' with rfl | hw'; exact leA (by omega); cases List.mem_singleton.mp hw'; exact leA (by omega)) f462
      have f489 := Exa.keep f463 Kq1
      have f490 := Exa.keep (SB1).exa Kq1
      show Own.Run V K b_esc2 _ h487 _ 6 55 52 [.val (.ref x), .val (.ref a399), .val (.int (Int32.ofNat 1)), .val (.int c1)] [.ref a399]
      have sh487 := Kq1.1
      refine r_pop 53 rfl d30_52 rfl ?_
      exact jl1 _ _ (Keep.ext0 EE1 Kq1 (fun w hw' => by rcases List.mem_cons.mp hw' with rfl | hw'; exact leA (by omega); cases List.mem_singleton.mp hw'; exact leA (by omega))) f488 (by rw [← esN (fun z => (hr1).mpr z c482)]; exact Sq1) (by simp [mJ0])
    · refine r_aloadN 41 rfl d30_40 rfl rfl ?_
      refine r_bipush (92 : Int32) 43 rfl d30_41 rfl ?_
      refine r_virtual 46 rfl d30_43 (wd hw 171 rfl) (wd hw 172 rfl) (wd hw 174 rfl) (wd hw 173 rfl) (nfS (wd hw 174 rfl)) (by decide) (SB1).exa (Pays.con (K := K) (B := b_esc2) (c_sbC V hw cz hCS hcz a399 t 10 (([] : List Int32) ++ es c0) h461 _ SB1 (by simp [mJ0]) 92 ⟨by decide, by decide⟩ (by have := (app_len nil_len (es_len c0)); simp only [List.length_append, List.length_cons, List.length_nil] at *; omega)) (wd hw 175 rfl) (wd hw 32 rfl) (by decide) (by decide)) (W := 0) (argsL := [.int (92 : Int32)]) (lenOf pd_6 rfl) rfl rfl rfl (Nat.le_of_eq rfl) (Nat.le_of_ble_eq_true rfl) (Nat.le_of_ble_eq_true rfl) fun v494 h495 ps491 q493 z492 => ?_
      obtain ⟨rfl, Kp1, Sp1⟩ := q493
      have f496 := Str.keep Kp1 (fun w hw' => by rcases List.mem_cons.mp hw' with rfl | hw'; exact leA (by omega); cases List.mem_singleton.mp hw'; exact leA (by omega)) f462
      have f497 := Exa.keep f463 Kp1
      have f498 := Exa.keep (SB1).exa Kp1
      show Own.Run V K b_esc2 _ h495 _ 6 55 46 [.val (.ref x), .val (.ref a399), .val (.int (Int32.ofNat 1)), .val (.int c1)] [.ref a399]
      have sh495 := Kp1.1
      refine r_pop 47 rfl d30_46 rfl ?_
      refine r_aloadN 48 rfl d30_47 rfl rfl ?_
      refine r_iloadN 49 rfl d30_48 rfl ?_
      refine r_virtual 52 rfl d30_49 (wd hw 171 rfl) (wd hw 172 rfl) (wd hw 174 rfl) (wd hw 173 rfl) (nfS (wd hw 174 rfl)) (by decide) (Sp1).exa (Pays.con (K := K) (B := b_esc2) (c_sbC V hw cz hCS hcz a399 t 10 ((([] : List Int32) ++ es c0) ++ [92]) h495 _ Sp1 (by simp [mJ0]) c1 hc1 (by have := (app_len nil_len (es_len c0)); simp only [List.length_append, List.length_cons, List.length_nil] at *; omega)) (wd hw 175 rfl) (wd hw 32 rfl) (by decide) (by decide)) (W := 0) (argsL := [.int c1]) (lenOf pd_6 rfl) rfl rfl rfl (Nat.le_of_eq rfl) (Nat.le_of_ble_eq_true rfl) (Nat.le_of_ble_eq_true rfl) fun v502 h503 ps499 q501 z500 => ?_
      obtain ⟨rfl, Kq1, Sq1⟩ := q501
      have f504 := Str.keep Kq1 (fun w hw' => by rcases List.mem_cons.mp hw' with rfl | hw'; exact leA (by omega); cases List.mem_singleton.mp hw'; exact leA (by omega)) f496
      have f505 := Exa.keep f497 Kq1
      have f506 := Exa.keep (Sp1).exa Kq1
      show Own.Run V K b_esc2 _ h503 _ 6 55 52 [.val (.ref x), .val (.ref a399), .val (.int (Int32.ofNat 1)), .val (.int c1)] [.ref a399]
      have sh503 := Kq1.1
      refine r_pop 53 rfl d30_52 rfl ?_
      exact jl1 _ _ (Keep.ext0 (Keep.ext0 EE1 Kp1 (fun w hw' => by rcases List.mem_cons.mp hw' with rfl | hw'; exact leA (by omega); cases List.mem_singleton.mp hw'; exact leA (by omega))) Kq1 (fun w hw' => by rcases List.mem_cons.mp hw' with rfl | hw'; exact leA (by omega); cases List.mem_singleton.mp hw'; exact leA (by omega))) f504 (by rw [← esY ((hr1).mp c482)]; exact Sq1) (by simp [mJ0])
  refine r_if_lt 47 40 d30_37 (by decide) rfl rfl (fun c507 => ?_) (fun c507 => ?_)
  · refine r_aloadN 48 rfl d30_47 rfl rfl ?_
    refine r_iloadN 49 rfl d30_48 rfl ?_
    refine r_virtual 52 rfl d30_49 (wd hw 171 rfl) (wd hw 172 rfl) (wd hw 174 rfl) (wd hw 173 rfl) (nfS (wd hw 174 rfl)) (by decide) f438 (Pays.con (K := K) (B := b_esc2) (c_sbC V hw cz hCS hcz a399 t 10 ([] : List Int32) h435 _ SB0 (by simp [ht]) c0 hc0 (by have := nil_len; simp only [List.length_append, List.length_cons, List.length_nil] at *; omega)) (wd hw 175 rfl) (wd hw 32 rfl) (by decide) (by decide)) (W := 0) (argsL := [.int c0]) (lenOf pd_6 rfl) rfl rfl rfl (Nat.le_of_eq rfl) (Nat.le_of_ble_eq_true rfl) (Nat.le_of_ble_eq_true rfl) fun v511 h512 ps508 q510 z509 => ?_
    obtain ⟨rfl, Kq0, Sq0⟩ := q510
    have f513 := Str.keep Kq0 (fun w hw' => by rcases List.mem_cons.mp hw' with rfl | hw'; exact leA (by omega); cases List.mem_singleton.mp hw'; exact leA (by omega)) f436
    have f514 := Exa.keep f437 Kq0
    have f515 := Exa.keep f438 Kq0
    have f516 := Exa.keep (SB0).exa Kq0
    show Own.Run V K b_esc2 _ h512 _ 4 35 52 [.val (.ref x), .val (.ref a399), .val (.int (Int32.ofNat 0)), .val (.int c0)] [.ref a399]
    have sh512 := Kq0.1
    refine r_pop 53 rfl d30_52 rfl ?_
    exact jl0 _ _ (Keep.ext0 EE0 Kq0 (fun w hw' => by rcases List.mem_cons.mp hw' with rfl | hw'; exact leA (by omega); cases List.mem_singleton.mp hw'; exact leA (by omega))) f513 (by rw [← esN (fun z => (hr0).mpr z c507)]; exact Sq0) (by simp [ht])
  · refine r_aloadN 41 rfl d30_40 rfl rfl ?_
    refine r_bipush (92 : Int32) 43 rfl d30_41 rfl ?_
    refine r_virtual 46 rfl d30_43 (wd hw 171 rfl) (wd hw 172 rfl) (wd hw 174 rfl) (wd hw 173 rfl) (nfS (wd hw 174 rfl)) (by decide) f438 (Pays.con (K := K) (B := b_esc2) (c_sbC V hw cz hCS hcz a399 t 10 ([] : List Int32) h435 _ SB0 (by simp [ht]) 92 ⟨by decide, by decide⟩ (by have := nil_len; simp only [List.length_append, List.length_cons, List.length_nil] at *; omega)) (wd hw 175 rfl) (wd hw 32 rfl) (by decide) (by decide)) (W := 0) (argsL := [.int (92 : Int32)]) (lenOf pd_6 rfl) rfl rfl rfl (Nat.le_of_eq rfl) (Nat.le_of_ble_eq_true rfl) (Nat.le_of_ble_eq_true rfl) fun v520 h521 ps517 q519 z518 => ?_
    obtain ⟨rfl, Kp0, Sp0⟩ := q519
    have f522 := Str.keep Kp0 (fun w hw' => by rcases List.mem_cons.mp hw' with rfl | hw'; exact leA (by omega); cases List.mem_singleton.mp hw'; exact leA (by omega)) f436
    have f523 := Exa.keep f437 Kp0
    have f524 := Exa.keep f438 Kp0
    have f525 := Exa.keep (SB0).exa Kp0
    show Own.Run V K b_esc2 _ h521 _ 4 35 46 [.val (.ref x), .val (.ref a399), .val (.int (Int32.ofNat 0)), .val (.int c0)] [.ref a399]
    have sh521 := Kp0.1
    refine r_pop 47 rfl d30_46 rfl ?_
    refine r_aloadN 48 rfl d30_47 rfl rfl ?_
    refine r_iloadN 49 rfl d30_48 rfl ?_
    refine r_virtual 52 rfl d30_49 (wd hw 171 rfl) (wd hw 172 rfl) (wd hw 174 rfl) (wd hw 173 rfl) (nfS (wd hw 174 rfl)) (by decide) (Sp0).exa (Pays.con (K := K) (B := b_esc2) (c_sbC V hw cz hCS hcz a399 t 10 (([] : List Int32) ++ [92]) h521 _ Sp0 (by simp [ht]) c0 hc0 (by have := nil_len; simp only [List.length_append, List.length_cons, List.length_nil] at *; omega)) (wd hw 175 rfl) (wd hw 32 rfl) (by decide) (by decide)) (W := 0) (argsL := [.int c0]) (lenOf pd_6 rfl) rfl rfl rfl (Nat.le_of_eq rfl) (Nat.le_of_ble_eq_true rfl) (Nat.le_of_ble_eq_true rfl) fun v529 h530 ps526 q528 z527 => ?_
    obtain ⟨rfl, Kq0, Sq0⟩ := q528
    have f531 := Str.keep Kq0 (fun w hw' => by rcases List.mem_cons.mp hw' with rfl | hw'; exact leA (by omega); cases List.mem_singleton.mp hw'; exact leA (by omega)) f522
    have f532 := Exa.keep f523 Kq0
    have f533 := Exa.keep (Sp0).exa Kq0
    show Own.Run V K b_esc2 _ h530 _ 4 35 52 [.val (.ref x), .val (.ref a399), .val (.int (Int32.ofNat 0)), .val (.int c0)] [.ref a399]
    have sh530 := Kq0.1
    refine r_pop 53 rfl d30_52 rfl ?_
    exact jl0 _ _ (Keep.ext0 (Keep.ext0 EE0 Kp0 (fun w hw' => by rcases List.mem_cons.mp hw' with rfl | hw'; exact leA (by omega); cases List.mem_singleton.mp hw'; exact leA (by omega))) Kq0 (fun w hw' => by rcases List.mem_cons.mp hw' with rfl | hw'; exact leA (by omega); cases List.mem_singleton.mp hw'; exact leA (by omega))) f531 (by rw [← esY ((hr0).mp c507)]; exact Sq0) (by simp [ht])
abbrev b_esc3 : Bx := (⟨"com/example/proviso/proviso/MessageTemplate", "escape", "(Ljava/lang/String;)Ljava/lang/String;"⟩, prog_12_method_4_code, 4, some (.object "java/lang/String"), { frames := 6, cells := 10, slots := 120, locals := 130 })
theorem c_esc3 (V : Vw) (hw : ∀ d ∈ tables_1, d.before V.a0 V.Z = true) (hm : ("java/lang/String", 7) ∈ V.EL) (hn : V.nar = false) (cz : Int32) (hCS : Sta V.Z V.Z.heap "java/lang/String" "COMPACT_STRINGS" "Z" (.int cz)) (hcz : ¬ cz = 0) (fm : Value) (hFM : Sta V.Z V.Z.heap "jdk/internal/util/Preconditions" "SIOOBE_FORMATTER" "Ljava/util/function/BiFunction;" fm) (rf : fm.isRef = true) (hl92 : ("com/example/proviso/proviso/MessageTemplate", 92) ∈ V.EL) (x m : Nat) (c0 c1 c2 : Int32) (hc0 : By c0) (hc1 : By c1) (hc2 : By c2) (h : Heap) (ps : List Addr) (S : Str V h m x ([c0, c1, c2] : List Int32)) : Con V b_esc3 #[.ref x] h ps (Qmk V (((([] : List Int32) ++ es c0) ++ es c1) ++ es c2) h) := Con.of (plainFor_of_name pn_6) (L := [.val (.ref x), .unset, .unset, .unset]) rfl fun K => by
  have hbL : ∀ c ∈ ([c0, c1, c2] : List Int32), By c := (byS hc0 (byS hc1 (by1 hc2)))
  have lm := S.lt.2
  refine r_new 3 rfl d30_0 (wd hw 30 rfl) (wd hw 31 rfl) (wd hw 32 rfl) (by decide) (by decide) fun a534 h535 ga534 za534 Eh535 Xa534 Da534 => ?_
  have f536 := Str.ext Eh535 S
  have f537 := Exa.ext Eh535 S.exa
  have sh535 := Eh535.1
  have la534 := ltN Xa534.lt
  have f538 : Fld V.Z h535 a534 "java/lang/AbstractStringBuilder" "value" "[B" (.null) := Da534 (Or.inl (wd hw 56 rfl)) (ty := (.array .byte)) (by decide)
  have f539 : Fld V.Z h535 a534 "java/lang/AbstractStringBuilder" "coder" "B" (.int (0 : Int32)) := Da534 (Or.inl (wd hw 58 rfl)) (ty := .byte) (by decide)
  have f540 : Fld V.Z h535 a534 "java/lang/AbstractStringBuilder" "count" "I" (.int (0 : Int32)) := Da534 (Or.inl (wd hw 86 rfl)) (ty := .int) (by decide)
  refine r_dup 4 rfl d30_3 rfl ?_
  refine r_aloadN 5 rfl d30_4 rfl rfl ?_
  refine Run.old fun OX1 => ?_
  refine r_virtual 8 rfl d30_5 (wd hw 33 rfl) (wd hw 34 rfl) (wd hw 36 rfl) (wd hw 35 rfl) (nfS (wd hw 36 rfl)) (by decide) f537 (pay_len V hw K b_esc3 2 x m ([c0, c1, c2] : List Int32) h535 _ f536 OX1 cz hCS hcz (by decide) (by decide)) (W := 2) (argsL := []) (lenOf pd_8 rfl) rfl rfl rfl (Nat.le_of_eq rfl) (Nat.le_of_ble_eq_true rfl) (Nat.le_of_ble_eq_true rfl) fun v544 h545 ps541 q543 z542 => ?_
  obtain ⟨rfl, es546⟩ := q543
  subst h545
  show Own.Run V K b_esc3 _ h535 _ 1 4 8 [.val (.ref x), .unset, .unset, .unset] [.int (Int32.ofNat 3), .ref a534, .ref a534]
  refine r_bipush (8 : Int32) 10 rfl d30_8 rfl ?_
  refine r_iadd 11 rfl d30_10 ?_
  rw [show Int32.ofNat 3 + 8 = Int32.ofNat 11 from by decide]
  refine r_special 14 rfl d30_11 rfl (wd hw 44 rfl) (wd hw 45 rfl) (wd hw 46 rfl) (by decide) (Pays.con (K := K) (B := b_esc3) (c_sbi V hw cz hCS hcz a534 11 (by decide) h535 _ za534 Xa534 f538 f539 f540) (wd hw 46 rfl) (wd hw 32 rfl) (by decide) (by decide)) (W := 1) (argsL := [.int (Int32.ofNat 11)]) (lenOf pd_2 rfl) rfl rfl rfl (Nat.le_of_eq rfl) (Nat.le_of_ble_eq_true rfl) (Nat.le_of_ble_eq_true rfl) fun v549 h550 psx q548 z547 => ?_
  obtain ⟨rfl, t, ht, lt, K1, SB⟩ := q548
  have f551 : Str V h550 m x ([c0, c1, c2] : List Int32) := by first | exact Str.keep K1 (fun w hw' => by cases List.mem_singleton.mp hw'; exact leA (by omega)) f536 | exact Str.keepE K1 Xa534 (by decide) (wd hw 31 rfl) f536
  have f552 := Exa.keep f537 K1
  have f553 := Exa.keep Xa534 K1
  show Own.Run V K b_esc3 _ h550 _ 2 15 14 [.val (.ref x), .unset, .unset, .unset] [.ref a534]
  have sh550 := K1.1
  have EE := Keep.ext0 Eh535 K1 (fun w hw' => by cases List.mem_singleton.mp hw'; exact leA (by omega))
  replace SB : Sb V h550 a534 t 11 ([] : List Int32) := SB
  refine r_astoreN [.val (.ref x), .val (.ref a534), .unset, .unset] 15 rfl d30_14 rfl rfl ?_
  refine r_iconst (0 : Int32) 16 rfl d30_15 rfl ?_
  refine r_istoreN [.val (.ref x), .val (.ref a534), .val (.int (0 : Int32)), .unset] 17 rfl d30_16 rfl ?_
  show Own.Run V K b_esc3 _ h550 _ 2 15 17 [.val (.ref x), .val (.ref a534), .val (.int (Int32.ofNat 0)), .unset] []
  refine r_iloadN 18 rfl d30_17 rfl ?_
  refine r_aloadN 19 rfl d30_18 rfl rfl ?_
  refine Run.old fun OX2 => ?_
  refine r_virtual 22 rfl d30_19 (wd hw 33 rfl) (wd hw 34 rfl) (wd hw 36 rfl) (wd hw 35 rfl) (nfS (wd hw 36 rfl)) (by decide) f552 (pay_len V hw K b_esc3 1 x m ([c0, c1, c2] : List Int32) h550 _ f551 OX2 cz hCS hcz (by decide) (by decide)) (W := 1) (argsL := []) (lenOf pd_8 rfl) rfl rfl rfl (Nat.le_of_eq rfl) (Nat.le_of_ble_eq_true rfl) (Nat.le_of_ble_eq_true rfl) fun v557 h558 ps554 q556 z555 => ?_
  obtain ⟨rfl, es559⟩ := q556
  subst h558
  show Own.Run V K b_esc3 _ h550 _ 2 15 22 [.val (.ref x), .val (.ref a534), .val (.int (Int32.ofNat 0)), .unset] [.int (Int32.ofNat 3), .int (Int32.ofNat 0)]
  refine r_icmp_ge 59 25 d30_22 (by decide) rfl rfl (fun c560 => ?_) (fun c560 => ?_)
  · exact absurd c560 (by decide)
  refine r_aloadN 26 rfl d30_25 rfl rfl ?_
  refine r_iloadN 27 rfl d30_26 rfl ?_
  refine Run.old fun OX3 => ?_
  refine r_virtual 30 rfl d30_27 (wd hw 124 rfl) (wd hw 125 rfl) (wd hw 127 rfl) (wd hw 126 rfl) (nfS (wd hw 127 rfl)) (by decide) f552 (pay_ch V hw K b_esc3 0 x m 0 (Int32.ofNat 0) ([c0, c1, c2] : List Int32) h550 _ f551 (fun c hc => (hbL c hc).2) OX3 cz hCS hcz fm hFM rf (Nat.le_of_ble_eq_true rfl) rfl (by decide) (by decide)) (W := 0) (argsL := [.int (Int32.ofNat 0)]) (lenOf pd_18 rfl) rfl rfl rfl (Nat.le_of_eq rfl) (Nat.le_of_ble_eq_true rfl) (Nat.le_of_ble_eq_true rfl) fun v564 h565 ps561 q563 z562 => ?_
  obtain ⟨rfl, es566⟩ := q563
  subst h565
  show Own.Run V K b_esc3 _ h550 _ 2 15 30 [.val (.ref x), .val (.ref a534), .val (.int (Int32.ofNat 0)), .unset] [.int c0]
  refine r_istoreN [.val (.ref x), .val (.ref a534), .val (.int (Int32.ofNat 0)), .val (.int c0)] 31 rfl d30_30 rfl ?_
  refine r_ldcS [.int 123, .int 125, .int 36, .int 92] (4 : Int32) 16 33 rfl d30_31 (wd hw 146 rfl) (satoms V hw) hl92 hn (by decide) (by decide) rfl (by decide) (by decide) (by decide) (by decide) fun a567 b568 k569 h570 Eh570 Xh570 Ch570 Yh570 Ah570 Nh570 => ?_
  have f571 := Str.ext Eh570 f551
  have f572 := Exa.ext Eh570 f552
  have f573 := Exa.ext Eh570 f553
  have sh570 := Eh570.1
  have la567 := ltN Xh570.lt
  have lb568 := ltN Ah570.lt
  have SL0 := litStr SPL Xh570 Ch570 Yh570 Ah570 rfl (by decide) SPby (by decide)
  have SB0 := Sb.ext Eh570 SB
  have EE0 := Ext.trans' EE Eh570
  refine r_iloadN 34 rfl d30_33 rfl ?_
  refine r_virtual 37 rfl d30_34 (wd hw 147 rfl) (wd hw 148 rfl) (wd hw 150 rfl) (wd hw 149 rfl) (nfS (wd hw 150 rfl)) (by decide) Xh570 (Pays.con (K := K) (B := b_esc3) (c_iof V hw cz hCS hcz a567 _ SPL SPby c0 hc0 h570 _ SL0) (wd hw 151 rfl) (wd hw 7 rfl) (by decide) (by decide)) (W := 0) (argsL := [.int c0]) (lenOf pd_17 rfl) rfl rfl rfl (Nat.le_of_eq rfl) (Nat.le_of_ble_eq_true rfl) (Nat.le_of_ble_eq_true rfl) fun v577 h578 ps574 q576 z575 => ?_
  obtain ⟨r0, rfl, es579, hr0⟩ := q576
  subst h578
  show Own.Run V K b_esc3 _ h570 _ 4 35 37 [.val (.ref x), .val (.ref a534), .val (.int (Int32.ofNat 0)), .val (.int c0)] [.int r0]
  have jl0 : ∀ (hJ0 : Heap) (pJ : List Addr), Ext h hJ0 → Str V hJ0 m x ([c0, c1, c2] : List Int32) → Sb V hJ0 a534 t 11 (([] : List Int32) ++ es c0) → t ∈ pJ → Own.Run V K b_esc3 (Qmk V (((([] : List Int32) ++ es c0) ++ es c1) ++ es c2) h) hJ0 pJ 4 35 53 [.val (.ref x), .val (.ref a534), .val (.int (Int32.ofNat 0)), .val (.int c0)] [] := by
    intro hJ0 pJ EJ0 SX0 SJ0 mJ0
    have sJ0 := EJ0.1
    refine r_iinc (1) [.val (.ref x), .val (.ref a534), .val (.int (Int32.ofNat 0 + 1)), .val (.int c0)] 56 rfl d30_53 rfl rfl rfl ?_
    refine r_goto 17 d30_56 (by decide) rfl ?_
    rw [show Int32.ofNat 0 + 1 = Int32.ofNat 1 from by decide]
    refine r_iloadN 18 rfl d30_17 rfl ?_
    refine r_aloadN 19 rfl d30_18 rfl rfl ?_
    refine Run.old fun OX4 => ?_
    refine r_virtual 22 rfl d30_19 (wd hw 33 rfl) (wd hw 34 rfl) (wd hw 36 rfl) (wd hw 35 rfl) (nfS (wd hw 36 rfl)) (by decide) SX0.exa (pay_len V hw K b_esc3 1 x m ([c0, c1, c2] : List Int32) hJ0 _ SX0 OX4 cz hCS hcz (by decide) (by decide)) (W := 1) (argsL := []) (lenOf pd_8 rfl) rfl rfl rfl (Nat.le_of_eq rfl) (Nat.le_of_ble_eq_true rfl) (Nat.le_of_ble_eq_true rfl) fun v583 h584 ps580 q582 z581 => ?_
    obtain ⟨rfl, es585⟩ := q582
    subst h584
    show Own.Run V K b_esc3 _ hJ0 _ 4 35 22 [.val (.ref x), .val (.ref a534), .val (.int (Int32.ofNat 1)), .val (.int c0)] [.int (Int32.ofNat 3), .int (Int32.ofNat 1)]
    refine r_icmp_ge 59 25 d30_22 (by decide) rfl rfl (fun c586 => ?_) (fun c586 => ?_)
    · exact absurd c586 (by decide)
    refine r_aloadN 26 rfl d30_25 rfl rfl ?_
    refine r_iloadN 27 rfl d30_26 rfl ?_
    refine Run.old fun OX5 => ?_
    refine r_virtual 30 rfl d30_27 (wd hw 124 rfl) (wd hw 125 rfl) (wd hw 127 rfl) (wd hw 126 rfl) (nfS (wd hw 127 rfl)) (by decide) SX0.exa (pay_ch V hw K b_esc3 0 x m 1 (Int32.ofNat 1) ([c0, c1, c2] : List Int32) hJ0 _ SX0 (fun c hc => (hbL c hc).2) OX5 cz hCS hcz fm hFM rf (Nat.le_of_ble_eq_true rfl) rfl (by decide) (by decide)) (W := 0) (argsL := [.int (Int32.ofNat 1)]) (lenOf pd_18 rfl) rfl rfl rfl (Nat.le_of_eq rfl) (Nat.le_of_ble_eq_true rfl) (Nat.le_of_ble_eq_true rfl) fun v590 h591 ps587 q589 z588 => ?_
    obtain ⟨rfl, es592⟩ := q589
    subst h591
    show Own.Run V K b_esc3 _ hJ0 _ 4 35 30 [.val (.ref x), .val (.ref a534), .val (.int (Int32.ofNat 1)), .val (.int c0)] [.int c1]
    refine r_istoreN [.val (.ref x), .val (.ref a534), .val (.int (Int32.ofNat 1)), .val (.int c1)] 31 rfl d30_30 rfl ?_
    refine r_ldcS [.int 123, .int 125, .int 36, .int 92] (4 : Int32) 16 33 rfl d30_31 (wd hw 146 rfl) (satoms V hw) hl92 hn (by decide) (by decide) rfl (by decide) (by decide) (by decide) (by decide) fun a593 b594 k595 h596 Eh596 Xh596 Ch596 Yh596 Ah596 Nh596 => ?_
    have f597 := Str.ext Eh596 SX0
    have f598 := Exa.ext Eh596 SX0.exa
    have sh596 := Eh596.1
    have la593 := ltN Xh596.lt
    have lb594 := ltN Ah596.lt
    have SL1 := litStr SPL Xh596 Ch596 Yh596 Ah596 rfl (by decide) SPby (by decide)
    have SB1 := Sb.ext Eh596 SJ0
    have EE1 := Ext.trans' EJ0 Eh596
    refine r_iloadN 34 rfl d30_33 rfl ?_
    refine r_virtual 37 rfl d30_34 (wd hw 147 rfl) (wd hw 148 rfl) (wd hw 150 rfl) (wd hw 149 rfl) (nfS (wd hw 150 rfl)) (by decide) Xh596 (Pays.con (K := K) (B := b_esc3) (c_iof V hw cz hCS hcz a593 _ SPL SPby c1 hc1 h596 _ SL1) (wd hw 151 rfl) (wd hw 7 rfl) (by decide) (by decide)) (W := 0) (argsL := [.int c1]) (lenOf pd_17 rfl) rfl rfl rfl (Nat.le_of_eq rfl) (Nat.le_of_ble_eq_true rfl) (Nat.le_of_ble_eq_true rfl) fun v602 h603 ps599 q601 z600 => ?_
    obtain ⟨r1, rfl, es604, hr1⟩ := q601
    subst h603
    show Own.Run V K b_esc3 _ h596 _ 6 55 37 [.val (.ref x), .val (.ref a534), .val (.int (Int32.ofNat 1)), .val (.int c1)] [.int r1]
    have jl1 : ∀ (hJ1 : Heap) (pJ : List Addr), Ext h hJ1 → Str V hJ1 m x ([c0, c1, c2] : List Int32) → Sb V hJ1 a534 t 11 ((([] : List Int32) ++ es c0) ++ es c1) → t ∈ pJ → Own.Run V K b_esc3 (Qmk V (((([] : List Int32) ++ es c0) ++ es c1) ++ es c2) h) hJ1 pJ 6 55 53 [.val (.ref x), .val (.ref a534), .val (.int (Int32.ofNat 1)), .val (.int c1)] [] := by
      intro hJ1 pJ EJ1 SX1 SJ1 mJ1
      have sJ1 := EJ1.1
      refine r_iinc (1) [.val (.ref x), .val (.ref a534), .val (.int (Int32.ofNat 1 + 1)), .val (.int c1)] 56 rfl d30_53 rfl rfl rfl ?_
      refine r_goto 17 d30_56 (by decide) rfl ?_
      rw [show Int32.ofNat 1 + 1 = Int32.ofNat 2 from by decide]
      refine r_iloadN 18 rfl d30_17 rfl ?_
      refine r_aloadN 19 rfl d30_18 rfl rfl ?_
      refine Run.old fun OX6 => ?_
      refine r_virtual 22 rfl d30_19 (wd hw 33 rfl) (wd hw 34 rfl) (wd hw 36 rfl) (wd hw 35 rfl) (nfS (wd hw 36 rfl)) (by decide) SX1.exa (pay_len V hw K b_esc3 1 x m ([c0, c1, c2] : List Int32) hJ1 _ SX1 OX6 cz hCS hcz (by decide) (by decide)) (W := 1) (argsL := []) (lenOf pd_8 rfl) rfl rfl rfl (Nat.le_of_eq rfl) (Nat.le_of_ble_eq_true rfl) (Nat.le_of_ble_eq_true rfl) fun v608 h609 ps605 q607 z606 => ?_
      obtain ⟨rfl, es610⟩ := q607
      subst h609
      show Own.Run V K b_esc3 _ hJ1 _ 6 55 22 [.val (.ref x), .val (.ref a534), .val (.int (Int32.ofNat 2)), .val (.int c1)] [.int (Int32.ofNat 3), .int (Int32.ofNat 2)]
      refine r_icmp_ge 59 25 d30_22 (by decide) rfl rfl (fun c611 => ?_) (fun c611 => ?_)
      · exact absurd c611 (by decide)
      refine r_aloadN 26 rfl d30_25 rfl rfl ?_
      refine r_iloadN 27 rfl d30_26 rfl ?_
      refine Run.old fun OX7 => ?_
      refine r_virtual 30 rfl d30_27 (wd hw 124 rfl) (wd hw 125 rfl) (wd hw 127 rfl) (wd hw 126 rfl) (nfS (wd hw 127 rfl)) (by decide) SX1.exa (pay_ch V hw K b_esc3 0 x m 2 (Int32.ofNat 2) ([c0, c1, c2] : List Int32) hJ1 _ SX1 (fun c hc => (hbL c hc).2) OX7 cz hCS hcz fm hFM rf (Nat.le_of_ble_eq_true rfl) rfl (by decide) (by decide)) (W := 0) (argsL := [.int (Int32.ofNat 2)]) (lenOf pd_18 rfl) rfl rfl rfl (Nat.le_of_eq rfl) (Nat.le_of_ble_eq_true rfl) (Nat.le_of_ble_eq_true rfl) fun v615 h616 ps612 q614 z613 => ?_
      obtain ⟨rfl, es617⟩ := q614
      subst h616
      show Own.Run V K b_esc3 _ hJ1 _ 6 55 30 [.val (.ref x), .val (.ref a534), .val (.int (Int32.ofNat 2)), .val (.int c1)] [.int c2]
      refine r_istoreN [.val (.ref x), .val (.ref a534), .val (.int (Int32.ofNat 2)), .val (.int c2)] 31 rfl d30_30 rfl ?_
      refine r_ldcS [.int 123, .int 125, .int 36, .int 92] (4 : Int32) 16 33 rfl d30_31 (wd hw 146 rfl) (satoms V hw) hl92 hn (by decide) (by decide) rfl (by decide) (by decide) (by decide) (by decide) fun a618 b619 k620 h621 Eh621 Xh621 Ch621 Yh621 Ah621 Nh621 => ?_
      have f622 := Str.ext Eh621 SX1
      have f623 := Exa.ext Eh621 SX1.exa
      have sh621 := Eh621.1
      have la618 := ltN Xh621.lt
      have lb619 := ltN Ah621.lt
      have SL2 := litStr SPL Xh621 Ch621 Yh621 Ah621 rfl (by decide) SPby (by decide)
      have SB2 := Sb.ext Eh621 SJ1
      have EE2 := Ext.trans' EJ1 Eh621
      refine r_iloadN 34 rfl d30_33 rfl ?_
      refine r_virtual 37 rfl d30_34 (wd hw 147 rfl) (wd hw 148 rfl) (wd hw 150 rfl) (wd hw 149 rfl) (nfS (wd hw 150 rfl)) (by decide) Xh621 (Pays.con (K := K) (B := b_esc3) (c_iof V hw cz hCS hcz a618 _ SPL SPby c2 hc2 h621 _ SL2) (wd hw 151 rfl) (wd hw 7 rfl) (by decide) (by decide)) (W := 0) (argsL := [.int c2]) (lenOf pd_17 rfl) rfl rfl rfl (Nat.le_of_eq rfl) (Nat.le_of_ble_eq_true rfl) (Nat.le_of_ble_eq_true rfl) fun v627 h628 ps624 q626 z625 => ?_
      obtain ⟨r2, rfl, es629, hr2⟩ := q626
      subst h628
      show Own.Run V K b_esc3 _ h621 _ 8 75 37 [.val (.ref x), .val (.ref a534), .val (.int (Int32.ofNat 2)), .val (.int c2)] [.int r2]
      have jl2 : ∀ (hJ2 : Heap) (pJ : List Addr), Ext h hJ2 → Str V hJ2 m x ([c0, c1, c2] : List Int32) → Sb V hJ2 a534 t 11 (((([] : List Int32) ++ es c0) ++ es c1) ++ es c2) → t ∈ pJ → Own.Run V K b_esc3 (Qmk V (((([] : List Int32) ++ es c0) ++ es c1) ++ es c2) h) hJ2 pJ 8 75 53 [.val (.ref x), .val (.ref a534), .val (.int (Int32.ofNat 2)), .val (.int c2)] [] := by
        intro hJ2 pJ EJ2 SX2 SJ2 mJ2
        have sJ2 := EJ2.1
        refine r_iinc (1) [.val (.ref x), .val (.ref a534), .val (.int (Int32.ofNat 2 + 1)), .val (.int c2)] 56 rfl d30_53 rfl rfl rfl ?_
        refine r_goto 17 d30_56 (by decide) rfl ?_
        rw [show Int32.ofNat 2 + 1 = Int32.ofNat 3 from by decide]
        refine r_iloadN 18 rfl d30_17 rfl ?_
        refine r_aloadN 19 rfl d30_18 rfl rfl ?_
        refine Run.old fun OX8 => ?_
        refine r_virtual 22 rfl d30_19 (wd hw 33 rfl) (wd hw 34 rfl) (wd hw 36 rfl) (wd hw 35 rfl) (nfS (wd hw 36 rfl)) (by decide) SX2.exa (pay_len V hw K b_esc3 1 x m ([c0, c1, c2] : List Int32) hJ2 _ SX2 OX8 cz hCS hcz (by decide) (by decide)) (W := 1) (argsL := []) (lenOf pd_8 rfl) rfl rfl rfl (Nat.le_of_eq rfl) (Nat.le_of_ble_eq_true rfl) (Nat.le_of_ble_eq_true rfl) fun v633 h634 ps630 q632 z631 => ?_
        obtain ⟨rfl, es635⟩ := q632
        subst h634
        show Own.Run V K b_esc3 _ hJ2 _ 8 75 22 [.val (.ref x), .val (.ref a534), .val (.int (Int32.ofNat 3)), .val (.int c2)] [.int (Int32.ofNat 3), .int (Int32.ofNat 3)]
        refine r_icmp_ge 59 25 d30_22 (by decide) rfl rfl (fun c636 => ?_) (fun c636 => ?_)
        rotate_left
        · exact absurd c636 (by decide)
        refine r_aloadN 60 rfl d30_59 rfl rfl ?_
        refine r_virtual 63 rfl d30_60 (wd hw 59 rfl) (wd hw 60 rfl) (wd hw 62 rfl) (wd hw 61 rfl) (nfS (wd hw 62 rfl)) (by decide) (SJ2).exa (Pays.con (K := K) (B := b_esc3) (c_toS V hw cz hCS hcz a534 t 11 (((([] : List Int32) ++ es c0) ++ es c1) ++ es c2) hJ2 _ SJ2 (by have := (app_len (app_len (app_len nil_len (es_len c0)) (es_len c1)) (es_len c2)); omega) (by decide) (by_app (by_app (by_app by0 (es_by hc0)) (es_by hc1)) (es_by hc2))) (wd hw 63 rfl) (wd hw 32 rfl) (by decide) (by decide)) (W := 0) (argsL := []) (lenOf pd_14 rfl) rfl rfl rfl (Nat.le_of_eq rfl) (Nat.le_of_ble_eq_true rfl) (Nat.le_of_ble_eq_true rfl) fun v640 h641 ps637 q639 z638 => ?_
        obtain ⟨y, rfl, EY, SY⟩ := q639
        show Own.Run V K b_esc3 _ h641 _ 10 90 63 [.val (.ref x), .val (.ref a534), .val (.int (Int32.ofNat 3)), .val (.int c2)] [.ref y]
        refine r_aret (t := (.object "java/lang/String")) rfl rfl rfl d30_63 (by decide) (by decide) [] (fun _ q => nomatch q) ?_
        exact ⟨_, rfl, Ext.trans' EJ2 EY, SY⟩
      refine r_if_lt 47 40 d30_37 (by decide) rfl rfl (fun c642 => ?_) (fun c642 => ?_)
      · refine r_aloadN 48 rfl d30_47 rfl rfl ?_
        refine r_iloadN 49 rfl d30_48 rfl ?_
        refine r_virtual 52 rfl d30_49 (wd hw 171 rfl) (wd hw 172 rfl) (wd hw 174 rfl) (wd hw 173 rfl) (nfS (wd hw 174 rfl)) (by decide) (SB2).exa (Pays.con (K := K) (B := b_esc3) (c_sbC V hw cz hCS hcz a534 t 11 ((([] : List Int32) ++ es c0) ++ es c1) h621 _ SB2 (by simp [mJ1]) c2 hc2 (by have := (app_len (app_len nil_len (es_len c0)) (es_len c1)); simp only [List.length_append, List.length_cons, List.length_nil] at *; omega)) (wd hw 175 rfl) (wd hw 32 rfl) (by decide) (by decide)) (W := 0) (argsL := [.int c2]) (lenOf pd_6 rfl) rfl rfl rfl (Nat.le_of_eq rfl) (Nat.le_of_ble_eq_true rfl) (Nat.le_of_ble_eq_true rfl) fun v646 h647 ps643 q645 z644 => ?_
        obtain ⟨rfl, Kq2, Sq2⟩ := q645
        have f648 := Str.keep Kq2 (fun w hw' => by rcases List.mem_cons.mp hw' with rfl | hw'; exact leA (by omega); cases List.mem_singleton.mp hw'; exact leA (by omega)) f622
        have f649 := Exa.keep f623 Kq2
        have f650 := Exa.keep (SB2).exa Kq2
        show Own.Run V K b_esc3 _ h647 _ 8 75 52 [.val (.ref x), .val (.ref a534), .val (.int (Int32.ofNat 2)), .val (.int c2)] [.ref a534]
        have sh647 := Kq2.1
        refine r_pop 53 rfl d30_52 rfl ?_
        exact jl2 _ _ (Keep.ext0 EE2 Kq2 (fun w hw' => by rcases List.mem_cons.mp hw' with rfl | hw'; exact leA (by omega); cases List.mem_singleton.mp hw'; exact leA (by omega))) f648 (by rw [← esN (fun z => (hr2).mpr z c642)]; exact Sq2) (by simp [mJ1])
      · refine r_aloadN 41 rfl d30_40 rfl rfl ?_
        refine r_bipush (92 : Int32) 43 rfl d30_41 rfl ?_
        refine r_virtual 46 rfl d30_43 (wd hw 171 rfl) (wd hw 172 rfl) (wd hw 174 rfl) (wd hw 173 rfl) (nfS (wd hw 174 rfl)) (by decide) (SB2).exa (Pays.con (K := K) (B := b_esc3) (c_sbC V hw cz hCS hcz a534 t 11 ((([] : List Int32) ++ es c0) ++ es c1) h621 _ SB2 (by simp [mJ1]) 92 ⟨by decide, by decide⟩ (by have := (app_len (app_len nil_len (es_len c0)) (es_len c1)); simp only [List.length_append, List.length_cons, List.length_nil] at *; omega)) (wd hw 175 rfl) (wd hw 32 rfl) (by decide) (by decide)) (W := 0) (argsL := [.int (92 : Int32)]) (lenOf pd_6 rfl) rfl rfl rfl (Nat.le_of_eq rfl) (Nat.le_of_ble_eq_true rfl) (Nat.le_of_ble_eq_true rfl) fun v654 h655 ps651 q653 z652 => ?_
        obtain ⟨rfl, Kp2, Sp2⟩ := q653
        have f656 := Str.keep Kp2 (fun w hw' => by rcases List.mem_cons.mp hw' with rfl | hw'; exact leA (by omega); cases List.mem_singleton.mp hw'; exact leA (by omega)) f622
        have f657 := Exa.keep f623 Kp2
        have f658 := Exa.keep (SB2).exa Kp2
        show Own.Run V K b_esc3 _ h655 _ 8 75 46 [.val (.ref x), .val (.ref a534), .val (.int (Int32.ofNat 2)), .val (.int c2)] [.ref a534]
        have sh655 := Kp2.1
        refine r_pop 47 rfl d30_46 rfl ?_
        refine r_aloadN 48 rfl d30_47 rfl rfl ?_
        refine r_iloadN 49 rfl d30_48 rfl ?_
        refine r_virtual 52 rfl d30_49 (wd hw 171 rfl) (wd hw 172 rfl) (wd hw 174 rfl) (wd hw 173 rfl) (nfS (wd hw 174 rfl)) (by decide) (Sp2).exa (Pays.con (K := K) (B := b_esc3) (c_sbC V hw cz hCS hcz a534 t 11 (((([] : List Int32) ++ es c0) ++ es c1) ++ [92]) h655 _ Sp2 (by simp [mJ1]) c2 hc2 (by have := (app_len (app_len nil_len (es_len c0)) (es_len c1)); simp only [List.length_append, List.length_cons, List.length_nil] at *; omega)) (wd hw 175 rfl) (wd hw 32 rfl) (by decide) (by decide)) (W := 0) (argsL := [.int c2]) (lenOf pd_6 rfl) rfl rfl rfl (Nat.le_of_eq rfl) (Nat.le_of_ble_eq_true rfl) (Nat.le_of_ble_eq_true rfl) fun v662 h663 ps659 q661 z660 => ?_
        obtain ⟨rfl, Kq2, Sq2⟩ := q661
        have f664 := Str.keep Kq2 (fun w hw' => by rcases List.mem_cons.mp hw' with rfl | hw'; exact leA (by omega); cases List.mem_singleton.mp hw'; exact leA (by omega)) f656
        have f665 := Exa.keep f657 Kq2
        have f666 := Exa.keep (Sp2).exa Kq2
        show Own.Run V K b_esc3 _ h663 _ 8 75 52 [.val (.ref x), .val (.ref a534), .val (.int (Int32.ofNat 2)), .val (.int c2)] [.ref a534]
        have sh663 := Kq2.1
        refine r_pop 53 rfl d30_52 rfl ?_
        exact jl2 _ _ (Keep.ext0 (Keep.ext0 EE2 Kp2 (fun w hw' => by rcases List.mem_cons.mp hw' with rfl | hw'; exact leA (by omega); cases List.mem_singleton.mp hw'; exact leA (by omega))) Kq2 (fun w hw' => by rcases List.mem_cons.mp hw' with rfl | hw'; exact leA (by omega); cases List.mem_singleton.mp hw'; exact leA (by omega))) f664 (by rw [← esY ((hr2).mp c642)]; exact Sq2) (by simp [mJ1])
    refine r_if_lt 47 40 d30_37 (by decide) rfl rfl (fun c667 => ?_) (fun c667 => ?_)
    · refine r_aloadN 48 rfl d30_47 rfl rfl ?_
      refine r_iloadN 49 rfl d30_48 rfl ?_
      refine r_virtual 52 rfl d30_49 (wd hw 171 rfl) (wd hw 172 rfl) (wd hw 174 rfl) (wd hw 173 rfl) (nfS (wd hw 174 rfl)) (by decide) (SB1).exa (Pays.con (K := K) (B := b_esc3) (c_sbC V hw cz hCS hcz a534 t 11 (([] : List Int32) ++ es c0) h596 _ SB1 (by simp [mJ0]) c1 hc1 (by have := (app_len nil_len (es_len c0)); simp only [List.length_append, List.length_cons, List.length_nil] at *; omega)) (wd hw 175 rfl) (wd hw 32 rfl) (by decide) (by decide)) (W := 0) (argsL := [.int c1]) (lenOf pd_6 rfl) rfl rfl rfl (Nat.le_of_eq rfl) (Nat.le_of_ble_eq_true rfl) (Nat.le_of_ble_eq_true rfl) fun v671 h672 ps668 q670 z669 => ?_
      obtain ⟨rfl, Kq1, Sq1⟩ := q670
      have f673 := Str.keep Kq1 (fun w hw' => by rcases List.mem_cons.mp hw' with rfl | hw'; exact leA (by omega); cases List.mem_singleton.mp hw'; exact leA (by omega)) f597
      have f674 := Exa.keep f598 Kq1
      have f675 := Exa.keep (SB1).exa Kq1
      show Own.Run V K b_esc3 _ h672 _ 6 55 52 [.val (.ref x), .val (.ref a534), .val (.int (Int32.ofNat 1)), .val (.int c1)] [.ref a534]
      have sh672 := Kq1.1
      refine r_pop 53 rfl d30_52 rfl ?_
      exact jl1 _ _ (Keep.ext0 EE1 Kq1 (fun w hw' => by rcases List.mem_cons.mp hw' with rfl | hw'; exact leA (by omega); cases List.mem_singleton.mp hw'; exact leA (by omega))) f673 (by rw [← esN (fun z => (hr1).mpr z c667)]; exact Sq1) (by simp [mJ0])
    · refine r_aloadN 41 rfl d30_40 rfl rfl ?_
      refine r_bipush (92 : Int32) 43 rfl d30_41 rfl ?_
      refine r_virtual 46 rfl d30_43 (wd hw 171 rfl) (wd hw 172 rfl) (wd hw 174 rfl) (wd hw 173 rfl) (nfS (wd hw 174 rfl)) (by decide) (SB1).exa (Pays.con (K := K) (B := b_esc3) (c_sbC V hw cz hCS hcz a534 t 11 (([] : List Int32) ++ es c0) h596 _ SB1 (by simp [mJ0]) 92 ⟨by decide, by decide⟩ (by have := (app_len nil_len (es_len c0)); simp only [List.length_append, List.length_cons, List.length_nil] at *; omega)) (wd hw 175 rfl) (wd hw 32 rfl) (by decide) (by decide)) (W := 0) (argsL := [.int (92 : Int32)]) (lenOf pd_6 rfl) rfl rfl rfl (Nat.le_of_eq rfl) (Nat.le_of_ble_eq_true rfl) (Nat.le_of_ble_eq_true rfl) fun v679 h680 ps676 q678 z677 => ?_
      obtain ⟨rfl, Kp1, Sp1⟩ := q678
      have f681 := Str.keep Kp1 (fun w hw' => by rcases List.mem_cons.mp hw' with rfl | hw'; exact leA (by omega); cases List.mem_singleton.mp hw'; exact leA (by omega)) f597
      have f682 := Exa.keep f598 Kp1
      have f683 := Exa.keep (SB1).exa Kp1
      show Own.Run V K b_esc3 _ h680 _ 6 55 46 [.val (.ref x), .val (.ref a534), .val (.int (Int32.ofNat 1)), .val (.int c1)] [.ref a534]
      have sh680 := Kp1.1
      refine r_pop 47 rfl d30_46 rfl ?_
      refine r_aloadN 48 rfl d30_47 rfl rfl ?_
      refine r_iloadN 49 rfl d30_48 rfl ?_
      refine r_virtual 52 rfl d30_49 (wd hw 171 rfl) (wd hw 172 rfl) (wd hw 174 rfl) (wd hw 173 rfl) (nfS (wd hw 174 rfl)) (by decide) (Sp1).exa (Pays.con (K := K) (B := b_esc3) (c_sbC V hw cz hCS hcz a534 t 11 ((([] : List Int32) ++ es c0) ++ [92]) h680 _ Sp1 (by simp [mJ0]) c1 hc1 (by have := (app_len nil_len (es_len c0)); simp only [List.length_append, List.length_cons, List.length_nil] at *; omega)) (wd hw 175 rfl) (wd hw 32 rfl) (by decide) (by decide)) (W := 0) (argsL := [.int c1]) (lenOf pd_6 rfl) rfl rfl rfl (Nat.le_of_eq rfl) (Nat.le_of_ble_eq_true rfl) (Nat.le_of_ble_eq_true rfl) fun v687 h688 ps684 q686 z685 => ?_
      obtain ⟨rfl, Kq1, Sq1⟩ := q686
      have f689 := Str.keep Kq1 (fun w hw' => by rcases List.mem_cons.mp hw' with rfl | hw'; exact leA (by omega); cases List.mem_singleton.mp hw'; exact leA (by omega)) f681
      have f690 := Exa.keep f682 Kq1
      have f691 := Exa.keep (Sp1).exa Kq1
      show Own.Run V K b_esc3 _ h688 _ 6 55 52 [.val (.ref x), .val (.ref a534), .val (.int (Int32.ofNat 1)), .val (.int c1)] [.ref a534]
      have sh688 := Kq1.1
      refine r_pop 53 rfl d30_52 rfl ?_
      exact jl1 _ _ (Keep.ext0 (Keep.ext0 EE1 Kp1 (fun w hw' => by rcases List.mem_cons.mp hw' with rfl | hw'; exact leA (by omega); cases List.mem_singleton.mp hw'; exact leA (by omega))) Kq1 (fun w hw' => by rcases List.mem_cons.mp hw' with rfl | hw'; exact leA (by omega); cases List.mem_singleton.mp hw'; exact leA (by omega))) f689 (by rw [← esY ((hr1).mp c667)]; exact Sq1) (by simp [mJ0])
  refine r_if_lt 47 40 d30_37 (by decide) rfl rfl (fun c692 => ?_) (fun c692 => ?_)
  · refine r_aloadN 48 rfl d30_47 rfl rfl ?_
    refine r_iloadN 49 rfl d30_48 rfl ?_
    refine r_virtual 52 rfl d30_49 (wd hw 171 rfl) (wd hw 172 rfl) (wd hw 174 rfl) (wd hw 173 rfl) (nfS (wd hw 174 rfl)) (by decide) f573 (Pays.con (K := K) (B := b_esc3) (c_sbC V hw cz hCS hcz a534 t 11 ([] : List Int32) h570 _ SB0 (by simp [ht]) c0 hc0 (by have := nil_len; simp only [List.length_append, List.length_cons, List.length_nil] at *; omega)) (wd hw 175 rfl) (wd hw 32 rfl) (by decide) (by decide)) (W := 0) (argsL := [.int c0]) (lenOf pd_6 rfl) rfl rfl rfl (Nat.le_of_eq rfl) (Nat.le_of_ble_eq_true rfl) (Nat.le_of_ble_eq_true rfl) fun v696 h697 ps693 q695 z694 => ?_
    obtain ⟨rfl, Kq0, Sq0⟩ := q695
    have f698 := Str.keep Kq0 (fun w hw' => by rcases List.mem_cons.mp hw' with rfl | hw'; exact leA (by omega); cases List.mem_singleton.mp hw'; exact leA (by omega)) f571
    have f699 := Exa.keep f572 Kq0
    have f700 := Exa.keep f573 Kq0
    have f701 := Exa.keep (SB0).exa Kq0
    show Own.Run V K b_esc3 _ h697 _ 4 35 52 [.val (.ref x), .val (.ref a534), .val (.int (Int32.ofNat 0)), .val (.int c0)] [.ref a534]
    have sh697 := Kq0.1
    refine r_pop 53 rfl d30_52 rfl ?_
    exact jl0 _ _ (Keep.ext0 EE0 Kq0 (fun w hw' => by rcases List.mem_cons.mp hw' with rfl | hw'; exact leA (by omega); cases List.mem_singleton.mp hw'; exact leA (by omega))) f698 (by rw [← esN (fun z => (hr0).mpr z c692)]; exact Sq0) (by simp [ht])
  · refine r_aloadN 41 rfl d30_40 rfl rfl ?_
    refine r_bipush (92 : Int32) 43 rfl d30_41 rfl ?_
    refine r_virtual 46 rfl d30_43 (wd hw 171 rfl) (wd hw 172 rfl) (wd hw 174 rfl) (wd hw 173 rfl) (nfS (wd hw 174 rfl)) (by decide) f573 (Pays.con (K := K) (B := b_esc3) (c_sbC V hw cz hCS hcz a534 t 11 ([] : List Int32) h570 _ SB0 (by simp [ht]) 92 ⟨by decide, by decide⟩ (by have := nil_len; simp only [List.length_append, List.length_cons, List.length_nil] at *; omega)) (wd hw 175 rfl) (wd hw 32 rfl) (by decide) (by decide)) (W := 0) (argsL := [.int (92 : Int32)]) (lenOf pd_6 rfl) rfl rfl rfl (Nat.le_of_eq rfl) (Nat.le_of_ble_eq_true rfl) (Nat.le_of_ble_eq_true rfl) fun v705 h706 ps702 q704 z703 => ?_
    obtain ⟨rfl, Kp0, Sp0⟩ := q704
    have f707 := Str.keep Kp0 (fun w hw' => by rcases List.mem_cons.mp hw' with rfl | hw'; exact leA (by omega); cases List.mem_singleton.mp hw'; exact leA (by omega)) f571
    have f708 := Exa.keep f572 Kp0
    have f709 := Exa.keep f573 Kp0
    have f710 := Exa.keep (SB0).exa Kp0
    show Own.Run V K b_esc3 _ h706 _ 4 35 46 [.val (.ref x), .val (.ref a534), .val (.int (Int32.ofNat 0)), .val (.int c0)] [.ref a534]
    have sh706 := Kp0.1
    refine r_pop 47 rfl d30_46 rfl ?_
    refine r_aloadN 48 rfl d30_47 rfl rfl ?_
    refine r_iloadN 49 rfl d30_48 rfl ?_
    refine r_virtual 52 rfl d30_49 (wd hw 171 rfl) (wd hw 172 rfl) (wd hw 174 rfl) (wd hw 173 rfl) (nfS (wd hw 174 rfl)) (by decide) (Sp0).exa (Pays.con (K := K) (B := b_esc3) (c_sbC V hw cz hCS hcz a534 t 11 (([] : List Int32) ++ [92]) h706 _ Sp0 (by simp [ht]) c0 hc0 (by have := nil_len; simp only [List.length_append, List.length_cons, List.length_nil] at *; omega)) (wd hw 175 rfl) (wd hw 32 rfl) (by decide) (by decide)) (W := 0) (argsL := [.int c0]) (lenOf pd_6 rfl) rfl rfl rfl (Nat.le_of_eq rfl) (Nat.le_of_ble_eq_true rfl) (Nat.le_of_ble_eq_true rfl) fun v714 h715 ps711 q713 z712 => ?_
    obtain ⟨rfl, Kq0, Sq0⟩ := q713
    have f716 := Str.keep Kq0 (fun w hw' => by rcases List.mem_cons.mp hw' with rfl | hw'; exact leA (by omega); cases List.mem_singleton.mp hw'; exact leA (by omega)) f707
    have f717 := Exa.keep f708 Kq0
    have f718 := Exa.keep (Sp0).exa Kq0
    show Own.Run V K b_esc3 _ h715 _ 4 35 52 [.val (.ref x), .val (.ref a534), .val (.int (Int32.ofNat 0)), .val (.int c0)] [.ref a534]
    have sh715 := Kq0.1
    refine r_pop 53 rfl d30_52 rfl ?_
    exact jl0 _ _ (Keep.ext0 (Keep.ext0 EE0 Kp0 (fun w hw' => by rcases List.mem_cons.mp hw' with rfl | hw'; exact leA (by omega); cases List.mem_singleton.mp hw'; exact leA (by omega))) Kq0 (fun w hw' => by rcases List.mem_cons.mp hw' with rfl | hw'; exact leA (by omega); cases List.mem_singleton.mp hw'; exact leA (by omega))) f716 (by rw [← esY ((hr0).mp c692)]; exact Sq0) (by simp [ht])
abbrev b_law : Bx := (x, code, maxLocals, ret, room_1)
def Q1 : Qt := fun v _ _ => v = some (.int 1)
theorem c_law (V : Vw) (hw : ∀ d ∈ tables_1, d.before V.a0 V.Z = true) (hm : ("java/lang/String", 7) ∈ V.EL) (hn : V.nar = false) (cz : Int32) (hCS : Sta V.Z V.Z.heap "java/lang/String" "COMPACT_STRINGS" "Z" (.int cz)) (hcz : ¬ cz = 0) (fm : Value) (hFM : Sta V.Z V.Z.heap "jdk/internal/util/Preconditions" "SIOOBE_FORMATTER" "Ljava/util/function/BiFunction;" fm) (rf : fm.isRef = true) (hl92 : ("com/example/proviso/proviso/MessageTemplate", 92) ∈ V.EL) (p0 p1 p2 p3 : Int32) (h : Heap) : Con V b_law #[.int p0, .int p1, .int p2, .int p3] h [] Q1 := Con.of (plainFor_of_name pn_5) (L := [.val (.int p0), .val (.int p1), .val (.int p2), .val (.int p3), .unset, .unset, .unset, .unset, .unset, .unset, .unset, .unset]) rfl fun K => by
  refine r_iloadN 1 rfl at_0 rfl ?_
  refine r_iconst (3 : Int32) 2 rfl at_1 rfl ?_
  refine r_iand 3 rfl at_2 ?_
  refine r_gen fun k719 hk719 => ?_
  refine r_istore [.val (.int p0), .val (.int p1), .val (.int p2), .val (.int p3), .val (.int k719), .unset, .unset, .unset, .unset, .unset, .unset, .unset] 5 rfl at_3 rfl ?_
  have m4 := and4 hk719
  refine r_iloadN 6 rfl at_5 rfl ?_
  refine r_static 9 rfl at_6 (wd hw 0 rfl) (wd hw 1 rfl) (wd hw 2 rfl) (wd hw 3 rfl) (by decide) (Pays.con (K := K) (B := b_law) (c_draw V hw p1 h _) (wd hw 3 rfl) (wd hw 2 rfl) (by decide) (by decide)) (W := 0) (argsL := [.int p1]) (lenOf pd_18 rfl) rfl rfl rfl (Nat.le_of_eq rfl) (Nat.le_of_ble_eq_true rfl) (Nat.le_of_ble_eq_true rfl) fun v723 h724 ps720 q722 z721 => ?_
  obtain ⟨c0, rfl, hc0, es725⟩ := q722
  subst h724
  show Own.Run V K b_law _ h _ 0 0 9 [.val (.int p0), .val (.int p1), .val (.int p2), .val (.int p3), .val (.int k719), .unset, .unset, .unset, .unset, .unset, .unset, .unset] [.int c0]
  refine r_istore [.val (.int p0), .val (.int p1), .val (.int p2), .val (.int p3), .val (.int k719), .val (.int c0), .unset, .unset, .unset, .unset, .unset, .unset] 11 rfl at_9 rfl ?_
  refine r_iloadN 12 rfl at_11 rfl ?_
  refine r_static 15 rfl at_12 (wd hw 0 rfl) (wd hw 1 rfl) (wd hw 2 rfl) (wd hw 3 rfl) (by decide) (Pays.con (K := K) (B := b_law) (c_draw V hw p2 h _) (wd hw 3 rfl) (wd hw 2 rfl) (by decide) (by decide)) (W := 0) (argsL := [.int p2]) (lenOf pd_18 rfl) rfl rfl rfl (Nat.le_of_eq rfl) (Nat.le_of_ble_eq_true rfl) (Nat.le_of_ble_eq_true rfl) fun v729 h730 ps726 q728 z727 => ?_
  obtain ⟨c1, rfl, hc1, es731⟩ := q728
  subst h730
  show Own.Run V K b_law _ h _ 0 0 15 [.val (.int p0), .val (.int p1), .val (.int p2), .val (.int p3), .val (.int k719), .val (.int c0), .unset, .unset, .unset, .unset, .unset, .unset] [.int c1]
  refine r_istore [.val (.int p0), .val (.int p1), .val (.int p2), .val (.int p3), .val (.int k719), .val (.int c0), .val (.int c1), .unset, .unset, .unset, .unset, .unset] 17 rfl at_15 rfl ?_
  refine r_iloadN 18 rfl at_17 rfl ?_
  refine r_static 21 rfl at_18 (wd hw 0 rfl) (wd hw 1 rfl) (wd hw 2 rfl) (wd hw 3 rfl) (by decide) (Pays.con (K := K) (B := b_law) (c_draw V hw p3 h _) (wd hw 3 rfl) (wd hw 2 rfl) (by decide) (by decide)) (W := 0) (argsL := [.int p3]) (lenOf pd_18 rfl) rfl rfl rfl (Nat.le_of_eq rfl) (Nat.le_of_ble_eq_true rfl) (Nat.le_of_ble_eq_true rfl) fun v735 h736 ps732 q734 z733 => ?_
  obtain ⟨c2, rfl, hc2, es737⟩ := q734
  subst h736
  show Own.Run V K b_law _ h _ 0 0 21 [.val (.int p0), .val (.int p1), .val (.int p2), .val (.int p3), .val (.int k719), .val (.int c0), .val (.int c1), .unset, .unset, .unset, .unset, .unset] [.int c2]
  refine r_istore [.val (.int p0), .val (.int p1), .val (.int p2), .val (.int p3), .val (.int k719), .val (.int c0), .val (.int c1), .val (.int c2), .unset, .unset, .unset, .unset] 23 rfl at_21 rfl ?_
  rcases m4 with rfl | rfl | rfl | rfl
  · refine r_iload 25 rfl at_23 rfl ?_
    refine r_if_ne 36 28 at_25 (by decide) rfl rfl (fun c738 => ?_) (fun c738 => ?_)
    · exact absurd c738 (by decide)
    refine r_iconst (0 : Int32) 29 rfl at_28 rfl ?_
    refine r_newarray 0 31 rfl at_29 (wd hw 4 rfl) (by decide) (by decide) (by decide) (by decide) (by decide) fun a739 h740 k741 ga739 za739 Eh740 Aa739 => ?_
    have sh740 := Eh740.1
    have la739 := ltN Aa739.lt
    have f742 : Arv V.Z h740 a739 k741 .char (0 : Int32) [] (.int 0) := Arv.pad Aa739 (pad_rep [] (.int 0) 0)
    refine r_astore [.val (.int p0), .val (.int p1), .val (.int p2), .val (.int p3), .val (.int (0 : Int32)), .val (.int c0), .val (.int c1), .val (.int c2), .val (.ref a739), .unset, .unset, .unset] 33 rfl at_31 rfl rfl ?_
    refine r_goto 99 at_33 (by decide) rfl ?_
    refine r_new 102 rfl at_99 (wd hw 5 rfl) (wd hw 6 rfl) (wd hw 7 rfl) (by decide) (by decide) fun a743 h744 ga743 za743 Eh744 Xa743 Da743 => ?_
    have f745 := f742.ext Eh744
    have sh744 := Eh744.1
    have la743 := ltN Xa743.lt
    have f746 : Fld V.Z h744 a743 "java/lang/String" "value" "[B" (.null) := Da743 (Or.inr (wd hw 20 rfl)) (ty := (.array .byte)) (by decide)
    have f747 : Fld V.Z h744 a743 "java/lang/String" "coder" "B" (.int (0 : Int32)) := Da743 (Or.inr (wd hw 21 rfl)) (ty := .byte) (by decide)
    refine r_dup 103 rfl at_102 rfl ?_
    refine r_aload 105 rfl at_103 rfl rfl ?_
    refine Run.old fun OX => ?_
    have la743' : a743 < h744.size := by omega
    refine r_special 108 rfl at_105 rfl (wd hw 8 rfl) (wd hw 9 rfl) (wd hw 10 rfl) (by decide) (pay_newE V hw K b_law 1 hm hn a743 a739 _ _ _ h744 _ za743 (by simp) Xa743 f746 f747 f745 (by decide) (by decide)) (W := 1) (argsL := [.ref a739]) (lenOf pd_1 rfl) rfl rfl rfl (Nat.le_of_eq rfl) (Nat.le_of_ble_eq_true rfl) (Nat.le_of_ble_eq_true rfl) fun v751 h752 ps748 q750 z749 => ?_
    obtain ⟨rfl, K1, S1⟩ := q750
    show Own.Run V K b_law _ h752 _ 6 12 108 [.val (.int p0), .val (.int p1), .val (.int p2), .val (.int p3), .val (.int (0 : Int32)), .val (.int c0), .val (.int c1), .val (.int c2), .val (.ref a739), .unset, .unset, .unset] [.ref a743]
    refine r_static 111 rfl at_108 (wd hw 26 rfl) (wd hw 27 rfl) (wd hw 28 rfl) (wd hw 29 rfl) (by decide) (Pays.con (K := K) (B := b_law) (c_esc0 V hw hm hn cz hCS hcz fm hFM rf hl92 a743 _   h752 _ S1) (wd hw 29 rfl) (wd hw 28 rfl) (by decide) (by decide)) (W := 0) (argsL := [.ref a743]) (lenOf pd_21 rfl) rfl rfl rfl (Nat.le_of_eq rfl) (Nat.le_of_ble_eq_true rfl) (Nat.le_of_ble_eq_true rfl) fun v756 h757 ps753 q755 z754 => ?_
    obtain ⟨xr, rfl, ER, SR⟩ := q755
    show Own.Run V K b_law _ h757 _ 10 72 111 [.val (.int p0), .val (.int p1), .val (.int p2), .val (.int p3), .val (.int (0 : Int32)), .val (.int c0), .val (.int c1), .val (.int c2), .val (.ref a739), .unset, .unset, .unset] [.ref xr]
    refine r_astore [.val (.int p0), .val (.int p1), .val (.int p2), .val (.int p3), .val (.int (0 : Int32)), .val (.int c0), .val (.int c1), .val (.int c2), .val (.ref a739), .val (.ref xr), .unset, .unset] 113 rfl at_111 rfl rfl ?_
    refine r_bipush (6 : Int32) 115 rfl at_113 rfl ?_
    refine r_newarray 6 117 rfl at_115 (wd hw 4 rfl) (by decide) (by decide) (by decide) (by decide) (by decide) fun a758 h759 k760 ga758 za758 Eh759 Aa758 => ?_
    have f761 := Str.ext Eh759 SR
    have sh759 := Eh759.1
    have la758 := ltN Aa758.lt
    have f762 : Arv V.Z h759 a758 k760 .char (6 : Int32) [.int 0, .int 0, .int 0, .int 0, .int 0, .int 0] (.int 0) := Arv.pad Aa758 (pad_rep [] (.int 0) 6)
    refine r_astore [.val (.int p0), .val (.int p1), .val (.int p2), .val (.int p3), .val (.int (0 : Int32)), .val (.int c0), .val (.int c1), .val (.int c2), .val (.ref a739), .val (.ref xr), .val (.ref a758), .unset] 119 rfl at_117 rfl rfl ?_
    refine r_iconst (0 : Int32) 120 rfl at_119 rfl ?_
    refine r_istore [.val (.int p0), .val (.int p1), .val (.int p2), .val (.int p3), .val (.int (0 : Int32)), .val (.int c0), .val (.int c1), .val (.int c2), .val (.ref a739), .val (.ref xr), .val (.ref a758), .val (.int (0 : Int32))] 122 rfl at_120 rfl ?_
    refine r_iload 124 rfl at_122 rfl ?_
    have AO : Arv V.Z h759 a758 _ .char 6 (([] : List Int32).map Value.int) (.int 0) := Aa758
    show Own.Run V K b_law _ h759 _ 11 78 124 [.val (.int p0), .val (.int p1), .val (.int p2), .val (.int p3), .val (.int (0 : Int32)), .val (.int c0), .val (.int c1), .val (.int c2), .val (.ref a739), .val (.ref xr), .val (.ref a758), .val (.int (Int32.ofNat ([] : List Int32).length))] [.int (0 : Int32)]
    refine r_if_le 138 127 at_124 (by decide) rfl rfl (fun c763 => ?_) (fun c763 => ?_)
    rotate_left
    · exact absurd c763 (by decide)
    refine r_iload 140 rfl at_138 rfl ?_
    refine r_iconst (1 : Int32) 141 rfl at_140 rfl ?_
    refine r_icmp_le 155 144 at_141 (by decide) rfl rfl (fun c764 => ?_) (fun c764 => ?_)
    rotate_left
    · exact absurd c764 (by decide)
    refine r_iload 157 rfl at_155 rfl ?_
    refine r_iconst (2 : Int32) 158 rfl at_157 rfl ?_
    refine r_icmp_le 172 161 at_158 (by decide) rfl rfl (fun c765 => ?_) (fun c765 => ?_)
    rotate_left
    · exact absurd c765 (by decide)
    refine r_aload 174 rfl at_172 rfl rfl ?_
    refine Run.old fun OZ => ?_
    refine r_virtual 177 rfl at_174 (wd hw 110 rfl) (wd hw 34 rfl) (wd hw 36 rfl) (wd hw 35 rfl) (nfS (wd hw 36 rfl)) (by decide) (f761).exa (pay_len V hw K b_law 0 xr _ ([] : List Int32) h759 _ f761 OZ cz hCS hcz (by decide) (by decide)) (W := 0) (argsL := []) (lenOf pd_8 rfl) rfl rfl rfl (Nat.le_of_eq rfl) (Nat.le_of_ble_eq_true rfl) (Nat.le_of_ble_eq_true rfl) fun v769 h770 ps766 q768 z767 => ?_
    obtain ⟨rfl, es771⟩ := q768
    subst h770
    show Own.Run V K b_law _ h759 _ 11 78 177 [.val (.int p0), .val (.int p1), .val (.int p2), .val (.int p3), .val (.int (0 : Int32)), .val (.int c0), .val (.int c1), .val (.int c2), .val (.ref a739), .val (.ref xr), .val (.ref a758), .val (.int (Int32.ofNat ([] : List Int32).length))] [.int (Int32.ofNat ([] : List Int32).length)]
    refine r_iload 179 rfl at_177 rfl ?_
    refine r_icmp_eq 184 182 at_179 (by decide) rfl rfl (fun c772 => ?_) (fun c772 => ?_)
    rotate_left
    · exact absurd rfl c772
    refine r_aload 186 rfl at_184 rfl rfl ?_
    refine r_aload 188 rfl at_186 rfl rfl ?_
    refine r_iload 190 rfl at_188 rfl ?_
    refine r_iconst (0 : Int32) 191 rfl at_190 rfl ?_
    refine r_static 194 rfl at_191 (wd hw 111 rfl) (wd hw 112 rfl) (wd hw 2 rfl) (wd hw 113 rfl) (by decide) (Pays.con (K := K) (B := b_law) (c_at V hw cz hCS hcz fm hFM rf xr _ a758 _ ([] : List Int32) 0 (by decide) h759 _ f761 by0 AO (by have := nil_len; omega)) (wd hw 113 rfl) (wd hw 2 rfl) (by decide) (by decide)) (W := 0) (argsL := [.ref xr, .ref a758, .int (Int32.ofNat ([] : List Int32).length), .int (0 : Int32)]) (lenOf pd_20 rfl) rfl rfl rfl (Nat.le_of_eq rfl) (Nat.le_of_ble_eq_true rfl) (Nat.le_of_ble_eq_true rfl) fun v776 h777 ps773 q775 z774 => ?_
    obtain ⟨rfl, es778⟩ := q775
    subst h777
    show Own.Run V K b_law _ h759 _ 11 78 194 [.val (.int p0), .val (.int p1), .val (.int p2), .val (.int p3), .val (.int (0 : Int32)), .val (.int c0), .val (.int c1), .val (.int c2), .val (.ref a739), .val (.ref xr), .val (.ref a758), .val (.int (Int32.ofNat ([] : List Int32).length))] [.int (1 : Int32)]
    refine r_if_eq 266 197 at_194 (by decide) rfl rfl (fun c779 => ?_) (fun c779 => ?_)
    · exact absurd c779 (by decide)
    refine r_aload 199 rfl at_197 rfl rfl ?_
    refine r_aload 201 rfl at_199 rfl rfl ?_
    refine r_iload 203 rfl at_201 rfl ?_
    refine r_iconst (1 : Int32) 204 rfl at_203 rfl ?_
    refine r_static 207 rfl at_204 (wd hw 111 rfl) (wd hw 112 rfl) (wd hw 2 rfl) (wd hw 113 rfl) (by decide) (Pays.con (K := K) (B := b_law) (c_at V hw cz hCS hcz fm hFM rf xr _ a758 _ ([] : List Int32) 1 (by decide) h759 _ f761 by0 AO (by have := nil_len; omega)) (wd hw 113 rfl) (wd hw 2 rfl) (by decide) (by decide)) (W := 0) (argsL := [.ref xr, .ref a758, .int (Int32.ofNat ([] : List Int32).length), .int (1 : Int32)]) (lenOf pd_20 rfl) rfl rfl rfl (Nat.le_of_eq rfl) (Nat.le_of_ble_eq_true rfl) (Nat.le_of_ble_eq_true rfl) fun v783 h784 ps780 q782 z781 => ?_
    obtain ⟨rfl, es785⟩ := q782
    subst h784
    show Own.Run V K b_law _ h759 _ 11 78 207 [.val (.int p0), .val (.int p1), .val (.int p2), .val (.int p3), .val (.int (0 : Int32)), .val (.int c0), .val (.int c1), .val (.int c2), .val (.ref a739), .val (.ref xr), .val (.ref a758), .val (.int (Int32.ofNat ([] : List Int32).length))] [.int (1 : Int32)]
    refine r_if_eq 266 210 at_207 (by decide) rfl rfl (fun c786 => ?_) (fun c786 => ?_)
    · exact absurd c786 (by decide)
    refine r_aload 212 rfl at_210 rfl rfl ?_
    refine r_aload 214 rfl at_212 rfl rfl ?_
    refine r_iload 216 rfl at_214 rfl ?_
    refine r_iconst (2 : Int32) 217 rfl at_216 rfl ?_
    refine r_static 220 rfl at_217 (wd hw 111 rfl) (wd hw 112 rfl) (wd hw 2 rfl) (wd hw 113 rfl) (by decide) (Pays.con (K := K) (B := b_law) (c_at V hw cz hCS hcz fm hFM rf xr _ a758 _ ([] : List Int32) 2 (by decide) h759 _ f761 by0 AO (by have := nil_len; omega)) (wd hw 113 rfl) (wd hw 2 rfl) (by decide) (by decide)) (W := 0) (argsL := [.ref xr, .ref a758, .int (Int32.ofNat ([] : List Int32).length), .int (2 : Int32)]) (lenOf pd_20 rfl) rfl rfl rfl (Nat.le_of_eq rfl) (Nat.le_of_ble_eq_true rfl) (Nat.le_of_ble_eq_true rfl) fun v790 h791 ps787 q789 z788 => ?_
    obtain ⟨rfl, es792⟩ := q789
    subst h791
    show Own.Run V K b_law _ h759 _ 11 78 220 [.val (.int p0), .val (.int p1), .val (.int p2), .val (.int p3), .val (.int (0 : Int32)), .val (.int c0), .val (.int c1), .val (.int c2), .val (.ref a739), .val (.ref xr), .val (.ref a758), .val (.int (Int32.ofNat ([] : List Int32).length))] [.int (1 : Int32)]
    refine r_if_eq 266 223 at_220 (by decide) rfl rfl (fun c793 => ?_) (fun c793 => ?_)
    · exact absurd c793 (by decide)
    refine r_aload 225 rfl at_223 rfl rfl ?_
    refine r_aload 227 rfl at_225 rfl rfl ?_
    refine r_iload 229 rfl at_227 rfl ?_
    refine r_iconst (3 : Int32) 230 rfl at_229 rfl ?_
    refine r_static 233 rfl at_230 (wd hw 111 rfl) (wd hw 112 rfl) (wd hw 2 rfl) (wd hw 113 rfl) (by decide) (Pays.con (K := K) (B := b_law) (c_at V hw cz hCS hcz fm hFM rf xr _ a758 _ ([] : List Int32) 3 (by decide) h759 _ f761 by0 AO (by have := nil_len; omega)) (wd hw 113 rfl) (wd hw 2 rfl) (by decide) (by decide)) (W := 0) (argsL := [.ref xr, .ref a758, .int (Int32.ofNat ([] : List Int32).length), .int (3 : Int32)]) (lenOf pd_20 rfl) rfl rfl rfl (Nat.le_of_eq rfl) (Nat.le_of_ble_eq_true rfl) (Nat.le_of_ble_eq_true rfl) fun v797 h798 ps794 q796 z795 => ?_
    obtain ⟨rfl, es799⟩ := q796
    subst h798
    show Own.Run V K b_law _ h759 _ 11 78 233 [.val (.int p0), .val (.int p1), .val (.int p2), .val (.int p3), .val (.int (0 : Int32)), .val (.int c0), .val (.int c1), .val (.int c2), .val (.ref a739), .val (.ref xr), .val (.ref a758), .val (.int (Int32.ofNat ([] : List Int32).length))] [.int (1 : Int32)]
    refine r_if_eq 266 236 at_233 (by decide) rfl rfl (fun c800 => ?_) (fun c800 => ?_)
    · exact absurd c800 (by decide)
    refine r_aload 238 rfl at_236 rfl rfl ?_
    refine r_aload 240 rfl at_238 rfl rfl ?_
    refine r_iload 242 rfl at_240 rfl ?_
    refine r_iconst (4 : Int32) 243 rfl at_242 rfl ?_
    refine r_static 246 rfl at_243 (wd hw 111 rfl) (wd hw 112 rfl) (wd hw 2 rfl) (wd hw 113 rfl) (by decide) (Pays.con (K := K) (B := b_law) (c_at V hw cz hCS hcz fm hFM rf xr _ a758 _ ([] : List Int32) 4 (by decide) h759 _ f761 by0 AO (by have := nil_len; omega)) (wd hw 113 rfl) (wd hw 2 rfl) (by decide) (by decide)) (W := 0) (argsL := [.ref xr, .ref a758, .int (Int32.ofNat ([] : List Int32).length), .int (4 : Int32)]) (lenOf pd_20 rfl) rfl rfl rfl (Nat.le_of_eq rfl) (Nat.le_of_ble_eq_true rfl) (Nat.le_of_ble_eq_true rfl) fun v804 h805 ps801 q803 z802 => ?_
    obtain ⟨rfl, es806⟩ := q803
    subst h805
    show Own.Run V K b_law _ h759 _ 11 78 246 [.val (.int p0), .val (.int p1), .val (.int p2), .val (.int p3), .val (.int (0 : Int32)), .val (.int c0), .val (.int c1), .val (.int c2), .val (.ref a739), .val (.ref xr), .val (.ref a758), .val (.int (Int32.ofNat ([] : List Int32).length))] [.int (1 : Int32)]
    refine r_if_eq 266 249 at_246 (by decide) rfl rfl (fun c807 => ?_) (fun c807 => ?_)
    · exact absurd c807 (by decide)
    refine r_aload 251 rfl at_249 rfl rfl ?_
    refine r_aload 253 rfl at_251 rfl rfl ?_
    refine r_iload 255 rfl at_253 rfl ?_
    refine r_iconst (5 : Int32) 256 rfl at_255 rfl ?_
    refine r_static 259 rfl at_256 (wd hw 111 rfl) (wd hw 112 rfl) (wd hw 2 rfl) (wd hw 113 rfl) (by decide) (Pays.con (K := K) (B := b_law) (c_at V hw cz hCS hcz fm hFM rf xr _ a758 _ ([] : List Int32) 5 (by decide) h759 _ f761 by0 AO (by have := nil_len; omega)) (wd hw 113 rfl) (wd hw 2 rfl) (by decide) (by decide)) (W := 0) (argsL := [.ref xr, .ref a758, .int (Int32.ofNat ([] : List Int32).length), .int (5 : Int32)]) (lenOf pd_20 rfl) rfl rfl rfl (Nat.le_of_eq rfl) (Nat.le_of_ble_eq_true rfl) (Nat.le_of_ble_eq_true rfl) fun v811 h812 ps808 q810 z809 => ?_
    obtain ⟨rfl, es813⟩ := q810
    subst h812
    show Own.Run V K b_law _ h759 _ 11 78 259 [.val (.int p0), .val (.int p1), .val (.int p2), .val (.int p3), .val (.int (0 : Int32)), .val (.int c0), .val (.int c1), .val (.int c2), .val (.ref a739), .val (.ref xr), .val (.ref a758), .val (.int (Int32.ofNat ([] : List Int32).length))] [.int (1 : Int32)]
    refine r_if_eq 266 262 at_259 (by decide) rfl rfl (fun c814 => ?_) (fun c814 => ?_)
    · exact absurd c814 (by decide)
    refine r_iconst (1 : Int32) 263 rfl at_262 rfl ?_
    refine r_goto 267 at_263 (by decide) rfl ?_
    refine r_nret (t := .boolean) (1 : Int32) rfl (by simp) rfl at_267 (by decide) (by decide) [] (fun _ q => nomatch q) ?_
    rfl
  · refine r_iload 25 rfl at_23 rfl ?_
    refine r_if_ne 36 28 at_25 (by decide) rfl rfl (fun c815 => ?_) (fun c815 => ?_)
    rotate_left
    · exact absurd c815 (by decide)
    refine r_iload 38 rfl at_36 rfl ?_
    refine r_iconst (1 : Int32) 39 rfl at_38 rfl ?_
    refine r_icmp_ne 55 42 at_39 (by decide) rfl rfl (fun c816 => ?_) (fun c816 => ?_)
    · exact absurd c816 (by decide)
    refine r_iconst (1 : Int32) 43 rfl at_42 rfl ?_
    refine r_newarray 1 45 rfl at_43 (wd hw 4 rfl) (by decide) (by decide) (by decide) (by decide) (by decide) fun a817 h818 k819 ga817 za817 Eh818 Aa817 => ?_
    have sh818 := Eh818.1
    have la817 := ltN Aa817.lt
    have f820 : Arv V.Z h818 a817 k819 .char (1 : Int32) [.int 0] (.int 0) := Arv.pad Aa817 (pad_rep [] (.int 0) 1)
    refine r_dup 46 rfl at_45 rfl ?_
    refine r_iconst (0 : Int32) 47 rfl at_46 rfl ?_
    refine r_iload 49 rfl at_47 rfl ?_
    refine r_castore 0 50 rfl at_49 f820 (by decide) rfl (Nat.le_of_ble_eq_true rfl) za817 c0 (nby hc0) fun h821 Wh821 f822 => ?_
    have sh821 := Wh821.size
    replace f822 : Arv V.Z h821 a817 k819 .char (1 : Int32) [.int c0] (.int 0) := f822
    refine r_astore [.val (.int p0), .val (.int p1), .val (.int p2), .val (.int p3), .val (.int (1 : Int32)), .val (.int c0), .val (.int c1), .val (.int c2), .val (.ref a817), .unset, .unset, .unset] 52 rfl at_50 rfl rfl ?_
    refine r_goto 99 at_52 (by decide) rfl ?_
    refine r_new 102 rfl at_99 (wd hw 5 rfl) (wd hw 6 rfl) (wd hw 7 rfl) (by decide) (by decide) fun a823 h824 ga823 za823 Eh824 Xa823 Da823 => ?_
    have f825 := f822.ext Eh824
    have sh824 := Eh824.1
    have la823 := ltN Xa823.lt
    have f826 : Fld V.Z h824 a823 "java/lang/String" "value" "[B" (.null) := Da823 (Or.inr (wd hw 20 rfl)) (ty := (.array .byte)) (by decide)
    have f827 : Fld V.Z h824 a823 "java/lang/String" "coder" "B" (.int (0 : Int32)) := Da823 (Or.inr (wd hw 21 rfl)) (ty := .byte) (by decide)
    refine r_dup 103 rfl at_102 rfl ?_
    refine r_aload 105 rfl at_103 rfl rfl ?_
    refine Run.old fun OX => ?_
    have la823' : a823 < h824.size := by omega
    refine r_special 108 rfl at_105 rfl (wd hw 8 rfl) (wd hw 9 rfl) (wd hw 10 rfl) (by decide) (pay_newN V hw K b_law 1 a823 a817 _ ([c0] : List Int32) _ h824 _ _ _ _ za823 (Nat.le_trans za823 (Nat.le_of_lt la823')) Xa823 f826 f827 f825 OX cz hCS hcz rfl (Nat.le_of_ble_eq_true rfl) (Nat.le_of_ble_eq_true rfl) (by1 hc0) (by simp) (by decide) (by decide)) (W := 1) (argsL := [.ref a817]) (lenOf pd_1 rfl) rfl rfl rfl (Nat.le_of_eq rfl) (Nat.le_of_ble_eq_true rfl) (Nat.le_of_ble_eq_true rfl) fun v831 h832 ps828 q830 z829 => ?_
    obtain ⟨rfl, K1, S1⟩ := q830
    show Own.Run V K b_law _ h832 _ 3 6 108 [.val (.int p0), .val (.int p1), .val (.int p2), .val (.int p3), .val (.int (1 : Int32)), .val (.int c0), .val (.int c1), .val (.int c2), .val (.ref a817), .unset, .unset, .unset] [.ref a823]
    refine r_static 111 rfl at_108 (wd hw 26 rfl) (wd hw 27 rfl) (wd hw 28 rfl) (wd hw 29 rfl) (by decide) (Pays.con (K := K) (B := b_law) (c_esc1 V hw hm hn cz hCS hcz fm hFM rf hl92 a823 _ c0 hc0 h832 _ S1) (wd hw 29 rfl) (wd hw 28 rfl) (by decide) (by decide)) (W := 0) (argsL := [.ref a823]) (lenOf pd_21 rfl) rfl rfl rfl (Nat.le_of_eq rfl) (Nat.le_of_ble_eq_true rfl) (Nat.le_of_ble_eq_true rfl) fun v836 h837 ps833 q835 z834 => ?_
    obtain ⟨xr, rfl, ER, SR⟩ := q835
    show Own.Run V K b_law _ h837 _ 9 86 111 [.val (.int p0), .val (.int p1), .val (.int p2), .val (.int p3), .val (.int (1 : Int32)), .val (.int c0), .val (.int c1), .val (.int c2), .val (.ref a817), .unset, .unset, .unset] [.ref xr]
    refine r_astore [.val (.int p0), .val (.int p1), .val (.int p2), .val (.int p3), .val (.int (1 : Int32)), .val (.int c0), .val (.int c1), .val (.int c2), .val (.ref a817), .val (.ref xr), .unset, .unset] 113 rfl at_111 rfl rfl ?_
    refine r_bipush (6 : Int32) 115 rfl at_113 rfl ?_
    refine r_newarray 6 117 rfl at_115 (wd hw 4 rfl) (by decide) (by decide) (by decide) (by decide) (by decide) fun a838 h839 k840 ga838 za838 Eh839 Aa838 => ?_
    have f841 := Str.ext Eh839 SR
    have sh839 := Eh839.1
    have la838 := ltN Aa838.lt
    have f842 : Arv V.Z h839 a838 k840 .char (6 : Int32) [.int 0, .int 0, .int 0, .int 0, .int 0, .int 0] (.int 0) := Arv.pad Aa838 (pad_rep [] (.int 0) 6)
    refine r_astore [.val (.int p0), .val (.int p1), .val (.int p2), .val (.int p3), .val (.int (1 : Int32)), .val (.int c0), .val (.int c1), .val (.int c2), .val (.ref a817), .val (.ref xr), .val (.ref a838), .unset] 119 rfl at_117 rfl rfl ?_
    refine r_iconst (0 : Int32) 120 rfl at_119 rfl ?_
    refine r_istore [.val (.int p0), .val (.int p1), .val (.int p2), .val (.int p3), .val (.int (1 : Int32)), .val (.int c0), .val (.int c1), .val (.int c2), .val (.ref a817), .val (.ref xr), .val (.ref a838), .val (.int (0 : Int32))] 122 rfl at_120 rfl ?_
    refine r_iload 124 rfl at_122 rfl ?_
    have AO : Arv V.Z h839 a838 _ .char 6 (([] : List Int32).map Value.int) (.int 0) := Aa838
    show Own.Run V K b_law _ h839 _ 10 92 124 [.val (.int p0), .val (.int p1), .val (.int p2), .val (.int p3), .val (.int (1 : Int32)), .val (.int c0), .val (.int c1), .val (.int c2), .val (.ref a817), .val (.ref xr), .val (.ref a838), .val (.int (Int32.ofNat ([] : List Int32).length))] [.int (1 : Int32)]
    refine r_if_le 138 127 at_124 (by decide) rfl rfl (fun c843 => ?_) (fun c843 => ?_)
    · exact absurd c843 (by decide)
    refine r_aload 129 rfl at_127 rfl rfl ?_
    refine r_iload 131 rfl at_129 rfl ?_
    refine r_iload 133 rfl at_131 rfl ?_
    refine r_static 136 rfl at_133 (wd hw 189 rfl) (wd hw 190 rfl) (wd hw 2 rfl) (wd hw 191 rfl) (by decide) (Pays.con (K := K) (B := b_law) (c_put V hw a838 _ ([] : List Int32) c0 hc0 h839 _ za838 AO (by have := nil_len; omega)) (wd hw 191 rfl) (wd hw 2 rfl) (by decide) (by decide)) (W := 0) (argsL := [.ref a838, .int (Int32.ofNat ([] : List Int32).length), .int c0]) (lenOf pd_19 rfl) rfl rfl rfl (Nat.le_of_eq rfl) (Nat.le_of_ble_eq_true rfl) (Nat.le_of_ble_eq_true rfl) fun v847 h848 ps844 q846 z845 => ?_
    obtain ⟨rfl, Ku0, Au0⟩ := q846
    have f849 : Str V h848 h837.size xr (([] : List Int32) ++ es c0) := by first | exact Str.keep Ku0 (fun w hw' => by cases List.mem_singleton.mp hw'; exact leA (by omega)) f841 | exact Str.keepA Ku0 AO (by decide) (wd hw 6 rfl) f841
    show Own.Run V K b_law _ h848 _ 10 92 136 [.val (.int p0), .val (.int p1), .val (.int p2), .val (.int p3), .val (.int (1 : Int32)), .val (.int c0), .val (.int c1), .val (.int c2), .val (.ref a817), .val (.ref xr), .val (.ref a838), .val (.int (Int32.ofNat ([] : List Int32).length))] [.int (Int32.ofNat (([] : List Int32) ++ es c0).length)]
    have sh848 := Ku0.1
    refine r_istore [.val (.int p0), .val (.int p1), .val (.int p2), .val (.int p3), .val (.int (1 : Int32)), .val (.int c0), .val (.int c1), .val (.int c2), .val (.ref a817), .val (.ref xr), .val (.ref a838), .val (.int (Int32.ofNat (([] : List Int32) ++ es c0).length))] 138 rfl at_136 rfl ?_
    refine r_iload 140 rfl at_138 rfl ?_
    refine r_iconst (1 : Int32) 141 rfl at_140 rfl ?_
    refine r_icmp_le 155 144 at_141 (by decide) rfl rfl (fun c850 => ?_) (fun c850 => ?_)
    rotate_left
    · exact absurd c850 (by decide)
    refine r_iload 157 rfl at_155 rfl ?_
    refine r_iconst (2 : Int32) 158 rfl at_157 rfl ?_
    refine r_icmp_le 172 161 at_158 (by decide) rfl rfl (fun c851 => ?_) (fun c851 => ?_)
    rotate_left
    · exact absurd c851 (by decide)
    refine r_aload 174 rfl at_172 rfl rfl ?_
    refine Run.old fun OZ => ?_
    refine r_virtual 177 rfl at_174 (wd hw 110 rfl) (wd hw 34 rfl) (wd hw 36 rfl) (wd hw 35 rfl) (nfS (wd hw 36 rfl)) (by decide) (f849).exa (pay_len V hw K b_law 0 xr _ (([] : List Int32) ++ es c0) h848 _ f849 OZ cz hCS hcz (by decide) (by decide)) (W := 0) (argsL := []) (lenOf pd_8 rfl) rfl rfl rfl (Nat.le_of_eq rfl) (Nat.le_of_ble_eq_true rfl) (Nat.le_of_ble_eq_true rfl) fun v855 h856 ps852 q854 z853 => ?_
    obtain ⟨rfl, es857⟩ := q854
    subst h856
    show Own.Run V K b_law _ h848 _ 10 92 177 [.val (.int p0), .val (.int p1), .val (.int p2), .val (.int p3), .val (.int (1 : Int32)), .val (.int c0), .val (.int c1), .val (.int c2), .val (.ref a817), .val (.ref xr), .val (.ref a838), .val (.int (Int32.ofNat (([] : List Int32) ++ es c0).length))] [.int (Int32.ofNat (([] : List Int32) ++ es c0).length)]
    refine r_iload 179 rfl at_177 rfl ?_
    refine r_icmp_eq 184 182 at_179 (by decide) rfl rfl (fun c858 => ?_) (fun c858 => ?_)
    rotate_left
    · exact absurd rfl c858
    refine r_aload 186 rfl at_184 rfl rfl ?_
    refine r_aload 188 rfl at_186 rfl rfl ?_
    refine r_iload 190 rfl at_188 rfl ?_
    refine r_iconst (0 : Int32) 191 rfl at_190 rfl ?_
    refine r_static 194 rfl at_191 (wd hw 111 rfl) (wd hw 112 rfl) (wd hw 2 rfl) (wd hw 113 rfl) (by decide) (Pays.con (K := K) (B := b_law) (c_at V hw cz hCS hcz fm hFM rf xr _ a838 _ (([] : List Int32) ++ es c0) 0 (by decide) h848 _ f849 (by_app by0 (es_by hc0)) Au0 (by have := (app_len nil_len (es_len c0)); omega)) (wd hw 113 rfl) (wd hw 2 rfl) (by decide) (by decide)) (W := 0) (argsL := [.ref xr, .ref a838, .int (Int32.ofNat (([] : List Int32) ++ es c0).length), .int (0 : Int32)]) (lenOf pd_20 rfl) rfl rfl rfl (Nat.le_of_eq rfl) (Nat.le_of_ble_eq_true rfl) (Nat.le_of_ble_eq_true rfl) fun v862 h863 ps859 q861 z860 => ?_
    obtain ⟨rfl, es864⟩ := q861
    subst h863
    show Own.Run V K b_law _ h848 _ 10 92 194 [.val (.int p0), .val (.int p1), .val (.int p2), .val (.int p3), .val (.int (1 : Int32)), .val (.int c0), .val (.int c1), .val (.int c2), .val (.ref a817), .val (.ref xr), .val (.ref a838), .val (.int (Int32.ofNat (([] : List Int32) ++ es c0).length))] [.int (1 : Int32)]
    refine r_if_eq 266 197 at_194 (by decide) rfl rfl (fun c865 => ?_) (fun c865 => ?_)
    · exact absurd c865 (by decide)
    refine r_aload 199 rfl at_197 rfl rfl ?_
    refine r_aload 201 rfl at_199 rfl rfl ?_
    refine r_iload 203 rfl at_201 rfl ?_
    refine r_iconst (1 : Int32) 204 rfl at_203 rfl ?_
    refine r_static 207 rfl at_204 (wd hw 111 rfl) (wd hw 112 rfl) (wd hw 2 rfl) (wd hw 113 rfl) (by decide) (Pays.con (K := K) (B := b_law) (c_at V hw cz hCS hcz fm hFM rf xr _ a838 _ (([] : List Int32) ++ es c0) 1 (by decide) h848 _ f849 (by_app by0 (es_by hc0)) Au0 (by have := (app_len nil_len (es_len c0)); omega)) (wd hw 113 rfl) (wd hw 2 rfl) (by decide) (by decide)) (W := 0) (argsL := [.ref xr, .ref a838, .int (Int32.ofNat (([] : List Int32) ++ es c0).length), .int (1 : Int32)]) (lenOf pd_20 rfl) rfl rfl rfl (Nat.le_of_eq rfl) (Nat.le_of_ble_eq_true rfl) (Nat.le_of_ble_eq_true rfl) fun v869 h870 ps866 q868 z867 => ?_
    obtain ⟨rfl, es871⟩ := q868
    subst h870
    show Own.Run V K b_law _ h848 _ 10 92 207 [.val (.int p0), .val (.int p1), .val (.int p2), .val (.int p3), .val (.int (1 : Int32)), .val (.int c0), .val (.int c1), .val (.int c2), .val (.ref a817), .val (.ref xr), .val (.ref a838), .val (.int (Int32.ofNat (([] : List Int32) ++ es c0).length))] [.int (1 : Int32)]
    refine r_if_eq 266 210 at_207 (by decide) rfl rfl (fun c872 => ?_) (fun c872 => ?_)
    · exact absurd c872 (by decide)
    refine r_aload 212 rfl at_210 rfl rfl ?_
    refine r_aload 214 rfl at_212 rfl rfl ?_
    refine r_iload 216 rfl at_214 rfl ?_
    refine r_iconst (2 : Int32) 217 rfl at_216 rfl ?_
    refine r_static 220 rfl at_217 (wd hw 111 rfl) (wd hw 112 rfl) (wd hw 2 rfl) (wd hw 113 rfl) (by decide) (Pays.con (K := K) (B := b_law) (c_at V hw cz hCS hcz fm hFM rf xr _ a838 _ (([] : List Int32) ++ es c0) 2 (by decide) h848 _ f849 (by_app by0 (es_by hc0)) Au0 (by have := (app_len nil_len (es_len c0)); omega)) (wd hw 113 rfl) (wd hw 2 rfl) (by decide) (by decide)) (W := 0) (argsL := [.ref xr, .ref a838, .int (Int32.ofNat (([] : List Int32) ++ es c0).length), .int (2 : Int32)]) (lenOf pd_20 rfl) rfl rfl rfl (Nat.le_of_eq rfl) (Nat.le_of_ble_eq_true rfl) (Nat.le_of_ble_eq_true rfl) fun v876 h877 ps873 q875 z874 => ?_
    obtain ⟨rfl, es878⟩ := q875
    subst h877
    show Own.Run V K b_law _ h848 _ 10 92 220 [.val (.int p0), .val (.int p1), .val (.int p2), .val (.int p3), .val (.int (1 : Int32)), .val (.int c0), .val (.int c1), .val (.int c2), .val (.ref a817), .val (.ref xr), .val (.ref a838), .val (.int (Int32.ofNat (([] : List Int32) ++ es c0).length))] [.int (1 : Int32)]
    refine r_if_eq 266 223 at_220 (by decide) rfl rfl (fun c879 => ?_) (fun c879 => ?_)
    · exact absurd c879 (by decide)
    refine r_aload 225 rfl at_223 rfl rfl ?_
    refine r_aload 227 rfl at_225 rfl rfl ?_
    refine r_iload 229 rfl at_227 rfl ?_
    refine r_iconst (3 : Int32) 230 rfl at_229 rfl ?_
    refine r_static 233 rfl at_230 (wd hw 111 rfl) (wd hw 112 rfl) (wd hw 2 rfl) (wd hw 113 rfl) (by decide) (Pays.con (K := K) (B := b_law) (c_at V hw cz hCS hcz fm hFM rf xr _ a838 _ (([] : List Int32) ++ es c0) 3 (by decide) h848 _ f849 (by_app by0 (es_by hc0)) Au0 (by have := (app_len nil_len (es_len c0)); omega)) (wd hw 113 rfl) (wd hw 2 rfl) (by decide) (by decide)) (W := 0) (argsL := [.ref xr, .ref a838, .int (Int32.ofNat (([] : List Int32) ++ es c0).length), .int (3 : Int32)]) (lenOf pd_20 rfl) rfl rfl rfl (Nat.le_of_eq rfl) (Nat.le_of_ble_eq_true rfl) (Nat.le_of_ble_eq_true rfl) fun v883 h884 ps880 q882 z881 => ?_
    obtain ⟨rfl, es885⟩ := q882
    subst h884
    show Own.Run V K b_law _ h848 _ 10 92 233 [.val (.int p0), .val (.int p1), .val (.int p2), .val (.int p3), .val (.int (1 : Int32)), .val (.int c0), .val (.int c1), .val (.int c2), .val (.ref a817), .val (.ref xr), .val (.ref a838), .val (.int (Int32.ofNat (([] : List Int32) ++ es c0).length))] [.int (1 : Int32)]
    refine r_if_eq 266 236 at_233 (by decide) rfl rfl (fun c886 => ?_) (fun c886 => ?_)
    · exact absurd c886 (by decide)
    refine r_aload 238 rfl at_236 rfl rfl ?_
    refine r_aload 240 rfl at_238 rfl rfl ?_
    refine r_iload 242 rfl at_240 rfl ?_
    refine r_iconst (4 : Int32) 243 rfl at_242 rfl ?_
    refine r_static 246 rfl at_243 (wd hw 111 rfl) (wd hw 112 rfl) (wd hw 2 rfl) (wd hw 113 rfl) (by decide) (Pays.con (K := K) (B := b_law) (c_at V hw cz hCS hcz fm hFM rf xr _ a838 _ (([] : List Int32) ++ es c0) 4 (by decide) h848 _ f849 (by_app by0 (es_by hc0)) Au0 (by have := (app_len nil_len (es_len c0)); omega)) (wd hw 113 rfl) (wd hw 2 rfl) (by decide) (by decide)) (W := 0) (argsL := [.ref xr, .ref a838, .int (Int32.ofNat (([] : List Int32) ++ es c0).length), .int (4 : Int32)]) (lenOf pd_20 rfl) rfl rfl rfl (Nat.le_of_eq rfl) (Nat.le_of_ble_eq_true rfl) (Nat.le_of_ble_eq_true rfl) fun v890 h891 ps887 q889 z888 => ?_
    obtain ⟨rfl, es892⟩ := q889
    subst h891
    show Own.Run V K b_law _ h848 _ 10 92 246 [.val (.int p0), .val (.int p1), .val (.int p2), .val (.int p3), .val (.int (1 : Int32)), .val (.int c0), .val (.int c1), .val (.int c2), .val (.ref a817), .val (.ref xr), .val (.ref a838), .val (.int (Int32.ofNat (([] : List Int32) ++ es c0).length))] [.int (1 : Int32)]
    refine r_if_eq 266 249 at_246 (by decide) rfl rfl (fun c893 => ?_) (fun c893 => ?_)
    · exact absurd c893 (by decide)
    refine r_aload 251 rfl at_249 rfl rfl ?_
    refine r_aload 253 rfl at_251 rfl rfl ?_
    refine r_iload 255 rfl at_253 rfl ?_
    refine r_iconst (5 : Int32) 256 rfl at_255 rfl ?_
    refine r_static 259 rfl at_256 (wd hw 111 rfl) (wd hw 112 rfl) (wd hw 2 rfl) (wd hw 113 rfl) (by decide) (Pays.con (K := K) (B := b_law) (c_at V hw cz hCS hcz fm hFM rf xr _ a838 _ (([] : List Int32) ++ es c0) 5 (by decide) h848 _ f849 (by_app by0 (es_by hc0)) Au0 (by have := (app_len nil_len (es_len c0)); omega)) (wd hw 113 rfl) (wd hw 2 rfl) (by decide) (by decide)) (W := 0) (argsL := [.ref xr, .ref a838, .int (Int32.ofNat (([] : List Int32) ++ es c0).length), .int (5 : Int32)]) (lenOf pd_20 rfl) rfl rfl rfl (Nat.le_of_eq rfl) (Nat.le_of_ble_eq_true rfl) (Nat.le_of_ble_eq_true rfl) fun v897 h898 ps894 q896 z895 => ?_
    obtain ⟨rfl, es899⟩ := q896
    subst h898
    show Own.Run V K b_law _ h848 _ 10 92 259 [.val (.int p0), .val (.int p1), .val (.int p2), .val (.int p3), .val (.int (1 : Int32)), .val (.int c0), .val (.int c1), .val (.int c2), .val (.ref a817), .val (.ref xr), .val (.ref a838), .val (.int (Int32.ofNat (([] : List Int32) ++ es c0).length))] [.int (1 : Int32)]
    refine r_if_eq 266 262 at_259 (by decide) rfl rfl (fun c900 => ?_) (fun c900 => ?_)
    · exact absurd c900 (by decide)
    refine r_iconst (1 : Int32) 263 rfl at_262 rfl ?_
    refine r_goto 267 at_263 (by decide) rfl ?_
    refine r_nret (t := .boolean) (1 : Int32) rfl (by simp) rfl at_267 (by decide) (by decide) [] (fun _ q => nomatch q) ?_
    rfl
  · refine r_iload 25 rfl at_23 rfl ?_
    refine r_if_ne 36 28 at_25 (by decide) rfl rfl (fun c901 => ?_) (fun c901 => ?_)
    rotate_left
    · exact absurd c901 (by decide)
    refine r_iload 38 rfl at_36 rfl ?_
    refine r_iconst (1 : Int32) 39 rfl at_38 rfl ?_
    refine r_icmp_ne 55 42 at_39 (by decide) rfl rfl (fun c902 => ?_) (fun c902 => ?_)
    rotate_left
    · exact absurd c902 (by decide)
    refine r_iload 57 rfl at_55 rfl ?_
    refine r_iconst (2 : Int32) 58 rfl at_57 rfl ?_
    refine r_icmp_ne 79 61 at_58 (by decide) rfl rfl (fun c903 => ?_) (fun c903 => ?_)
    · exact absurd c903 (by decide)
    refine r_iconst (2 : Int32) 62 rfl at_61 rfl ?_
    refine r_newarray 2 64 rfl at_62 (wd hw 4 rfl) (by decide) (by decide) (by decide) (by decide) (by decide) fun a904 h905 k906 ga904 za904 Eh905 Aa904 => ?_
    have sh905 := Eh905.1
    have la904 := ltN Aa904.lt
    have f907 : Arv V.Z h905 a904 k906 .char (2 : Int32) [.int 0, .int 0] (.int 0) := Arv.pad Aa904 (pad_rep [] (.int 0) 2)
    refine r_dup 65 rfl at_64 rfl ?_
    refine r_iconst (0 : Int32) 66 rfl at_65 rfl ?_
    refine r_iload 68 rfl at_66 rfl ?_
    refine r_castore 0 69 rfl at_68 f907 (by decide) rfl (Nat.le_of_ble_eq_true rfl) za904 c0 (nby hc0) fun h908 Wh908 f909 => ?_
    have sh908 := Wh908.size
    replace f909 : Arv V.Z h908 a904 k906 .char (2 : Int32) [.int c0, .int 0] (.int 0) := f909
    refine r_dup 70 rfl at_69 rfl ?_
    refine r_iconst (1 : Int32) 71 rfl at_70 rfl ?_
    refine r_iload 73 rfl at_71 rfl ?_
    refine r_castore 1 74 rfl at_73 f909 (by decide) rfl (Nat.le_of_ble_eq_true rfl) za904 c1 (nby hc1) fun h910 Wh910 f911 => ?_
    have sh910 := Wh910.size
    replace f911 : Arv V.Z h910 a904 k906 .char (2 : Int32) [.int c0, .int c1] (.int 0) := f911
    refine r_astore [.val (.int p0), .val (.int p1), .val (.int p2), .val (.int p3), .val (.int (2 : Int32)), .val (.int c0), .val (.int c1), .val (.int c2), .val (.ref a904), .unset, .unset, .unset] 76 rfl at_74 rfl rfl ?_
    refine r_goto 99 at_76 (by decide) rfl ?_
    refine r_new 102 rfl at_99 (wd hw 5 rfl) (wd hw 6 rfl) (wd hw 7 rfl) (by decide) (by decide) fun a912 h913 ga912 za912 Eh913 Xa912 Da912 => ?_
    have f914 := f911.ext Eh913
    have sh913 := Eh913.1
    have la912 := ltN Xa912.lt
    have f915 : Fld V.Z h913 a912 "java/lang/String" "value" "[B" (.null) := Da912 (Or.inr (wd hw 20 rfl)) (ty := (.array .byte)) (by decide)
    have f916 : Fld V.Z h913 a912 "java/lang/String" "coder" "B" (.int (0 : Int32)) := Da912 (Or.inr (wd hw 21 rfl)) (ty := .byte) (by decide)
    refine r_dup 103 rfl at_102 rfl ?_
    refine r_aload 105 rfl at_103 rfl rfl ?_
    refine Run.old fun OX => ?_
    have la912' : a912 < h913.size := by omega
    refine r_special 108 rfl at_105 rfl (wd hw 8 rfl) (wd hw 9 rfl) (wd hw 10 rfl) (by decide) (pay_newN V hw K b_law 1 a912 a904 _ ([c0, c1] : List Int32) _ h913 _ _ _ _ za912 (Nat.le_trans za912 (Nat.le_of_lt la912')) Xa912 f915 f916 f914 OX cz hCS hcz rfl (Nat.le_of_ble_eq_true rfl) (Nat.le_of_ble_eq_true rfl) (byS hc0 (by1 hc1)) (by simp) (by decide) (by decide)) (W := 1) (argsL := [.ref a904]) (lenOf pd_1 rfl) rfl rfl rfl (Nat.le_of_eq rfl) (Nat.le_of_ble_eq_true rfl) (Nat.le_of_ble_eq_true rfl) fun v920 h921 ps917 q919 z918 => ?_
    obtain ⟨rfl, K1, S1⟩ := q919
    show Own.Run V K b_law _ h921 _ 3 8 108 [.val (.int p0), .val (.int p1), .val (.int p2), .val (.int p3), .val (.int (2 : Int32)), .val (.int c0), .val (.int c1), .val (.int c2), .val (.ref a904), .unset, .unset, .unset] [.ref a912]
    refine r_static 111 rfl at_108 (wd hw 26 rfl) (wd hw 27 rfl) (wd hw 28 rfl) (wd hw 29 rfl) (by decide) (Pays.con (K := K) (B := b_law) (c_esc2 V hw hm hn cz hCS hcz fm hFM rf hl92 a912 _ c0 c1 hc0 hc1 h921 _ S1) (wd hw 29 rfl) (wd hw 28 rfl) (by decide) (by decide)) (W := 0) (argsL := [.ref a912]) (lenOf pd_21 rfl) rfl rfl rfl (Nat.le_of_eq rfl) (Nat.le_of_ble_eq_true rfl) (Nat.le_of_ble_eq_true rfl) fun v925 h926 ps922 q924 z923 => ?_
    obtain ⟨xr, rfl, ER, SR⟩ := q924
    show Own.Run V K b_law _ h926 _ 11 108 111 [.val (.int p0), .val (.int p1), .val (.int p2), .val (.int p3), .val (.int (2 : Int32)), .val (.int c0), .val (.int c1), .val (.int c2), .val (.ref a904), .unset, .unset, .unset] [.ref xr]
    refine r_astore [.val (.int p0), .val (.int p1), .val (.int p2), .val (.int p3), .val (.int (2 : Int32)), .val (.int c0), .val (.int c1), .val (.int c2), .val (.ref a904), .val (.ref xr), .unset, .unset] 113 rfl at_111 rfl rfl ?_
    refine r_bipush (6 : Int32) 115 rfl at_113 rfl ?_
    refine r_newarray 6 117 rfl at_115 (wd hw 4 rfl) (by decide) (by decide) (by decide) (by decide) (by decide) fun a927 h928 k929 ga927 za927 Eh928 Aa927 => ?_
    have f930 := Str.ext Eh928 SR
    have sh928 := Eh928.1
    have la927 := ltN Aa927.lt
    have f931 : Arv V.Z h928 a927 k929 .char (6 : Int32) [.int 0, .int 0, .int 0, .int 0, .int 0, .int 0] (.int 0) := Arv.pad Aa927 (pad_rep [] (.int 0) 6)
    refine r_astore [.val (.int p0), .val (.int p1), .val (.int p2), .val (.int p3), .val (.int (2 : Int32)), .val (.int c0), .val (.int c1), .val (.int c2), .val (.ref a904), .val (.ref xr), .val (.ref a927), .unset] 119 rfl at_117 rfl rfl ?_
    refine r_iconst (0 : Int32) 120 rfl at_119 rfl ?_
    refine r_istore [.val (.int p0), .val (.int p1), .val (.int p2), .val (.int p3), .val (.int (2 : Int32)), .val (.int c0), .val (.int c1), .val (.int c2), .val (.ref a904), .val (.ref xr), .val (.ref a927), .val (.int (0 : Int32))] 122 rfl at_120 rfl ?_
    refine r_iload 124 rfl at_122 rfl ?_
    have AO : Arv V.Z h928 a927 _ .char 6 (([] : List Int32).map Value.int) (.int 0) := Aa927
    show Own.Run V K b_law _ h928 _ 12 114 124 [.val (.int p0), .val (.int p1), .val (.int p2), .val (.int p3), .val (.int (2 : Int32)), .val (.int c0), .val (.int c1), .val (.int c2), .val (.ref a904), .val (.ref xr), .val (.ref a927), .val (.int (Int32.ofNat ([] : List Int32).length))] [.int (2 : Int32)]
    refine r_if_le 138 127 at_124 (by decide) rfl rfl (fun c932 => ?_) (fun c932 => ?_)
    · exact absurd c932 (by decide)
    refine r_aload 129 rfl at_127 rfl rfl ?_
    refine r_iload 131 rfl at_129 rfl ?_
    refine r_iload 133 rfl at_131 rfl ?_
    refine r_static 136 rfl at_133 (wd hw 189 rfl) (wd hw 190 rfl) (wd hw 2 rfl) (wd hw 191 rfl) (by decide) (Pays.con (K := K) (B := b_law) (c_put V hw a927 _ ([] : List Int32) c0 hc0 h928 _ za927 AO (by have := nil_len; omega)) (wd hw 191 rfl) (wd hw 2 rfl) (by decide) (by decide)) (W := 0) (argsL := [.ref a927, .int (Int32.ofNat ([] : List Int32).length), .int c0]) (lenOf pd_19 rfl) rfl rfl rfl (Nat.le_of_eq rfl) (Nat.le_of_ble_eq_true rfl) (Nat.le_of_ble_eq_true rfl) fun v936 h937 ps933 q935 z934 => ?_
    obtain ⟨rfl, Ku0, Au0⟩ := q935
    have f938 : Str V h937 h926.size xr ((([] : List Int32) ++ es c0) ++ es c1) := by first | exact Str.keep Ku0 (fun w hw' => by cases List.mem_singleton.mp hw'; exact leA (by omega)) f930 | exact Str.keepA Ku0 AO (by decide) (wd hw 6 rfl) f930
    show Own.Run V K b_law _ h937 _ 12 114 136 [.val (.int p0), .val (.int p1), .val (.int p2), .val (.int p3), .val (.int (2 : Int32)), .val (.int c0), .val (.int c1), .val (.int c2), .val (.ref a904), .val (.ref xr), .val (.ref a927), .val (.int (Int32.ofNat ([] : List Int32).length))] [.int (Int32.ofNat (([] : List Int32) ++ es c0).length)]
    have sh937 := Ku0.1
    refine r_istore [.val (.int p0), .val (.int p1), .val (.int p2), .val (.int p3), .val (.int (2 : Int32)), .val (.int c0), .val (.int c1), .val (.int c2), .val (.ref a904), .val (.ref xr), .val (.ref a927), .val (.int (Int32.ofNat (([] : List Int32) ++ es c0).length))] 138 rfl at_136 rfl ?_
    refine r_iload 140 rfl at_138 rfl ?_
    refine r_iconst (1 : Int32) 141 rfl at_140 rfl ?_
    refine r_icmp_le 155 144 at_141 (by decide) rfl rfl (fun c939 => ?_) (fun c939 => ?_)
    · exact absurd c939 (by decide)
    refine r_aload 146 rfl at_144 rfl rfl ?_
    refine r_iload 148 rfl at_146 rfl ?_
    refine r_iload 150 rfl at_148 rfl ?_
    refine r_static 153 rfl at_150 (wd hw 189 rfl) (wd hw 190 rfl) (wd hw 2 rfl) (wd hw 191 rfl) (by decide) (Pays.con (K := K) (B := b_law) (c_put V hw a927 _ (([] : List Int32) ++ es c0) c1 hc1 h937 _ za927 Au0 (by have := (app_len nil_len (es_len c0)); omega)) (wd hw 191 rfl) (wd hw 2 rfl) (by decide) (by decide)) (W := 0) (argsL := [.ref a927, .int (Int32.ofNat (([] : List Int32) ++ es c0).length), .int c1]) (lenOf pd_19 rfl) rfl rfl rfl (Nat.le_of_eq rfl) (Nat.le_of_ble_eq_true rfl) (Nat.le_of_ble_eq_true rfl) fun v943 h944 ps940 q942 z941 => ?_
    obtain ⟨rfl, Ku1, Au1⟩ := q942
    have f945 : Str V h944 h926.size xr ((([] : List Int32) ++ es c0) ++ es c1) := by first | exact Str.keep Ku1 (fun w hw' => by cases List.mem_singleton.mp hw'; exact leA (by omega)) f938 | exact Str.keepA Ku1 Au0 (by decide) (wd hw 6 rfl) f938
    show Own.Run V K b_law _ h944 _ 12 114 153 [.val (.int p0), .val (.int p1), .val (.int p2), .val (.int p3), .val (.int (2 : Int32)), .val (.int c0), .val (.int c1), .val (.int c2), .val (.ref a904), .val (.ref xr), .val (.ref a927), .val (.int (Int32.ofNat (([] : List Int32) ++ es c0).length))] [.int (Int32.ofNat ((([] : List Int32) ++ es c0) ++ es c1).length)]
    have sh944 := Ku1.1
    refine r_istore [.val (.int p0), .val (.int p1), .val (.int p2), .val (.int p3), .val (.int (2 : Int32)), .val (.int c0), .val (.int c1), .val (.int c2), .val (.ref a904), .val (.ref xr), .val (.ref a927), .val (.int (Int32.ofNat ((([] : List Int32) ++ es c0) ++ es c1).length))] 155 rfl at_153 rfl ?_
    refine r_iload 157 rfl at_155 rfl ?_
    refine r_iconst (2 : Int32) 158 rfl at_157 rfl ?_
    refine r_icmp_le 172 161 at_158 (by decide) rfl rfl (fun c946 => ?_) (fun c946 => ?_)
    rotate_left
    · exact absurd c946 (by decide)
    refine r_aload 174 rfl at_172 rfl rfl ?_
    refine Run.old fun OZ => ?_
    refine r_virtual 177 rfl at_174 (wd hw 110 rfl) (wd hw 34 rfl) (wd hw 36 rfl) (wd hw 35 rfl) (nfS (wd hw 36 rfl)) (by decide) (f945).exa (pay_len V hw K b_law 0 xr _ ((([] : List Int32) ++ es c0) ++ es c1) h944 _ f945 OZ cz hCS hcz (by decide) (by decide)) (W := 0) (argsL := []) (lenOf pd_8 rfl) rfl rfl rfl (Nat.le_of_eq rfl) (Nat.le_of_ble_eq_true rfl) (Nat.le_of_ble_eq_true rfl) fun v950 h951 ps947 q949 z948 => ?_
    obtain ⟨rfl, es952⟩ := q949
    subst h951
    show Own.Run V K b_law _ h944 _ 12 114 177 [.val (.int p0), .val (.int p1), .val (.int p2), .val (.int p3), .val (.int (2 : Int32)), .val (.int c0), .val (.int c1), .val (.int c2), .val (.ref a904), .val (.ref xr), .val (.ref a927), .val (.int (Int32.ofNat ((([] : List Int32) ++ es c0) ++ es c1).length))] [.int (Int32.ofNat ((([] : List Int32) ++ es c0) ++ es c1).length)]
    refine r_iload 179 rfl at_177 rfl ?_
    refine r_icmp_eq 184 182 at_179 (by decide) rfl rfl (fun c953 => ?_) (fun c953 => ?_)
    rotate_left
    · exact absurd rfl c953
    refine r_aload 186 rfl at_184 rfl rfl ?_
    refine r_aload 188 rfl at_186 rfl rfl ?_
    refine r_iload 190 rfl at_188 rfl ?_
    refine r_iconst (0 : Int32) 191 rfl at_190 rfl ?_
    refine r_static 194 rfl at_191 (wd hw 111 rfl) (wd hw 112 rfl) (wd hw 2 rfl) (wd hw 113 rfl) (by decide) (Pays.con (K := K) (B := b_law) (c_at V hw cz hCS hcz fm hFM rf xr _ a927 _ ((([] : List Int32) ++ es c0) ++ es c1) 0 (by decide) h944 _ f945 (by_app (by_app by0 (es_by hc0)) (es_by hc1)) Au1 (by have := (app_len (app_len nil_len (es_len c0)) (es_len c1)); omega)) (wd hw 113 rfl) (wd hw 2 rfl) (by decide) (by decide)) (W := 0) (argsL := [.ref xr, .ref a927, .int (Int32.ofNat ((([] : List Int32) ++ es c0) ++ es c1).length), .int (0 : Int32)]) (lenOf pd_20 rfl) rfl rfl rfl (Nat.le_of_eq rfl) (Nat.le_of_ble_eq_true rfl) (Nat.le_of_ble_eq_true rfl) fun v957 h958 ps954 q956 z955 => ?_
    obtain ⟨rfl, es959⟩ := q956
    subst h958
    show Own.Run V K b_law _ h944 _ 12 114 194 [.val (.int p0), .val (.int p1), .val (.int p2), .val (.int p3), .val (.int (2 : Int32)), .val (.int c0), .val (.int c1), .val (.int c2), .val (.ref a904), .val (.ref xr), .val (.ref a927), .val (.int (Int32.ofNat ((([] : List Int32) ++ es c0) ++ es c1).length))] [.int (1 : Int32)]
    refine r_if_eq 266 197 at_194 (by decide) rfl rfl (fun c960 => ?_) (fun c960 => ?_)
    · exact absurd c960 (by decide)
    refine r_aload 199 rfl at_197 rfl rfl ?_
    refine r_aload 201 rfl at_199 rfl rfl ?_
    refine r_iload 203 rfl at_201 rfl ?_
    refine r_iconst (1 : Int32) 204 rfl at_203 rfl ?_
    refine r_static 207 rfl at_204 (wd hw 111 rfl) (wd hw 112 rfl) (wd hw 2 rfl) (wd hw 113 rfl) (by decide) (Pays.con (K := K) (B := b_law) (c_at V hw cz hCS hcz fm hFM rf xr _ a927 _ ((([] : List Int32) ++ es c0) ++ es c1) 1 (by decide) h944 _ f945 (by_app (by_app by0 (es_by hc0)) (es_by hc1)) Au1 (by have := (app_len (app_len nil_len (es_len c0)) (es_len c1)); omega)) (wd hw 113 rfl) (wd hw 2 rfl) (by decide) (by decide)) (W := 0) (argsL := [.ref xr, .ref a927, .int (Int32.ofNat ((([] : List Int32) ++ es c0) ++ es c1).length), .int (1 : Int32)]) (lenOf pd_20 rfl) rfl rfl rfl (Nat.le_of_eq rfl) (Nat.le_of_ble_eq_true rfl) (Nat.le_of_ble_eq_true rfl) fun v964 h965 ps961 q963 z962 => ?_
    obtain ⟨rfl, es966⟩ := q963
    subst h965
    show Own.Run V K b_law _ h944 _ 12 114 207 [.val (.int p0), .val (.int p1), .val (.int p2), .val (.int p3), .val (.int (2 : Int32)), .val (.int c0), .val (.int c1), .val (.int c2), .val (.ref a904), .val (.ref xr), .val (.ref a927), .val (.int (Int32.ofNat ((([] : List Int32) ++ es c0) ++ es c1).length))] [.int (1 : Int32)]
    refine r_if_eq 266 210 at_207 (by decide) rfl rfl (fun c967 => ?_) (fun c967 => ?_)
    · exact absurd c967 (by decide)
    refine r_aload 212 rfl at_210 rfl rfl ?_
    refine r_aload 214 rfl at_212 rfl rfl ?_
    refine r_iload 216 rfl at_214 rfl ?_
    refine r_iconst (2 : Int32) 217 rfl at_216 rfl ?_
    refine r_static 220 rfl at_217 (wd hw 111 rfl) (wd hw 112 rfl) (wd hw 2 rfl) (wd hw 113 rfl) (by decide) (Pays.con (K := K) (B := b_law) (c_at V hw cz hCS hcz fm hFM rf xr _ a927 _ ((([] : List Int32) ++ es c0) ++ es c1) 2 (by decide) h944 _ f945 (by_app (by_app by0 (es_by hc0)) (es_by hc1)) Au1 (by have := (app_len (app_len nil_len (es_len c0)) (es_len c1)); omega)) (wd hw 113 rfl) (wd hw 2 rfl) (by decide) (by decide)) (W := 0) (argsL := [.ref xr, .ref a927, .int (Int32.ofNat ((([] : List Int32) ++ es c0) ++ es c1).length), .int (2 : Int32)]) (lenOf pd_20 rfl) rfl rfl rfl (Nat.le_of_eq rfl) (Nat.le_of_ble_eq_true rfl) (Nat.le_of_ble_eq_true rfl) fun v971 h972 ps968 q970 z969 => ?_
    obtain ⟨rfl, es973⟩ := q970
    subst h972
    show Own.Run V K b_law _ h944 _ 12 114 220 [.val (.int p0), .val (.int p1), .val (.int p2), .val (.int p3), .val (.int (2 : Int32)), .val (.int c0), .val (.int c1), .val (.int c2), .val (.ref a904), .val (.ref xr), .val (.ref a927), .val (.int (Int32.ofNat ((([] : List Int32) ++ es c0) ++ es c1).length))] [.int (1 : Int32)]
    refine r_if_eq 266 223 at_220 (by decide) rfl rfl (fun c974 => ?_) (fun c974 => ?_)
    · exact absurd c974 (by decide)
    refine r_aload 225 rfl at_223 rfl rfl ?_
    refine r_aload 227 rfl at_225 rfl rfl ?_
    refine r_iload 229 rfl at_227 rfl ?_
    refine r_iconst (3 : Int32) 230 rfl at_229 rfl ?_
    refine r_static 233 rfl at_230 (wd hw 111 rfl) (wd hw 112 rfl) (wd hw 2 rfl) (wd hw 113 rfl) (by decide) (Pays.con (K := K) (B := b_law) (c_at V hw cz hCS hcz fm hFM rf xr _ a927 _ ((([] : List Int32) ++ es c0) ++ es c1) 3 (by decide) h944 _ f945 (by_app (by_app by0 (es_by hc0)) (es_by hc1)) Au1 (by have := (app_len (app_len nil_len (es_len c0)) (es_len c1)); omega)) (wd hw 113 rfl) (wd hw 2 rfl) (by decide) (by decide)) (W := 0) (argsL := [.ref xr, .ref a927, .int (Int32.ofNat ((([] : List Int32) ++ es c0) ++ es c1).length), .int (3 : Int32)]) (lenOf pd_20 rfl) rfl rfl rfl (Nat.le_of_eq rfl) (Nat.le_of_ble_eq_true rfl) (Nat.le_of_ble_eq_true rfl) fun v978 h979 ps975 q977 z976 => ?_
    obtain ⟨rfl, es980⟩ := q977
    subst h979
    show Own.Run V K b_law _ h944 _ 12 114 233 [.val (.int p0), .val (.int p1), .val (.int p2), .val (.int p3), .val (.int (2 : Int32)), .val (.int c0), .val (.int c1), .val (.int c2), .val (.ref a904), .val (.ref xr), .val (.ref a927), .val (.int (Int32.ofNat ((([] : List Int32) ++ es c0) ++ es c1).length))] [.int (1 : Int32)]
    refine r_if_eq 266 236 at_233 (by decide) rfl rfl (fun c981 => ?_) (fun c981 => ?_)
    · exact absurd c981 (by decide)
    refine r_aload 238 rfl at_236 rfl rfl ?_
    refine r_aload 240 rfl at_238 rfl rfl ?_
    refine r_iload 242 rfl at_240 rfl ?_
    refine r_iconst (4 : Int32) 243 rfl at_242 rfl ?_
    refine r_static 246 rfl at_243 (wd hw 111 rfl) (wd hw 112 rfl) (wd hw 2 rfl) (wd hw 113 rfl) (by decide) (Pays.con (K := K) (B := b_law) (c_at V hw cz hCS hcz fm hFM rf xr _ a927 _ ((([] : List Int32) ++ es c0) ++ es c1) 4 (by decide) h944 _ f945 (by_app (by_app by0 (es_by hc0)) (es_by hc1)) Au1 (by have := (app_len (app_len nil_len (es_len c0)) (es_len c1)); omega)) (wd hw 113 rfl) (wd hw 2 rfl) (by decide) (by decide)) (W := 0) (argsL := [.ref xr, .ref a927, .int (Int32.ofNat ((([] : List Int32) ++ es c0) ++ es c1).length), .int (4 : Int32)]) (lenOf pd_20 rfl) rfl rfl rfl (Nat.le_of_eq rfl) (Nat.le_of_ble_eq_true rfl) (Nat.le_of_ble_eq_true rfl) fun v985 h986 ps982 q984 z983 => ?_
    obtain ⟨rfl, es987⟩ := q984
    subst h986
    show Own.Run V K b_law _ h944 _ 12 114 246 [.val (.int p0), .val (.int p1), .val (.int p2), .val (.int p3), .val (.int (2 : Int32)), .val (.int c0), .val (.int c1), .val (.int c2), .val (.ref a904), .val (.ref xr), .val (.ref a927), .val (.int (Int32.ofNat ((([] : List Int32) ++ es c0) ++ es c1).length))] [.int (1 : Int32)]
    refine r_if_eq 266 249 at_246 (by decide) rfl rfl (fun c988 => ?_) (fun c988 => ?_)
    · exact absurd c988 (by decide)
    refine r_aload 251 rfl at_249 rfl rfl ?_
    refine r_aload 253 rfl at_251 rfl rfl ?_
    refine r_iload 255 rfl at_253 rfl ?_
    refine r_iconst (5 : Int32) 256 rfl at_255 rfl ?_
    refine r_static 259 rfl at_256 (wd hw 111 rfl) (wd hw 112 rfl) (wd hw 2 rfl) (wd hw 113 rfl) (by decide) (Pays.con (K := K) (B := b_law) (c_at V hw cz hCS hcz fm hFM rf xr _ a927 _ ((([] : List Int32) ++ es c0) ++ es c1) 5 (by decide) h944 _ f945 (by_app (by_app by0 (es_by hc0)) (es_by hc1)) Au1 (by have := (app_len (app_len nil_len (es_len c0)) (es_len c1)); omega)) (wd hw 113 rfl) (wd hw 2 rfl) (by decide) (by decide)) (W := 0) (argsL := [.ref xr, .ref a927, .int (Int32.ofNat ((([] : List Int32) ++ es c0) ++ es c1).length), .int (5 : Int32)]) (lenOf pd_20 rfl) rfl rfl rfl (Nat.le_of_eq rfl) (Nat.le_of_ble_eq_true rfl) (Nat.le_of_ble_eq_true rfl) fun v992 h993 ps989 q991 z990 => ?_
    obtain ⟨rfl, es994⟩ := q991
    subst h993
    show Own.Run V K b_law _ h944 _ 12 114 259 [.val (.int p0), .val (.int p1), .val (.int p2), .val (.int p3), .val (.int (2 : Int32)), .val (.int c0), .val (.int c1), .val (.int c2), .val (.ref a904), .val (.ref xr), .val (.ref a927), .val (.int (Int32.ofNat ((([] : List Int32) ++ es c0) ++ es c1).length))] [.int (1 : Int32)]
    refine r_if_eq 266 262 at_259 (by decide) rfl rfl (fun c995 => ?_) (fun c995 => ?_)
    · exact absurd c995 (by decide)
    refine r_iconst (1 : Int32) 263 rfl at_262 rfl ?_
    refine r_goto 267 at_263 (by decide) rfl ?_
    refine r_nret (t := .boolean) (1 : Int32) rfl (by simp) rfl at_267 (by decide) (by decide) [] (fun _ q => nomatch q) ?_
    rfl
  · refine r_iload 25 rfl at_23 rfl ?_
    refine r_if_ne 36 28 at_25 (by decide) rfl rfl (fun c996 => ?_) (fun c996 => ?_)
    rotate_left
    · exact absurd c996 (by decide)
    refine r_iload 38 rfl at_36 rfl ?_
    refine r_iconst (1 : Int32) 39 rfl at_38 rfl ?_
    refine r_icmp_ne 55 42 at_39 (by decide) rfl rfl (fun c997 => ?_) (fun c997 => ?_)
    rotate_left
    · exact absurd c997 (by decide)
    refine r_iload 57 rfl at_55 rfl ?_
    refine r_iconst (2 : Int32) 58 rfl at_57 rfl ?_
    refine r_icmp_ne 79 61 at_58 (by decide) rfl rfl (fun c998 => ?_) (fun c998 => ?_)
    rotate_left
    · exact absurd c998 (by decide)
    refine r_iconst (3 : Int32) 80 rfl at_79 rfl ?_
    refine r_newarray 3 82 rfl at_80 (wd hw 4 rfl) (by decide) (by decide) (by decide) (by decide) (by decide) fun a999 h1000 k1001 ga999 za999 Eh1000 Aa999 => ?_
    have sh1000 := Eh1000.1
    have la999 := ltN Aa999.lt
    have f1002 : Arv V.Z h1000 a999 k1001 .char (3 : Int32) [.int 0, .int 0, .int 0] (.int 0) := Arv.pad Aa999 (pad_rep [] (.int 0) 3)
    refine r_dup 83 rfl at_82 rfl ?_
    refine r_iconst (0 : Int32) 84 rfl at_83 rfl ?_
    refine r_iload 86 rfl at_84 rfl ?_
    refine r_castore 0 87 rfl at_86 f1002 (by decide) rfl (Nat.le_of_ble_eq_true rfl) za999 c0 (nby hc0) fun h1003 Wh1003 f1004 => ?_
    have sh1003 := Wh1003.size
    replace f1004 : Arv V.Z h1003 a999 k1001 .char (3 : Int32) [.int c0, .int 0, .int 0] (.int 0) := f1004
    refine r_dup 88 rfl at_87 rfl ?_
    refine r_iconst (1 : Int32) 89 rfl at_88 rfl ?_
    refine r_iload 91 rfl at_89 rfl ?_
    refine r_castore 1 92 rfl at_91 f1004 (by decide) rfl (Nat.le_of_ble_eq_true rfl) za999 c1 (nby hc1) fun h1005 Wh1005 f1006 => ?_
    have sh1005 := Wh1005.size
    replace f1006 : Arv V.Z h1005 a999 k1001 .char (3 : Int32) [.int c0, .int c1, .int 0] (.int 0) := f1006
    refine r_dup 93 rfl at_92 rfl ?_
    refine r_iconst (2 : Int32) 94 rfl at_93 rfl ?_
    refine r_iload 96 rfl at_94 rfl ?_
    refine r_castore 2 97 rfl at_96 f1006 (by decide) rfl (Nat.le_of_ble_eq_true rfl) za999 c2 (nby hc2) fun h1007 Wh1007 f1008 => ?_
    have sh1007 := Wh1007.size
    replace f1008 : Arv V.Z h1007 a999 k1001 .char (3 : Int32) [.int c0, .int c1, .int c2] (.int 0) := f1008
    refine r_astore [.val (.int p0), .val (.int p1), .val (.int p2), .val (.int p3), .val (.int (3 : Int32)), .val (.int c0), .val (.int c1), .val (.int c2), .val (.ref a999), .unset, .unset, .unset] 99 rfl at_97 rfl rfl ?_
    refine r_new 102 rfl at_99 (wd hw 5 rfl) (wd hw 6 rfl) (wd hw 7 rfl) (by decide) (by decide) fun a1009 h1010 ga1009 za1009 Eh1010 Xa1009 Da1009 => ?_
    have f1011 := f1008.ext Eh1010
    have sh1010 := Eh1010.1
    have la1009 := ltN Xa1009.lt
    have f1012 : Fld V.Z h1010 a1009 "java/lang/String" "value" "[B" (.null) := Da1009 (Or.inr (wd hw 20 rfl)) (ty := (.array .byte)) (by decide)
    have f1013 : Fld V.Z h1010 a1009 "java/lang/String" "coder" "B" (.int (0 : Int32)) := Da1009 (Or.inr (wd hw 21 rfl)) (ty := .byte) (by decide)
    refine r_dup 103 rfl at_102 rfl ?_
    refine r_aload 105 rfl at_103 rfl rfl ?_
    refine Run.old fun OX => ?_
    have la1009' : a1009 < h1010.size := by omega
    refine r_special 108 rfl at_105 rfl (wd hw 8 rfl) (wd hw 9 rfl) (wd hw 10 rfl) (by decide) (pay_newN V hw K b_law 1 a1009 a999 _ ([c0, c1, c2] : List Int32) _ h1010 _ _ _ _ za1009 (Nat.le_trans za1009 (Nat.le_of_lt la1009')) Xa1009 f1012 f1013 f1011 OX cz hCS hcz rfl (Nat.le_of_ble_eq_true rfl) (Nat.le_of_ble_eq_true rfl) (byS hc0 (byS hc1 (by1 hc2))) (by simp) (by decide) (by decide)) (W := 1) (argsL := [.ref a999]) (lenOf pd_1 rfl) rfl rfl rfl (Nat.le_of_eq rfl) (Nat.le_of_ble_eq_true rfl) (Nat.le_of_ble_eq_true rfl) fun v1017 h1018 ps1014 q1016 z1015 => ?_
    obtain ⟨rfl, K1, S1⟩ := q1016
    show Own.Run V K b_law _ h1018 _ 3 10 108 [.val (.int p0), .val (.int p1), .val (.int p2), .val (.int p3), .val (.int (3 : Int32)), .val (.int c0), .val (.int c1), .val (.int c2), .val (.ref a999), .unset, .unset, .unset] [.ref a1009]
    refine r_static 111 rfl at_108 (wd hw 26 rfl) (wd hw 27 rfl) (wd hw 28 rfl) (wd hw 29 rfl) (by decide) (Pays.con (K := K) (B := b_law) (c_esc3 V hw hm hn cz hCS hcz fm hFM rf hl92 a1009 _ c0 c1 c2 hc0 hc1 hc2 h1018 _ S1) (wd hw 29 rfl) (wd hw 28 rfl) (by decide) (by decide)) (W := 0) (argsL := [.ref a1009]) (lenOf pd_21 rfl) rfl rfl rfl (Nat.le_of_eq rfl) (Nat.le_of_ble_eq_true rfl) (Nat.le_of_ble_eq_true rfl) fun v1022 h1023 ps1019 q1021 z1020 => ?_
    obtain ⟨xr, rfl, ER, SR⟩ := q1021
    show Own.Run V K b_law _ h1023 _ 13 130 111 [.val (.int p0), .val (.int p1), .val (.int p2), .val (.int p3), .val (.int (3 : Int32)), .val (.int c0), .val (.int c1), .val (.int c2), .val (.ref a999), .unset, .unset, .unset] [.ref xr]
    refine r_astore [.val (.int p0), .val (.int p1), .val (.int p2), .val (.int p3), .val (.int (3 : Int32)), .val (.int c0), .val (.int c1), .val (.int c2), .val (.ref a999), .val (.ref xr), .unset, .unset] 113 rfl at_111 rfl rfl ?_
    refine r_bipush (6 : Int32) 115 rfl at_113 rfl ?_
    refine r_newarray 6 117 rfl at_115 (wd hw 4 rfl) (by decide) (by decide) (by decide) (by decide) (by decide) fun a1024 h1025 k1026 ga1024 za1024 Eh1025 Aa1024 => ?_
    have f1027 := Str.ext Eh1025 SR
    have sh1025 := Eh1025.1
    have la1024 := ltN Aa1024.lt
    have f1028 : Arv V.Z h1025 a1024 k1026 .char (6 : Int32) [.int 0, .int 0, .int 0, .int 0, .int 0, .int 0] (.int 0) := Arv.pad Aa1024 (pad_rep [] (.int 0) 6)
    refine r_astore [.val (.int p0), .val (.int p1), .val (.int p2), .val (.int p3), .val (.int (3 : Int32)), .val (.int c0), .val (.int c1), .val (.int c2), .val (.ref a999), .val (.ref xr), .val (.ref a1024), .unset] 119 rfl at_117 rfl rfl ?_
    refine r_iconst (0 : Int32) 120 rfl at_119 rfl ?_
    refine r_istore [.val (.int p0), .val (.int p1), .val (.int p2), .val (.int p3), .val (.int (3 : Int32)), .val (.int c0), .val (.int c1), .val (.int c2), .val (.ref a999), .val (.ref xr), .val (.ref a1024), .val (.int (0 : Int32))] 122 rfl at_120 rfl ?_
    refine r_iload 124 rfl at_122 rfl ?_
    have AO : Arv V.Z h1025 a1024 _ .char 6 (([] : List Int32).map Value.int) (.int 0) := Aa1024
    show Own.Run V K b_law _ h1025 _ 14 136 124 [.val (.int p0), .val (.int p1), .val (.int p2), .val (.int p3), .val (.int (3 : Int32)), .val (.int c0), .val (.int c1), .val (.int c2), .val (.ref a999), .val (.ref xr), .val (.ref a1024), .val (.int (Int32.ofNat ([] : List Int32).length))] [.int (3 : Int32)]
    refine r_if_le 138 127 at_124 (by decide) rfl rfl (fun c1029 => ?_) (fun c1029 => ?_)
    · exact absurd c1029 (by decide)
    refine r_aload 129 rfl at_127 rfl rfl ?_
    refine r_iload 131 rfl at_129 rfl ?_
    refine r_iload 133 rfl at_131 rfl ?_
    refine r_static 136 rfl at_133 (wd hw 189 rfl) (wd hw 190 rfl) (wd hw 2 rfl) (wd hw 191 rfl) (by decide) (Pays.con (K := K) (B := b_law) (c_put V hw a1024 _ ([] : List Int32) c0 hc0 h1025 _ za1024 AO (by have := nil_len; omega)) (wd hw 191 rfl) (wd hw 2 rfl) (by decide) (by decide)) (W := 0) (argsL := [.ref a1024, .int (Int32.ofNat ([] : List Int32).length), .int c0]) (lenOf pd_19 rfl) rfl rfl rfl (Nat.le_of_eq rfl) (Nat.le_of_ble_eq_true rfl) (Nat.le_of_ble_eq_true rfl) fun v1033 h1034 ps1030 q1032 z1031 => ?_
    obtain ⟨rfl, Ku0, Au0⟩ := q1032
    have f1035 : Str V h1034 h1023.size xr (((([] : List Int32) ++ es c0) ++ es c1) ++ es c2) := by first | exact Str.keep Ku0 (fun w hw' => by cases List.mem_singleton.mp hw'; exact leA (by omega)) f1027 | exact Str.keepA Ku0 AO (by decide) (wd hw 6 rfl) f1027
    show Own.Run V K b_law _ h1034 _ 14 136 136 [.val (.int p0), .val (.int p1), .val (.int p2), .val (.int p3), .val (.int (3 : Int32)), .val (.int c0), .val (.int c1), .val (.int c2), .val (.ref a999), .val (.ref xr), .val (.ref a1024), .val (.int (Int32.ofNat ([] : List Int32).length))] [.int (Int32.ofNat (([] : List Int32) ++ es c0).length)]
    have sh1034 := Ku0.1
    refine r_istore [.val (.int p0), .val (.int p1), .val (.int p2), .val (.int p3), .val (.int (3 : Int32)), .val (.int c0), .val (.int c1), .val (.int c2), .val (.ref a999), .val (.ref xr), .val (.ref a1024), .val (.int (Int32.ofNat (([] : List Int32) ++ es c0).length))] 138 rfl at_136 rfl ?_
    refine r_iload 140 rfl at_138 rfl ?_
    refine r_iconst (1 : Int32) 141 rfl at_140 rfl ?_
    refine r_icmp_le 155 144 at_141 (by decide) rfl rfl (fun c1036 => ?_) (fun c1036 => ?_)
    · exact absurd c1036 (by decide)
    refine r_aload 146 rfl at_144 rfl rfl ?_
    refine r_iload 148 rfl at_146 rfl ?_
    refine r_iload 150 rfl at_148 rfl ?_
    refine r_static 153 rfl at_150 (wd hw 189 rfl) (wd hw 190 rfl) (wd hw 2 rfl) (wd hw 191 rfl) (by decide) (Pays.con (K := K) (B := b_law) (c_put V hw a1024 _ (([] : List Int32) ++ es c0) c1 hc1 h1034 _ za1024 Au0 (by have := (app_len nil_len (es_len c0)); omega)) (wd hw 191 rfl) (wd hw 2 rfl) (by decide) (by decide)) (W := 0) (argsL := [.ref a1024, .int (Int32.ofNat (([] : List Int32) ++ es c0).length), .int c1]) (lenOf pd_19 rfl) rfl rfl rfl (Nat.le_of_eq rfl) (Nat.le_of_ble_eq_true rfl) (Nat.le_of_ble_eq_true rfl) fun v1040 h1041 ps1037 q1039 z1038 => ?_
    obtain ⟨rfl, Ku1, Au1⟩ := q1039
    have f1042 : Str V h1041 h1023.size xr (((([] : List Int32) ++ es c0) ++ es c1) ++ es c2) := by first | exact Str.keep Ku1 (fun w hw' => by cases List.mem_singleton.mp hw'; exact leA (by omega)) f1035 | exact Str.keepA Ku1 Au0 (by decide) (wd hw 6 rfl) f1035
    show Own.Run V K b_law _ h1041 _ 14 136 153 [.val (.int p0), .val (.int p1), .val (.int p2), .val (.int p3), .val (.int (3 : Int32)), .val (.int c0), .val (.int c1), .val (.int c2), .val (.ref a999), .val (.ref xr), .val (.ref a1024), .val (.int (Int32.ofNat (([] : List Int32) ++ es c0).length))] [.int (Int32.ofNat ((([] : List Int32) ++ es c0) ++ es c1).length)]
    have sh1041 := Ku1.1
    refine r_istore [.val (.int p0), .val (.int p1), .val (.int p2), .val (.int p3), .val (.int (3 : Int32)), .val (.int c0), .val (.int c1), .val (.int c2), .val (.ref a999), .val (.ref xr), .val (.ref a1024), .val (.int (Int32.ofNat ((([] : List Int32) ++ es c0) ++ es c1).length))] 155 rfl at_153 rfl ?_
    refine r_iload 157 rfl at_155 rfl ?_
    refine r_iconst (2 : Int32) 158 rfl at_157 rfl ?_
    refine r_icmp_le 172 161 at_158 (by decide) rfl rfl (fun c1043 => ?_) (fun c1043 => ?_)
    · exact absurd c1043 (by decide)
    refine r_aload 163 rfl at_161 rfl rfl ?_
    refine r_iload 165 rfl at_163 rfl ?_
    refine r_iload 167 rfl at_165 rfl ?_
    refine r_static 170 rfl at_167 (wd hw 189 rfl) (wd hw 190 rfl) (wd hw 2 rfl) (wd hw 191 rfl) (by decide) (Pays.con (K := K) (B := b_law) (c_put V hw a1024 _ ((([] : List Int32) ++ es c0) ++ es c1) c2 hc2 h1041 _ za1024 Au1 (by have := (app_len (app_len nil_len (es_len c0)) (es_len c1)); omega)) (wd hw 191 rfl) (wd hw 2 rfl) (by decide) (by decide)) (W := 0) (argsL := [.ref a1024, .int (Int32.ofNat ((([] : List Int32) ++ es c0) ++ es c1).length), .int c2]) (lenOf pd_19 rfl) rfl rfl rfl (Nat.le_of_eq rfl) (Nat.le_of_ble_eq_true rfl) (Nat.le_of_ble_eq_true rfl) fun v1047 h1048 ps1044 q1046 z1045 => ?_
    obtain ⟨rfl, Ku2, Au2⟩ := q1046
    have f1049 : Str V h1048 h1023.size xr (((([] : List Int32) ++ es c0) ++ es c1) ++ es c2) := by first | exact Str.keep Ku2 (fun w hw' => by cases List.mem_singleton.mp hw'; exact leA (by omega)) f1042 | exact Str.keepA Ku2 Au1 (by decide) (wd hw 6 rfl) f1042
    show Own.Run V K b_law _ h1048 _ 14 136 170 [.val (.int p0), .val (.int p1), .val (.int p2), .val (.int p3), .val (.int (3 : Int32)), .val (.int c0), .val (.int c1), .val (.int c2), .val (.ref a999), .val (.ref xr), .val (.ref a1024), .val (.int (Int32.ofNat ((([] : List Int32) ++ es c0) ++ es c1).length))] [.int (Int32.ofNat (((([] : List Int32) ++ es c0) ++ es c1) ++ es c2).length)]
    have sh1048 := Ku2.1
    refine r_istore [.val (.int p0), .val (.int p1), .val (.int p2), .val (.int p3), .val (.int (3 : Int32)), .val (.int c0), .val (.int c1), .val (.int c2), .val (.ref a999), .val (.ref xr), .val (.ref a1024), .val (.int (Int32.ofNat (((([] : List Int32) ++ es c0) ++ es c1) ++ es c2).length))] 172 rfl at_170 rfl ?_
    refine r_aload 174 rfl at_172 rfl rfl ?_
    refine Run.old fun OZ => ?_
    refine r_virtual 177 rfl at_174 (wd hw 110 rfl) (wd hw 34 rfl) (wd hw 36 rfl) (wd hw 35 rfl) (nfS (wd hw 36 rfl)) (by decide) (f1049).exa (pay_len V hw K b_law 0 xr _ (((([] : List Int32) ++ es c0) ++ es c1) ++ es c2) h1048 _ f1049 OZ cz hCS hcz (by decide) (by decide)) (W := 0) (argsL := []) (lenOf pd_8 rfl) rfl rfl rfl (Nat.le_of_eq rfl) (Nat.le_of_ble_eq_true rfl) (Nat.le_of_ble_eq_true rfl) fun v1053 h1054 ps1050 q1052 z1051 => ?_
    obtain ⟨rfl, es1055⟩ := q1052
    subst h1054
    show Own.Run V K b_law _ h1048 _ 14 136 177 [.val (.int p0), .val (.int p1), .val (.int p2), .val (.int p3), .val (.int (3 : Int32)), .val (.int c0), .val (.int c1), .val (.int c2), .val (.ref a999), .val (.ref xr), .val (.ref a1024), .val (.int (Int32.ofNat (((([] : List Int32) ++ es c0) ++ es c1) ++ es c2).length))] [.int (Int32.ofNat (((([] : List Int32) ++ es c0) ++ es c1) ++ es c2).length)]
    refine r_iload 179 rfl at_177 rfl ?_
    refine r_icmp_eq 184 182 at_179 (by decide) rfl rfl (fun c1056 => ?_) (fun c1056 => ?_)
    rotate_left
    · exact absurd rfl c1056
    refine r_aload 186 rfl at_184 rfl rfl ?_
    refine r_aload 188 rfl at_186 rfl rfl ?_
    refine r_iload 190 rfl at_188 rfl ?_
    refine r_iconst (0 : Int32) 191 rfl at_190 rfl ?_
    refine r_static 194 rfl at_191 (wd hw 111 rfl) (wd hw 112 rfl) (wd hw 2 rfl) (wd hw 113 rfl) (by decide) (Pays.con (K := K) (B := b_law) (c_at V hw cz hCS hcz fm hFM rf xr _ a1024 _ (((([] : List Int32) ++ es c0) ++ es c1) ++ es c2) 0 (by decide) h1048 _ f1049 (by_app (by_app (by_app by0 (es_by hc0)) (es_by hc1)) (es_by hc2)) Au2 (by have := (app_len (app_len (app_len nil_len (es_len c0)) (es_len c1)) (es_len c2)); omega)) (wd hw 113 rfl) (wd hw 2 rfl) (by decide) (by decide)) (W := 0) (argsL := [.ref xr, .ref a1024, .int (Int32.ofNat (((([] : List Int32) ++ es c0) ++ es c1) ++ es c2).length), .int (0 : Int32)]) (lenOf pd_20 rfl) rfl rfl rfl (Nat.le_of_eq rfl) (Nat.le_of_ble_eq_true rfl) (Nat.le_of_ble_eq_true rfl) fun v1060 h1061 ps1057 q1059 z1058 => ?_
    obtain ⟨rfl, es1062⟩ := q1059
    subst h1061
    show Own.Run V K b_law _ h1048 _ 14 136 194 [.val (.int p0), .val (.int p1), .val (.int p2), .val (.int p3), .val (.int (3 : Int32)), .val (.int c0), .val (.int c1), .val (.int c2), .val (.ref a999), .val (.ref xr), .val (.ref a1024), .val (.int (Int32.ofNat (((([] : List Int32) ++ es c0) ++ es c1) ++ es c2).length))] [.int (1 : Int32)]
    refine r_if_eq 266 197 at_194 (by decide) rfl rfl (fun c1063 => ?_) (fun c1063 => ?_)
    · exact absurd c1063 (by decide)
    refine r_aload 199 rfl at_197 rfl rfl ?_
    refine r_aload 201 rfl at_199 rfl rfl ?_
    refine r_iload 203 rfl at_201 rfl ?_
    refine r_iconst (1 : Int32) 204 rfl at_203 rfl ?_
    refine r_static 207 rfl at_204 (wd hw 111 rfl) (wd hw 112 rfl) (wd hw 2 rfl) (wd hw 113 rfl) (by decide) (Pays.con (K := K) (B := b_law) (c_at V hw cz hCS hcz fm hFM rf xr _ a1024 _ (((([] : List Int32) ++ es c0) ++ es c1) ++ es c2) 1 (by decide) h1048 _ f1049 (by_app (by_app (by_app by0 (es_by hc0)) (es_by hc1)) (es_by hc2)) Au2 (by have := (app_len (app_len (app_len nil_len (es_len c0)) (es_len c1)) (es_len c2)); omega)) (wd hw 113 rfl) (wd hw 2 rfl) (by decide) (by decide)) (W := 0) (argsL := [.ref xr, .ref a1024, .int (Int32.ofNat (((([] : List Int32) ++ es c0) ++ es c1) ++ es c2).length), .int (1 : Int32)]) (lenOf pd_20 rfl) rfl rfl rfl (Nat.le_of_eq rfl) (Nat.le_of_ble_eq_true rfl) (Nat.le_of_ble_eq_true rfl) fun v1067 h1068 ps1064 q1066 z1065 => ?_
    obtain ⟨rfl, es1069⟩ := q1066
    subst h1068
    show Own.Run V K b_law _ h1048 _ 14 136 207 [.val (.int p0), .val (.int p1), .val (.int p2), .val (.int p3), .val (.int (3 : Int32)), .val (.int c0), .val (.int c1), .val (.int c2), .val (.ref a999), .val (.ref xr), .val (.ref a1024), .val (.int (Int32.ofNat (((([] : List Int32) ++ es c0) ++ es c1) ++ es c2).length))] [.int (1 : Int32)]
    refine r_if_eq 266 210 at_207 (by decide) rfl rfl (fun c1070 => ?_) (fun c1070 => ?_)
    · exact absurd c1070 (by decide)
    refine r_aload 212 rfl at_210 rfl rfl ?_
    refine r_aload 214 rfl at_212 rfl rfl ?_
    refine r_iload 216 rfl at_214 rfl ?_
    refine r_iconst (2 : Int32) 217 rfl at_216 rfl ?_
    refine r_static 220 rfl at_217 (wd hw 111 rfl) (wd hw 112 rfl) (wd hw 2 rfl) (wd hw 113 rfl) (by decide) (Pays.con (K := K) (B := b_law) (c_at V hw cz hCS hcz fm hFM rf xr _ a1024 _ (((([] : List Int32) ++ es c0) ++ es c1) ++ es c2) 2 (by decide) h1048 _ f1049 (by_app (by_app (by_app by0 (es_by hc0)) (es_by hc1)) (es_by hc2)) Au2 (by have := (app_len (app_len (app_len nil_len (es_len c0)) (es_len c1)) (es_len c2)); omega)) (wd hw 113 rfl) (wd hw 2 rfl) (by decide) (by decide)) (W := 0) (argsL := [.ref xr, .ref a1024, .int (Int32.ofNat (((([] : List Int32) ++ es c0) ++ es c1) ++ es c2).length), .int (2 : Int32)]) (lenOf pd_20 rfl) rfl rfl rfl (Nat.le_of_eq rfl) (Nat.le_of_ble_eq_true rfl) (Nat.le_of_ble_eq_true rfl) fun v1074 h1075 ps1071 q1073 z1072 => ?_
    obtain ⟨rfl, es1076⟩ := q1073
    subst h1075
    show Own.Run V K b_law _ h1048 _ 14 136 220 [.val (.int p0), .val (.int p1), .val (.int p2), .val (.int p3), .val (.int (3 : Int32)), .val (.int c0), .val (.int c1), .val (.int c2), .val (.ref a999), .val (.ref xr), .val (.ref a1024), .val (.int (Int32.ofNat (((([] : List Int32) ++ es c0) ++ es c1) ++ es c2).length))] [.int (1 : Int32)]
    refine r_if_eq 266 223 at_220 (by decide) rfl rfl (fun c1077 => ?_) (fun c1077 => ?_)
    · exact absurd c1077 (by decide)
    refine r_aload 225 rfl at_223 rfl rfl ?_
    refine r_aload 227 rfl at_225 rfl rfl ?_
    refine r_iload 229 rfl at_227 rfl ?_
    refine r_iconst (3 : Int32) 230 rfl at_229 rfl ?_
    refine r_static 233 rfl at_230 (wd hw 111 rfl) (wd hw 112 rfl) (wd hw 2 rfl) (wd hw 113 rfl) (by decide) (Pays.con (K := K) (B := b_law) (c_at V hw cz hCS hcz fm hFM rf xr _ a1024 _ (((([] : List Int32) ++ es c0) ++ es c1) ++ es c2) 3 (by decide) h1048 _ f1049 (by_app (by_app (by_app by0 (es_by hc0)) (es_by hc1)) (es_by hc2)) Au2 (by have := (app_len (app_len (app_len nil_len (es_len c0)) (es_len c1)) (es_len c2)); omega)) (wd hw 113 rfl) (wd hw 2 rfl) (by decide) (by decide)) (W := 0) (argsL := [.ref xr, .ref a1024, .int (Int32.ofNat (((([] : List Int32) ++ es c0) ++ es c1) ++ es c2).length), .int (3 : Int32)]) (lenOf pd_20 rfl) rfl rfl rfl (Nat.le_of_eq rfl) (Nat.le_of_ble_eq_true rfl) (Nat.le_of_ble_eq_true rfl) fun v1081 h1082 ps1078 q1080 z1079 => ?_
    obtain ⟨rfl, es1083⟩ := q1080
    subst h1082
    show Own.Run V K b_law _ h1048 _ 14 136 233 [.val (.int p0), .val (.int p1), .val (.int p2), .val (.int p3), .val (.int (3 : Int32)), .val (.int c0), .val (.int c1), .val (.int c2), .val (.ref a999), .val (.ref xr), .val (.ref a1024), .val (.int (Int32.ofNat (((([] : List Int32) ++ es c0) ++ es c1) ++ es c2).length))] [.int (1 : Int32)]
    refine r_if_eq 266 236 at_233 (by decide) rfl rfl (fun c1084 => ?_) (fun c1084 => ?_)
    · exact absurd c1084 (by decide)
    refine r_aload 238 rfl at_236 rfl rfl ?_
    refine r_aload 240 rfl at_238 rfl rfl ?_
    refine r_iload 242 rfl at_240 rfl ?_
    refine r_iconst (4 : Int32) 243 rfl at_242 rfl ?_
    refine r_static 246 rfl at_243 (wd hw 111 rfl) (wd hw 112 rfl) (wd hw 2 rfl) (wd hw 113 rfl) (by decide) (Pays.con (K := K) (B := b_law) (c_at V hw cz hCS hcz fm hFM rf xr _ a1024 _ (((([] : List Int32) ++ es c0) ++ es c1) ++ es c2) 4 (by decide) h1048 _ f1049 (by_app (by_app (by_app by0 (es_by hc0)) (es_by hc1)) (es_by hc2)) Au2 (by have := (app_len (app_len (app_len nil_len (es_len c0)) (es_len c1)) (es_len c2)); omega)) (wd hw 113 rfl) (wd hw 2 rfl) (by decide) (by decide)) (W := 0) (argsL := [.ref xr, .ref a1024, .int (Int32.ofNat (((([] : List Int32) ++ es c0) ++ es c1) ++ es c2).length), .int (4 : Int32)]) (lenOf pd_20 rfl) rfl rfl rfl (Nat.le_of_eq rfl) (Nat.le_of_ble_eq_true rfl) (Nat.le_of_ble_eq_true rfl) fun v1088 h1089 ps1085 q1087 z1086 => ?_
    obtain ⟨rfl, es1090⟩ := q1087
    subst h1089
    show Own.Run V K b_law _ h1048 _ 14 136 246 [.val (.int p0), .val (.int p1), .val (.int p2), .val (.int p3), .val (.int (3 : Int32)), .val (.int c0), .val (.int c1), .val (.int c2), .val (.ref a999), .val (.ref xr), .val (.ref a1024), .val (.int (Int32.ofNat (((([] : List Int32) ++ es c0) ++ es c1) ++ es c2).length))] [.int (1 : Int32)]
    refine r_if_eq 266 249 at_246 (by decide) rfl rfl (fun c1091 => ?_) (fun c1091 => ?_)
    · exact absurd c1091 (by decide)
    refine r_aload 251 rfl at_249 rfl rfl ?_
    refine r_aload 253 rfl at_251 rfl rfl ?_
    refine r_iload 255 rfl at_253 rfl ?_
    refine r_iconst (5 : Int32) 256 rfl at_255 rfl ?_
    refine r_static 259 rfl at_256 (wd hw 111 rfl) (wd hw 112 rfl) (wd hw 2 rfl) (wd hw 113 rfl) (by decide) (Pays.con (K := K) (B := b_law) (c_at V hw cz hCS hcz fm hFM rf xr _ a1024 _ (((([] : List Int32) ++ es c0) ++ es c1) ++ es c2) 5 (by decide) h1048 _ f1049 (by_app (by_app (by_app by0 (es_by hc0)) (es_by hc1)) (es_by hc2)) Au2 (by have := (app_len (app_len (app_len nil_len (es_len c0)) (es_len c1)) (es_len c2)); omega)) (wd hw 113 rfl) (wd hw 2 rfl) (by decide) (by decide)) (W := 0) (argsL := [.ref xr, .ref a1024, .int (Int32.ofNat (((([] : List Int32) ++ es c0) ++ es c1) ++ es c2).length), .int (5 : Int32)]) (lenOf pd_20 rfl) rfl rfl rfl (Nat.le_of_eq rfl) (Nat.le_of_ble_eq_true rfl) (Nat.le_of_ble_eq_true rfl) fun v1095 h1096 ps1092 q1094 z1093 => ?_
    obtain ⟨rfl, es1097⟩ := q1094
    subst h1096
    show Own.Run V K b_law _ h1048 _ 14 136 259 [.val (.int p0), .val (.int p1), .val (.int p2), .val (.int p3), .val (.int (3 : Int32)), .val (.int c0), .val (.int c1), .val (.int c2), .val (.ref a999), .val (.ref xr), .val (.ref a1024), .val (.int (Int32.ofNat (((([] : List Int32) ++ es c0) ++ es c1) ++ es c2).length))] [.int (1 : Int32)]
    refine r_if_eq 266 262 at_259 (by decide) rfl rfl (fun c1098 => ?_) (fun c1098 => ?_)
    · exact absurd c1098 (by decide)
    refine r_iconst (1 : Int32) 263 rfl at_262 rfl ?_
    refine r_goto 267 at_263 (by decide) rfl ?_
    refine r_nret (t := .boolean) (1 : Int32) rfl (by simp) rfl at_267 (by decide) (by decide) [] (fun _ q => nomatch q) ?_
    rfl
theorem comes_1 {Post : Tables → Env → Array Value → State → Outcome → State → Prop} (hpost : ∀ tb e args s v u, (limb_1_1.after args s (.returned v) u = true ∧ limb_1_2.after args s (.returned v) u = true ∧ True) → ReturnedEndW s (.returned v) u (Jvm.fieldLocs frame_1_writes args s ++ Jvm.arrayLocs frame_1_arrays args s ++ Jvm.staticLocs frame_1_statics s) 32 2240 → Post tb e args s (.returned v) u) :
    ArmFor flags0 classFile x code maxLocals ret World_1 tables_1 room_1 Calls_1 rest_1 Pre_1 Post := by
  intro l hfl _ _ p e ha hc hk s m args below hf hA hF happ hP
  obtain ⟨hcalls, hrest, hpre⟩ := hP
  obtain ⟨-, -, -, hnamed, -, -, -, hat⟩ := (Spec.applies_iff hf).mp happ
  obtain ⟨hg, hn⟩ := and_e (Cond.before_iff.mp (show (Jvm.Cond.and given_1 narrow_1).before args s = true from hpre))
  obtain ⟨hcount, g0⟩ := and_e hg
  obtain ⟨k0, g1⟩ := and_e g0
  obtain ⟨k1, g2⟩ := and_e g1
  obtain ⟨k2, g3⟩ := and_e g2
  have k3 := g3
  obtain ⟨w0, w1, w2, w3, rfl⟩ : ∃ w0 w1 w2 w3 : Value, args = #[w0, w1, w2, w3] := by
    have hs : args.size = 4 := by simpa [Cond.value, given_1] using hcount
    obtain ⟨L⟩ := args
    match L, hs with
    | [w0, w1, w2, w3], _ => exact ⟨w0, w1, w2, w3, rfl⟩
  have hw := fun d (hd : d ∈ tables_1) => atoms_spec (ws := Jvm.Cond.code x code maxLocals ret :: tables_1) hat d (List.mem_cons_of_mem _ hd)
  obtain ⟨i0, e0⟩ := is_v k0
  obtain rfl : w0 = (.int i0) := Option.some.inj e0
  obtain ⟨i1, e1⟩ := is_v k1
  obtain rfl : w1 = (.int i1) := Option.some.inj e1
  obtain ⟨i2, e2⟩ := is_v k2
  obtain rfl : w2 = (.int i2) := Option.some.inj e2
  obtain ⟨i3, e3⟩ := is_v k3
  obtain rfl : w3 = (.int i3) := Option.some.inj e3
  obtain ⟨hsets, hown0⟩ := atoms_of _ (rest_1_c_eq ▸ (show rest_1_c.before _ s = true from hrest))
  have n5 := not_v (Cond.before_iff.mp (hsets _ (List.mem_of_getElem? (i := 2) rfl)))
  obtain ⟨i11, e11⟩ := is_v (Cond.before_iff.mp (hsets _ (List.mem_of_getElem? (i := 1) rfl)))
  have S12 : Sta s s.heap "java/lang/String" "COMPACT_STRINGS" "Z" (.int i11) := Sta.start e11 (Or.inl (hsets _ (List.mem_of_getElem? (i := 0) rfl)))
  have c17 : ¬ (i11 = (0 : Int32)) := gotF (Cond.eq_ints e11 (Term.int_eval (0))) n5
  obtain ⟨v13, e14, r15⟩ := isR_v (Cond.before_iff.mp (hsets _ (List.mem_of_getElem? (i := 8) rfl)))
  have S16 : Sta s s.heap "jdk/internal/util/Preconditions" "SIOOBE_FORMATTER" "Ljava/util/function/BiFunction;" v13 := Sta.start e14 (Or.inl (hsets _ (List.mem_of_getElem? (i := 7) rfl)))
  have hEW : EW s #[.int i0, .int i1, .int i2, .int i3] consts_1 := (EW.cons (hw _ (List.mem_of_getElem? (i := 146) rfl)) (by decide) (EW.cons (hw _ (List.mem_of_getElem? (i := 18) rfl)) (by decide) EW.nil))
  have hCH : CHv s consts_1 s.vm s.heap := CHv.start hEW (fun p hp => hcalls.1 p hp) (hsets _ (List.mem_of_getElem? (i := 2) rfl)) (hw _ (List.mem_of_getElem? (i := 19) rfl)) (hw _ (List.mem_of_getElem? (i := 6) rfl))
  obtain ⟨n, o, h1, h2, h3, v, L, ps, rfl, N, rfl, -, -, -, hq, -⟩ := c_law (s, #[.int i0, .int i1, .int i2, .int i3], consts_1, false, l) hw (show ("java/lang/String", 7) ∈ consts_1 by decide) rfl i11 S12 c17 v13 S16 r15 (show ("com/example/proviso/proviso/MessageTemplate", 92) ∈ consts_1 by decide) i0 i1 i2 i3 s.heap hEW ⟨Nat.le_refl _, fun _ _ q => q⟩ (fun q => nomatch q) tables_1 p e ha hc hk s m _ below hf ((Spec.applies_iff_loose hf).mp happ).1 ⟨rfl, State.Warmed39.refl s, rfl, hCH, Sf.nil⟩ trivial
  refine ⟨n, _, h1, h2, h3, hpost _ _ _ _ _ _ ⟨Cond.after_iff.mpr rfl, Cond.after_iff.mpr (eq_i res_at (Term.int_eval (1)) rfl), trivial⟩ ⟨hq.1, hq.2.1, hq.2.2.1, (hq.2.2.2.sift fun y hy => Or.inr (N y hy)).mono (by decide) (by decide)⟩⟩
theorem main_1_1 : Claimed_1_1 := comes_1 fun _ _ _ _ _ _ h hF => ⟨h.1, hF⟩
theorem main_1_2 : Claimed_1_2 := comes_1 fun _ _ _ _ _ _ h hF => ⟨h.2.1, hF⟩
end Jvm.Pilot.@@N@@
namespace Jvm.Pilot.@@N@@
open Jvm Jvm.ClassFile Sem Op Lib Jvm.Free Jvm.Stand Jvm.Pilot.@@N@@.Jvm.D
/-! MADE BY PROGRAM (witnessworld.py) out of the Statement's table words and the real class files: 26 classes; the members and pool entries that the words name. The judged class is class 1, her method 5. -/
namespace start1
open Jvm.ClassFile
def u (s : String) : CpInfo := .utf8 (stringToUtf16 s)
/-- a pool by its gaps: so many unusable entries, then the entry; so many at the end -/
def gap : Nat → List CpInfo → List CpInfo
  | 0, r => r
  | n + 1, r => .unusable :: gap n r
def poolList (es : List (Nat × CpInfo)) (last : Nat) : List CpInfo := es.foldr (fun e r => gap e.1 (e.2 :: r)) (gap last [])
def pool (es : List (Nat × CpInfo)) (last : Nat) : Array CpInfo := ⟨poolList es last⟩
def fileOf (pool : Array CpInfo) (this : Nat) (attrs : Array Attribute := #[]) (ms : Array MethodInfo := #[]) (fl : Nat := 33) (sup : Nat := 0) (ifs : Array Nat := #[]) (fds : Array FieldInfo := #[]) : ClassFile where
  minorVersion := 0
  majorVersion := 65
  constantPool := pool
  accessFlags := fl
  thisClass := this
  superClass := sup
  interfaces := ifs
  fields := fds
  methods := ms
  attributes := attrs
def plain (name : String) (sup : Option ClassId) : Class where
  name := name
  kind := .ordinary
  loader := none
  accessFlags := 33
  super := sup
  interfaces := #[]
  cf := none
  fields := #[]
  methods := #[]
  instanceTypes := #[]
  staticTypes := #[]
  resolved := #[]
  callSites := []
  init := .initialized
  statics := none
  mirror := none

def pool0 : Array CpInfo := pool [(5, u "<init>"), (0, u "()V"), (1, .class_ 10), (1, u "java/lang/Object")] 113

def k0c0 : Code := { maxStack := 0, maxLocals := 1, code := object_method_1_code, exceptionTable := #[], attributes := #[] }
def k0m0 : Method := { name := "<init>", desc := "()V", sig := { parameters := [], returnType := none }, accessFlags := 1, code := some k0c0 }
/-- java/lang/Object -/
def k0 : Class := { plain "java/lang/Object" none with
  accessFlags := 33
  interfaces := #[]
  cf := some (fileOf pool0 8 #[] #[{ accessFlags := 1, nameIndex := 5, descriptorIndex := 6, attributes := #[] }] 33 0 #[] #[])
  fields := #[]
  methods := #[k0m0]
  instanceTypes := #[]
  staticTypes := #[]
  resolved := Array.replicate 124 none
  statics := none }

def pool1 : Array CpInfo := pool [(2, .class_ 4), (1, u "java/lang/Object"), (0, u "<init>"), (0, u "()V"), (0, .methodref 8 9), (0, .class_ 10), (0, .nameAndType 11 12), (0, u "com/example/proviso/proviso/MessageTemplateEscapePinLaw"), (0, u "special"), (0, u "(C)Z"), (0, .methodref 14 15), (0, .class_ 16), (0, .nameAndType 17 18), (0, u "java/lang/String"), (0, u "charAt"), (0, u "(I)C"), (0, .methodref 8 20), (0, .nameAndType 21 18), (0, u "draw"), (0, .methodref 14 23), (0, .nameAndType 5 24), (0, u "([C)V"), (0, .methodref 26 27), (0, .class_ 28), (0, .nameAndType 29 30), (0, u "com/example/proviso/proviso/MessageTemplate"), (0, u "escape"), (0, u "(Ljava/lang/String;)Ljava/lang/String;"), (0, .methodref 8 32), (0, .nameAndType 33 34), (0, u "put"), (0, u "([CIC)I"), (0, .methodref 14 36), (0, .nameAndType 37 38), (0, u "length"), (0, u "()I"), (0, .methodref 8 40), (0, .nameAndType 41 42), (0, u "at"), (0, u "(Ljava/lang/String;[CII)Z"), (3, u "law"), (0, u "(IIII)Z")] 4

def k1m0 : Method := { name := "<init>", desc := "()V", sig := { parameters := [], returnType := none }, accessFlags := 2, code := none }
def k1c1 : Code := { maxStack := 2, maxLocals := 2, code := method_2_code, exceptionTable := #[], attributes := #[] }
def k1m1 : Method := { name := "draw", desc := "(I)C", sig := { parameters := [.int], returnType := some .char }, accessFlags := 10, code := some k1c1 }
def k1c2 : Code := { maxStack := 2, maxLocals := 1, code := method_3_code, exceptionTable := #[], attributes := #[] }
def k1m2 : Method := { name := "special", desc := "(C)Z", sig := { parameters := [.char], returnType := some .boolean }, accessFlags := 10, code := some k1c2 }
def k1c3 : Code := { maxStack := 3, maxLocals := 3, code := method_4_code, exceptionTable := #[], attributes := #[] }
def k1m3 : Method := { name := "put", desc := "([CIC)I", sig := { parameters := [(.array .char), .int, .char], returnType := some .int }, accessFlags := 10, code := some k1c3 }
def k1c4 : Code := { maxStack := 3, maxLocals := 4, code := method_5_code, exceptionTable := #[], attributes := #[] }
def k1m4 : Method := { name := "at", desc := "(Ljava/lang/String;[CII)Z", sig := { parameters := [(.object "java/lang/String"), (.array .char), .int, .int], returnType := some .boolean }, accessFlags := 10, code := some k1c4 }
def k1c5 : Code := { maxStack := 4, maxLocals := 12, code := code, exceptionTable := #[], attributes := #[] }
def k1m5 : Method := { name := "law", desc := "(IIII)Z", sig := { parameters := [.int, .int, .int, .int], returnType := some .boolean }, accessFlags := 9, code := some k1c5 }
/-- com/example/proviso/proviso/MessageTemplateEscapePinLaw -/
def k1 : Class := { plain "com/example/proviso/proviso/MessageTemplateEscapePinLaw" (some 0) with
  accessFlags := 49
  interfaces := #[]
  cf := some (fileOf pool1 8 #[] #[{ accessFlags := 2, nameIndex := 5, descriptorIndex := 6, attributes := #[] }, { accessFlags := 10, nameIndex := 21, descriptorIndex := 18, attributes := #[] }, { accessFlags := 10, nameIndex := 11, descriptorIndex := 12, attributes := #[] }, { accessFlags := 10, nameIndex := 33, descriptorIndex := 34, attributes := #[] }, { accessFlags := 10, nameIndex := 41, descriptorIndex := 42, attributes := #[] }, { accessFlags := 9, nameIndex := 46, descriptorIndex := 47, attributes := #[] }] 49 2 #[] #[])
  fields := #[]
  methods := #[k1m0, k1m1, k1m2, k1m3, k1m4, k1m5]
  instanceTypes := #[]
  staticTypes := #[]
  resolved := Array.replicate 52 none
  statics := none }

def pool2 : Array CpInfo := pool [(1, .class_ 2), (0, u "java/io/Serializable"), (0, .class_ 4), (0, u "java/lang/Object")] 2

/-- java/io/Serializable -/
def k2 : Class := { plain "java/io/Serializable" (some 0) with
  accessFlags := 1537
  interfaces := #[]
  cf := some (fileOf pool2 1 #[] #[] 1537 3 #[] #[])
  fields := #[]
  methods := #[]
  instanceTypes := #[]
  staticTypes := #[]
  resolved := Array.replicate 7 none
  statics := none }

def pool3 : Array CpInfo := pool [(1, .class_ 2), (0, u "java/lang/Comparable"), (0, .class_ 4), (0, u "java/lang/Object")] 7

/-- java/lang/Comparable -/
def k3 : Class := { plain "java/lang/Comparable" (some 0) with
  accessFlags := 1537
  interfaces := #[]
  cf := some (fileOf pool3 1 #[] #[] 1537 3 #[] #[])
  fields := #[]
  methods := #[]
  instanceTypes := #[]
  staticTypes := #[]
  resolved := Array.replicate 12 none
  statics := none }

def pool4 : Array CpInfo := pool [(2, .class_ 4), (1, u "java/lang/CharSequence"), (42, .class_ 48), (0, u "java/lang/CharSequence$1CodePointIterator"), (10, .class_ 60), (0, u "java/lang/CharSequence$1CharIterator"), (5, .class_ 67), (0, u "java/lang/Object")] 63

/-- java/lang/CharSequence -/
def k4 : Class := { plain "java/lang/CharSequence" (some 0) with
  accessFlags := 1537
  interfaces := #[]
  cf := some (fileOf pool4 2 #[.nestMembers #[47, 59]] #[] 1537 66 #[] #[])
  fields := #[]
  methods := #[]
  instanceTypes := #[]
  staticTypes := #[]
  resolved := Array.replicate 131 none
  statics := none }

def pool5 : Array CpInfo := pool [(1, .class_ 2), (0, u "java/lang/constant/Constable"), (0, .class_ 4), (0, u "java/lang/Object")] 6

/-- java/lang/constant/Constable -/
def k5 : Class := { plain "java/lang/constant/Constable" (some 0) with
  accessFlags := 1537
  interfaces := #[]
  cf := some (fileOf pool5 1 #[] #[] 1537 3 #[] #[])
  fields := #[]
  methods := #[]
  instanceTypes := #[]
  staticTypes := #[]
  resolved := Array.replicate 11 none
  statics := none }

def pool6 : Array CpInfo := pool [(1, .class_ 2), (0, u "java/lang/constant/ConstantDesc"), (0, .class_ 4), (0, u "java/lang/Object")] 32

/-- java/lang/constant/ConstantDesc -/
def k6 : Class := { plain "java/lang/constant/ConstantDesc" (some 0) with
  accessFlags := 1537
  interfaces := #[]
  cf := some (fileOf pool6 1 #[] #[] 1537 3 #[] #[])
  fields := #[]
  methods := #[]
  instanceTypes := #[]
  staticTypes := #[]
  resolved := Array.replicate 37 none
  statics := none }

def pool7 : Array CpInfo := pool [(1, .methodref 2 3), (0, .class_ 4), (0, .nameAndType 5 6), (0, u "java/lang/Object"), (0, u "<init>"), (0, u "()V"), (0, .string 8), (0, u ""), (0, .fieldref 10 11), (0, .class_ 12), (0, .nameAndType 13 14), (0, u "java/lang/String"), (0, u "value"), (0, u "[B"), (0, .fieldref 10 16), (0, .nameAndType 17 18), (0, u "coder"), (0, u "B"), (2, u "hash"), (0, u "I"), (2, u "hashIsZero"), (0, u "Z"), (0, .methodref 10 28), (0, .nameAndType 5 29), (0, u "([CIILjava/lang/Void;)V"), (8, .fieldref 10 39), (0, .nameAndType 40 26), (0, u "COMPACT_STRINGS"), (1, .class_ 44), (1, u "java/lang/StringUTF16"), (0, u "compress"), (1, .methodref 42 48), (0, .nameAndType 49 50), (0, u "coderFromArrayLen"), (0, u "([BI)B"), (3, .methodref 55 56), (0, .class_ 57), (0, .nameAndType 58 59), (0, u "java/util/Arrays"), (0, u "copyOfRange"), (0, u "([BII)[B"), (47, .class_ 109), (1, u "java/lang/StringLatin1"), (32, u "()Z"), (34, .methodref 42 178), (0, .nameAndType 45 179), (0, u "([CII)[B"), (154, u "()I"), (0, .methodref 10 336), (0, .nameAndType 17 337), (0, u "()B"), (2, u "()[B"), (22, u "([BI)C"), (27, u "(II)V"), (35, u "(I)C"), (61, .methodref 10 490), (0, .nameAndType 5 491), (0, u "(Ljava/lang/AbstractStringBuilder;Ljava/lang/Void;)V"), (0, .methodref 10 493), (0, .nameAndType 494 142), (0, u "isLatin1"), (0, .methodref 107 496), (0, .nameAndType 497 363), (0, u "charAt"), (3, u "checkIndex"), (3, .methodref 10 506), (0, .nameAndType 507 334), (0, u "length"), (41, .methodref 550 506), (0, .class_ 551), (0, u "java/lang/AbstractStringBuilder"), (0, .methodref 550 553), (0, .nameAndType 554 340), (0, u "getValue"), (20, .class_ 576), (0, u "java/lang/CharSequence"), (22, u "CASE_INSENSITIVE_ORDER"), (0, u "Ljava/util/Comparator;"), (32, .methodref 10 634), (0, .nameAndType 635 636), (0, u "indexOf"), (0, u "(II)I"), (0, .methodref 107 638), (0, .nameAndType 635 639), (0, u "([BIII)I"), (125, u "(I)I"), (244, u "([C)V"), (36, .methodref 550 493), (5, .fieldref 1054 1055), (0, .class_ 1056), (0, .nameAndType 1057 1058), (0, u "jdk/internal/util/Preconditions"), (0, u "SIOOBE_FORMATTER"), (0, u "Ljava/util/function/BiFunction;"), (0, .methodref 1054 1060), (0, .nameAndType 501 1061), (0, u "(IILjava/util/function/BiFunction;)I"), (39, u "serialPersistentFields"), (0, u "[Ljava/io/ObjectStreamField;"), (0, .class_ 1104), (0, u "java/lang/String$CaseInsensitiveComparator"), (1, .class_ 1107), (0, u "java/io/Serializable"), (0, .class_ 1109), (0, u "java/lang/Comparable"), (0, .class_ 1111), (0, u "java/lang/constant/Constable"), (0, .class_ 1113), (0, u "java/lang/constant/ConstantDesc"), (2, u "serialVersionUID"), (0, u "J"), (3, u "REPL"), (0, u "C"), (2, u "LATIN1"), (1, u "UTF16"), (105, u "(Ljava/lang/StringBuilder;)V")] 217

def k7m0 : Method := { name := "<init>", desc := "()V", sig := { parameters := [], returnType := none }, accessFlags := 1, code := none }
def k7c1 : Code := { maxStack := 5, maxLocals := 2, code := jdk_42_method_3_code, exceptionTable := #[], attributes := #[] }
def k7m1 : Method := { name := "<init>", desc := "([C)V", sig := { parameters := [(.array .char)], returnType := none }, accessFlags := 1, code := some k7c1 }
def k7c2 : Code := { maxStack := 3, maxLocals := 2, code := jdk_42_method_53_code, exceptionTable := #[], attributes := #[] }
def k7m2 : Method := { name := "<init>", desc := "(Ljava/lang/StringBuilder;)V", sig := { parameters := [(.object "java/lang/StringBuilder")], returnType := none }, accessFlags := 1, code := some k7c2 }
def k7c3 : Code := { maxStack := 2, maxLocals := 1, code := jdk_42_method_54_code, exceptionTable := #[], attributes := #[] }
def k7m3 : Method := { name := "length", desc := "()I", sig := { parameters := [], returnType := some .int }, accessFlags := 1, code := some k7c3 }
def k7c4 : Code := { maxStack := 2, maxLocals := 2, code := jdk_42_method_56_code, exceptionTable := #[], attributes := #[] }
def k7m4 : Method := { name := "charAt", desc := "(I)C", sig := { parameters := [.int], returnType := some .char }, accessFlags := 1, code := some k7c4 }
def k7c5 : Code := { maxStack := 3, maxLocals := 2, code := jdk_42_method_79_code, exceptionTable := #[], attributes := #[] }
def k7m5 : Method := { name := "indexOf", desc := "(I)I", sig := { parameters := [.int], returnType := some .int }, accessFlags := 1, code := some k7c5 }
def k7c6 : Code := { maxStack := 4, maxLocals := 3, code := jdk_42_method_80_code, exceptionTable := #[], attributes := #[] }
def k7m6 : Method := { name := "indexOf", desc := "(II)I", sig := { parameters := [.int, .int], returnType := some .int }, accessFlags := 1, code := some k7c6 }
def k7c7 : Code := { maxStack := 4, maxLocals := 6, code := jdk_42_method_149_code, exceptionTable := #[], attributes := #[] }
def k7m7 : Method := { name := "<init>", desc := "([CIILjava/lang/Void;)V", sig := { parameters := [(.array .char), .int, .int, (.object "java/lang/Void")], returnType := none }, accessFlags := 2, code := some k7c7 }
def k7c8 : Code := { maxStack := 5, maxLocals := 5, code := jdk_42_method_150_code, exceptionTable := #[], attributes := #[] }
def k7m8 : Method := { name := "<init>", desc := "(Ljava/lang/AbstractStringBuilder;Ljava/lang/Void;)V", sig := { parameters := [(.object "java/lang/AbstractStringBuilder"), (.object "java/lang/Void")], returnType := none }, accessFlags := 0, code := some k7c8 }
def k7c9 : Code := { maxStack := 1, maxLocals := 1, code := jdk_42_method_152_code, exceptionTable := #[], attributes := #[] }
def k7m9 : Method := { name := "coder", desc := "()B", sig := { parameters := [], returnType := some .byte }, accessFlags := 0, code := some k7c9 }
def k7c10 : Code := { maxStack := 1, maxLocals := 1, code := jdk_42_method_154_code, exceptionTable := #[], attributes := #[] }
def k7m10 : Method := { name := "isLatin1", desc := "()Z", sig := { parameters := [], returnType := some .boolean }, accessFlags := 0, code := some k7c10 }
def k7c11 : Code := { maxStack := 3, maxLocals := 2, code := jdk_42_method_155_code, exceptionTable := #[], attributes := #[] }
def k7m11 : Method := { name := "checkIndex", desc := "(II)V", sig := { parameters := [.int, .int], returnType := none }, accessFlags := 8, code := some k7c11 }
/-- java/lang/String -/
def k7 : Class := { plain "java/lang/String" (some 0) with
  accessFlags := 49
  interfaces := #[2, 3, 4, 5, 6]
  cf := some (fileOf pool7 10 #[.nestMembers #[1103]] #[{ accessFlags := 1, nameIndex := 5, descriptorIndex := 6, attributes := #[] }, { accessFlags := 1, nameIndex := 5, descriptorIndex := 1010, attributes := #[] }, { accessFlags := 1, nameIndex := 5, descriptorIndex := 1233, attributes := #[] }, { accessFlags := 1, nameIndex := 507, descriptorIndex := 334, attributes := #[] }, { accessFlags := 1, nameIndex := 497, descriptorIndex := 427, attributes := #[] }, { accessFlags := 1, nameIndex := 635, descriptorIndex := 765, attributes := #[] }, { accessFlags := 1, nameIndex := 635, descriptorIndex := 636, attributes := #[] }, { accessFlags := 2, nameIndex := 5, descriptorIndex := 29, attributes := #[] }, { accessFlags := 0, nameIndex := 5, descriptorIndex := 491, attributes := #[] }, { accessFlags := 0, nameIndex := 17, descriptorIndex := 337, attributes := #[] }, { accessFlags := 0, nameIndex := 494, descriptorIndex := 142, attributes := #[] }, { accessFlags := 8, nameIndex := 501, descriptorIndex := 391, attributes := #[] }] 49 2 #[1106, 1108, 575, 1110, 1112] #[{ accessFlags := 18, nameIndex := 13, descriptorIndex := 14, attributes := #[] }, { accessFlags := 18, nameIndex := 17, descriptorIndex := 18, attributes := #[] }, { accessFlags := 2, nameIndex := 21, descriptorIndex := 22, attributes := #[] }, { accessFlags := 2, nameIndex := 25, descriptorIndex := 26, attributes := #[] }, { accessFlags := 26, nameIndex := 1116, descriptorIndex := 1117, attributes := #[] }, { accessFlags := 24, nameIndex := 40, descriptorIndex := 26, attributes := #[] }, { accessFlags := 26, nameIndex := 1101, descriptorIndex := 1102, attributes := #[] }, { accessFlags := 26, nameIndex := 1121, descriptorIndex := 1122, attributes := #[] }, { accessFlags := 25, nameIndex := 599, descriptorIndex := 600, attributes := #[] }, { accessFlags := 24, nameIndex := 1125, descriptorIndex := 18, attributes := #[] }, { accessFlags := 24, nameIndex := 1127, descriptorIndex := 18, attributes := #[] }])
  fields := #[{ name := "value", type := (.array .byte), accessFlags := 18, slot := 0, constantValue := 0 }, { name := "coder", type := .byte, accessFlags := 18, slot := 1, constantValue := 0 }, { name := "hash", type := .int, accessFlags := 2, slot := 2, constantValue := 0 }, { name := "hashIsZero", type := .boolean, accessFlags := 2, slot := 3, constantValue := 0 }, { name := "serialVersionUID", type := .long, accessFlags := 26, slot := 0, constantValue := 0 }, { name := "COMPACT_STRINGS", type := .boolean, accessFlags := 24, slot := 1, constantValue := 0 }, { name := "serialPersistentFields", type := (.array (.object "java/io/ObjectStreamField")), accessFlags := 26, slot := 2, constantValue := 0 }, { name := "REPL", type := .char, accessFlags := 26, slot := 3, constantValue := 0 }, { name := "CASE_INSENSITIVE_ORDER", type := (.object "java/util/Comparator"), accessFlags := 25, slot := 4, constantValue := 0 }, { name := "LATIN1", type := .byte, accessFlags := 24, slot := 5, constantValue := 0 }, { name := "UTF16", type := .byte, accessFlags := 24, slot := 6, constantValue := 0 }]
  methods := #[k7m0, k7m1, k7m2, k7m3, k7m4, k7m5, k7m6, k7m7, k7m8, k7m9, k7m10, k7m11]
  instanceTypes := #[(.array .byte), .byte, .int, .boolean]
  staticTypes := #[.long, .boolean, (.array (.object "java/io/ObjectStreamField")), .char, (.object "java/util/Comparator"), .byte, .byte]
  resolved := Array.replicate 1451 none
  statics := some 0 }

def pool8 : Array CpInfo := pool [(2, .class_ 4), (1, u "java/lang/Object"), (0, u "<init>"), (0, u "()V"), (0, .class_ 8), (0, u "java/lang/StringBuilder"), (0, .methodref 10 11), (0, .class_ 12), (0, .nameAndType 13 14), (0, u "java/lang/String"), (0, u "length"), (0, u "()I"), (0, .methodref 7 16), (0, .nameAndType 5 17), (0, u "(I)V"), (1, .class_ 21), (1, u "com/example/proviso/proviso/MessageTemplate"), (18, .class_ 41), (0, u "com/example/proviso/proviso/MessageTemplate$Parameter"), (3, u "Ljava/lang/String;"), (12, u "append"), (7, .methodref 7 67), (0, .nameAndType 68 69), (0, u "toString"), (0, u "()Ljava/lang/String;"), (3, .methodref 10 74), (0, .nameAndType 75 76), (0, u "charAt"), (0, u "(I)C"), (15, .string 93), (0, u "{}$\\"), (0, .methodref 10 95), (0, .nameAndType 96 97), (0, u "indexOf"), (0, u "(I)I"), (0, .methodref 7 99), (0, .nameAndType 58 100), (0, u "(C)Ljava/lang/StringBuilder;"), (0, .class_ 102), (0, u "com/example/proviso/proviso/MessageTemplate$1"), (10, .class_ 114), (0, u "com/example/proviso/proviso/MessageTemplate$2"), (15, .class_ 131), (0, u "com/example/proviso/proviso/MessageTemplate$Parsed"), (13, .class_ 147), (1, u "com/example/proviso/proviso/MessageTemplate$Reading"), (6, u "ESCAPE"), (0, u "C"), (2, u "ESCAPED"), (0, u "EXPRESSION_START"), (8, u "escape"), (0, u "(Ljava/lang/String;)Ljava/lang/String;")] 10

def k8m0 : Method := { name := "<init>", desc := "()V", sig := { parameters := [], returnType := none }, accessFlags := 2, code := none }
def k8c1 : Code := { maxStack := 4, maxLocals := 4, code := prog_12_method_4_code, exceptionTable := #[], attributes := #[] }
def k8m1 : Method := { name := "escape", desc := "(Ljava/lang/String;)Ljava/lang/String;", sig := { parameters := [(.object "java/lang/String")], returnType := some (.object "java/lang/String") }, accessFlags := 8, code := some k8c1 }
/-- com/example/proviso/proviso/MessageTemplate -/
def k8 : Class := { plain "com/example/proviso/proviso/MessageTemplate" (some 0) with
  accessFlags := 48
  interfaces := #[]
  cf := some (fileOf pool8 19 #[.nestMembers #[40, 130, 145, 113, 101]] #[{ accessFlags := 2, nameIndex := 5, descriptorIndex := 6, attributes := #[] }, { accessFlags := 8, nameIndex := 168, descriptorIndex := 169, attributes := #[] }] 48 2 #[] #[{ accessFlags := 26, nameIndex := 154, descriptorIndex := 155, attributes := #[] }, { accessFlags := 26, nameIndex := 158, descriptorIndex := 45, attributes := #[] }, { accessFlags := 26, nameIndex := 159, descriptorIndex := 45, attributes := #[] }])
  fields := #[{ name := "ESCAPE", type := .char, accessFlags := 26, slot := 0, constantValue := 0 }, { name := "ESCAPED", type := (.object "java/lang/String"), accessFlags := 26, slot := 1, constantValue := 0 }, { name := "EXPRESSION_START", type := (.object "java/lang/String"), accessFlags := 26, slot := 2, constantValue := 0 }]
  methods := #[k8m0, k8m1]
  instanceTypes := #[]
  staticTypes := #[.char, (.object "java/lang/String"), (.object "java/lang/String")]
  resolved := Array.replicate 180 none
  statics := none }

def pool9 : Array CpInfo := pool [(1, .class_ 2), (0, u "java/lang/Appendable"), (0, .class_ 4), (0, u "java/lang/Object")] 9

/-- java/lang/Appendable -/
def k9 : Class := { plain "java/lang/Appendable" (some 0) with
  accessFlags := 1537
  interfaces := #[]
  cf := some (fileOf pool9 1 #[] #[] 1537 3 #[] #[])
  fields := #[]
  methods := #[]
  instanceTypes := #[]
  staticTypes := #[]
  resolved := Array.replicate 14 none
  statics := none }

def pool10 : Array CpInfo := pool [(1, .class_ 2), (0, u "java/lang/String"), (0, .methodref 4 5), (0, .class_ 6), (0, .nameAndType 7 8), (0, u "java/lang/Object"), (0, u "<init>"), (0, u "()V"), (1, .class_ 12), (1, u "java/lang/AbstractStringBuilder"), (0, u "EMPTYVALUE"), (0, u "[B"), (0, .fieldref 10 16), (0, .nameAndType 17 14), (0, u "value"), (0, .fieldref 1 19), (0, .nameAndType 20 21), (0, u "COMPACT_STRINGS"), (0, u "Z"), (0, .fieldref 10 23), (0, .nameAndType 24 25), (0, u "coder"), (0, u "B"), (8, u "length"), (0, u "()I"), (9, u "append"), (2, .class_ 49), (0, u "java/lang/CharSequence"), (25, u "maybeLatin1"), (3, .fieldref 10 80), (0, .nameAndType 81 82), (0, u "count"), (0, u "I"), (0, .methodref 10 84), (0, .nameAndType 85 86), (0, u "isLatin1"), (0, u "()Z"), (1, .class_ 90), (1, u "java/lang/StringLatin1"), (9, .methodref 10 101), (0, .nameAndType 102 103), (0, u "ensureCapacityInternal"), (0, u "(I)V"), (87, .methodref 88 192), (0, .nameAndType 193 194), (0, u "canEncode"), (0, u "(C)Z"), (97, u "(C)Ljava/lang/AbstractStringBuilder;"), (110, u "()[B"), (40, .class_ 445), (0, u "java/lang/Appendable"), (106, u "getValue")] 56

def k10m0 : Method := { name := "<init>", desc := "()V", sig := { parameters := [], returnType := none }, accessFlags := 0, code := none }
def k10c1 : Code := { maxStack := 2, maxLocals := 2, code := jdk_68_method_2_code, exceptionTable := #[], attributes := #[] }
def k10m1 : Method := { name := "<init>", desc := "(I)V", sig := { parameters := [.int], returnType := none }, accessFlags := 0, code := some k10c1 }
def k10c2 : Code := { maxStack := 1, maxLocals := 1, code := jdk_68_method_6_code, exceptionTable := #[], attributes := #[] }
def k10m2 : Method := { name := "length", desc := "()I", sig := { parameters := [], returnType := some .int }, accessFlags := 1, code := some k10c2 }
def k10c3 : Code := { maxStack := 4, maxLocals := 3, code := jdk_68_method_9_code, exceptionTable := #[], attributes := #[] }
def k10m3 : Method := { name := "ensureCapacityInternal", desc := "(I)V", sig := { parameters := [.int], returnType := none }, accessFlags := 2, code := some k10c3 }
def k10c4 : Code := { maxStack := 5, maxLocals := 2, code := jdk_68_method_31_code, exceptionTable := #[], attributes := #[] }
def k10m4 : Method := { name := "append", desc := "(C)Ljava/lang/AbstractStringBuilder;", sig := { parameters := [.char], returnType := some (.object "java/lang/AbstractStringBuilder") }, accessFlags := 1, code := some k10c4 }
def k10c5 : Code := { maxStack := 1, maxLocals := 1, code := jdk_68_method_64_code, exceptionTable := #[], attributes := #[] }
def k10m5 : Method := { name := "getValue", desc := "()[B", sig := { parameters := [], returnType := some (.array .byte) }, accessFlags := 16, code := some k10c5 }
def k10c6 : Code := { maxStack := 1, maxLocals := 1, code := jdk_68_method_68_code, exceptionTable := #[], attributes := #[] }
def k10m6 : Method := { name := "isLatin1", desc := "()Z", sig := { parameters := [], returnType := some .boolean }, accessFlags := 16, code := some k10c6 }
/-- java/lang/AbstractStringBuilder -/
def k10 : Class := { plain "java/lang/AbstractStringBuilder" (some 0) with
  accessFlags := 1056
  interfaces := #[9, 4]
  cf := some (fileOf pool10 10 #[] #[{ accessFlags := 0, nameIndex := 7, descriptorIndex := 8, attributes := #[] }, { accessFlags := 0, nameIndex := 7, descriptorIndex := 103, attributes := #[] }, { accessFlags := 1, nameIndex := 34, descriptorIndex := 35, attributes := #[] }, { accessFlags := 2, nameIndex := 102, descriptorIndex := 103, attributes := #[] }, { accessFlags := 1, nameIndex := 45, descriptorIndex := 292, attributes := #[] }, { accessFlags := 16, nameIndex := 552, descriptorIndex := 403, attributes := #[] }, { accessFlags := 16, nameIndex := 85, descriptorIndex := 86, attributes := #[] }] 1056 4 #[444, 48] #[{ accessFlags := 0, nameIndex := 17, descriptorIndex := 14, attributes := #[] }, { accessFlags := 0, nameIndex := 24, descriptorIndex := 25, attributes := #[] }, { accessFlags := 0, nameIndex := 75, descriptorIndex := 21, attributes := #[] }, { accessFlags := 0, nameIndex := 81, descriptorIndex := 82, attributes := #[] }, { accessFlags := 26, nameIndex := 13, descriptorIndex := 14, attributes := #[] }])
  fields := #[{ name := "value", type := (.array .byte), accessFlags := 0, slot := 0, constantValue := 0 }, { name := "coder", type := .byte, accessFlags := 0, slot := 1, constantValue := 0 }, { name := "maybeLatin1", type := .boolean, accessFlags := 0, slot := 2, constantValue := 0 }, { name := "count", type := .int, accessFlags := 0, slot := 3, constantValue := 0 }, { name := "EMPTYVALUE", type := (.array .byte), accessFlags := 26, slot := 0, constantValue := 0 }]
  methods := #[k10m0, k10m1, k10m2, k10m3, k10m4, k10m5, k10m6]
  instanceTypes := #[(.array .byte), .byte, .boolean, .int]
  staticTypes := #[(.array .byte)]
  resolved := Array.replicate 609 none
  statics := none }

def pool11 : Array CpInfo := pool [(1, .methodref 2 3), (0, .class_ 4), (0, .nameAndType 5 6), (0, u "java/lang/AbstractStringBuilder"), (0, u "<init>"), (0, u "(I)V"), (11, .class_ 20), (1, u "java/lang/String"), (3, .class_ 26), (1, u "java/lang/StringBuilder"), (0, u "append"), (22, .methodref 2 51), (0, .nameAndType 27 52), (0, u "(C)Ljava/lang/AbstractStringBuilder;"), (84, .methodref 18 138), (0, .nameAndType 5 139), (0, u "(Ljava/lang/StringBuilder;)V"), (5, u "()V"), (10, u "()I"), (129, u "(C)Ljava/lang/StringBuilder;"), (56, .methodref 2 344), (0, .nameAndType 345 156), (0, u "length"), (3, .class_ 350), (0, u "java/lang/Appendable"), (0, .class_ 352), (0, u "java/io/Serializable"), (0, .class_ 354), (0, u "java/lang/Comparable"), (0, .class_ 356), (0, u "java/lang/CharSequence"), (0, u "serialVersionUID"), (0, u "J"), (40, u "toString"), (0, u "()Ljava/lang/String;")] 21

def k11m0 : Method := { name := "<init>", desc := "()V", sig := { parameters := [], returnType := none }, accessFlags := 1, code := none }
def k11c1 : Code := { maxStack := 2, maxLocals := 2, code := jdk_67_method_2_code, exceptionTable := #[], attributes := #[] }
def k11m1 : Method := { name := "<init>", desc := "(I)V", sig := { parameters := [.int], returnType := none }, accessFlags := 1, code := some k11c1 }
def k11c2 : Code := { maxStack := 2, maxLocals := 2, code := jdk_67_method_14_code, exceptionTable := #[], attributes := #[] }
def k11m2 : Method := { name := "append", desc := "(C)Ljava/lang/StringBuilder;", sig := { parameters := [.char], returnType := some (.object "java/lang/StringBuilder") }, accessFlags := 1, code := some k11c2 }
def k11c3 : Code := { maxStack := 3, maxLocals := 1, code := jdk_67_method_42_code, exceptionTable := #[], attributes := #[] }
def k11m3 : Method := { name := "toString", desc := "()Ljava/lang/String;", sig := { parameters := [], returnType := some (.object "java/lang/String") }, accessFlags := 1, code := some k11c3 }
def k11c4 : Code := { maxStack := 1, maxLocals := 1, code := jdk_67_method_93_code, exceptionTable := #[], attributes := #[] }
def k11m4 : Method := { name := "length", desc := "()I", sig := { parameters := [], returnType := some .int }, accessFlags := 4161, code := some k11c4 }
/-- java/lang/StringBuilder -/
def k11 : Class := { plain "java/lang/StringBuilder" (some 10) with
  accessFlags := 49
  interfaces := #[9, 2, 3, 4]
  cf := some (fileOf pool11 24 #[] #[{ accessFlags := 1, nameIndex := 5, descriptorIndex := 145, attributes := #[] }, { accessFlags := 1, nameIndex := 5, descriptorIndex := 6, attributes := #[] }, { accessFlags := 1, nameIndex := 27, descriptorIndex := 286, attributes := #[] }, { accessFlags := 1, nameIndex := 399, descriptorIndex := 400, attributes := #[] }, { accessFlags := 4161, nameIndex := 345, descriptorIndex := 156, attributes := #[] }] 49 2 #[349, 351, 353, 355] #[{ accessFlags := 24, nameIndex := 357, descriptorIndex := 358, attributes := #[] }])
  fields := #[{ name := "serialVersionUID", type := .long, accessFlags := 24, slot := 0, constantValue := 0 }]
  methods := #[k11m0, k11m1, k11m2, k11m3, k11m4]
  instanceTypes := #[(.array .byte), .byte, .boolean, .int]
  staticTypes := #[.long]
  resolved := Array.replicate 422 none
  statics := none }

def pool12 : Array CpInfo := pool [(2, .class_ 4), (1, u "java/lang/Object"), (0, u "<init>"), (0, u "()V"), (7, .class_ 16), (1, u "java/util/Arrays"), (57, .class_ 76), (1, u "java/util/Arrays$NaturalOrder"), (36, .class_ 115), (1, u "java/util/Arrays$LegacyMergeSort"), (1, u "Z"), (21, u "copyOfRange"), (10, .methodref 151 152), (0, .class_ 153), (0, .nameAndType 154 155), (0, u "java/lang/System"), (0, u "arraycopy"), (0, u "(Ljava/lang/Object;ILjava/lang/Object;II)V"), (148, .methodref 305 306), (0, .class_ 307), (0, .nameAndType 308 309), (0, u "java/lang/Math"), (0, u "min"), (0, u "(II)I"), (29, .methodref 14 340), (0, .nameAndType 341 342), (0, u "copyOfRangeByte"), (0, u "([BII)[B"), (0, .methodref 14 344), (0, .nameAndType 345 346), (0, u "checkLength"), (0, u "(II)V"), (28, .class_ 376), (0, u "java/util/Arrays$ArrayList"), (68, u "$assertionsDisabled"), (269, u "MIN_ARRAY_SORT_GRAN"), (0, u "I"), (2, u "INSERTIONSORT_THRESHOLD"), (255, .class_ 976), (0, u "java/util/Arrays$ArrayItr")] 52

def k12m0 : Method := { name := "<init>", desc := "()V", sig := { parameters := [], returnType := none }, accessFlags := 2, code := none }
def k12c1 : Code := { maxStack := 4, maxLocals := 2, code := jdk_65_method_131_code, exceptionTable := #[], attributes := #[] }
def k12m1 : Method := { name := "checkLength", desc := "(II)V", sig := { parameters := [.int, .int], returnType := none }, accessFlags := 10, code := some k12c1 }
def k12c2 : Code := { maxStack := 3, maxLocals := 3, code := jdk_65_method_132_code, exceptionTable := #[], attributes := #[] }
def k12m2 : Method := { name := "copyOfRange", desc := "([BII)[B", sig := { parameters := [(.array .byte), .int, .int], returnType := some (.array .byte) }, accessFlags := 9, code := some k12c2 }
def k12c3 : Code := { maxStack := 6, maxLocals := 5, code := jdk_65_method_133_code, exceptionTable := #[], attributes := #[] }
def k12m3 : Method := { name := "copyOfRangeByte", desc := "([BII)[B", sig := { parameters := [(.array .byte), .int, .int], returnType := some (.array .byte) }, accessFlags := 10, code := some k12c3 }
/-- java/util/Arrays -/
def k12 : Class := { plain "java/util/Arrays" (some 0) with
  accessFlags := 49
  interfaces := #[]
  cf := some (fileOf pool12 14 #[.nestMembers #[975, 375, 113, 74]] #[{ accessFlags := 2, nameIndex := 5, descriptorIndex := 6, attributes := #[] }, { accessFlags := 10, nameIndex := 345, descriptorIndex := 346, attributes := #[] }, { accessFlags := 9, nameIndex := 139, descriptorIndex := 342, attributes := #[] }, { accessFlags := 10, nameIndex := 341, descriptorIndex := 342, attributes := #[] }] 49 2 #[] #[{ accessFlags := 26, nameIndex := 715, descriptorIndex := 716, attributes := #[] }, { accessFlags := 26, nameIndex := 719, descriptorIndex := 716, attributes := #[] }, { accessFlags := 4120, nameIndex := 445, descriptorIndex := 117, attributes := #[] }])
  fields := #[{ name := "MIN_ARRAY_SORT_GRAN", type := .int, accessFlags := 26, slot := 0, constantValue := 0 }, { name := "INSERTIONSORT_THRESHOLD", type := .int, accessFlags := 26, slot := 1, constantValue := 0 }, { name := "$assertionsDisabled", type := .boolean, accessFlags := 4120, slot := 2, constantValue := 0 }]
  methods := #[k12m0, k12m1, k12m2, k12m3]
  instanceTypes := #[]
  staticTypes := #[.int, .int, .boolean]
  resolved := Array.replicate 1029 none
  statics := none }

def pool13 : Array CpInfo := pool [(1, .class_ 2), (0, u "java/lang/Math"), (1, .class_ 6), (1, u "java/lang/Object"), (0, u "<init>"), (0, u "()V"), (89, .class_ 100), (1, u "java/lang/Math$RandomNumberGeneratorHolder"), (71, u "negativeZeroFloatBits"), (0, u "J"), (2, u "negativeZeroDoubleBits"), (21, u "max"), (2, u "min"), (43, u "$assertionsDisabled"), (0, u "Z"), (88, u "(II)I"), (2, u "twoToTheDoubleScaleDown"), (0, u "D"), (4, u "twoToTheDoubleScaleUp"), (9, u "E"), (3, u "PI"), (2, u "TAU"), (2, u "DEGREES_TO_RADIANS"), (0, u "RADIANS_TO_DEGREES")] 94

def k13m0 : Method := { name := "<init>", desc := "()V", sig := { parameters := [], returnType := none }, accessFlags := 2, code := none }
def k13c1 : Code := { maxStack := 2, maxLocals := 2, code := jdk_29_method_65_code, exceptionTable := #[], attributes := #[] }
def k13m1 : Method := { name := "max", desc := "(II)I", sig := { parameters := [.int, .int], returnType := some .int }, accessFlags := 9, code := some k13c1 }
def k13c2 : Code := { maxStack := 2, maxLocals := 2, code := jdk_29_method_69_code, exceptionTable := #[], attributes := #[] }
def k13m2 : Method := { name := "min", desc := "(II)I", sig := { parameters := [.int, .int], returnType := some .int }, accessFlags := 9, code := some k13c2 }
/-- java/lang/Math -/
def k13 : Class := { plain "java/lang/Math" (some 0) with
  accessFlags := 49
  interfaces := #[]
  cf := some (fileOf pool13 1 #[.nestMembers #[98]] #[{ accessFlags := 2, nameIndex := 7, descriptorIndex := 8, attributes := #[] }, { accessFlags := 9, nameIndex := 198, descriptorIndex := 335, attributes := #[] }, { accessFlags := 9, nameIndex := 201, descriptorIndex := 335, attributes := #[] }] 49 4 #[] #[{ accessFlags := 25, nameIndex := 354, descriptorIndex := 339, attributes := #[] }, { accessFlags := 25, nameIndex := 358, descriptorIndex := 339, attributes := #[] }, { accessFlags := 25, nameIndex := 361, descriptorIndex := 339, attributes := #[] }, { accessFlags := 26, nameIndex := 364, descriptorIndex := 339, attributes := #[] }, { accessFlags := 26, nameIndex := 365, descriptorIndex := 339, attributes := #[] }, { accessFlags := 26, nameIndex := 172, descriptorIndex := 173, attributes := #[] }, { accessFlags := 26, nameIndex := 176, descriptorIndex := 173, attributes := #[] }, { accessFlags := 8, nameIndex := 344, descriptorIndex := 339, attributes := #[] }, { accessFlags := 8, nameIndex := 338, descriptorIndex := 339, attributes := #[] }, { accessFlags := 4120, nameIndex := 245, descriptorIndex := 246, attributes := #[] }])
  fields := #[{ name := "E", type := .double, accessFlags := 25, slot := 0, constantValue := 0 }, { name := "PI", type := .double, accessFlags := 25, slot := 1, constantValue := 0 }, { name := "TAU", type := .double, accessFlags := 25, slot := 2, constantValue := 0 }, { name := "DEGREES_TO_RADIANS", type := .double, accessFlags := 26, slot := 3, constantValue := 0 }, { name := "RADIANS_TO_DEGREES", type := .double, accessFlags := 26, slot := 4, constantValue := 0 }, { name := "negativeZeroFloatBits", type := .long, accessFlags := 26, slot := 5, constantValue := 0 }, { name := "negativeZeroDoubleBits", type := .long, accessFlags := 26, slot := 6, constantValue := 0 }, { name := "twoToTheDoubleScaleUp", type := .double, accessFlags := 8, slot := 7, constantValue := 0 }, { name := "twoToTheDoubleScaleDown", type := .double, accessFlags := 8, slot := 8, constantValue := 0 }, { name := "$assertionsDisabled", type := .boolean, accessFlags := 4120, slot := 9, constantValue := 0 }]
  methods := #[k13m0, k13m1, k13m2]
  instanceTypes := #[]
  staticTypes := #[.double, .double, .double, .double, .double, .long, .long, .double, .double, .boolean]
  resolved := Array.replicate 460 none
  statics := none }

def pool14 : Array CpInfo := pool [(2, .class_ 4), (1, u "java/lang/Object"), (0, u "<init>"), (0, u "()V"), (1, .class_ 10), (1, u "java/lang/System"), (0, u "allowSecurityManager"), (0, u "I"), (16, u "cons"), (0, u "Ljava/io/Console;"), (77, .class_ 110), (1, u "java/lang/System$CallersHolder"), (43, u "initialErrStream"), (0, u "Ljava/io/PrintStream;"), (19, u "security"), (0, u "Ljava/lang/SecurityManager;"), (31, .class_ 209), (0, u "java/lang/System$1"), (7, u "props"), (0, u "Ljava/util/Properties;"), (2, u "lineSeparator"), (0, u "Ljava/lang/String;"), (96, .class_ 321), (1, u "java/lang/System$LoggerFinder"), (5, .class_ 328), (0, u "java/lang/System$Logger"), (67, u "err"), (2, u "out"), (91, u "notSupportedJnuEncoding"), (15, u "in"), (17, u "initialIn"), (0, u "Ljava/io/InputStream;"), (35, u "bootLayer"), (0, u "Ljava/lang/ModuleLayer;"), (99, .class_ 664), (0, u "java/lang/System$2"), (9, u "NEVER"), (2, u "MAYBE"), (49, u "arraycopy"), (0, u "(Ljava/lang/Object;ILjava/lang/Object;II)V"), (72, .class_ 802), (0, u "java/lang/System$Logger$Level")] 31

def k14m0 : Method := { name := "<init>", desc := "()V", sig := { parameters := [], returnType := none }, accessFlags := 2, code := none }
def k14m1 : Method := { name := "arraycopy", desc := "(Ljava/lang/Object;ILjava/lang/Object;II)V", sig := { parameters := [(.object "java/lang/Object"), .int, (.object "java/lang/Object"), .int, .int], returnType := none }, accessFlags := 265, code := none }
/-- java/lang/System -/
def k14 : Class := { plain "java/lang/System" (some 0) with
  accessFlags := 49
  interfaces := #[]
  cf := some (fileOf pool14 8 #[.nestMembers #[319, 327, 801, 108, 663, 208]] #[{ accessFlags := 2, nameIndex := 5, descriptorIndex := 6, attributes := #[] }, { accessFlags := 265, nameIndex := 727, descriptorIndex := 728, attributes := #[] }] 49 2 #[] #[{ accessFlags := 25, nameIndex := 507, descriptorIndex := 526, attributes := #[] }, { accessFlags := 25, nameIndex := 399, descriptorIndex := 155, attributes := #[] }, { accessFlags := 25, nameIndex := 396, descriptorIndex := 155, attributes := #[] }, { accessFlags := 10, nameIndex := 525, descriptorIndex := 526, attributes := #[] }, { accessFlags := 26, nameIndex := 674, descriptorIndex := 12, attributes := #[] }, { accessFlags := 26, nameIndex := 677, descriptorIndex := 12, attributes := #[] }, { accessFlags := 10, nameIndex := 11, descriptorIndex := 12, attributes := #[] }, { accessFlags := 74, nameIndex := 175, descriptorIndex := 176, attributes := #[] }, { accessFlags := 10, nameIndex := 491, descriptorIndex := 222, attributes := #[] }, { accessFlags := 74, nameIndex := 29, descriptorIndex := 30, attributes := #[] }, { accessFlags := 74, nameIndex := 154, descriptorIndex := 155, attributes := #[] }, { accessFlags := 10, nameIndex := 217, descriptorIndex := 218, attributes := #[] }, { accessFlags := 10, nameIndex := 221, descriptorIndex := 222, attributes := #[] }, { accessFlags := 8, nameIndex := 562, descriptorIndex := 563, attributes := #[] }])
  fields := #[{ name := "in", type := (.object "java/io/InputStream"), accessFlags := 25, slot := 0, constantValue := 0 }, { name := "out", type := (.object "java/io/PrintStream"), accessFlags := 25, slot := 1, constantValue := 0 }, { name := "err", type := (.object "java/io/PrintStream"), accessFlags := 25, slot := 2, constantValue := 0 }, { name := "initialIn", type := (.object "java/io/InputStream"), accessFlags := 10, slot := 3, constantValue := 0 }, { name := "NEVER", type := .int, accessFlags := 26, slot := 4, constantValue := 0 }, { name := "MAYBE", type := .int, accessFlags := 26, slot := 5, constantValue := 0 }, { name := "allowSecurityManager", type := .int, accessFlags := 10, slot := 6, constantValue := 0 }, { name := "security", type := (.object "java/lang/SecurityManager"), accessFlags := 74, slot := 7, constantValue := 0 }, { name := "notSupportedJnuEncoding", type := (.object "java/lang/String"), accessFlags := 10, slot := 8, constantValue := 0 }, { name := "cons", type := (.object "java/io/Console"), accessFlags := 74, slot := 9, constantValue := 0 }, { name := "initialErrStream", type := (.object "java/io/PrintStream"), accessFlags := 74, slot := 10, constantValue := 0 }, { name := "props", type := (.object "java/util/Properties"), accessFlags := 10, slot := 11, constantValue := 0 }, { name := "lineSeparator", type := (.object "java/lang/String"), accessFlags := 10, slot := 12, constantValue := 0 }, { name := "bootLayer", type := (.object "java/lang/ModuleLayer"), accessFlags := 8, slot := 13, constantValue := 0 }]
  methods := #[k14m0, k14m1]
  instanceTypes := #[]
  staticTypes := #[(.object "java/io/InputStream"), (.object "java/io/PrintStream"), (.object "java/io/PrintStream"), (.object "java/io/InputStream"), .int, .int, .int, (.object "java/lang/SecurityManager"), (.object "java/lang/String"), (.object "java/io/Console"), (.object "java/io/PrintStream"), (.object "java/util/Properties"), (.object "java/lang/String"), (.object "java/lang/ModuleLayer")]
  resolved := Array.replicate 834 none
  statics := none }

def pool15 : Array CpInfo := pool [(6, .class_ 8), (1, u "java/lang/Object"), (0, u "<init>"), (0, u "()V"), (1, .class_ 14), (1, u "java/lang/StringUTF16"), (31, u "$assertionsDisabled"), (0, u "Z"), (13, u "HI_BYTE_SHIFT"), (0, u "I"), (2, u "LO_BYTE_SHIFT"), (49, .methodref 12 116), (0, .nameAndType 117 118), (0, u "compress"), (0, u "([CI[BII)I"), (3, u "([CII)[B"), (138, u "coderFromArrayLen"), (0, u "([BI)B"), (106, .class_ 371), (1, u "java/lang/StringUTF16$LinesSpliterator"), (58, u "MAX_LENGTH"), (196, .class_ 628), (0, u "java/lang/StringUTF16$CodePointsSpliterator"), (0, .class_ 630), (0, u "java/lang/StringUTF16$CharsSpliterator")] 4

def k15m0 : Method := { name := "<init>", desc := "()V", sig := { parameters := [], returnType := none }, accessFlags := 0, code := none }
def k15c1 : Code := { maxStack := 2, maxLocals := 2, code := jdk_52_method_15_code, exceptionTable := #[], attributes := #[] }
def k15m1 : Method := { name := "coderFromArrayLen", desc := "([BI)B", sig := { parameters := [(.array .byte), .int], returnType := some .byte }, accessFlags := 8, code := some k15c1 }
def k15c2 : Code := { maxStack := 5, maxLocals := 6, code := jdk_52_method_16_code, exceptionTable := #[], attributes := #[] }
def k15m2 : Method := { name := "compress", desc := "([CII)[B", sig := { parameters := [(.array .char), .int, .int], returnType := some (.array .byte) }, accessFlags := 9, code := some k15c2 }
def k15c3 : Code := { maxStack := 3, maxLocals := 7, code := jdk_52_method_21_code, exceptionTable := #[], attributes := #[] }
def k15m3 : Method := { name := "compress", desc := "([CI[BII)I", sig := { parameters := [(.array .char), .int, (.array .byte), .int, .int], returnType := some .int }, accessFlags := 9, code := some k15c3 }
/-- java/lang/StringUTF16 -/
def k15 : Class := { plain "java/lang/StringUTF16" (some 0) with
  accessFlags := 48
  interfaces := #[]
  cf := some (fileOf pool15 12 #[.nestMembers #[627, 629, 369]] #[{ accessFlags := 0, nameIndex := 9, descriptorIndex := 10, attributes := #[] }, { accessFlags := 8, nameIndex := 261, descriptorIndex := 262, attributes := #[] }, { accessFlags := 9, nameIndex := 117, descriptorIndex := 122, attributes := #[] }, { accessFlags := 9, nameIndex := 117, descriptorIndex := 118, attributes := #[] }] 48 6 #[] #[{ accessFlags := 26, nameIndex := 61, descriptorIndex := 62, attributes := #[] }, { accessFlags := 26, nameIndex := 65, descriptorIndex := 62, attributes := #[] }, { accessFlags := 24, nameIndex := 430, descriptorIndex := 62, attributes := #[] }, { accessFlags := 4120, nameIndex := 46, descriptorIndex := 47, attributes := #[] }])
  fields := #[{ name := "HI_BYTE_SHIFT", type := .int, accessFlags := 26, slot := 0, constantValue := 0 }, { name := "LO_BYTE_SHIFT", type := .int, accessFlags := 26, slot := 1, constantValue := 0 }, { name := "MAX_LENGTH", type := .int, accessFlags := 24, slot := 2, constantValue := 0 }, { name := "$assertionsDisabled", type := .boolean, accessFlags := 4120, slot := 3, constantValue := 0 }]
  methods := #[k15m0, k15m1, k15m2, k15m3]
  instanceTypes := #[]
  staticTypes := #[.int, .int, .int, .boolean]
  resolved := Array.replicate 635 none
  statics := none }

def pool16 : Array CpInfo := pool [(1, .class_ 2), (0, u "java/lang/String"), (1, .class_ 6), (1, u "java/lang/Object"), (0, u "<init>"), (0, u "()V"), (0, .methodref 1 10), (0, .nameAndType 11 12), (0, u "checkIndex"), (0, u "(II)V"), (1, .class_ 16), (1, u "java/lang/StringLatin1"), (21, .methodref 39 40), (0, .class_ 41), (0, .nameAndType 42 43), (0, u "java/lang/Math"), (0, u "min"), (0, u "(II)I"), (9, u "([BI)C"), (34, .methodref 14 89), (0, .nameAndType 90 91), (0, u "canEncode"), (0, u "(I)Z"), (0, .methodref 39 93), (0, .nameAndType 94 43), (0, u "max"), (0, .methodref 14 96), (0, .nameAndType 97 98), (0, u "indexOfChar"), (0, u "([BIII)I"), (2, u "indexOf"), (3, u "(C)Z"), (15, u "$assertionsDisabled"), (0, u "Z"), (98, .class_ 223), (1, u "java/lang/StringLatin1$LinesSpliterator"), (28, u "charAt"), (137, .class_ 391), (0, u "java/lang/StringLatin1$CharsSpliterator")] 3

def k16m0 : Method := { name := "<init>", desc := "()V", sig := { parameters := [], returnType := none }, accessFlags := 0, code := none }
def k16c1 : Code := { maxStack := 2, maxLocals := 2, code := jdk_43_method_2_code, exceptionTable := #[], attributes := #[] }
def k16m1 : Method := { name := "charAt", desc := "([BI)C", sig := { parameters := [(.array .byte), .int], returnType := some .char }, accessFlags := 9, code := some k16c1 }
def k16c2 : Code := { maxStack := 2, maxLocals := 1, code := jdk_43_method_3_code, exceptionTable := #[], attributes := #[] }
def k16m2 : Method := { name := "canEncode", desc := "(C)Z", sig := { parameters := [.char], returnType := some .boolean }, accessFlags := 9, code := some k16c2 }
def k16c3 : Code := { maxStack := 2, maxLocals := 1, code := jdk_43_method_4_code, exceptionTable := #[], attributes := #[] }
def k16m3 : Method := { name := "canEncode", desc := "(I)Z", sig := { parameters := [.int], returnType := some .boolean }, accessFlags := 9, code := some k16c3 }
def k16c4 : Code := { maxStack := 4, maxLocals := 4, code := jdk_43_method_22_code, exceptionTable := #[], attributes := #[] }
def k16m4 : Method := { name := "indexOf", desc := "([BIII)I", sig := { parameters := [(.array .byte), .int, .int, .int], returnType := some .int }, accessFlags := 9, code := some k16c4 }
def k16c5 : Code := { maxStack := 2, maxLocals := 6, code := jdk_43_method_23_code, exceptionTable := #[], attributes := #[] }
def k16m5 : Method := { name := "indexOfChar", desc := "([BIII)I", sig := { parameters := [(.array .byte), .int, .int, .int], returnType := some .int }, accessFlags := 10, code := some k16c5 }
/-- java/lang/StringLatin1 -/
def k16 : Class := { plain "java/lang/StringLatin1" (some 0) with
  accessFlags := 48
  interfaces := #[]
  cf := some (fileOf pool16 14 #[.nestMembers #[390, 221]] #[{ accessFlags := 0, nameIndex := 7, descriptorIndex := 8, attributes := #[] }, { accessFlags := 9, nameIndex := 252, descriptorIndex := 53, attributes := #[] }, { accessFlags := 9, nameIndex := 90, descriptorIndex := 105, attributes := #[] }, { accessFlags := 9, nameIndex := 90, descriptorIndex := 91, attributes := #[] }, { accessFlags := 9, nameIndex := 101, descriptorIndex := 98, attributes := #[] }, { accessFlags := 10, nameIndex := 97, descriptorIndex := 98, attributes := #[] }] 48 4 #[] #[{ accessFlags := 4120, nameIndex := 121, descriptorIndex := 122, attributes := #[] }])
  fields := #[{ name := "$assertionsDisabled", type := .boolean, accessFlags := 4120, slot := 0, constantValue := 0 }]
  methods := #[k16m0, k16m1, k16m2, k16m3, k16m4, k16m5]
  instanceTypes := #[]
  staticTypes := #[.boolean]
  resolved := Array.replicate 395 none
  statics := none }

def pool17 : Array CpInfo := pool [(2, .class_ 4), (1, u "java/lang/Object"), (0, u "<init>"), (0, u "()V"), (17, .class_ 26), (1, u "jdk/internal/util/Preconditions"), (6, u "checkIndex"), (21, .class_ 56), (0, u "jdk/internal/util/Preconditions$4"), (57, .class_ 115), (0, u "jdk/internal/util/Preconditions$1"), (7, u "SIOOBE_FORMATTER"), (0, u "Ljava/util/function/BiFunction;"), (0, .class_ 126), (0, u "jdk/internal/util/Preconditions$2"), (3, u "AIOOBE_FORMATTER"), (0, .class_ 132), (0, u "jdk/internal/util/Preconditions$3"), (3, u "IOOBE_FORMATTER"), (41, u "(IILjava/util/function/BiFunction;)I")] 15

def k17m0 : Method := { name := "<init>", desc := "()V", sig := { parameters := [], returnType := none }, accessFlags := 1, code := none }
def k17c1 : Code := { maxStack := 3, maxLocals := 3, code := jdk_41_method_11_code, exceptionTable := #[], attributes := #[] }
def k17m1 : Method := { name := "checkIndex", desc := "(IILjava/util/function/BiFunction;)I", sig := { parameters := [.int, .int, (.object "java/util/function/BiFunction")], returnType := some .int }, accessFlags := 9, code := some k17c1 }
/-- jdk/internal/util/Preconditions -/
def k17 : Class := { plain "jdk/internal/util/Preconditions" (some 0) with
  accessFlags := 33
  interfaces := #[]
  cf := some (fileOf pool17 24 #[.nestMembers #[55, 131, 125, 114]] #[{ accessFlags := 1, nameIndex := 5, descriptorIndex := 6, attributes := #[] }, { accessFlags := 9, nameIndex := 33, descriptorIndex := 178, attributes := #[] }] 33 2 #[] #[{ accessFlags := 25, nameIndex := 123, descriptorIndex := 124, attributes := #[] }, { accessFlags := 25, nameIndex := 130, descriptorIndex := 124, attributes := #[] }, { accessFlags := 25, nameIndex := 136, descriptorIndex := 124, attributes := #[] }])
  fields := #[{ name := "SIOOBE_FORMATTER", type := (.object "java/util/function/BiFunction"), accessFlags := 25, slot := 0, constantValue := 0 }, { name := "AIOOBE_FORMATTER", type := (.object "java/util/function/BiFunction"), accessFlags := 25, slot := 1, constantValue := 0 }, { name := "IOOBE_FORMATTER", type := (.object "java/util/function/BiFunction"), accessFlags := 25, slot := 2, constantValue := 0 }]
  methods := #[k17m0, k17m1]
  instanceTypes := #[]
  staticTypes := #[(.object "java/util/function/BiFunction"), (.object "java/util/function/BiFunction"), (.object "java/util/function/BiFunction")]
  resolved := Array.replicate 194 none
  statics := some 1 }

def pool18 : Array CpInfo := pool [(9, u "<init>"), (6, .class_ 18), (1, u "java/lang/Object"), (0, u "()V"), (1, .class_ 23), (1, u "jdk/internal/util/ArraysSupport"), (0, u "LOG2_ARRAY_LONG_INDEX_SCALE"), (0, u "I"), (2, u "U"), (0, u "Ljdk/internal/misc/Unsafe;"), (8, u "BIG_ENDIAN"), (0, u "Z"), (8, u "LOG2_BYTE_BIT_SIZE"), (4, u "LOG2_ARRAY_INT_INDEX_SCALE"), (54, u "JLA"), (0, u "Ljdk/internal/access/JavaLangAccess;"), (11, u "LOG2_ARRAY_BOOLEAN_INDEX_SCALE"), (9, u "LOG2_ARRAY_BYTE_INDEX_SCALE"), (5, u "LOG2_ARRAY_CHAR_INDEX_SCALE"), (5, u "LOG2_ARRAY_SHORT_INDEX_SCALE"), (18, u "LOG2_ARRAY_FLOAT_INDEX_SCALE"), (24, u "LOG2_ARRAY_DOUBLE_INDEX_SCALE"), (89, u "T_BOOLEAN"), (2, u "T_CHAR"), (1, u "T_FLOAT"), (1, u "T_DOUBLE"), (1, u "T_BYTE"), (1, u "T_SHORT"), (1, u "T_INT"), (1, u "T_LONG"), (1, u "SOFT_MAX_ARRAY_LENGTH")] 83

def k18m0 : Method := { name := "<init>", desc := "()V", sig := { parameters := [], returnType := none }, accessFlags := 2, code := none }
/-- jdk/internal/util/ArraysSupport -/
def k18 : Class := { plain "jdk/internal/util/ArraysSupport" (some 0) with
  accessFlags := 33
  interfaces := #[]
  cf := some (fileOf pool18 21 #[] #[{ accessFlags := 2, nameIndex := 9, descriptorIndex := 19, attributes := #[] }] 33 16 #[] #[{ accessFlags := 24, nameIndex := 28, descriptorIndex := 29, attributes := #[] }, { accessFlags := 26, nameIndex := 38, descriptorIndex := 39, attributes := #[] }, { accessFlags := 25, nameIndex := 121, descriptorIndex := 25, attributes := #[] }, { accessFlags := 25, nameIndex := 131, descriptorIndex := 25, attributes := #[] }, { accessFlags := 25, nameIndex := 137, descriptorIndex := 25, attributes := #[] }, { accessFlags := 25, nameIndex := 143, descriptorIndex := 25, attributes := #[] }, { accessFlags := 25, nameIndex := 53, descriptorIndex := 25, attributes := #[] }, { accessFlags := 25, nameIndex := 24, descriptorIndex := 25, attributes := #[] }, { accessFlags := 25, nameIndex := 162, descriptorIndex := 25, attributes := #[] }, { accessFlags := 25, nameIndex := 187, descriptorIndex := 25, attributes := #[] }, { accessFlags := 26, nameIndex := 48, descriptorIndex := 25, attributes := #[] }, { accessFlags := 25, nameIndex := 277, descriptorIndex := 25, attributes := #[] }, { accessFlags := 25, nameIndex := 280, descriptorIndex := 25, attributes := #[] }, { accessFlags := 25, nameIndex := 282, descriptorIndex := 25, attributes := #[] }, { accessFlags := 25, nameIndex := 284, descriptorIndex := 25, attributes := #[] }, { accessFlags := 25, nameIndex := 286, descriptorIndex := 25, attributes := #[] }, { accessFlags := 25, nameIndex := 288, descriptorIndex := 25, attributes := #[] }, { accessFlags := 25, nameIndex := 290, descriptorIndex := 25, attributes := #[] }, { accessFlags := 25, nameIndex := 292, descriptorIndex := 25, attributes := #[] }, { accessFlags := 26, nameIndex := 108, descriptorIndex := 109, attributes := #[] }, { accessFlags := 25, nameIndex := 294, descriptorIndex := 25, attributes := #[] }])
  fields := #[{ name := "U", type := (.object "jdk/internal/misc/Unsafe"), accessFlags := 24, slot := 0, constantValue := 0 }, { name := "BIG_ENDIAN", type := .boolean, accessFlags := 26, slot := 1, constantValue := 0 }, { name := "LOG2_ARRAY_BOOLEAN_INDEX_SCALE", type := .int, accessFlags := 25, slot := 2, constantValue := 0 }, { name := "LOG2_ARRAY_BYTE_INDEX_SCALE", type := .int, accessFlags := 25, slot := 3, constantValue := 0 }, { name := "LOG2_ARRAY_CHAR_INDEX_SCALE", type := .int, accessFlags := 25, slot := 4, constantValue := 0 }, { name := "LOG2_ARRAY_SHORT_INDEX_SCALE", type := .int, accessFlags := 25, slot := 5, constantValue := 0 }, { name := "LOG2_ARRAY_INT_INDEX_SCALE", type := .int, accessFlags := 25, slot := 6, constantValue := 0 }, { name := "LOG2_ARRAY_LONG_INDEX_SCALE", type := .int, accessFlags := 25, slot := 7, constantValue := 0 }, { name := "LOG2_ARRAY_FLOAT_INDEX_SCALE", type := .int, accessFlags := 25, slot := 8, constantValue := 0 }, { name := "LOG2_ARRAY_DOUBLE_INDEX_SCALE", type := .int, accessFlags := 25, slot := 9, constantValue := 0 }, { name := "LOG2_BYTE_BIT_SIZE", type := .int, accessFlags := 26, slot := 10, constantValue := 0 }, { name := "T_BOOLEAN", type := .int, accessFlags := 25, slot := 11, constantValue := 0 }, { name := "T_CHAR", type := .int, accessFlags := 25, slot := 12, constantValue := 0 }, { name := "T_FLOAT", type := .int, accessFlags := 25, slot := 13, constantValue := 0 }, { name := "T_DOUBLE", type := .int, accessFlags := 25, slot := 14, constantValue := 0 }, { name := "T_BYTE", type := .int, accessFlags := 25, slot := 15, constantValue := 0 }, { name := "T_SHORT", type := .int, accessFlags := 25, slot := 16, constantValue := 0 }, { name := "T_INT", type := .int, accessFlags := 25, slot := 17, constantValue := 0 }, { name := "T_LONG", type := .int, accessFlags := 25, slot := 18, constantValue := 0 }, { name := "JLA", type := (.object "jdk/internal/access/JavaLangAccess"), accessFlags := 26, slot := 19, constantValue := 0 }, { name := "SOFT_MAX_ARRAY_LENGTH", type := .int, accessFlags := 25, slot := 20, constantValue := 0 }]
  methods := #[k18m0]
  instanceTypes := #[]
  staticTypes := #[(.object "jdk/internal/misc/Unsafe"), .boolean, .int, .int, .int, .int, .int, .int, .int, .int, .int, .int, .int, .int, .int, .int, .int, .int, .int, (.object "jdk/internal/access/JavaLangAccess"), .int]
  resolved := Array.replicate 378 none
  statics := none }

def pool19 : Array CpInfo := pool [(1, u "java/lang/Cloneable"), (0, .class_ 1), (0, u "java/lang/Object"), (0, .class_ 3)] 3

/-- java/lang/Cloneable -/
def k19 : Class := { plain "java/lang/Cloneable" (some 0) with
  accessFlags := 1537
  interfaces := #[]
  cf := some (fileOf pool19 2 #[] #[] 1537 4 #[] #[])
  fields := #[]
  methods := #[]
  instanceTypes := #[]
  staticTypes := #[]
  resolved := Array.replicate 8 none
  statics := none }

/-- the primitive byte -/
def k20 : Class := { plain "byte" none with kind := .primitive 'B', accessFlags := 0x411 }
/-- [B -/
def k21 : Class := { plain "[B" (some 0) with kind := .array 20 .byte, interfaces := #[19, 2], accessFlags := 1041 }

/-- the primitive char -/
def k22 : Class := { plain "char" none with kind := .primitive 'C', accessFlags := 0x411 }
/-- [C -/
def k23 : Class := { plain "[C" (some 0) with kind := .array 22 .char, interfaces := #[19, 2], accessFlags := 1041 }

/-- the primitive int -/
def k24 : Class := { plain "int" none with kind := .primitive 'I', accessFlags := 0x411 }
/-- [I -/
def k25 : Class := { plain "[I" (some 0) with kind := .array 24 .int, interfaces := #[19, 2], accessFlags := 1041 }

def heap : Heap := #[{ cls := 7, slots := #[.long 0, .int 1, .null, .int 0, .null, .int 0, .int 0], vm := .statics 7 },
  { cls := 17, slots := #[.null, .null, .null], vm := .statics 17 }]
def classes : Array Class := #[k0, k1, k2, k3, k4, k5, k6, k7, k8, k9, k10, k11, k12, k13, k14, k15, k16, k17, k18, k19, k20, k21, k22, k23, k24, k25]
def interned : List (Array UInt16 × Addr) := []
def slotsUsed : Nat := 10
def theMethod : MethodId := ⟨1, 5⟩
def args0 : Array Value := #[.int 1, .int 2, .int 3, .int 4]
def aboutOver (below : List Frame) : State where
  vm := { classes := classes, interned := interned.toArray }
  heap := heap
  slotsUsed := slotsUsed
  threads := #[{ frames := .invoking theMethod args0 :: below }]
def below0 : List Frame := [.native { method := ⟨0, 0⟩, args := #[] }]
def about1 : State := aboutOver below0
def p0 : Program := .bare "" "" ""
def e0 : Env := launch0.env 0 0 0
theorem w_frames : about1.frames = Frame.invoking theMethod args0 :: below0 := rfl
set_option maxRecDepth 65536 in
theorem w_args : argsFit about1.vm theMethod args0 = true := by decide +kernel
set_option maxRecDepth 65536 in
theorem w_heap : heapFits about1 = true := by decide +kernel
set_option maxRecDepth 65536 in
theorem w_runnable : about1.curStatus? = some .runnable := by decide +kernel
set_option maxRecDepth 65536 in
theorem w_alone : about1.alone = true := by decide +kernel
set_option maxRecDepth 65536 in
theorem w_named : about1.methodNamed? x = some theMethod := by decide +kernel
set_option maxRecDepth 65536 in
theorem w_hears : about1.hears theMethod below0 = true := by decide +kernel
set_option maxRecDepth 65536 in
theorem w_ripe : about1.ripe theMethod args0 below0 = true := by decide +kernel
theorem w_running : about1.status = .running := rfl
set_option maxRecDepth 65536 in
theorem w_room : about1.hasRoom e0.platform room_1 = true :=
  launch0.hasRoom_least _ room_1 (by decide +kernel) (by decide +kernel) (by decide +kernel) (by decide +kernel) (by decide +kernel) (by decide +kernel)
theorem allAtoms_all (ts : List Jvm.Cond) (a : Array Jvm.Value) (st : Jvm.State) : (allAtoms ts).before a st = ts.all (fun c => c.before a st) := by
  induction ts with
  | nil => rfl
  | cons c t ih =>
    show (Jvm.Cond.and c (allAtoms t)).before a st = _
    rw [Jvm.Cond.before_and, ih, List.all_cons]
def words1 : List Jvm.Cond := Jvm.Cond.code x code maxLocals ret :: tables_1
/-- a 'code' word, met by the world's own term for the bytes: nothing is compared byte by byte -/
theorem code_word {y : MethodName} {bytes : ByteArray} {mx : Nat} {rt : Option FieldType} {a : Array Value} {s : State} {m : MethodId} {meth : Method} {c : Code} (h1 : s.methodNamed? y = some m) (h2 : s.vm.method? m = some meth) (h3 : meth.code = some c) (h4 : c.code = bytes)
    (h5 : (c.maxLocals == mx && c.exceptionTable.isEmpty && decide (c.maxStack ≤ mostOperands) && decide (meth.sig.returnType = rt) && !meth.locks && decide (parseMethodDescriptor y.desc = some meth.sig)) = true) : (Jvm.Cond.code y bytes mx rt).before a s = true := by
  simp only [Bool.and_eq_true, beq_iff_eq, Bool.not_eq_true', decide_eq_true_eq] at h5
  obtain ⟨⟨⟨⟨⟨g1, g2⟩, g3⟩, g4⟩, g5⟩, g6⟩ := h5
  simp [Cond.before, Cond.holds, Cond.value, h1, h2, h3, h4, g1, g2, g3, g4, g5, g6]
def isCode : Jvm.Cond → Bool
  | .code _ _ _ _ => true
  | _ => false
theorem all_split {L : List Jvm.Cond} {P : Jvm.Cond → Bool} (h1 : L.all (fun c => isCode c || P c) = true) (h2 : ∀ c ∈ L.filter isCode, P c = true) : L.all P = true := by
  refine List.all_eq_true.mpr fun c hc => ?_
  have h := List.all_eq_true.mp h1 c hc
  rcases Bool.eq_false_or_eq_true (isCode c) with hi | hi
  · exact h2 c (List.mem_filter.mpr ⟨hc, hi⟩)
  · simpa [hi] using h
set_option maxRecDepth 65536 in
theorem w_c0 : (Jvm.Cond.code x code maxLocals ret).before args0 about1 = true := code_word (m := ⟨1, 5⟩) (meth := k1m5) (c := k1c5) (by decide +kernel) rfl rfl rfl (by decide +kernel)
set_option maxRecDepth 65536 in
theorem w_c1 : (Jvm.Cond.code ({ cls := "com/example/proviso/proviso/MessageTemplateEscapePinLaw", name := "draw", desc := "(I)C" } : Jvm.MethodName) method_2_code (2 : Nat) (Option.some Jvm.ClassFile.FieldType.char)).before args0 about1 = true := code_word (m := ⟨1, 1⟩) (meth := k1m1) (c := k1c1) (by decide +kernel) rfl rfl rfl (by decide +kernel)
set_option maxRecDepth 65536 in
theorem w_c2 : (Jvm.Cond.code ({ cls := "java/lang/String", name := "<init>", desc := "([C)V" } : Jvm.MethodName) jdk_42_method_3_code (2 : Nat) (Option.none : Option Jvm.ClassFile.FieldType)).before args0 about1 = true := code_word (m := ⟨7, 1⟩) (meth := k7m1) (c := k7c1) (by decide +kernel) rfl rfl rfl (by decide +kernel)
set_option maxRecDepth 65536 in
theorem w_c3 : (Jvm.Cond.code ({ cls := "java/lang/String", name := "<init>", desc := "([CIILjava/lang/Void;)V" } : Jvm.MethodName) jdk_42_method_149_code (6 : Nat) (Option.none : Option Jvm.ClassFile.FieldType)).before args0 about1 = true := code_word (m := ⟨7, 7⟩) (meth := k7m7) (c := k7c7) (by decide +kernel) rfl rfl rfl (by decide +kernel)
set_option maxRecDepth 65536 in
theorem w_c4 : (Jvm.Cond.code ({ cls := "java/lang/Object", name := "<init>", desc := "()V" } : Jvm.MethodName) object_method_1_code (1 : Nat) (Option.none : Option Jvm.ClassFile.FieldType)).before args0 about1 = true := code_word (m := ⟨0, 0⟩) (meth := k0m0) (c := k0c0) (by decide +kernel) rfl rfl rfl (by decide +kernel)
set_option maxRecDepth 65536 in
theorem w_c5 : (Jvm.Cond.code ({ cls := "com/example/proviso/proviso/MessageTemplate", name := "escape", desc := "(Ljava/lang/String;)Ljava/lang/String;" } : Jvm.MethodName) prog_12_method_4_code (4 : Nat) (Option.some (Jvm.ClassFile.FieldType.object "java/lang/String"))).before args0 about1 = true := code_word (m := ⟨8, 1⟩) (meth := k8m1) (c := k8c1) (by decide +kernel) rfl rfl rfl (by decide +kernel)
set_option maxRecDepth 65536 in
theorem w_c6 : (Jvm.Cond.code ({ cls := "java/lang/String", name := "length", desc := "()I" } : Jvm.MethodName) jdk_42_method_54_code (1 : Nat) (Option.some Jvm.ClassFile.FieldType.int)).before args0 about1 = true := code_word (m := ⟨7, 3⟩) (meth := k7m3) (c := k7c3) (by decide +kernel) rfl rfl rfl (by decide +kernel)
set_option maxRecDepth 65536 in
theorem w_c7 : (Jvm.Cond.code ({ cls := "java/lang/String", name := "coder", desc := "()B" } : Jvm.MethodName) jdk_42_method_152_code (1 : Nat) (Option.some Jvm.ClassFile.FieldType.byte)).before args0 about1 = true := code_word (m := ⟨7, 9⟩) (meth := k7m9) (c := k7c9) (by decide +kernel) rfl rfl rfl (by decide +kernel)
set_option maxRecDepth 65536 in
theorem w_c8 : (Jvm.Cond.code ({ cls := "java/lang/StringBuilder", name := "<init>", desc := "(I)V" } : Jvm.MethodName) jdk_67_method_2_code (2 : Nat) (Option.none : Option Jvm.ClassFile.FieldType)).before args0 about1 = true := code_word (m := ⟨11, 1⟩) (meth := k11m1) (c := k11c1) (by decide +kernel) rfl rfl rfl (by decide +kernel)
set_option maxRecDepth 65536 in
theorem w_c9 : (Jvm.Cond.code ({ cls := "java/lang/AbstractStringBuilder", name := "<init>", desc := "(I)V" } : Jvm.MethodName) jdk_68_method_2_code (2 : Nat) (Option.none : Option Jvm.ClassFile.FieldType)).before args0 about1 = true := code_word (m := ⟨10, 1⟩) (meth := k10m1) (c := k10c1) (by decide +kernel) rfl rfl rfl (by decide +kernel)
set_option maxRecDepth 65536 in
theorem w_c10 : (Jvm.Cond.code ({ cls := "java/lang/StringBuilder", name := "toString", desc := "()Ljava/lang/String;" } : Jvm.MethodName) jdk_67_method_42_code (1 : Nat) (Option.some (Jvm.ClassFile.FieldType.object "java/lang/String"))).before args0 about1 = true := code_word (m := ⟨11, 3⟩) (meth := k11m3) (c := k11c3) (by decide +kernel) rfl rfl rfl (by decide +kernel)
set_option maxRecDepth 65536 in
theorem w_c11 : (Jvm.Cond.code ({ cls := "java/lang/String", name := "<init>", desc := "(Ljava/lang/StringBuilder;)V" } : Jvm.MethodName) jdk_42_method_53_code (2 : Nat) (Option.none : Option Jvm.ClassFile.FieldType)).before args0 about1 = true := code_word (m := ⟨7, 2⟩) (meth := k7m2) (c := k7c2) (by decide +kernel) rfl rfl rfl (by decide +kernel)
set_option maxRecDepth 65536 in
theorem w_c12 : (Jvm.Cond.code ({ cls := "java/lang/String", name := "<init>", desc := "(Ljava/lang/AbstractStringBuilder;Ljava/lang/Void;)V" } : Jvm.MethodName) jdk_42_method_150_code (5 : Nat) (Option.none : Option Jvm.ClassFile.FieldType)).before args0 about1 = true := code_word (m := ⟨7, 8⟩) (meth := k7m8) (c := k7c8) (by decide +kernel) rfl rfl rfl (by decide +kernel)
set_option maxRecDepth 65536 in
theorem w_c13 : (Jvm.Cond.code ({ cls := "java/lang/AbstractStringBuilder", name := "getValue", desc := "()[B" } : Jvm.MethodName) jdk_68_method_64_code (1 : Nat) (Option.some (Jvm.ClassFile.FieldType.array Jvm.ClassFile.FieldType.byte))).before args0 about1 = true := code_word (m := ⟨10, 5⟩) (meth := k10m5) (c := k10c5) (by decide +kernel) rfl rfl rfl (by decide +kernel)
set_option maxRecDepth 65536 in
theorem w_c14 : (Jvm.Cond.code ({ cls := "java/lang/StringBuilder", name := "length", desc := "()I" } : Jvm.MethodName) jdk_67_method_93_code (1 : Nat) (Option.some Jvm.ClassFile.FieldType.int)).before args0 about1 = true := code_word (m := ⟨11, 4⟩) (meth := k11m4) (c := k11c4) (by decide +kernel) rfl rfl rfl (by decide +kernel)
set_option maxRecDepth 65536 in
theorem w_c15 : (Jvm.Cond.code ({ cls := "java/lang/AbstractStringBuilder", name := "length", desc := "()I" } : Jvm.MethodName) jdk_68_method_6_code (1 : Nat) (Option.some Jvm.ClassFile.FieldType.int)).before args0 about1 = true := code_word (m := ⟨10, 2⟩) (meth := k10m2) (c := k10c2) (by decide +kernel) rfl rfl rfl (by decide +kernel)
set_option maxRecDepth 65536 in
theorem w_c16 : (Jvm.Cond.code ({ cls := "java/lang/AbstractStringBuilder", name := "isLatin1", desc := "()Z" } : Jvm.MethodName) jdk_68_method_68_code (1 : Nat) (Option.some Jvm.ClassFile.FieldType.boolean)).before args0 about1 = true := code_word (m := ⟨10, 6⟩) (meth := k10m6) (c := k10c6) (by decide +kernel) rfl rfl rfl (by decide +kernel)
set_option maxRecDepth 65536 in
theorem w_c17 : (Jvm.Cond.code ({ cls := "java/util/Arrays", name := "copyOfRange", desc := "([BII)[B" } : Jvm.MethodName) jdk_65_method_132_code (3 : Nat) (Option.some (Jvm.ClassFile.FieldType.array Jvm.ClassFile.FieldType.byte))).before args0 about1 = true := code_word (m := ⟨12, 2⟩) (meth := k12m2) (c := k12c2) (by decide +kernel) rfl rfl rfl (by decide +kernel)
set_option maxRecDepth 65536 in
theorem w_c18 : (Jvm.Cond.code ({ cls := "java/util/Arrays", name := "copyOfRangeByte", desc := "([BII)[B" } : Jvm.MethodName) jdk_65_method_133_code (5 : Nat) (Option.some (Jvm.ClassFile.FieldType.array Jvm.ClassFile.FieldType.byte))).before args0 about1 = true := code_word (m := ⟨12, 3⟩) (meth := k12m3) (c := k12c3) (by decide +kernel) rfl rfl rfl (by decide +kernel)
set_option maxRecDepth 65536 in
theorem w_c19 : (Jvm.Cond.code ({ cls := "java/util/Arrays", name := "checkLength", desc := "(II)V" } : Jvm.MethodName) jdk_65_method_131_code (2 : Nat) (Option.none : Option Jvm.ClassFile.FieldType)).before args0 about1 = true := code_word (m := ⟨12, 1⟩) (meth := k12m1) (c := k12c1) (by decide +kernel) rfl rfl rfl (by decide +kernel)
set_option maxRecDepth 65536 in
theorem w_c20 : (Jvm.Cond.code ({ cls := "java/lang/Math", name := "min", desc := "(II)I" } : Jvm.MethodName) jdk_29_method_69_code (2 : Nat) (Option.some Jvm.ClassFile.FieldType.int)).before args0 about1 = true := code_word (m := ⟨13, 2⟩) (meth := k13m2) (c := k13c2) (by decide +kernel) rfl rfl rfl (by decide +kernel)
set_option maxRecDepth 65536 in
theorem w_c21 : (Jvm.Cond.code ({ cls := "com/example/proviso/proviso/MessageTemplateEscapePinLaw", name := "at", desc := "(Ljava/lang/String;[CII)Z" } : Jvm.MethodName) method_5_code (4 : Nat) (Option.some Jvm.ClassFile.FieldType.boolean)).before args0 about1 = true := code_word (m := ⟨1, 4⟩) (meth := k1m4) (c := k1c4) (by decide +kernel) rfl rfl rfl (by decide +kernel)
set_option maxRecDepth 65536 in
theorem w_c22 : (Jvm.Cond.code ({ cls := "java/lang/StringUTF16", name := "compress", desc := "([CII)[B" } : Jvm.MethodName) jdk_52_method_16_code (6 : Nat) (Option.some (Jvm.ClassFile.FieldType.array Jvm.ClassFile.FieldType.byte))).before args0 about1 = true := code_word (m := ⟨15, 2⟩) (meth := k15m2) (c := k15c2) (by decide +kernel) rfl rfl rfl (by decide +kernel)
set_option maxRecDepth 65536 in
theorem w_c23 : (Jvm.Cond.code ({ cls := "java/lang/StringUTF16", name := "compress", desc := "([CI[BII)I" } : Jvm.MethodName) jdk_52_method_21_code (7 : Nat) (Option.some Jvm.ClassFile.FieldType.int)).before args0 about1 = true := code_word (m := ⟨15, 3⟩) (meth := k15m3) (c := k15c3) (by decide +kernel) rfl rfl rfl (by decide +kernel)
set_option maxRecDepth 65536 in
theorem w_c24 : (Jvm.Cond.code ({ cls := "java/lang/StringUTF16", name := "coderFromArrayLen", desc := "([BI)B" } : Jvm.MethodName) jdk_52_method_15_code (2 : Nat) (Option.some Jvm.ClassFile.FieldType.byte)).before args0 about1 = true := code_word (m := ⟨15, 1⟩) (meth := k15m1) (c := k15c1) (by decide +kernel) rfl rfl rfl (by decide +kernel)
set_option maxRecDepth 65536 in
theorem w_c25 : (Jvm.Cond.code ({ cls := "java/lang/String", name := "charAt", desc := "(I)C" } : Jvm.MethodName) jdk_42_method_56_code (2 : Nat) (Option.some Jvm.ClassFile.FieldType.char)).before args0 about1 = true := code_word (m := ⟨7, 4⟩) (meth := k7m4) (c := k7c4) (by decide +kernel) rfl rfl rfl (by decide +kernel)
set_option maxRecDepth 65536 in
theorem w_c26 : (Jvm.Cond.code ({ cls := "java/lang/String", name := "isLatin1", desc := "()Z" } : Jvm.MethodName) jdk_42_method_154_code (1 : Nat) (Option.some Jvm.ClassFile.FieldType.boolean)).before args0 about1 = true := code_word (m := ⟨7, 10⟩) (meth := k7m10) (c := k7c10) (by decide +kernel) rfl rfl rfl (by decide +kernel)
set_option maxRecDepth 65536 in
theorem w_c27 : (Jvm.Cond.code ({ cls := "java/lang/StringLatin1", name := "charAt", desc := "([BI)C" } : Jvm.MethodName) jdk_43_method_2_code (2 : Nat) (Option.some Jvm.ClassFile.FieldType.char)).before args0 about1 = true := code_word (m := ⟨16, 1⟩) (meth := k16m1) (c := k16c1) (by decide +kernel) rfl rfl rfl (by decide +kernel)
set_option maxRecDepth 65536 in
theorem w_c28 : (Jvm.Cond.code ({ cls := "java/lang/String", name := "checkIndex", desc := "(II)V" } : Jvm.MethodName) jdk_42_method_155_code (2 : Nat) (Option.none : Option Jvm.ClassFile.FieldType)).before args0 about1 = true := code_word (m := ⟨7, 11⟩) (meth := k7m11) (c := k7c11) (by decide +kernel) rfl rfl rfl (by decide +kernel)
set_option maxRecDepth 65536 in
theorem w_c29 : (Jvm.Cond.code ({ cls := "jdk/internal/util/Preconditions", name := "checkIndex", desc := "(IILjava/util/function/BiFunction;)I" } : Jvm.MethodName) jdk_41_method_11_code (3 : Nat) (Option.some Jvm.ClassFile.FieldType.int)).before args0 about1 = true := code_word (m := ⟨17, 1⟩) (meth := k17m1) (c := k17c1) (by decide +kernel) rfl rfl rfl (by decide +kernel)
set_option maxRecDepth 65536 in
theorem w_c30 : (Jvm.Cond.code ({ cls := "java/lang/String", name := "indexOf", desc := "(I)I" } : Jvm.MethodName) jdk_42_method_79_code (2 : Nat) (Option.some Jvm.ClassFile.FieldType.int)).before args0 about1 = true := code_word (m := ⟨7, 5⟩) (meth := k7m5) (c := k7c5) (by decide +kernel) rfl rfl rfl (by decide +kernel)
set_option maxRecDepth 65536 in
theorem w_c31 : (Jvm.Cond.code ({ cls := "java/lang/String", name := "indexOf", desc := "(II)I" } : Jvm.MethodName) jdk_42_method_80_code (3 : Nat) (Option.some Jvm.ClassFile.FieldType.int)).before args0 about1 = true := code_word (m := ⟨7, 6⟩) (meth := k7m6) (c := k7c6) (by decide +kernel) rfl rfl rfl (by decide +kernel)
set_option maxRecDepth 65536 in
theorem w_c32 : (Jvm.Cond.code ({ cls := "java/lang/StringLatin1", name := "indexOf", desc := "([BIII)I" } : Jvm.MethodName) jdk_43_method_22_code (4 : Nat) (Option.some Jvm.ClassFile.FieldType.int)).before args0 about1 = true := code_word (m := ⟨16, 4⟩) (meth := k16m4) (c := k16c4) (by decide +kernel) rfl rfl rfl (by decide +kernel)
set_option maxRecDepth 65536 in
theorem w_c33 : (Jvm.Cond.code ({ cls := "java/lang/StringLatin1", name := "canEncode", desc := "(I)Z" } : Jvm.MethodName) jdk_43_method_4_code (1 : Nat) (Option.some Jvm.ClassFile.FieldType.boolean)).before args0 about1 = true := code_word (m := ⟨16, 3⟩) (meth := k16m3) (c := k16c3) (by decide +kernel) rfl rfl rfl (by decide +kernel)
set_option maxRecDepth 65536 in
theorem w_c34 : (Jvm.Cond.code ({ cls := "java/lang/Math", name := "max", desc := "(II)I" } : Jvm.MethodName) jdk_29_method_65_code (2 : Nat) (Option.some Jvm.ClassFile.FieldType.int)).before args0 about1 = true := code_word (m := ⟨13, 1⟩) (meth := k13m1) (c := k13c1) (by decide +kernel) rfl rfl rfl (by decide +kernel)
set_option maxRecDepth 65536 in
theorem w_c35 : (Jvm.Cond.code ({ cls := "java/lang/StringLatin1", name := "indexOfChar", desc := "([BIII)I" } : Jvm.MethodName) jdk_43_method_23_code (6 : Nat) (Option.some Jvm.ClassFile.FieldType.int)).before args0 about1 = true := code_word (m := ⟨16, 5⟩) (meth := k16m5) (c := k16c5) (by decide +kernel) rfl rfl rfl (by decide +kernel)
set_option maxRecDepth 65536 in
theorem w_c36 : (Jvm.Cond.code ({ cls := "java/lang/StringBuilder", name := "append", desc := "(C)Ljava/lang/StringBuilder;" } : Jvm.MethodName) jdk_67_method_14_code (2 : Nat) (Option.some (Jvm.ClassFile.FieldType.object "java/lang/StringBuilder"))).before args0 about1 = true := code_word (m := ⟨11, 2⟩) (meth := k11m2) (c := k11c2) (by decide +kernel) rfl rfl rfl (by decide +kernel)
set_option maxRecDepth 65536 in
theorem w_c37 : (Jvm.Cond.code ({ cls := "java/lang/AbstractStringBuilder", name := "append", desc := "(C)Ljava/lang/AbstractStringBuilder;" } : Jvm.MethodName) jdk_68_method_31_code (2 : Nat) (Option.some (Jvm.ClassFile.FieldType.object "java/lang/AbstractStringBuilder"))).before args0 about1 = true := code_word (m := ⟨10, 4⟩) (meth := k10m4) (c := k10c4) (by decide +kernel) rfl rfl rfl (by decide +kernel)
set_option maxRecDepth 65536 in
theorem w_c38 : (Jvm.Cond.code ({ cls := "java/lang/AbstractStringBuilder", name := "ensureCapacityInternal", desc := "(I)V" } : Jvm.MethodName) jdk_68_method_9_code (3 : Nat) (Option.none : Option Jvm.ClassFile.FieldType)).before args0 about1 = true := code_word (m := ⟨10, 3⟩) (meth := k10m3) (c := k10c3) (by decide +kernel) rfl rfl rfl (by decide +kernel)
set_option maxRecDepth 65536 in
theorem w_c39 : (Jvm.Cond.code ({ cls := "java/lang/StringLatin1", name := "canEncode", desc := "(C)Z" } : Jvm.MethodName) jdk_43_method_3_code (1 : Nat) (Option.some Jvm.ClassFile.FieldType.boolean)).before args0 about1 = true := code_word (m := ⟨16, 2⟩) (meth := k16m2) (c := k16c2) (by decide +kernel) rfl rfl rfl (by decide +kernel)
set_option maxRecDepth 65536 in
theorem w_c40 : (Jvm.Cond.code ({ cls := "com/example/proviso/proviso/MessageTemplateEscapePinLaw", name := "put", desc := "([CIC)I" } : Jvm.MethodName) method_4_code (3 : Nat) (Option.some Jvm.ClassFile.FieldType.int)).before args0 about1 = true := code_word (m := ⟨1, 3⟩) (meth := k1m3) (c := k1c3) (by decide +kernel) rfl rfl rfl (by decide +kernel)
set_option maxRecDepth 65536 in
theorem w_c41 : (Jvm.Cond.code ({ cls := "com/example/proviso/proviso/MessageTemplateEscapePinLaw", name := "special", desc := "(C)Z" } : Jvm.MethodName) method_3_code (1 : Nat) (Option.some Jvm.ClassFile.FieldType.boolean)).before args0 about1 = true := code_word (m := ⟨1, 2⟩) (meth := k1m2) (c := k1c2) (by decide +kernel) rfl rfl rfl (by decide +kernel)
def codes1 : List Jvm.Cond := [Jvm.Cond.code x code maxLocals ret, Jvm.Cond.code ({ cls := "com/example/proviso/proviso/MessageTemplateEscapePinLaw", name := "draw", desc := "(I)C" } : Jvm.MethodName) method_2_code (2 : Nat) (Option.some Jvm.ClassFile.FieldType.char), Jvm.Cond.code ({ cls := "java/lang/String", name := "<init>", desc := "([C)V" } : Jvm.MethodName) jdk_42_method_3_code (2 : Nat) (Option.none : Option Jvm.ClassFile.FieldType), Jvm.Cond.code ({ cls := "java/lang/String", name := "<init>", desc := "([CIILjava/lang/Void;)V" } : Jvm.MethodName) jdk_42_method_149_code (6 : Nat) (Option.none : Option Jvm.ClassFile.FieldType), Jvm.Cond.code ({ cls := "java/lang/Object", name := "<init>", desc := "()V" } : Jvm.MethodName) object_method_1_code (1 : Nat) (Option.none : Option Jvm.ClassFile.FieldType), Jvm.Cond.code ({ cls := "com/example/proviso/proviso/MessageTemplate", name := "escape", desc := "(Ljava/lang/String;)Ljava/lang/String;" } : Jvm.MethodName) prog_12_method_4_code (4 : Nat) (Option.some (Jvm.ClassFile.FieldType.object "java/lang/String")), Jvm.Cond.code ({ cls := "java/lang/String", name := "length", desc := "()I" } : Jvm.MethodName) jdk_42_method_54_code (1 : Nat) (Option.some Jvm.ClassFile.FieldType.int), Jvm.Cond.code ({ cls := "java/lang/String", name := "coder", desc := "()B" } : Jvm.MethodName) jdk_42_method_152_code (1 : Nat) (Option.some Jvm.ClassFile.FieldType.byte), Jvm.Cond.code ({ cls := "java/lang/StringBuilder", name := "<init>", desc := "(I)V" } : Jvm.MethodName) jdk_67_method_2_code (2 : Nat) (Option.none : Option Jvm.ClassFile.FieldType), Jvm.Cond.code ({ cls := "java/lang/AbstractStringBuilder", name := "<init>", desc := "(I)V" } : Jvm.MethodName) jdk_68_method_2_code (2 : Nat) (Option.none : Option Jvm.ClassFile.FieldType), Jvm.Cond.code ({ cls := "java/lang/StringBuilder", name := "toString", desc := "()Ljava/lang/String;" } : Jvm.MethodName) jdk_67_method_42_code (1 : Nat) (Option.some (Jvm.ClassFile.FieldType.object "java/lang/String")), Jvm.Cond.code ({ cls := "java/lang/String", name := "<init>", desc := "(Ljava/lang/StringBuilder;)V" } : Jvm.MethodName) jdk_42_method_53_code (2 : Nat) (Option.none : Option Jvm.ClassFile.FieldType), Jvm.Cond.code ({ cls := "java/lang/String", name := "<init>", desc := "(Ljava/lang/AbstractStringBuilder;Ljava/lang/Void;)V" } : Jvm.MethodName) jdk_42_method_150_code (5 : Nat) (Option.none : Option Jvm.ClassFile.FieldType), Jvm.Cond.code ({ cls := "java/lang/AbstractStringBuilder", name := "getValue", desc := "()[B" } : Jvm.MethodName) jdk_68_method_64_code (1 : Nat) (Option.some (Jvm.ClassFile.FieldType.array Jvm.ClassFile.FieldType.byte)), Jvm.Cond.code ({ cls := "java/lang/StringBuilder", name := "length", desc := "()I" } : Jvm.MethodName) jdk_67_method_93_code (1 : Nat) (Option.some Jvm.ClassFile.FieldType.int), Jvm.Cond.code ({ cls := "java/lang/AbstractStringBuilder", name := "length", desc := "()I" } : Jvm.MethodName) jdk_68_method_6_code (1 : Nat) (Option.some Jvm.ClassFile.FieldType.int), Jvm.Cond.code ({ cls := "java/lang/AbstractStringBuilder", name := "isLatin1", desc := "()Z" } : Jvm.MethodName) jdk_68_method_68_code (1 : Nat) (Option.some Jvm.ClassFile.FieldType.boolean), Jvm.Cond.code ({ cls := "java/util/Arrays", name := "copyOfRange", desc := "([BII)[B" } : Jvm.MethodName) jdk_65_method_132_code (3 : Nat) (Option.some (Jvm.ClassFile.FieldType.array Jvm.ClassFile.FieldType.byte)), Jvm.Cond.code ({ cls := "java/util/Arrays", name := "copyOfRangeByte", desc := "([BII)[B" } : Jvm.MethodName) jdk_65_method_133_code (5 : Nat) (Option.some (Jvm.ClassFile.FieldType.array Jvm.ClassFile.FieldType.byte)), Jvm.Cond.code ({ cls := "java/util/Arrays", name := "checkLength", desc := "(II)V" } : Jvm.MethodName) jdk_65_method_131_code (2 : Nat) (Option.none : Option Jvm.ClassFile.FieldType), Jvm.Cond.code ({ cls := "java/lang/Math", name := "min", desc := "(II)I" } : Jvm.MethodName) jdk_29_method_69_code (2 : Nat) (Option.some Jvm.ClassFile.FieldType.int), Jvm.Cond.code ({ cls := "com/example/proviso/proviso/MessageTemplateEscapePinLaw", name := "at", desc := "(Ljava/lang/String;[CII)Z" } : Jvm.MethodName) method_5_code (4 : Nat) (Option.some Jvm.ClassFile.FieldType.boolean), Jvm.Cond.code ({ cls := "java/lang/StringUTF16", name := "compress", desc := "([CII)[B" } : Jvm.MethodName) jdk_52_method_16_code (6 : Nat) (Option.some (Jvm.ClassFile.FieldType.array Jvm.ClassFile.FieldType.byte)), Jvm.Cond.code ({ cls := "java/lang/StringUTF16", name := "compress", desc := "([CI[BII)I" } : Jvm.MethodName) jdk_52_method_21_code (7 : Nat) (Option.some Jvm.ClassFile.FieldType.int), Jvm.Cond.code ({ cls := "java/lang/StringUTF16", name := "coderFromArrayLen", desc := "([BI)B" } : Jvm.MethodName) jdk_52_method_15_code (2 : Nat) (Option.some Jvm.ClassFile.FieldType.byte), Jvm.Cond.code ({ cls := "java/lang/String", name := "charAt", desc := "(I)C" } : Jvm.MethodName) jdk_42_method_56_code (2 : Nat) (Option.some Jvm.ClassFile.FieldType.char), Jvm.Cond.code ({ cls := "java/lang/String", name := "isLatin1", desc := "()Z" } : Jvm.MethodName) jdk_42_method_154_code (1 : Nat) (Option.some Jvm.ClassFile.FieldType.boolean), Jvm.Cond.code ({ cls := "java/lang/StringLatin1", name := "charAt", desc := "([BI)C" } : Jvm.MethodName) jdk_43_method_2_code (2 : Nat) (Option.some Jvm.ClassFile.FieldType.char), Jvm.Cond.code ({ cls := "java/lang/String", name := "checkIndex", desc := "(II)V" } : Jvm.MethodName) jdk_42_method_155_code (2 : Nat) (Option.none : Option Jvm.ClassFile.FieldType), Jvm.Cond.code ({ cls := "jdk/internal/util/Preconditions", name := "checkIndex", desc := "(IILjava/util/function/BiFunction;)I" } : Jvm.MethodName) jdk_41_method_11_code (3 : Nat) (Option.some Jvm.ClassFile.FieldType.int), Jvm.Cond.code ({ cls := "java/lang/String", name := "indexOf", desc := "(I)I" } : Jvm.MethodName) jdk_42_method_79_code (2 : Nat) (Option.some Jvm.ClassFile.FieldType.int), Jvm.Cond.code ({ cls := "java/lang/String", name := "indexOf", desc := "(II)I" } : Jvm.MethodName) jdk_42_method_80_code (3 : Nat) (Option.some Jvm.ClassFile.FieldType.int), Jvm.Cond.code ({ cls := "java/lang/StringLatin1", name := "indexOf", desc := "([BIII)I" } : Jvm.MethodName) jdk_43_method_22_code (4 : Nat) (Option.some Jvm.ClassFile.FieldType.int), Jvm.Cond.code ({ cls := "java/lang/StringLatin1", name := "canEncode", desc := "(I)Z" } : Jvm.MethodName) jdk_43_method_4_code (1 : Nat) (Option.some Jvm.ClassFile.FieldType.boolean), Jvm.Cond.code ({ cls := "java/lang/Math", name := "max", desc := "(II)I" } : Jvm.MethodName) jdk_29_method_65_code (2 : Nat) (Option.some Jvm.ClassFile.FieldType.int), Jvm.Cond.code ({ cls := "java/lang/StringLatin1", name := "indexOfChar", desc := "([BIII)I" } : Jvm.MethodName) jdk_43_method_23_code (6 : Nat) (Option.some Jvm.ClassFile.FieldType.int), Jvm.Cond.code ({ cls := "java/lang/StringBuilder", name := "append", desc := "(C)Ljava/lang/StringBuilder;" } : Jvm.MethodName) jdk_67_method_14_code (2 : Nat) (Option.some (Jvm.ClassFile.FieldType.object "java/lang/StringBuilder")), Jvm.Cond.code ({ cls := "java/lang/AbstractStringBuilder", name := "append", desc := "(C)Ljava/lang/AbstractStringBuilder;" } : Jvm.MethodName) jdk_68_method_31_code (2 : Nat) (Option.some (Jvm.ClassFile.FieldType.object "java/lang/AbstractStringBuilder")), Jvm.Cond.code ({ cls := "java/lang/AbstractStringBuilder", name := "ensureCapacityInternal", desc := "(I)V" } : Jvm.MethodName) jdk_68_method_9_code (3 : Nat) (Option.none : Option Jvm.ClassFile.FieldType), Jvm.Cond.code ({ cls := "java/lang/StringLatin1", name := "canEncode", desc := "(C)Z" } : Jvm.MethodName) jdk_43_method_3_code (1 : Nat) (Option.some Jvm.ClassFile.FieldType.boolean), Jvm.Cond.code ({ cls := "com/example/proviso/proviso/MessageTemplateEscapePinLaw", name := "put", desc := "([CIC)I" } : Jvm.MethodName) method_4_code (3 : Nat) (Option.some Jvm.ClassFile.FieldType.int), Jvm.Cond.code ({ cls := "com/example/proviso/proviso/MessageTemplateEscapePinLaw", name := "special", desc := "(C)Z" } : Jvm.MethodName) method_3_code (1 : Nat) (Option.some Jvm.ClassFile.FieldType.boolean)]
set_option maxRecDepth 65536 in
theorem codes_eq : words1.filter isCode = codes1 := rfl
theorem w_codes : ∀ c ∈ words1.filter isCode, c.before args0 about1 = true := by
  rw [codes_eq]
  intro c hc
  simp only [codes1, List.mem_cons, List.not_mem_nil, or_false] at hc
  rcases hc with rfl | rfl | rfl | rfl | rfl | rfl | rfl | rfl | rfl | rfl | rfl | rfl | rfl | rfl | rfl | rfl | rfl | rfl | rfl | rfl | rfl | rfl | rfl | rfl | rfl | rfl | rfl | rfl | rfl | rfl | rfl | rfl | rfl | rfl | rfl | rfl | rfl | rfl | rfl | rfl | rfl | rfl
  · exact w_c0
  · exact w_c1
  · exact w_c2
  · exact w_c3
  · exact w_c4
  · exact w_c5
  · exact w_c6
  · exact w_c7
  · exact w_c8
  · exact w_c9
  · exact w_c10
  · exact w_c11
  · exact w_c12
  · exact w_c13
  · exact w_c14
  · exact w_c15
  · exact w_c16
  · exact w_c17
  · exact w_c18
  · exact w_c19
  · exact w_c20
  · exact w_c21
  · exact w_c22
  · exact w_c23
  · exact w_c24
  · exact w_c25
  · exact w_c26
  · exact w_c27
  · exact w_c28
  · exact w_c29
  · exact w_c30
  · exact w_c31
  · exact w_c32
  · exact w_c33
  · exact w_c34
  · exact w_c35
  · exact w_c36
  · exact w_c37
  · exact w_c38
  · exact w_c39
  · exact w_c40
  · exact w_c41
set_option maxRecDepth 65536 in
theorem w_t1 : (words1.take 24).all (fun c => isCode c || c.before args0 about1) = true := by decide +kernel
set_option maxRecDepth 65536 in
theorem w_t2 : ((words1.drop 24).take 24).all (fun c => isCode c || c.before args0 about1) = true := by decide +kernel
set_option maxRecDepth 65536 in
theorem w_t3 : (((words1.drop 24).drop 24).take 24).all (fun c => isCode c || c.before args0 about1) = true := by decide +kernel
set_option maxRecDepth 65536 in
theorem w_t4 : ((((words1.drop 24).drop 24).drop 24).take 24).all (fun c => isCode c || c.before args0 about1) = true := by decide +kernel
set_option maxRecDepth 65536 in
theorem w_t5 : (((((words1.drop 24).drop 24).drop 24).drop 24).take 24).all (fun c => isCode c || c.before args0 about1) = true := by decide +kernel
set_option maxRecDepth 65536 in
theorem w_t6 : ((((((words1.drop 24).drop 24).drop 24).drop 24).drop 24).take 24).all (fun c => isCode c || c.before args0 about1) = true := by decide +kernel
set_option maxRecDepth 65536 in
theorem w_t7 : (((((((words1.drop 24).drop 24).drop 24).drop 24).drop 24).drop 24).take 24).all (fun c => isCode c || c.before args0 about1) = true := by decide +kernel
set_option maxRecDepth 65536 in
theorem w_t8 : ((((((((words1.drop 24).drop 24).drop 24).drop 24).drop 24).drop 24).drop 24).take 24).all (fun c => isCode c || c.before args0 about1) = true := by decide +kernel
set_option maxRecDepth 65536 in
theorem w_t9 : ((((((((words1.drop 24).drop 24).drop 24).drop 24).drop 24).drop 24).drop 24).drop 24).all (fun c => isCode c || c.before args0 about1) = true := by decide +kernel
theorem w_tables : (allAtoms (Jvm.Cond.code x code maxLocals ret :: tables_1)).before args0 about1 = true := by
  rw [allAtoms_all]
  show words1.all (fun c => c.before args0 about1) = true
  refine all_split ?_ w_codes
  rw [← List.take_append_drop 24 words1, List.all_append, w_t1, ← List.take_append_drop 24 (words1.drop 24), List.all_append, w_t2, ← List.take_append_drop 24 ((words1.drop 24).drop 24), List.all_append, w_t3, ← List.take_append_drop 24 (((words1.drop 24).drop 24).drop 24), List.all_append, w_t4, ← List.take_append_drop 24 ((((words1.drop 24).drop 24).drop 24).drop 24), List.all_append, w_t5, ← List.take_append_drop 24 (((((words1.drop 24).drop 24).drop 24).drop 24).drop 24), List.all_append, w_t6, ← List.take_append_drop 24 ((((((words1.drop 24).drop 24).drop 24).drop 24).drop 24).drop 24), List.all_append, w_t7, ← List.take_append_drop 24 (((((((words1.drop 24).drop 24).drop 24).drop 24).drop 24).drop 24).drop 24), List.all_append, w_t8, w_t9]
  rfl
set_option maxRecDepth 65536 in
theorem w_rest : rest_1_c.before args0 about1 = true := by decide +kernel
set_option maxRecDepth 65536 in
theorem w_case : (Jvm.Cond.and given_1 narrow_1).before args0 about1 = true := by decide +kernel
set_option maxRecDepth 65536 in
theorem w_consts : constsHeld consts_1 about1 := Jvm.Lit.constsHeldB_iff.mp (by decide +kernel)
theorem w_applies : (headSpec (Jvm.Cond.code x code maxLocals ret :: tables_1) room_1).applies x e0.platform about1 = true :=
  (Spec.applies_iff w_frames).mpr ⟨w_running, w_runnable, w_alone, w_named, w_hears, w_ripe, w_room, w_tables⟩
theorem atStart : AtStart classFile x code maxLocals ret World_1 tables_1 room_1 Calls_1 rest_1 Pre_1 launch0 p0 e0 about1 theMethod args0 below0 :=
  ⟨lists_1, trivial, launch0.admits_env _ _ _, launch0.least_env, fairChoices_fair.cas, fairChoices_fair.clock, w_frames, w_args, w_heap, w_applies, ⟨w_consts, trivial⟩, w_rest, w_case⟩
end start1
theorem witness_1 : WitnessClaimed_1 := ⟨start1.p0, start1.e0, start1.about1, start1.theMethod, start1.args0, start1.below0, start1.atStart⟩
end Jvm.Pilot.@@N@@
