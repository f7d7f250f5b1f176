import JvmDerived
import JvmDerived.Pilot.@@N@@Statement
import JvmDerived.Pilot.@@N@@Code
set_option linter.unusedVariables false
set_option linter.unusedSimpArgs false
namespace Jvm.Own
open Jvm Jvm.ClassFile Sem Op Lib Jvm.Free Jvm.Stand Jvm.LawKit Jvm.RoadKit Bundle
/-! OWN LAYER: a wp-style reading of RoadKit's laws. V: the case's view (start state, start arguments, the literals that are held, narrow or wide, the launch). B: a body (name, bytes, max locals, return type, room). K: one invocation. -/
abbrev Vw : Type := State × Array Value × List (String × Nat) × Bool × Launch
abbrev Vw.Z (V : Vw) : State := V.1
abbrev Vw.a0 (V : Vw) : Array Value := V.2.1
abbrev Vw.EL (V : Vw) : List (String × Nat) := V.2.2.1
abbrev Vw.nar (V : Vw) : Bool := V.2.2.2.1
abbrev Vw.l (V : Vw) : Launch := V.2.2.2.2
abbrev Bx : Type := MethodName × ByteArray × Nat × Option FieldType × Room
abbrev Bx.y (B : Bx) : MethodName := B.1
abbrev Bx.code (B : Bx) : ByteArray := B.2.1
abbrev Bx.ml (B : Bx) : Nat := B.2.2.1
abbrev Bx.ret (B : Bx) : Option FieldType := B.2.2.2.1
abbrev Bx.R (B : Bx) : Room := B.2.2.2.2
abbrev Cx : Type := Program × Env × State × MethodId × Array Value × List Frame × Method × Code
abbrev Cx.p (K : Cx) : Program := K.1
abbrev Cx.e (K : Cx) : Env := K.2.1
abbrev Cx.s (K : Cx) : State := K.2.2.1
abbrev Cx.m (K : Cx) : MethodId := K.2.2.2.1
abbrev Cx.args (K : Cx) : Array Value := K.2.2.2.2.1
abbrev Cx.below (K : Cx) : List Frame := K.2.2.2.2.2.1
abbrev Cx.meth (K : Cx) : Method := K.2.2.2.2.2.2.1
abbrev Cx.c (K : Cx) : Code := K.2.2.2.2.2.2.2
abbrev Qt : Type := Option Value → Heap → List Addr → Prop
def ushr (x y : Int32) : Int32 := (x.toUInt32 >>> (y &&& 31).toUInt32).toInt32
def ushrL (x : Int64) (y : Int32) : Int64 := (x.toUInt64 >>> (y &&& 0x3f).toInt64.toUInt64).toInt64
def Fx (K : Cx) (B : Bx) : Prop := K.p.tables.exec = Jvm.exec ∧ K.c.code = B.code ∧ K.c.maxLocals = B.ml ∧ K.meth.sig.returnType = B.ret ∧ K.meth.locks = false ∧ K.meth.name = B.y.name
def Sf (V : Vw) (vm : Vm) (h : Heap) (ps : List Addr) : Prop := ∀ x ∈ ps, x < h.size ∧ Safe V.Z V.EL vm h x
def Std (V : Vw) (K : Cx) (B : Bx) (T : State) (h : Heap) (ps : List Addr) (cs sl : Nat) : Prop :=
  ∃ (locs : List Loc) (vm0 : Vm) (k0 : Nat), Stand K.p V.l K.e B.R (K.s.setVm vm0) K.m K.args K.below K.meth K.c T locs cs sl ∧ T.heap = h ∧ V.Z.Warmed39 vm0 ∧ vm0.findClass B.y.cls = some K.m.cls ∧ K.s.Since vm0 k0 ∧ k0 ≤ h.size ∧
    Fr V.Z.heap.size locs ∧ Ext V.Z.heap h ∧ CHr V.Z V.EL K.s.vm K.s.heap vm0 h ∧ Sf V vm0 h ps ∧ EW V.Z V.a0 V.EL ∧ (V.nar = true → vm0 = K.s.vm ∧ V.EL = []) ∧ Fx K B
def Fnl (V : Vw) (K : Cx) (B : Bx) (Q : Qt) (o : Outcome) (t : State) : Prop :=
  ∃ (v : Option Value) (L : List Loc) (ps : List Addr), o = .returned v ∧ Fr V.Z.heap.size L ∧ Q v t.heap ps ∧ Ext V.Z.heap t.heap ∧ Sf V t.vm t.heap ps ∧ CHr V.Z V.EL K.s.vm K.s.heap t.vm t.heap ∧
    ReturnedEndW K.s o t L B.R.cells B.R.slots ∧ (V.nar = true → FrameEnd K.s o t L B.R.cells B.R.slots)
def Run (V : Vw) (K : Cx) (B : Bx) (Q : Qt) (h : Heap) (ps : List Addr) (cs sl pc : Nat) (L : List Slot) (S : List Value) : Prop :=
  ∀ T, Std V K B T h ps cs sl → ∃ t o, Steps K.p.tables K.e K.below (T.setTop (mkF K.m pc L.toArray S)) t ∧ t.status = .running ∧ Ended t K.below o ∧ Fnl V K B Q o t
/-- the contract of a body, at one heap and for one row of arguments -/
def Con (V : Vw) (B : Bx) (as' : Array Value) (h0 : Heap) (ps : List Addr) (Q : Qt) : Prop :=
  EW V.Z V.a0 V.EL → Ext V.Z.heap h0 → (V.nar = true → V.EL = []) → ∀ ws, MetFree V.l B.y (head1 (Jvm.Cond.code B.y B.code B.ml B.ret :: ws) B.R)
    (fun a U => a = as' ∧ V.Z.Warmed39 U.vm ∧ U.heap = h0 ∧ CHv V.Z V.EL U.vm h0 ∧ Sf V U.vm h0 ps) (fun _ _ _ _ _ => True)
    (fun _ U o U' => ∃ (v : Option Value) (L : List Loc) (ps' : List Addr), o = .returned v ∧ Fr V.Z.heap.size L ∧ Q v U'.heap ps' ∧ Ext V.Z.heap U'.heap ∧ Sf V U'.vm U'.heap ps' ∧ CHr V.Z V.EL U.vm U.heap U'.vm U'.heap ∧
      ReturnedEndW U o U' L B.R.cells B.R.slots ∧ (V.nar = true → FrameEnd U o U' L B.R.cells B.R.slots))
/-- what a call of y gives in the invocation K of B -/
def PreP (B : Bx) (as' : Array Value) (h : Heap) (nc ns : Nat) : Pt → Array Value → Prop := fun A a => a = as' ∧ A.U.heap = h ∧ A.cells + nc ≤ B.R.cells ∧ A.slots + ns ≤ B.R.slots
def PostP (V : Vw) (vm0 : Vm) (h : Heap) (nc ns : Nat) (Q : Qt) : Pt → Array Value → Option Value → Pt → Prop := fun A _ v C =>
  ∃ (L : List Loc) (ps : List Addr), Fr V.Z.heap.size L ∧ Q v C.U.heap ps ∧ Ext V.Z.heap C.U.heap ∧ h.size ≤ C.U.heap.size ∧ Sf V C.U.vm C.U.heap ps ∧ C.locs = A.locs ++ L ∧ C.cells = A.cells + nc ∧ C.slots = A.slots + ns ∧ CHr V.Z V.EL vm0 h C.U.vm C.U.heap
def Pays (V : Vw) (K : Cx) (B : Bx) (y : MethodName) (len W : Nat) (as' : Array Value) (h : Heap) (ps : List Addr) (nc ns : Nat) (Q : Qt) : Prop :=
  ∀ vm0, V.Z.Warmed39 vm0 → CHv V.Z V.EL vm0 h → Sf V vm0 h ps → EW V.Z V.a0 V.EL → Ext V.Z.heap h → (V.nar = true → V.EL = []) →
    (V.nar = true → Back V.l B.R K.p K.e K.below (K.s.setVm vm0) K.args y len W (PreP B as' h nc ns) (PostP V vm0 h nc ns Q)) ∧
    (V.nar = false → BackS V.l B.R K.p K.e K.below (K.s.setVm vm0) K.args y len W (PreP B as' h nc ns) (PostP V vm0 h nc ns Q))
theorem ltN {a n : Nat} (h : a < n) : a < n := h
theorem leN {a n : Nat} (h : a ≤ n) : a ≤ n := h
theorem neN {a b : Nat} (h : a ≠ b) : a < b ∨ b < a := Nat.lt_or_gt_of_ne h
theorem neA {a b : Nat} (h : a < b ∨ b < a) : a ≠ b := fun e => by omega
theorem leA {a b : Nat} (h : a ≤ b) : a ≤ b := h
theorem wd {V : Vw} {Ls : List Jvm.Cond} (hw : ∀ d ∈ Ls, d.before V.a0 V.Z = true) (i : Nat) {d : Jvm.Cond} (h : Ls[i]? = some d) : d.before V.a0 V.Z = true := hw d (List.mem_of_getElem? h)
section Basics
variable {V : Vw} {K : Cx} {B : Bx} {Q : Qt} {T : State} {h h' : Heap} {ps ps' : List Addr} {cs sl pc : Nat} {L : List Slot} {S : List Value}
theorem Sf.nil {vm : Vm} : Sf V vm h [] := fun _ q => nomatch q
theorem Sf.cons {vm : Vm} {x : Addr} (a : x < h.size) (b : Safe V.Z V.EL vm h x) (c : Sf V vm h ps) : Sf V vm h (x :: ps) := fun y q => by
  rcases List.mem_cons.mp q with rfl | q
  · exact ⟨a, b⟩
  · exact c y q
theorem Sf.app {vm : Vm} (c : Sf V vm h ps) (d : Sf V vm h ps') : Sf V vm h (ps ++ ps') := fun y q => (List.mem_append.mp q).elim (c y) (d y)
theorem Sf.sub {vm : Vm} (c : Sf V vm h ps) (d : ∀ x ∈ ps', x ∈ ps) : Sf V vm h ps' := fun y q => c y (d y q)
theorem Sf.go {vm vm1 : Vm} (c : Sf V vm h ps) (A : CHr V.Z V.EL vm h vm1 h') : Sf V vm1 h' ps := fun y q => ⟨Nat.lt_of_lt_of_le (c y q).1 A.2.1, A.safe (c y q).1 (c y q).2⟩
theorem chr0 {Z : State} {vm vm1 : Vm} (q : h.size ≤ h'.size) : CHr Z [] vm h vm1 h' := ⟨(fun _ hp => nomatch hp), q, (fun _ z => by obtain ⟨_, hp, _⟩ := z; exact nomatch hp)⟩
theorem oldWr {Z : State} {a : Addr} {j : Nat} {v : Value} (O : Ext Z.heap h) (W : Wr h h' a j v) (q : Z.heap.size ≤ a) : Ext Z.heap h' := (Old.wr (show Old Z Z.heap.size h from ⟨rfl, O⟩) W q).2
theorem oldKeep {Z : State} {ws : List Addr} (O : Ext Z.heap h) (W : Keep h h' ws) (q : ∀ x ∈ ws, Z.heap.size ≤ x) : Ext Z.heap h' := (Old.keep (show Old Z Z.heap.size h from ⟨rfl, O⟩) W q).2
theorem Ext.trans' {h1 h2 h3 : Heap} (A : Ext h1 h2) (C : Ext h2 h3) : Ext h1 h3 := ⟨Nat.le_trans A.1 C.1, fun a c q => C.2 a c (A.2 a c q)⟩
/-- a step that moves nothing of the heap -/
theorem Run.plain {pc' : Nat} {L' : List Slot} {S' : List Value} (r : Run V K B Q h ps cs sl pc' L' S')
    (st : ∀ T t, At T K.m K.c K.below → K.p.tables.exec = Jvm.exec → K.c.code = B.code → Steps K.p.tables K.e K.below (T.setTop (mkF K.m pc' L'.toArray S')) t → Steps K.p.tables K.e K.below (T.setTop (mkF K.m pc L.toArray S)) t) :
    Run V K B Q h ps cs sl pc L S := fun T hT => by
  obtain ⟨t, o, h1, h2⟩ := r T hT
  obtain ⟨locs, vm0, k0, X, -, -, -, -, -, -, -, -, -, -, -, G⟩ := hT
  exact ⟨t, o, st T t X.here G.1 G.2.1 h1, h2⟩
theorem Run.more {cs' sl' : Nat} (hc : cs ≤ cs') (hs : sl ≤ sl') (r : Run V K B Q h ps cs' sl' pc L S) : Run V K B Q h ps cs sl pc L S := fun T hT => by
  obtain ⟨locs, vm0, k0, X, rest⟩ := hT
  exact r T ⟨locs, vm0, k0, X.more hc hs, rest⟩
theorem Run.less (hs : ∀ x ∈ ps', x ∈ ps) (r : Run V K B Q h ps' cs sl pc L S) : Run V K B Q h ps cs sl pc L S := fun T hT => by
  obtain ⟨locs, vm0, k0, X, e1, e2, e3, e4, e5, e6, e7, e8, e9, e10⟩ := hT
  exact r T ⟨locs, vm0, k0, X, e1, e2, e3, e4, e5, e6, e7, e8, e9.sub hs, e10⟩
/-- what the walk knows at any time: all that stood at the case's start stands -/
theorem Run.old (r : Ext V.Z.heap h → Run V K B Q h ps cs sl pc L S) : Run V K B Q h ps cs sl pc L S := fun T hT => by
  have O : Ext V.Z.heap h := by obtain ⟨locs, vm0, k0, X, e1, e2, e3, e4, e5, e6, e7, e8, e9, e10⟩ := hT; exact e7
  exact r O T hT
/-- a step that moves the state but not the heap -/
theorem Run.still {pc' : Nat} {L' : List Slot} {S' : List Value} (r : Run V K B Q h ps cs sl pc' L' S')
    (st : ∀ T locs vm0, Stand K.p V.l K.e B.R (K.s.setVm vm0) K.m K.args K.below K.meth K.c T locs cs sl → T.heap = h → V.Z.Warmed39 (K.s.setVm vm0).vm → (K.s.setVm vm0).vm.findClass B.y.cls = some K.m.cls → Ext V.Z.heap h → Fx K B →
      ∃ T', Stand K.p V.l K.e B.R (K.s.setVm vm0) K.m K.args K.below K.meth K.c T' locs cs sl ∧ T'.heap = h ∧ ∀ t, Steps K.p.tables K.e K.below (T'.setTop (mkF K.m pc' L'.toArray S')) t → Steps K.p.tables K.e K.below (T.setTop (mkF K.m pc L.toArray S)) t) :
    Run V K B Q h ps cs sl pc L S := fun T hT => by
  obtain ⟨locs, vm0, k0, X, e1, e2, e3, e4, e5, e6, e7, e8, e9, e10, e11, e12⟩ := hT
  obtain ⟨T', X', e', st'⟩ := st T locs vm0 X e1 e2 e3 e7 e12
  obtain ⟨t, o, h1, h2⟩ := r T' ⟨locs, vm0, k0, X', e', e2, e3, e4, e5, e6, e7, e8, e9, e10, e11, e12⟩
  exact ⟨t, o, st' _ h1, h2⟩
/-- a step that writes one slot of a cell that the case has made -/
theorem Run.write {pc' : Nat} {L' : List Slot} {S' : List Value} {a : Addr} {v : Value} {j : Nat} (ha : V.Z.heap.size ≤ a) (hs : ∀ vm, V.Z.vm.Alike vm → Sf V vm h ps → Safe V.Z V.EL vm h a) (r : ∀ h', Wr h h' a j v → Run V K B Q h' ps cs sl pc' L' S')
    (st : ∀ T locs vm0, Stand K.p V.l K.e B.R (K.s.setVm vm0) K.m K.args K.below K.meth K.c T locs cs sl → T.heap = h → V.Z.Warmed39 (K.s.setVm vm0).vm → (K.s.setVm vm0).vm.findClass B.y.cls = some K.m.cls → Fx K B →
      ∃ T' h', Stand K.p V.l K.e B.R (K.s.setVm vm0) K.m K.args K.below K.meth K.c T' (locs ++ [⟨a, j⟩]) cs sl ∧ T'.heap = h' ∧ Wr h h' a j v ∧ ∀ t, Steps K.p.tables K.e K.below (T'.setTop (mkF K.m pc' L'.toArray S')) t → Steps K.p.tables K.e K.below (T.setTop (mkF K.m pc L.toArray S)) t) :
    Run V K B Q h ps cs sl pc L S := fun T hT => by
  obtain ⟨locs, vm0, k0, X, e1, e2, e3, e4, e5, e6, e7, e8, e9, e10, e11, e12⟩ := hT
  obtain ⟨T', h', X', e', W, st'⟩ := st T locs vm0 X e1 e2 e3 e12
  have C := CHr.wr W (hs vm0 e2.alike e9) e8.1
  obtain ⟨t, o, h1, h2⟩ := r h' W T' ⟨_, vm0, k0, X', e', e2, e3, e4, by rw [W.size]; exact e5, Fr.snoc X' e6 ha, oldWr e7 W ha, e8.trans C, e9.go C, e10, e11, e12⟩
  exact ⟨t, o, st' _ h1, h2⟩
/-- a step that makes one cell -/
theorem Run.make {pc' nn : Nat} {L' : List Slot} {S' : Addr → List Value} {P : Heap → Prop} (r : ∀ h', Ext h h' → V.Z.heap.size ≤ h.size → P h' → Run V K B Q h' (h.size :: ps) (cs + 1) (sl + nn) pc' L' (S' h.size))
    (st : ∀ T locs vm0, Stand K.p V.l K.e B.R (K.s.setVm vm0) K.m K.args K.below K.meth K.c T locs cs sl → T.heap = h → V.Z.Warmed39 (K.s.setVm vm0).vm → (K.s.setVm vm0).vm.findClass B.y.cls = some K.m.cls → Fx K B →
      ∃ T' h', Stand K.p V.l K.e B.R (K.s.setVm vm0) K.m K.args K.below K.meth K.c T' locs (cs + 1) (sl + nn) ∧ T'.heap = h' ∧ Ext h h' ∧ h.size < h'.size ∧ P h' ∧ ∀ t, Steps K.p.tables K.e K.below (T'.setTop (mkF K.m pc' L'.toArray (S' h.size))) t → Steps K.p.tables K.e K.below (T.setTop (mkF K.m pc L.toArray S)) t) :
    Run V K B Q h ps cs sl pc L S := fun T hT => by
  obtain ⟨locs, vm0, k0, X, e1, e2, e3, e4, e5, e6, e7, e8, e9, e10, e11, e12⟩ := hT
  obtain ⟨T', h', X', e', E, hlt, hP, st'⟩ := st T locs vm0 X e1 e2 e3 e12
  have C := CHr.ext E e8.1
  obtain ⟨t, o, h1, h2⟩ := r h' E e7.1 hP T' ⟨_, vm0, k0, X', e', e2, e3, e4, Nat.le_trans e5 E.1, e6, Ext.trans' e7 E, e8.trans C, Sf.cons hlt ((Safe.new (Nat.le_refl _)).ext E e8.1) (e9.go C), e10, e11, e12⟩
  exact ⟨t, o, st' _ h1, h2⟩
/-- the way into a body -/
theorem Con.of {as' : Array Value} (hp : plainFor B.y = true) (hl : argsToLocals as' B.ml = L.toArray) (body : ∀ K : Cx, Run V K B Q h ps 0 0 0 L []) : Con V B as' h ps Q := fun hE hO hN ws => by
  refine MetFree.of_bodySF hp hisR ?_
  intro p e s m args below meth c s₁ Bd hml0 hP hK
  obtain ⟨rfl, hZ, hh, hC, hS⟩ := hP
  have X0 : Stand p V.l e B.R s m args below meth c s₁ [] 0 0 := Stand.of_body Bd
  have e0 : s₁.heap = h := by rw [← hh, Bd.state]; rfl
  have hn := (name_of_methodNamed Bd.named Bd.method).1
  obtain ⟨t, o, h1, h2, h3, h4⟩ := body (p, e, s, m, args, below, meth, c) s₁
    ⟨[], s.vm, h.size, X0, e0, hZ, findClass_of_methodNamed Bd.named, (State.WarmedH.refl s).since _, Nat.le_refl _, Fr.nil _, hO, (by show CHr V.Z V.EL s.vm s.heap s.vm h; rw [hh]; exact CHr.refl hC), hS, hE, fun q => ⟨rfl, hN q⟩, Bd.exec, Bd.bytes, hml0, Bd.returns, BodyLoose.notSynchronized Bd, hn⟩
  refine ⟨t, o, ?_, h2, h3, h4⟩
  have q : entryFrame m args B.ml = mkF m 0 L.toArray [] := by simp only [entryFrame, mkF, hl]
  rw [q]; exact h1
/-- a contract pays a call -/
theorem Pays.con {B' : Bx} {as' : Array Value} {len W : Nat} (C : Con V B' as' h ps Q) (wc : (Jvm.Cond.code B'.y B'.code B'.ml B'.ret).before V.a0 V.Z = true) (wz : (Jvm.Cond.initialized B'.y.cls).before V.a0 V.Z = true)
    (hf : B'.R.frames + 1 ≤ B.R.frames) (hl : W + (B'.ml + 11) + B'.R.locals ≤ B.R.locals) : Pays V K B B'.y len W as' h ps B'.R.cells B'.R.slots Q := fun vm0 hZ hC hS hE hO hN => by
  have hM := C hE hO hN []
  refine ⟨fun hn => ?_, fun hn => ?_⟩
  · refine Back.of_free (bytes := B'.code) (maxL := B'.ml) (ret := B'.ret) (E := fun _ first o t L k n => k = B'.R.cells ∧ n = B'.R.slots ∧ ∃ v ps', o = .returned v ∧ Fr V.Z.heap.size L ∧ Q v t.heap ps' ∧ Ext V.Z.heap t.heap ∧ first.heap.size ≤ t.heap.size ∧ Sf V t.vm t.heap ps') hM hf hl
      (fun m meth c A a Y hp => have hU : V.Z.Warmed39 A.U.vm := wtrans (s := K.s.setVm vm0) hZ Y.warmed
        ⟨by show (Cond.and _ .tt).before a A.U = true; rw [Cond.before_and, mv hU wc]; rfl, mv hU wc, mv hU wz, hp.2.2.1, hp.2.2.2⟩)
      (fun m meth c A a g mk Y hp => ?_) (fun _ _ _ _ _ _ _ _ _ => trivial)
      (fun _ _ _ _ ⟨v, L, ps', h1, h2, h3, h4, h5, h6, h7, h8⟩ => ⟨L, _, _, h8 hn, rfl, rfl, v, ps', h1, h2, h3, h4, h6.2.1, h5⟩)
      (fun m meth c A a g mk v t L k n Y hp _ _ ⟨e1, e2, v', ps', e3, e4, e5, e6, e7, e8⟩ => ?_)
    · have A' := CHv.at Y hZ hE hC
      exact ⟨hp.1, wtrans (s := K.s.setVm vm0) hZ Y.warmed, hp.2.1, A'.1, hS.go A'⟩
    · cases e3; subst e1 e2
      have q : h.size ≤ t.heap.size := by rw [← hp.2.1]; exact e7
      exact ⟨L, ps', e4, e5, e6, q, e8, rfl, rfl, rfl, by rw [hN hn]; exact chr0 q⟩
  · refine BackS.of_freeW (bytes := B'.code) (maxL := B'.ml) (ret := B'.ret) (E := fun _ first o t L k n => k = B'.R.cells ∧ n = B'.R.slots ∧ (∃ v ps', o = .returned v ∧ Fr V.Z.heap.size L ∧ Q v t.heap ps' ∧ Ext V.Z.heap t.heap ∧ Sf V t.vm t.heap ps') ∧ CHr V.Z V.EL first.vm first.heap t.vm t.heap) hM hf hl
      (fun m meth c A a Y hp => have hU : V.Z.Warmed39 A.U.vm := wtrans (s := K.s.setVm vm0) hZ Y.warmed
        ⟨by show (Cond.and _ .tt).before a A.U = true; rw [Cond.before_and, mv hU wc]; rfl, mv hU wc, mv hU wz, hp.2.2.1, hp.2.2.2⟩)
      (fun m meth c A a g mk Y hp => ?_) (fun _ _ _ _ _ _ _ _ _ => trivial)
      (fun _ _ _ _ ⟨v, L, ps', h1, h2, h3, h4, h5, h6, h7, h8⟩ => ⟨L, _, _, h7, rfl, rfl, ⟨v, ps', h1, h2, h3, h4, h5⟩, h6⟩)
      (fun m meth c A a g mk v t L k n Y hp _ _ ⟨e1, e2, ⟨v', ps', e3, e4, e5, e6, e8⟩, e7⟩ => ?_)
    · have A' := CHv.at Y hZ hE hC
      exact ⟨hp.1, wtrans (s := K.s.setVm vm0) hZ Y.warmed, hp.2.1, A'.1, hS.go A'⟩
    · cases e3; subst e1 e2
      have q : CHr V.Z V.EL A.U.vm h t.vm t.heap := by rw [← hp.2.1]; exact e7
      exact ⟨L, ps', e4, e5, e6, q.2.1, e8, rfl, rfl, rfl, (CHv.at Y hZ hE hC).trans q⟩
/-- a law that says what it keeps (the pasted laws of the JDK) pays a call -/
theorem Pays.back {y : MethodName} {as' : Array Value} {len W nc ns : Nat} {ws : List Addr} {Q0 : Option Value → Heap → List Loc → Prop}
    (hB : ∀ s : State, V.Z.Warmed39 s.vm → Back V.l B.R K.p K.e K.below s K.args y len W (fun A a => a = as' ∧ A.U.heap = h ∧ A.cells + nc ≤ B.R.cells ∧ A.slots + ns ≤ B.R.slots) (fun A _ v C => ∃ L, Q0 v C.U.heap L ∧ C.locs = A.locs ++ L ∧ C.cells = A.cells + nc ∧ C.slots = A.slots + ns))
    (hQ : ∀ v h' L, Q0 v h' L → Fr V.Z.heap.size L ∧ Keep h h' ws ∧ Q v h' []) (hws : ∀ x ∈ ws, V.Z.heap.size ≤ x) (hsafe : ∀ vm, V.Z.vm.Alike vm → Sf V vm h ps → ∀ x ∈ ws, Safe V.Z V.EL vm h x) :
    Pays V K B y len W as' h ps nc ns Q := fun vm0 hZ hC hS hE hO hN => by
  have hb0 := hB (K.s.setVm vm0) hZ
  have post : ∀ m meth c A a v C, Stand K.p V.l K.e B.R (K.s.setVm vm0) m K.args K.below meth c (Pt.U C) (Pt.locs C) (Pt.cells C) (Pt.slots C) → (∃ L, Q0 v C.U.heap L ∧ C.locs = (Pt.locs A) ++ L ∧ C.cells = (Pt.cells A) + nc ∧ C.slots = (Pt.slots A) + ns) → PostP V vm0 h nc ns Q A a v C := fun m meth c A a v C Y ⟨L, q, r1, r2, r3⟩ => by
    obtain ⟨q1, q2, q3⟩ := hQ _ _ _ q
    have C1 := CHr.keep q2 (hsafe vm0 hZ.alike hS) hC
    exact ⟨L, [], q1, q3, oldKeep hO q2 hws, q2.1, Sf.nil, r1, r2, r3, C1.trans (CHv.at Y hZ hE C1.1)⟩
  refine ⟨fun hn => ?_, fun hn => ?_⟩
  · intro m meth c A g ig mk a X hg hsize hdg hW hn' hp
    obtain ⟨v, C, X', hpost, hst⟩ := hb0 m meth c A g ig mk a X hg hsize hdg hW hn' hp
    exact ⟨v, C, X', post m meth c A a v C X' hpost, hst⟩
  · intro m meth c A g ig mk a X hg hsize hdg hW hn' hp
    obtain ⟨v, C, X', hpost, hst⟩ := hb0 m meth c A g ig mk a X hg hsize hdg hW hn' hp
    have hpo := post m meth c A a v C X' hpost
    refine ⟨v, C, X'.retabled X'.warmed.wide, X'.warmed.since _, ?_, hpo, hst⟩
    rw [hp.2.1]; obtain ⟨L, ps1, -, -, -, q, -⟩ := hpo; exact q
/-- behind a call: the invocation stands again -/
theorem Run.behind {vm0 : Vm} {k0 : Nat} {locs : List Loc} {nc ns : Nat} {Q' : Qt} {v : Option Value} {vm₁ : Vm} {C : Pt} {pc' : Nat} {L' : List Slot} {S' : List Value} {a : Array Value}
    (e2 : V.Z.Warmed39 vm0) (e3 : vm0.findClass B.y.cls = some K.m.cls) (e4 : K.s.Since vm0 k0) (e5 : k0 ≤ h.size) (e6 : Fr V.Z.heap.size locs) (e8 : CHr V.Z V.EL K.s.vm K.s.heap vm0 h) (e9 : Sf V vm0 h ps) (e10 : EW V.Z V.a0 V.EL) (e11 : V.nar = true → vm0 = K.s.vm ∧ V.EL = []) (e12 : Fx K B)
    (X : (V.nar = true ∧ Stand K.p V.l K.e B.R (K.s.setVm vm0) K.m K.args K.below K.meth K.c C.U C.locs C.cells C.slots) ∨ (V.nar = false ∧ Stand K.p V.l K.e B.R ((K.s.setVm vm0).setVm C.U.vm) K.m K.args K.below K.meth K.c C.U C.locs C.cells C.slots ∧ (K.s.setVm vm0).Since C.U.vm C.U.heap.size))
    (hp : PostP V vm0 h nc ns Q' ⟨T.setVm vm₁, locs, cs, sl⟩ a v C) (r : ∀ v h' ps', Q' v h' ps' → h.size ≤ h'.size → Run V K B Q h' (ps' ++ ps) (cs + nc) (sl + ns) pc' L' (v.toList ++ S')) :
    ∃ t o, Steps K.p.tables K.e K.below (C.U.setTop (mkF K.m pc' L'.toArray (v.toList ++ S'))) t ∧ t.status = .running ∧ Ended t K.below o ∧ Fnl V K B Q o t := by
  obtain ⟨Lc, ps', q1, q2, q3, q4, q5, q6, q7, q8, q9⟩ := hp
  rcases X with ⟨hn, X⟩ | ⟨hn, X, hS⟩
  · refine r v _ ps' q2 q4 C.U ⟨_, vm0, k0, by rw [← q7, ← q8]; exact X, rfl, e2, e3, e4, Nat.le_trans e5 q4, by rw [q6]; exact e6.app q1, q3, ?_, ?_, e10, e11, e12⟩
    · rw [(e11 hn).2]; exact chr0 (Nat.le_trans e8.2.1 q4)
    · intro x hx
      refine ⟨?_, by rw [(e11 hn).2]; exact fun ⟨_, hp, _⟩ => nomatch hp⟩
      rcases List.mem_append.mp hx with hx | hx
      · exact (q5 x hx).1
      · exact Nat.lt_of_lt_of_le (e9 x hx).1 q4
  · obtain ⟨X1, S1, W1, F1⟩ := rebS (Z := V.Z) (own := B.y.cls) e4 e5 X hS q4 e2 e3
    exact r v _ ps' q2 q4 C.U ⟨_, C.U.vm, _, by rw [← q7, ← q8]; exact X1, rfl, W1, F1, S1, Nat.le_refl _, by rw [q6]; exact e6.app q1, q3, e8.trans q9, q5.app (e9.go q9), e10, fun q => absurd (hn.symm.trans q) (by decide), e12⟩
end Basics
end Jvm.Own
namespace Jvm.Own
open Jvm Jvm.ClassFile Sem Op Lib Jvm.Free Jvm.Stand Jvm.LawKit Jvm.RoadKit Bundle
section Rules
variable {V : Vw} {K : Cx} {B : Bx} {Q : Qt} {T : State} {h h' : Heap} {ps ps' : List Addr} {cs sl pc : Nat} {L : List Slot} {S : List Value}
theorem r_iload {k : Nat} {v : Int32} (pc' : Nat) (hp : pc + 2 = pc') (hd : decode B.code pc = .ok (.iload k, 2)) (hl : L[k]? = some (.val (.int v))) (r : Run V K B Q h ps cs sl pc' L (.int v :: S)) : Run V K B Q h ps cs sl pc L (S) := by
  subst hp; exact r.plain fun T t hA hx hc st => XS.iload hA hx rfl (hb hc hd) (by show L.toArray[_]? = _; rw [List.getElem?_toArray]; exact hl) st
theorem r_iloadN {k : Fin 4} {v : Int32} (pc' : Nat) (hp : pc + 1 = pc') (hd : decode B.code pc = .ok (.iload_n k, 1)) (hl : L[k.val]? = some (.val (.int v))) (r : Run V K B Q h ps cs sl pc' L (.int v :: S)) : Run V K B Q h ps cs sl pc L (S) := by
  subst hp; exact r.plain fun T t hA hx hc st => XS.iloadN hA hx rfl (hb hc hd) (by show L.toArray[_]? = _; rw [List.getElem?_toArray]; exact hl) st
theorem r_istore {k : Nat} {x : Int32} (L' : List Slot) (pc' : Nat) (hp : pc + 2 = pc') (hd : decode B.code pc = .ok (.istore k, 2)) (hl : storeLocals L.toArray k (.int x) = some L'.toArray) (r : Run V K B Q h ps cs sl pc' L' (S)) : Run V K B Q h ps cs sl pc L (.int x :: S) := by
  subst hp; exact r.plain fun T t hA hx hc st => XS.istore hA hx rfl (hb hc hd) rfl hl st
theorem r_istoreN {k : Fin 4} {x : Int32} (L' : List Slot) (pc' : Nat) (hp : pc + 1 = pc') (hd : decode B.code pc = .ok (.istore_n k, 1)) (hl : storeLocals L.toArray k.val (.int x) = some L'.toArray) (r : Run V K B Q h ps cs sl pc' L' (S)) : Run V K B Q h ps cs sl pc L (.int x :: S) := by
  subst hp; exact r.plain fun T t hA hx hc st => XS.istoreN hA hx rfl (hb hc hd) rfl hl st
theorem r_lload {k : Nat} {v : Int64} (pc' : Nat) (hp : pc + 2 = pc') (hd : decode B.code pc = .ok (.lload k, 2)) (hl : L[k]? = some (.val (.long v))) (r : Run V K B Q h ps cs sl pc' L (.long v :: S)) : Run V K B Q h ps cs sl pc L (S) := by
  subst hp; exact r.plain fun T t hA hx hc st => XS.lload hA hx rfl (hb hc hd) (by show L.toArray[_]? = _; rw [List.getElem?_toArray]; exact hl) st
theorem r_lloadN {k : Fin 4} {v : Int64} (pc' : Nat) (hp : pc + 1 = pc') (hd : decode B.code pc = .ok (.lload_n k, 1)) (hl : L[k.val]? = some (.val (.long v))) (r : Run V K B Q h ps cs sl pc' L (.long v :: S)) : Run V K B Q h ps cs sl pc L (S) := by
  subst hp; exact r.plain fun T t hA hx hc st => XS.lloadN hA hx rfl (hb hc hd) (by show L.toArray[_]? = _; rw [List.getElem?_toArray]; exact hl) st
theorem r_lstore {k : Nat} {x : Int64} (L' : List Slot) (pc' : Nat) (hp : pc + 2 = pc') (hd : decode B.code pc = .ok (.lstore k, 2)) (hl : storeLocals L.toArray k (.long x) = some L'.toArray) (r : Run V K B Q h ps cs sl pc' L' (S)) : Run V K B Q h ps cs sl pc L (.long x :: S) := by
  subst hp; exact r.plain fun T t hA hx hc st => XS.lstore hA hx rfl (hb hc hd) rfl hl st
theorem r_lstoreN {k : Fin 4} {x : Int64} (L' : List Slot) (pc' : Nat) (hp : pc + 1 = pc') (hd : decode B.code pc = .ok (.lstore_n k, 1)) (hl : storeLocals L.toArray k.val (.long x) = some L'.toArray) (r : Run V K B Q h ps cs sl pc' L' (S)) : Run V K B Q h ps cs sl pc L (.long x :: S) := by
  subst hp; exact r.plain fun T t hA hx hc st => XS.lstoreN hA hx rfl (hb hc hd) rfl hl st
theorem r_aload {k : Nat} {v : Value} (pc' : Nat) (hp : pc + 2 = pc') (hd : decode B.code pc = .ok (.aload k, 2)) (hl : L[k]? = some (.val v)) (hv : v.isRef = true) (r : Run V K B Q h ps cs sl pc' L (v :: S)) : Run V K B Q h ps cs sl pc L (S) := by
  subst hp; exact r.plain fun T t hA hx hc st => XS.aload hA hx rfl (hb hc hd) (by show L.toArray[_]? = _; rw [List.getElem?_toArray]; exact hl) hv st
theorem r_aloadN {k : Fin 4} {v : Value} (pc' : Nat) (hp : pc + 1 = pc') (hd : decode B.code pc = .ok (.aload_n k, 1)) (hl : L[k.val]? = some (.val v)) (hv : v.isRef = true) (r : Run V K B Q h ps cs sl pc' L (v :: S)) : Run V K B Q h ps cs sl pc L (S) := by
  subst hp; exact r.plain fun T t hA hx hc st => XS.aloadN hA hx rfl (hb hc hd) (by show L.toArray[_]? = _; rw [List.getElem?_toArray]; exact hl) hv st
theorem r_astore {k : Nat} {x : Value} (L' : List Slot) (pc' : Nat) (hp : pc + 2 = pc') (hd : decode B.code pc = .ok (.astore k, 2)) (hv : x.isRef = true) (hl : storeLocals L.toArray k x = some L'.toArray) (r : Run V K B Q h ps cs sl pc' L' (S)) : Run V K B Q h ps cs sl pc L (x :: S) := by
  subst hp; exact r.plain fun T t hA hx hc st => XS.astore hA hx rfl (hb hc hd) rfl hv hl st
theorem r_astoreN {k : Fin 4} {x : Value} (L' : List Slot) (pc' : Nat) (hp : pc + 1 = pc') (hd : decode B.code pc = .ok (.astore_n k, 1)) (hv : x.isRef = true) (hl : storeLocals L.toArray k.val x = some L'.toArray) (r : Run V K B Q h ps cs sl pc' L' (S)) : Run V K B Q h ps cs sl pc L (x :: S) := by
  subst hp; exact r.plain fun T t hA hx hc st => XS.astoreN hA hx rfl (hb hc hd) rfl hv hl st
theorem r_iconst {i : Int} (v : Int32) (pc' : Nat) (hp : pc + 1 = pc') (hd : decode B.code pc = .ok (.iconst i, 1)) (hv : Int32.ofInt i = v) (r : Run V K B Q h ps cs sl pc' L (.int v :: S)) : Run V K B Q h ps cs sl pc L (S) := by
  subst hp; exact r.plain fun T t hA hx hc st => XT.iconstV hA hx rfl v (hb hc hd) hv st
theorem r_bipush {i : Int} (v : Int32) (pc' : Nat) (hp : pc + 2 = pc') (hd : decode B.code pc = .ok (.bipush i, 2)) (hv : (Int8.ofInt i).toInt32 = v) (r : Run V K B Q h ps cs sl pc' L (.int v :: S)) : Run V K B Q h ps cs sl pc L (S) := by
  subst hp; exact r.plain fun T t hA hx hc st => XT.bipushV hA hx rfl v (hb hc hd) hv st
theorem r_sipush {i : Int} (v : Int32) (pc' : Nat) (hp : pc + 3 = pc') (hd : decode B.code pc = .ok (.sipush i, 3)) (hv : (Int16.ofInt i).toInt32 = v) (r : Run V K B Q h ps cs sl pc' L (.int v :: S)) : Run V K B Q h ps cs sl pc L (S) := by
  subst hp; exact r.plain fun T t hA hx hc st => XT.sipushV hA hx rfl v (hb hc hd) hv st
theorem r_lconst {k : Fin 2} (v : Int64) (pc' : Nat) (hp : pc + 1 = pc') (hd : decode B.code pc = .ok (.lconst k, 1)) (hv : Int64.ofNat k = v) (r : Run V K B Q h ps cs sl pc' L (.long v :: S)) : Run V K B Q h ps cs sl pc L (S) := by
  subst hp; exact r.plain fun T t hA hx hc st => XT.lconstV hA hx rfl v (hb hc hd) hv st
theorem r_null  (pc' : Nat) (hp : pc + 1 = pc') (hd : decode B.code pc = .ok (.aconst_null, 1)) (r : Run V K B Q h ps cs sl pc' L (.null :: S)) : Run V K B Q h ps cs sl pc L (S) := by
  subst hp; exact r.plain fun T t hA hx hc st => XS.aconstNull hA hx rfl (hb hc hd) st
theorem r_iadd {x y : Int32} (pc' : Nat) (hp : pc + 1 = pc') (hd : decode B.code pc = .ok (.iadd, 1)) (r : Run V K B Q h ps cs sl pc' L (.int (x + y) :: S)) : Run V K B Q h ps cs sl pc L (.int y :: .int x :: S) := by
  subst hp; exact r.plain fun T t hA hx hc st => XS.iadd hA hx rfl (hb hc hd) rfl st
theorem r_isub {x y : Int32} (pc' : Nat) (hp : pc + 1 = pc') (hd : decode B.code pc = .ok (.isub, 1)) (r : Run V K B Q h ps cs sl pc' L (.int (x - y) :: S)) : Run V K B Q h ps cs sl pc L (.int y :: .int x :: S) := by
  subst hp; exact r.plain fun T t hA hx hc st => XS.isub hA hx rfl (hb hc hd) rfl st
theorem r_imul {x y : Int32} (pc' : Nat) (hp : pc + 1 = pc') (hd : decode B.code pc = .ok (.imul, 1)) (r : Run V K B Q h ps cs sl pc' L (.int (x * y) :: S)) : Run V K B Q h ps cs sl pc L (.int y :: .int x :: S) := by
  subst hp; exact r.plain fun T t hA hx hc st => XS.imul hA hx rfl (hb hc hd) rfl st
theorem r_iand {x y : Int32} (pc' : Nat) (hp : pc + 1 = pc') (hd : decode B.code pc = .ok (.iand, 1)) (r : Run V K B Q h ps cs sl pc' L (.int (x &&& y) :: S)) : Run V K B Q h ps cs sl pc L (.int y :: .int x :: S) := by
  subst hp; exact r.plain fun T t hA hx hc st => XS.iand hA hx rfl (hb hc hd) rfl st
theorem r_ior {x y : Int32} (pc' : Nat) (hp : pc + 1 = pc') (hd : decode B.code pc = .ok (.ior, 1)) (r : Run V K B Q h ps cs sl pc' L (.int (x ||| y) :: S)) : Run V K B Q h ps cs sl pc L (.int y :: .int x :: S) := by
  subst hp; exact r.plain fun T t hA hx hc st => XS.ior hA hx rfl (hb hc hd) rfl st
theorem r_ixor {x y : Int32} (pc' : Nat) (hp : pc + 1 = pc') (hd : decode B.code pc = .ok (.ixor, 1)) (r : Run V K B Q h ps cs sl pc' L (.int (x ^^^ y) :: S)) : Run V K B Q h ps cs sl pc L (.int y :: .int x :: S) := by
  subst hp; exact r.plain fun T t hA hx hc st => XS.ixor hA hx rfl (hb hc hd) rfl st
theorem r_ishl {x y : Int32} (pc' : Nat) (hp : pc + 1 = pc') (hd : decode B.code pc = .ok (.ishl, 1)) (r : Run V K B Q h ps cs sl pc' L (.int (x <<< (y &&& 31)) :: S)) : Run V K B Q h ps cs sl pc L (.int y :: .int x :: S) := by
  subst hp; exact r.plain fun T t hA hx hc st => XS.ishl hA hx rfl (hb hc hd) rfl st
theorem r_ishr {x y : Int32} (pc' : Nat) (hp : pc + 1 = pc') (hd : decode B.code pc = .ok (.ishr, 1)) (r : Run V K B Q h ps cs sl pc' L (.int (x >>> (y &&& 31)) :: S)) : Run V K B Q h ps cs sl pc L (.int y :: .int x :: S) := by
  subst hp; exact r.plain fun T t hA hx hc st => XS.ishr hA hx rfl (hb hc hd) rfl st
theorem r_iushr {x y : Int32} (pc' : Nat) (hp : pc + 1 = pc') (hd : decode B.code pc = .ok (.iushr, 1)) (r : Run V K B Q h ps cs sl pc' L (.int (ushr x y) :: S)) : Run V K B Q h ps cs sl pc L (.int y :: .int x :: S) := by
  subst hp; exact r.plain fun T t hA hx hc st => XS.iushr hA hx rfl (hb hc hd) rfl st
theorem r_ladd {x y : Int64} (pc' : Nat) (hp : pc + 1 = pc') (hd : decode B.code pc = .ok (.ladd, 1)) (r : Run V K B Q h ps cs sl pc' L (.long (x + y) :: S)) : Run V K B Q h ps cs sl pc L (.long y :: .long x :: S) := by
  subst hp; exact r.plain fun T t hA hx hc st => XS.ladd hA hx rfl (hb hc hd) rfl st
theorem r_lsub {x y : Int64} (pc' : Nat) (hp : pc + 1 = pc') (hd : decode B.code pc = .ok (.lsub, 1)) (r : Run V K B Q h ps cs sl pc' L (.long (x - y) :: S)) : Run V K B Q h ps cs sl pc L (.long y :: .long x :: S) := by
  subst hp; exact r.plain fun T t hA hx hc st => XS.lsub hA hx rfl (hb hc hd) rfl st
theorem r_lmul {x y : Int64} (pc' : Nat) (hp : pc + 1 = pc') (hd : decode B.code pc = .ok (.lmul, 1)) (r : Run V K B Q h ps cs sl pc' L (.long (x * y) :: S)) : Run V K B Q h ps cs sl pc L (.long y :: .long x :: S) := by
  subst hp; exact r.plain fun T t hA hx hc st => XS.lmul hA hx rfl (hb hc hd) rfl st
theorem r_land {x y : Int64} (pc' : Nat) (hp : pc + 1 = pc') (hd : decode B.code pc = .ok (.land, 1)) (r : Run V K B Q h ps cs sl pc' L (.long (x &&& y) :: S)) : Run V K B Q h ps cs sl pc L (.long y :: .long x :: S) := by
  subst hp; exact r.plain fun T t hA hx hc st => XS.land hA hx rfl (hb hc hd) rfl st
theorem r_lor {x y : Int64} (pc' : Nat) (hp : pc + 1 = pc') (hd : decode B.code pc = .ok (.lor, 1)) (r : Run V K B Q h ps cs sl pc' L (.long (x ||| y) :: S)) : Run V K B Q h ps cs sl pc L (.long y :: .long x :: S) := by
  subst hp; exact r.plain fun T t hA hx hc st => XS.lor hA hx rfl (hb hc hd) rfl st
theorem r_lxor {x y : Int64} (pc' : Nat) (hp : pc + 1 = pc') (hd : decode B.code pc = .ok (.lxor, 1)) (r : Run V K B Q h ps cs sl pc' L (.long (x ^^^ y) :: S)) : Run V K B Q h ps cs sl pc L (.long y :: .long x :: S) := by
  subst hp; exact r.plain fun T t hA hx hc st => XS.lxor hA hx rfl (hb hc hd) rfl st
theorem r_lshl {x : Int64} {y : Int32} (pc' : Nat) (hp : pc + 1 = pc') (hd : decode B.code pc = .ok (.lshl, 1)) (r : Run V K B Q h ps cs sl pc' L (.long (x <<< (y &&& 0x3f).toInt64) :: S)) : Run V K B Q h ps cs sl pc L (.int y :: .long x :: S) := by
  subst hp; exact r.plain fun T t hA hx hc st => XS.lshl hA hx rfl (hb hc hd) rfl st
theorem r_lshr {x : Int64} {y : Int32} (pc' : Nat) (hp : pc + 1 = pc') (hd : decode B.code pc = .ok (.lshr, 1)) (r : Run V K B Q h ps cs sl pc' L (.long (x >>> (y &&& 0x3f).toInt64) :: S)) : Run V K B Q h ps cs sl pc L (.int y :: .long x :: S) := by
  subst hp; exact r.plain fun T t hA hx hc st => XS.lshr hA hx rfl (hb hc hd) rfl st
theorem r_lushr {x : Int64} {y : Int32} (pc' : Nat) (hp : pc + 1 = pc') (hd : decode B.code pc = .ok (.lushr, 1)) (r : Run V K B Q h ps cs sl pc' L (.long (ushrL x y) :: S)) : Run V K B Q h ps cs sl pc L (.int y :: .long x :: S) := by
  subst hp; exact r.plain fun T t hA hx hc st => XS.lushr hA hx rfl (hb hc hd) rfl st
theorem r_idiv {x y : Int32} (pc' : Nat) (hp : pc + 1 = pc') (hd : decode B.code pc = .ok (.idiv, 1)) (hy : y ≠ 0) (r : Run V K B Q h ps cs sl pc' L (.int (x / y) :: S)) : Run V K B Q h ps cs sl pc L (.int y :: .int x :: S) := by
  subst hp; exact r.plain fun T t hA hx hc st => XS.idiv hA hx rfl (hb hc hd) rfl hy st
theorem r_irem {x y : Int32} (pc' : Nat) (hp : pc + 1 = pc') (hd : decode B.code pc = .ok (.irem, 1)) (hy : y ≠ 0) (r : Run V K B Q h ps cs sl pc' L (.int (x % y) :: S)) : Run V K B Q h ps cs sl pc L (.int y :: .int x :: S) := by
  subst hp; exact r.plain fun T t hA hx hc st => XS.irem hA hx rfl (hb hc hd) rfl hy (by rw [irem_eq_mod]; exact st)
theorem r_ineg {x : Int32} (pc' : Nat) (hp : pc + 1 = pc') (hd : decode B.code pc = .ok (.ineg, 1)) (r : Run V K B Q h ps cs sl pc' L (.int (-x) :: S)) : Run V K B Q h ps cs sl pc L (.int x :: S) := by
  subst hp; exact r.plain fun T t hA hx hc st => XS.ineg hA hx rfl (hb hc hd) rfl st
theorem r_lneg {x : Int64} (pc' : Nat) (hp : pc + 1 = pc') (hd : decode B.code pc = .ok (.lneg, 1)) (r : Run V K B Q h ps cs sl pc' L (.long (-x) :: S)) : Run V K B Q h ps cs sl pc L (.long x :: S) := by
  subst hp; exact r.plain fun T t hA hx hc st => XS.lneg hA hx rfl (hb hc hd) rfl st
theorem r_lcmp {x y : Int64} (pc' : Nat) (hp : pc + 1 = pc') (hd : decode B.code pc = .ok (.lcmp, 1)) (r : Run V K B Q h ps cs sl pc' L (.int (XT.cmpL x y) :: S)) : Run V K B Q h ps cs sl pc L (.long y :: .long x :: S) := by
  subst hp; exact r.plain fun T t hA hx hc st => XT.lcmp hA hx rfl (hb hc hd) rfl st
theorem r_i2l {x : Int32} (pc' : Nat) (hp : pc + 1 = pc') (hd : decode B.code pc = .ok (.i2l, 1)) (r : Run V K B Q h ps cs sl pc' L (.long x.toInt64 :: S)) : Run V K B Q h ps cs sl pc L (.int x :: S) := by
  subst hp; exact r.plain fun T t hA hx hc st => XS.i2l hA hx rfl (hb hc hd) rfl st
theorem r_i2b {x : Int32} (pc' : Nat) (hp : pc + 1 = pc') (hd : decode B.code pc = .ok (.i2b, 1)) (r : Run V K B Q h ps cs sl pc' L (.int x.toInt8.toInt32 :: S)) : Run V K B Q h ps cs sl pc L (.int x :: S) := by
  subst hp; exact r.plain fun T t hA hx hc st => XS.i2b hA hx rfl (hb hc hd) rfl st
theorem r_i2c {x : Int32} (pc' : Nat) (hp : pc + 1 = pc') (hd : decode B.code pc = .ok (.i2c, 1)) (r : Run V K B Q h ps cs sl pc' L (.int x.toUInt32.toUInt16.toUInt32.toInt32 :: S)) : Run V K B Q h ps cs sl pc L (.int x :: S) := by
  subst hp; exact r.plain fun T t hA hx hc st => XS.i2c hA hx rfl (hb hc hd) rfl st
theorem r_i2s {x : Int32} (pc' : Nat) (hp : pc + 1 = pc') (hd : decode B.code pc = .ok (.i2s, 1)) (r : Run V K B Q h ps cs sl pc' L (.int x.toInt16.toInt32 :: S)) : Run V K B Q h ps cs sl pc L (.int x :: S) := by
  subst hp; exact r.plain fun T t hA hx hc st => XS.i2s hA hx rfl (hb hc hd) rfl st
theorem r_l2i {x : Int64} (pc' : Nat) (hp : pc + 1 = pc') (hd : decode B.code pc = .ok (.l2i, 1)) (r : Run V K B Q h ps cs sl pc' L (.int x.toInt32 :: S)) : Run V K B Q h ps cs sl pc L (.long x :: S) := by
  subst hp; exact r.plain fun T t hA hx hc st => XS.l2i hA hx rfl (hb hc hd) rfl st
theorem r_dup {x : Value} (pc' : Nat) (hp : pc + 1 = pc') (hd : decode B.code pc = .ok (.dup, 1)) (hv : x.category = 1) (r : Run V K B Q h ps cs sl pc' L (x :: x :: S)) : Run V K B Q h ps cs sl pc L (x :: S) := by
  subst hp; exact r.plain fun T t hA hx hc st => XS.dup hA hx rfl (hb hc hd) rfl hv st
theorem r_pop {x : Value} (pc' : Nat) (hp : pc + 1 = pc') (hd : decode B.code pc = .ok (.pop, 1)) (hv : x.category = 1) (r : Run V K B Q h ps cs sl pc' L (S)) : Run V K B Q h ps cs sl pc L (x :: S) := by
  subst hp; exact r.plain fun T t hA hx hc st => XS.pop hA hx rfl (hb hc hd) rfl hv st
theorem r_dup2 {x y : Value} (pc' : Nat) (hp : pc + 1 = pc') (hd : decode B.code pc = .ok (.dup2, 1)) (hv : x.category = 1) (hv' : y.category = 1) (r : Run V K B Q h ps cs sl pc' L (x :: y :: x :: y :: S)) : Run V K B Q h ps cs sl pc L (x :: y :: S) := by
  subst hp; exact r.plain fun T t hA hx hc st => XT.dup2 hA hx rfl (hb hc hd) rfl hv hv' st
theorem r_dup2L {x : Int64} (pc' : Nat) (hp : pc + 1 = pc') (hd : decode B.code pc = .ok (.dup2, 1)) (r : Run V K B Q h ps cs sl pc' L (.long x :: .long x :: S)) : Run V K B Q h ps cs sl pc L (.long x :: S) := by
  subst hp; exact r.plain fun T t hA hx hc st => XT.dup2L hA hx rfl (hb hc hd) rfl st
theorem r_dupX1 {x y : Value} (pc' : Nat) (hp : pc + 1 = pc') (hd : decode B.code pc = .ok (.dup_x1, 1)) (hv : x.category = 1) (hv' : y.category = 1) (r : Run V K B Q h ps cs sl pc' L (x :: y :: x :: S)) : Run V K B Q h ps cs sl pc L (x :: y :: S) := by
  subst hp; exact r.plain fun T t hA hx hc st => XT.dupX1 hA hx rfl (hb hc hd) rfl hv hv' st
theorem r_iinc {k : Nat} {cst : Int} {x : Int32} (v : Int32) (L' : List Slot) (pc' : Nat) (hp : pc + 3 = pc') (hd : decode B.code pc = .ok (.iinc k cst, 3)) (hv : Int32.ofInt cst = v) (hl : L[k]? = some (.val (.int x))) (hl' : storeLocals L.toArray k (.int (x + v)) = some L'.toArray) (r : Run V K B Q h ps cs sl pc' L' (S)) : Run V K B Q h ps cs sl pc L (S) := by
  subst hp; exact r.plain fun T t hA hx hc st => XT.iincV hA hx rfl v (hb hc hd) hv (by show L.toArray[_]? = _; rw [List.getElem?_toArray]; exact hl) hl' st
theorem r_goto {o : Int} (pc' : Nat) (hd : decode B.code pc = .ok (.goto o, 3)) (ho : 0 ≤ (pc : Int) + o) (hp : ((pc : Int) + o).toNat = pc') (r : Run V K B Q h ps cs sl pc' L S) : Run V K B Q h ps cs sl pc L S :=
  r.plain fun T t hA hx hc st => XS.goto hA hx rfl rfl (hb hc hd) ho hp st
theorem r_icmp_eq {o : Int} {x y : Int32} (pc' pc'' : Nat) (hd : decode B.code pc = .ok (.if_icmp .eq o, 3)) (ho : 0 ≤ (pc : Int) + o) (hp : ((pc : Int) + o).toNat = pc') (hp' : pc + 3 = pc'') (t : x = y → Run V K B Q h ps cs sl pc' L S) (f : ¬ x = y → Run V K B Q h ps cs sl pc'' L S) : Run V K B Q h ps cs sl pc L (.int y :: .int x :: S) := by
  subst hp'
  by_cases q : x = y
  · exact (t q).plain fun T t hA hx hc st => XS.icmpYes hA hx rfl rfl (hb hc hd) rfl (XT.ii_eq_t q) ho hp st
  · exact (f q).plain fun T t hA hx hc st => XS.icmpNo hA hx rfl (hb hc hd) rfl (XT.ii_eq_f q) st
theorem r_if_eq {o : Int} {x : Int32} (pc' pc'' : Nat) (hd : decode B.code pc = .ok (.ifCond .eq o, 3)) (ho : 0 ≤ (pc : Int) + o) (hp : ((pc : Int) + o).toNat = pc') (hp' : pc + 3 = pc'') (t : x = 0 → Run V K B Q h ps cs sl pc' L S) (f : ¬ x = 0 → Run V K B Q h ps cs sl pc'' L S) : Run V K B Q h ps cs sl pc L (.int x :: S) := by
  subst hp'
  by_cases q : x = 0
  · exact (t q).plain fun T t hA hx hc st => XS.ifYes hA hx rfl rfl (hb hc hd) rfl (XT.i0_eq_t q) ho hp st
  · exact (f q).plain fun T t hA hx hc st => XS.ifNo hA hx rfl (hb hc hd) rfl (XT.i0_eq_f q) st
theorem r_lcmp_eq {o : Int} {x y : Int64} (pc1 pc' pc'' : Nat) (hd0 : decode B.code pc = .ok (.lcmp, 1)) (h1 : pc + 1 = pc1) (hd : decode B.code pc1 = .ok (.ifCond .eq o, 3)) (ho : 0 ≤ (pc1 : Int) + o) (hp : ((pc1 : Int) + o).toNat = pc') (hp' : pc1 + 3 = pc'') (t : x = y → Run V K B Q h ps cs sl pc' L S) (f : ¬ x = y → Run V K B Q h ps cs sl pc'' L S) : Run V K B Q h ps cs sl pc L (.long y :: .long x :: S) := by
  refine r_lcmp _ h1 hd0 ?_
  subst hp'
  by_cases q : x = y
  · exact (t q).plain fun T t hA hx hc st => XS.ifYes hA hx rfl rfl (hb hc hd) rfl (XT.ll_eq_t q) ho hp st
  · exact (f q).plain fun T t hA hx hc st => XS.ifNo hA hx rfl (hb hc hd) rfl (XT.ll_eq_f q) st
theorem r_icmp_ne {o : Int} {x y : Int32} (pc' pc'' : Nat) (hd : decode B.code pc = .ok (.if_icmp .ne o, 3)) (ho : 0 ≤ (pc : Int) + o) (hp : ((pc : Int) + o).toNat = pc') (hp' : pc + 3 = pc'') (t : ¬ x = y → Run V K B Q h ps cs sl pc' L S) (f : x = y → Run V K B Q h ps cs sl pc'' L S) : Run V K B Q h ps cs sl pc L (.int y :: .int x :: S) := by
  subst hp'
  by_cases q : ¬ x = y
  · exact (t q).plain fun T t hA hx hc st => XS.icmpYes hA hx rfl rfl (hb hc hd) rfl (XT.ii_ne_t q) ho hp st
  · exact (f (Decidable.not_not.mp q)).plain fun T t hA hx hc st => XS.icmpNo hA hx rfl (hb hc hd) rfl (XT.ii_ne_f (Decidable.not_not.mp q)) st
theorem r_if_ne {o : Int} {x : Int32} (pc' pc'' : Nat) (hd : decode B.code pc = .ok (.ifCond .ne o, 3)) (ho : 0 ≤ (pc : Int) + o) (hp : ((pc : Int) + o).toNat = pc') (hp' : pc + 3 = pc'') (t : ¬ x = 0 → Run V K B Q h ps cs sl pc' L S) (f : x = 0 → Run V K B Q h ps cs sl pc'' L S) : Run V K B Q h ps cs sl pc L (.int x :: S) := by
  subst hp'
  by_cases q : ¬ x = 0
  · exact (t q).plain fun T t hA hx hc st => XS.ifYes hA hx rfl rfl (hb hc hd) rfl (XT.i0_ne_t q) ho hp st
  · exact (f (Decidable.not_not.mp q)).plain fun T t hA hx hc st => XS.ifNo hA hx rfl (hb hc hd) rfl (XT.i0_ne_f (Decidable.not_not.mp q)) st
theorem r_lcmp_ne {o : Int} {x y : Int64} (pc1 pc' pc'' : Nat) (hd0 : decode B.code pc = .ok (.lcmp, 1)) (h1 : pc + 1 = pc1) (hd : decode B.code pc1 = .ok (.ifCond .ne o, 3)) (ho : 0 ≤ (pc1 : Int) + o) (hp : ((pc1 : Int) + o).toNat = pc') (hp' : pc1 + 3 = pc'') (t : ¬ x = y → Run V K B Q h ps cs sl pc' L S) (f : x = y → Run V K B Q h ps cs sl pc'' L S) : Run V K B Q h ps cs sl pc L (.long y :: .long x :: S) := by
  refine r_lcmp _ h1 hd0 ?_
  subst hp'
  by_cases q : ¬ x = y
  · exact (t q).plain fun T t hA hx hc st => XS.ifYes hA hx rfl rfl (hb hc hd) rfl (XT.ll_ne_t q) ho hp st
  · exact (f (Decidable.not_not.mp q)).plain fun T t hA hx hc st => XS.ifNo hA hx rfl (hb hc hd) rfl (XT.ll_ne_f (Decidable.not_not.mp q)) st
theorem r_icmp_lt {o : Int} {x y : Int32} (pc' pc'' : Nat) (hd : decode B.code pc = .ok (.if_icmp .lt o, 3)) (ho : 0 ≤ (pc : Int) + o) (hp : ((pc : Int) + o).toNat = pc') (hp' : pc + 3 = pc'') (t : x < y → Run V K B Q h ps cs sl pc' L S) (f : ¬ x < y → Run V K B Q h ps cs sl pc'' L S) : Run V K B Q h ps cs sl pc L (.int y :: .int x :: S) := by
  subst hp'
  by_cases q : x < y
  · exact (t q).plain fun T t hA hx hc st => XS.icmpYes hA hx rfl rfl (hb hc hd) rfl (XT.ii_lt_t q) ho hp st
  · exact (f q).plain fun T t hA hx hc st => XS.icmpNo hA hx rfl (hb hc hd) rfl (XT.ii_lt_f q) st
theorem r_if_lt {o : Int} {x : Int32} (pc' pc'' : Nat) (hd : decode B.code pc = .ok (.ifCond .lt o, 3)) (ho : 0 ≤ (pc : Int) + o) (hp : ((pc : Int) + o).toNat = pc') (hp' : pc + 3 = pc'') (t : x < 0 → Run V K B Q h ps cs sl pc' L S) (f : ¬ x < 0 → Run V K B Q h ps cs sl pc'' L S) : Run V K B Q h ps cs sl pc L (.int x :: S) := by
  subst hp'
  by_cases q : x < 0
  · exact (t q).plain fun T t hA hx hc st => XS.ifYes hA hx rfl rfl (hb hc hd) rfl (XT.i0_lt_t q) ho hp st
  · exact (f q).plain fun T t hA hx hc st => XS.ifNo hA hx rfl (hb hc hd) rfl (XT.i0_lt_f q) st
theorem r_lcmp_lt {o : Int} {x y : Int64} (pc1 pc' pc'' : Nat) (hd0 : decode B.code pc = .ok (.lcmp, 1)) (h1 : pc + 1 = pc1) (hd : decode B.code pc1 = .ok (.ifCond .lt o, 3)) (ho : 0 ≤ (pc1 : Int) + o) (hp : ((pc1 : Int) + o).toNat = pc') (hp' : pc1 + 3 = pc'') (t : x < y → Run V K B Q h ps cs sl pc' L S) (f : ¬ x < y → Run V K B Q h ps cs sl pc'' L S) : Run V K B Q h ps cs sl pc L (.long y :: .long x :: S) := by
  refine r_lcmp _ h1 hd0 ?_
  subst hp'
  by_cases q : x < y
  · exact (t q).plain fun T t hA hx hc st => XS.ifYes hA hx rfl rfl (hb hc hd) rfl (XT.ll_lt_t q) ho hp st
  · exact (f q).plain fun T t hA hx hc st => XS.ifNo hA hx rfl (hb hc hd) rfl (XT.ll_lt_f q) st
theorem r_icmp_ge {o : Int} {x y : Int32} (pc' pc'' : Nat) (hd : decode B.code pc = .ok (.if_icmp .ge o, 3)) (ho : 0 ≤ (pc : Int) + o) (hp : ((pc : Int) + o).toNat = pc') (hp' : pc + 3 = pc'') (t : ¬ x < y → Run V K B Q h ps cs sl pc' L S) (f : x < y → Run V K B Q h ps cs sl pc'' L S) : Run V K B Q h ps cs sl pc L (.int y :: .int x :: S) := by
  subst hp'
  by_cases q : ¬ x < y
  · exact (t q).plain fun T t hA hx hc st => XS.icmpYes hA hx rfl rfl (hb hc hd) rfl (XT.ii_ge_t q) ho hp st
  · exact (f (Decidable.not_not.mp q)).plain fun T t hA hx hc st => XS.icmpNo hA hx rfl (hb hc hd) rfl (XT.ii_ge_f (Decidable.not_not.mp q)) st
theorem r_if_ge {o : Int} {x : Int32} (pc' pc'' : Nat) (hd : decode B.code pc = .ok (.ifCond .ge o, 3)) (ho : 0 ≤ (pc : Int) + o) (hp : ((pc : Int) + o).toNat = pc') (hp' : pc + 3 = pc'') (t : ¬ x < 0 → Run V K B Q h ps cs sl pc' L S) (f : x < 0 → Run V K B Q h ps cs sl pc'' L S) : Run V K B Q h ps cs sl pc L (.int x :: S) := by
  subst hp'
  by_cases q : ¬ x < 0
  · exact (t q).plain fun T t hA hx hc st => XS.ifYes hA hx rfl rfl (hb hc hd) rfl (XT.i0_ge_t q) ho hp st
  · exact (f (Decidable.not_not.mp q)).plain fun T t hA hx hc st => XS.ifNo hA hx rfl (hb hc hd) rfl (XT.i0_ge_f (Decidable.not_not.mp q)) st
theorem r_lcmp_ge {o : Int} {x y : Int64} (pc1 pc' pc'' : Nat) (hd0 : decode B.code pc = .ok (.lcmp, 1)) (h1 : pc + 1 = pc1) (hd : decode B.code pc1 = .ok (.ifCond .ge o, 3)) (ho : 0 ≤ (pc1 : Int) + o) (hp : ((pc1 : Int) + o).toNat = pc') (hp' : pc1 + 3 = pc'') (t : ¬ x < y → Run V K B Q h ps cs sl pc' L S) (f : x < y → Run V K B Q h ps cs sl pc'' L S) : Run V K B Q h ps cs sl pc L (.long y :: .long x :: S) := by
  refine r_lcmp _ h1 hd0 ?_
  subst hp'
  by_cases q : ¬ x < y
  · exact (t q).plain fun T t hA hx hc st => XS.ifYes hA hx rfl rfl (hb hc hd) rfl (XT.ll_ge_t q) ho hp st
  · exact (f (Decidable.not_not.mp q)).plain fun T t hA hx hc st => XS.ifNo hA hx rfl (hb hc hd) rfl (XT.ll_ge_f (Decidable.not_not.mp q)) st
theorem r_icmp_gt {o : Int} {x y : Int32} (pc' pc'' : Nat) (hd : decode B.code pc = .ok (.if_icmp .gt o, 3)) (ho : 0 ≤ (pc : Int) + o) (hp : ((pc : Int) + o).toNat = pc') (hp' : pc + 3 = pc'') (t : y < x → Run V K B Q h ps cs sl pc' L S) (f : ¬ y < x → Run V K B Q h ps cs sl pc'' L S) : Run V K B Q h ps cs sl pc L (.int y :: .int x :: S) := by
  subst hp'
  by_cases q : y < x
  · exact (t q).plain fun T t hA hx hc st => XS.icmpYes hA hx rfl rfl (hb hc hd) rfl (XT.ii_gt_t q) ho hp st
  · exact (f q).plain fun T t hA hx hc st => XS.icmpNo hA hx rfl (hb hc hd) rfl (XT.ii_gt_f q) st
theorem r_if_gt {o : Int} {x : Int32} (pc' pc'' : Nat) (hd : decode B.code pc = .ok (.ifCond .gt o, 3)) (ho : 0 ≤ (pc : Int) + o) (hp : ((pc : Int) + o).toNat = pc') (hp' : pc + 3 = pc'') (t : 0 < x → Run V K B Q h ps cs sl pc' L S) (f : ¬ 0 < x → Run V K B Q h ps cs sl pc'' L S) : Run V K B Q h ps cs sl pc L (.int x :: S) := by
  subst hp'
  by_cases q : 0 < x
  · exact (t q).plain fun T t hA hx hc st => XS.ifYes hA hx rfl rfl (hb hc hd) rfl (XT.i0_gt_t q) ho hp st
  · exact (f q).plain fun T t hA hx hc st => XS.ifNo hA hx rfl (hb hc hd) rfl (XT.i0_gt_f q) st
theorem r_lcmp_gt {o : Int} {x y : Int64} (pc1 pc' pc'' : Nat) (hd0 : decode B.code pc = .ok (.lcmp, 1)) (h1 : pc + 1 = pc1) (hd : decode B.code pc1 = .ok (.ifCond .gt o, 3)) (ho : 0 ≤ (pc1 : Int) + o) (hp : ((pc1 : Int) + o).toNat = pc') (hp' : pc1 + 3 = pc'') (t : y < x → Run V K B Q h ps cs sl pc' L S) (f : ¬ y < x → Run V K B Q h ps cs sl pc'' L S) : Run V K B Q h ps cs sl pc L (.long y :: .long x :: S) := by
  refine r_lcmp _ h1 hd0 ?_
  subst hp'
  by_cases q : y < x
  · exact (t q).plain fun T t hA hx hc st => XS.ifYes hA hx rfl rfl (hb hc hd) rfl (XT.ll_gt_t q) ho hp st
  · exact (f q).plain fun T t hA hx hc st => XS.ifNo hA hx rfl (hb hc hd) rfl (XT.ll_gt_f q) st
theorem r_icmp_le {o : Int} {x y : Int32} (pc' pc'' : Nat) (hd : decode B.code pc = .ok (.if_icmp .le o, 3)) (ho : 0 ≤ (pc : Int) + o) (hp : ((pc : Int) + o).toNat = pc') (hp' : pc + 3 = pc'') (t : ¬ y < x → Run V K B Q h ps cs sl pc' L S) (f : y < x → Run V K B Q h ps cs sl pc'' L S) : Run V K B Q h ps cs sl pc L (.int y :: .int x :: S) := by
  subst hp'
  by_cases q : ¬ y < x
  · exact (t q).plain fun T t hA hx hc st => XS.icmpYes hA hx rfl rfl (hb hc hd) rfl (XT.ii_le_t q) ho hp st
  · exact (f (Decidable.not_not.mp q)).plain fun T t hA hx hc st => XS.icmpNo hA hx rfl (hb hc hd) rfl (XT.ii_le_f (Decidable.not_not.mp q)) st
theorem r_if_le {o : Int} {x : Int32} (pc' pc'' : Nat) (hd : decode B.code pc = .ok (.ifCond .le o, 3)) (ho : 0 ≤ (pc : Int) + o) (hp : ((pc : Int) + o).toNat = pc') (hp' : pc + 3 = pc'') (t : ¬ 0 < x → Run V K B Q h ps cs sl pc' L S) (f : 0 < x → Run V K B Q h ps cs sl pc'' L S) : Run V K B Q h ps cs sl pc L (.int x :: S) := by
  subst hp'
  by_cases q : ¬ 0 < x
  · exact (t q).plain fun T t hA hx hc st => XS.ifYes hA hx rfl rfl (hb hc hd) rfl (XT.i0_le_t q) ho hp st
  · exact (f (Decidable.not_not.mp q)).plain fun T t hA hx hc st => XS.ifNo hA hx rfl (hb hc hd) rfl (XT.i0_le_f (Decidable.not_not.mp q)) st
theorem r_lcmp_le {o : Int} {x y : Int64} (pc1 pc' pc'' : Nat) (hd0 : decode B.code pc = .ok (.lcmp, 1)) (h1 : pc + 1 = pc1) (hd : decode B.code pc1 = .ok (.ifCond .le o, 3)) (ho : 0 ≤ (pc1 : Int) + o) (hp : ((pc1 : Int) + o).toNat = pc') (hp' : pc1 + 3 = pc'') (t : ¬ y < x → Run V K B Q h ps cs sl pc' L S) (f : y < x → Run V K B Q h ps cs sl pc'' L S) : Run V K B Q h ps cs sl pc L (.long y :: .long x :: S) := by
  refine r_lcmp _ h1 hd0 ?_
  subst hp'
  by_cases q : ¬ y < x
  · exact (t q).plain fun T t hA hx hc st => XS.ifYes hA hx rfl rfl (hb hc hd) rfl (XT.ll_le_t q) ho hp st
  · exact (f (Decidable.not_not.mp q)).plain fun T t hA hx hc st => XS.ifNo hA hx rfl (hb hc hd) rfl (XT.ll_le_f (Decidable.not_not.mp q)) st
theorem r_ifnull_t {o : Int} (pc' : Nat) (hd : decode B.code pc = .ok (.ifnull o, 3)) (ho : 0 ≤ (pc : Int) + o) (hp : ((pc : Int) + o).toNat = pc') (r : Run V K B Q h ps cs sl pc' L S) : Run V K B Q h ps cs sl pc L (.null :: S) :=
  r.plain fun T t hA hx hc st => XS.ifnullYes hA hx rfl rfl (hb hc hd) rfl ho hp st
theorem r_ifnull_f {o : Int} {b : Nat} (pc' : Nat) (hp : pc + 3 = pc') (hd : decode B.code pc = .ok (.ifnull o, 3)) (r : Run V K B Q h ps cs sl pc' L S) : Run V K B Q h ps cs sl pc L (.ref b :: S) := by
  subst hp; exact r.plain fun T t hA hx hc st => XS.ifnullNo hA hx rfl (hb hc hd) rfl st
theorem r_ifnonnull_t {o : Int} {b : Nat} (pc' : Nat) (hd : decode B.code pc = .ok (.ifnonnull o, 3)) (ho : 0 ≤ (pc : Int) + o) (hp : ((pc : Int) + o).toNat = pc') (r : Run V K B Q h ps cs sl pc' L S) : Run V K B Q h ps cs sl pc L (.ref b :: S) :=
  r.plain fun T t hA hx hc st => XS.ifnonnullYes hA hx rfl rfl (hb hc hd) rfl ho hp st
theorem r_ifnonnull_f {o : Int} (pc' : Nat) (hp : pc + 3 = pc') (hd : decode B.code pc = .ok (.ifnonnull o, 3)) (r : Run V K B Q h ps cs sl pc' L S) : Run V K B Q h ps cs sl pc L (.null :: S) := by
  subst hp; exact r.plain fun T t hA hx hc st => XS.ifnonnullNo hA hx rfl (hb hc hd) rfl st
theorem r_acmp_eq {o : Int} {x y : Value} (pc' pc'' : Nat) (hd : decode B.code pc = .ok (.if_acmp .eq o, 3)) (hx1 : x.isRef = true) (hy1 : y.isRef = true) (ho : 0 ≤ (pc : Int) + o) (hp : ((pc : Int) + o).toNat = pc') (hp' : pc + 3 = pc'') (t : x = y → Run V K B Q h ps cs sl pc' L S) (f : ¬ x = y → Run V K B Q h ps cs sl pc'' L S) : Run V K B Q h ps cs sl pc L (y :: x :: S) := by
  subst hp'
  by_cases q : x = y
  · exact (t q).plain fun T t hA hx hc st => XT.acmpYes hA hx rfl rfl (hb hc hd) rfl hx1 hy1 (XT.aa_eq_t q) ho hp st
  · exact (f q).plain fun T t hA hx hc st => XT.acmpNo hA hx rfl (hb hc hd) rfl hx1 hy1 (XT.aa_eq_f q) st
theorem r_acmp_ne {o : Int} {x y : Value} (pc' pc'' : Nat) (hd : decode B.code pc = .ok (.if_acmp .ne o, 3)) (hx1 : x.isRef = true) (hy1 : y.isRef = true) (ho : 0 ≤ (pc : Int) + o) (hp : ((pc : Int) + o).toNat = pc') (hp' : pc + 3 = pc'') (t : ¬ x = y → Run V K B Q h ps cs sl pc' L S) (f : x = y → Run V K B Q h ps cs sl pc'' L S) : Run V K B Q h ps cs sl pc L (y :: x :: S) := by
  subst hp'
  by_cases q : ¬ x = y
  · exact (t q).plain fun T t hA hx hc st => XT.acmpYes hA hx rfl rfl (hb hc hd) rfl hx1 hy1 (XT.aa_ne_t q) ho hp st
  · exact (f (Decidable.not_not.mp q)).plain fun T t hA hx hc st => XT.acmpNo hA hx rfl (hb hc hd) rfl hx1 hy1 (XT.aa_ne_f (Decidable.not_not.mp q)) st
theorem r_ldcI {i : Nat} {v : Int32} (pc' : Nat) (hp : pc + 2 = pc') (hd : decode B.code pc = .ok (.ldc i, 2)) (w : (Jvm.Cond.constant B.y.cls i v).before V.a0 V.Z = true) (r : Run V K B Q h ps cs sl pc' L (.int v :: S)) : Run V K B Q h ps cs sl pc L S := by
  subst hp; exact r.still fun T locs vm0 X eT hZ ho O G => ⟨T, X, eT, fun t st => Jvm.Stand.ldcI X G.1 ho (mv hZ w) rfl (hb G.2.1 hd) st⟩
theorem r_ldcWI {i : Nat} {v : Int32} (pc' : Nat) (hp : pc + 3 = pc') (hd : decode B.code pc = .ok (.ldc_w i, 3)) (w : (Jvm.Cond.constant B.y.cls i v).before V.a0 V.Z = true) (r : Run V K B Q h ps cs sl pc' L (.int v :: S)) : Run V K B Q h ps cs sl pc L S := by
  subst hp; exact r.still fun T locs vm0 X eT hZ ho O G => ⟨T, X, eT, fun t st => Jvm.Stand.ldcWI X G.1 ho (mv hZ w) rfl (hb G.2.1 hd) st⟩
theorem r_ldc2J {i : Nat} {v : Int64} (pc' : Nat) (hp : pc + 3 = pc') (hd : decode B.code pc = .ok (.ldc2_w i, 3)) (w : (Jvm.Cond.constantLong B.y.cls i v).before V.a0 V.Z = true) (r : Run V K B Q h ps cs sl pc' L (.long v :: S)) : Run V K B Q h ps cs sl pc L S := by
  subst hp; exact r.still fun T locs vm0 X eT hZ ho O G => ⟨T, X, eT, fun t st => Jvm.Stand.ldc2J X G.1 ho (mv hZ w) rfl (hb G.2.1 hd) st⟩
theorem r_getfield {i : Nat} {O n d : String} {a : Nat} {v : Value} (pc' : Nat) (hp : pc + 3 = pc') (hd : decode B.code pc = .ok (.getfield i, 3)) (w : (Jvm.Cond.fieldLink B.y.cls i O n d).before V.a0 V.Z = true) (F : Fld V.Z h a O n d v) (r : Run V K B Q h ps cs sl pc' L (v :: S)) : Run V K B Q h ps cs sl pc L (.ref a :: S) := by
  subst hp; exact r.still fun T locs vm0 X eT hZ ho O G => getF X G.1 hZ ho (host := "") (Or.inl w) Via.refl eT F (g := mkF K.m pc L.toArray (.ref a :: S)) rfl rfl (hb G.2.1 hd)
theorem r_getstatic {i : Nat} {O n d : String} {v : Value} (pc' : Nat) (hp : pc + 3 = pc') (hd : decode B.code pc = .ok (.getstatic i, 3)) (w : (Jvm.Cond.fieldLink B.y.cls i O n d).before V.a0 V.Z = true) (F : Sta V.Z V.Z.heap O n d v) (r : Run V K B Q h ps cs sl pc' L (v :: S)) : Run V K B Q h ps cs sl pc L S := by
  subst hp; exact r.still fun T locs vm0 X eT hZ ho O G => getS X G.1 hZ ho (host := "") w Via.refl eT (F.ext O) (g := mkF K.m pc L.toArray S) rfl (hb G.2.1 hd)
theorem r_putfield {i kk : Nat} {O n d C : String} {a : Nat} {v old : Value} {ty : FieldType} (pc' : Nat) (hp : pc + 3 = pc') (hd : decode B.code pc = .ok (.putfield i, 3)) (w : (Jvm.Cond.fieldLink B.y.cls i O n d).before V.a0 V.Z = true) (F : Fld V.Z h a O n d old) (E : Exa V.Z h a C)
    (Lw : (Jvm.Cond.lays C O n d).before V.a0 V.Z = true ∨ ((Jvm.Cond.laysFinal C O n d).before V.a0 V.Z = true ∧ B.y.cls = O ∧ B.y.name = "<init>")) (wi : (Jvm.Cond.instantiable C kk).before V.a0 V.Z = true) (hty : parseFieldDescriptor d = some ty) (hn : narrow ty v = v) (hf : fits ty v = true)
    (ha : V.Z.heap.size ≤ a) (hs : C ≠ "java/lang/String" ∧ C ≠ "[B" ∨ a ∈ ps) (r : ∀ h', Wr h h' a (RoadKit.slotOf V.Z O n d) v → Run V K B Q h' ps cs sl pc' L S) : Run V K B Q h ps cs sl pc L (v :: .ref a :: S) := by
  subst hp; exact Run.write ha (fun vm al P => hs.elim (fun q => Safe.exa al E q.1 q.2) (fun q => (P a q).2)) r fun T locs vm0 X eT hZ ho G => putF X G.1 hZ ho (host := "") (Or.inl w) Via.refl eT F E (Lw.imp id fun q => ⟨q.1, q.2.1, G.2.2.2.2.2.trans q.2.2⟩) wi hty hn hf (g := mkF K.m pc L.toArray (v :: .ref a :: S)) rfl rfl (hb G.2.1 hd)
theorem r_new {i n : Nat} {C : String} (pc' : Nat) (hp : pc + 3 = pc') (hd : decode B.code pc = .ok (.new i, 3)) (w : (Jvm.Cond.classLink B.y.cls i C).before V.a0 V.Z = true) (wi : (Jvm.Cond.instantiable C n).before V.a0 V.Z = true) (wz : (Jvm.Cond.initialized C).before V.a0 V.Z = true) (hc : cs + 1 ≤ B.R.cells) (hl : sl + n ≤ B.R.slots)
    (r : ∀ (a : Nat) h', a = h.size → V.Z.heap.size ≤ a → Ext h h' → Exa V.Z h' a C → (∀ {O nm d : String} {ty : FieldType}, RoadKit.Laid V.Z V.a0 C O nm d → parseFieldDescriptor d = some ty → Fld V.Z h' a O nm d (defaultValue ty)) → Run V K B Q h' (a :: ps) (cs + 1) (sl + n) pc' L (.ref a :: S)) : Run V K B Q h ps cs sl pc L S := by
  subst hp; refine Run.make (S' := fun a => .ref a :: S) (P := fun h' => Exa V.Z h' h.size C ∧ ∀ {O nm d : String} {ty : FieldType}, RoadKit.Laid V.Z V.a0 C O nm d → parseFieldDescriptor d = some ty → Fld V.Z h' h.size O nm d (defaultValue ty)) (fun h' E hz q => r _ h' rfl hz E q.1 q.2) fun T locs vm0 X eT hZ ho G => ?_
  obtain ⟨T', h', X', e', E, A, D, -, st⟩ := newO X G.1 hZ ho w wi wz eT (g := mkF K.m pc L.toArray S) rfl (hb G.2.1 hd) hc hl
  exact ⟨T', h', X', e', E, A.lt, ⟨A, D⟩, st⟩
theorem r_newarray {aty : ArrayType} {n : Int32} (cap : Nat) (pc' : Nat) (hp : pc + 2 = pc') (hd : decode B.code pc = .ok (.newarray aty, 2)) (w : (Jvm.Cond.arrayClass (newarray.typeOf aty)).before V.a0 V.Z = true) (hn : ¬ n < 0) (hcap : n.toNatClampNeg ≤ cap) (hbig : cap * 8 ≤ 536870912) (hc : cs + 1 ≤ B.R.cells) (hl : sl + cap ≤ B.R.slots)
    (r : ∀ (a : Nat) h' k, a = h.size → V.Z.heap.size ≤ a → Ext h h' → Arv V.Z h' a k (newarray.typeOf aty) n [] (defaultValue (newarray.typeOf aty)) → Run V K B Q h' (a :: ps) (cs + 1) (sl + cap) pc' L (.ref a :: S)) : Run V K B Q h ps cs sl pc L (.int n :: S) := by
  subst hp; refine Run.make (S' := fun a => .ref a :: S) (P := fun h' => ∃ k, Arv V.Z h' h.size k (newarray.typeOf aty) n [] (defaultValue (newarray.typeOf aty))) (fun h' E hz ⟨k, q⟩ => r _ h' k rfl hz E q) fun T locs vm0 X eT hZ ho G => ?_
  obtain ⟨T', h', cA, X', e', E, A, st⟩ := newP X G.1 hZ w eT (g := mkF K.m pc L.toArray (.int n :: S)) rfl (hb G.2.1 hd) rfl hn hcap hbig hc hl
  exact ⟨T', h', X', e', E, A.lt, ⟨cA, Arv.new A hn⟩, st⟩
theorem r_anewarray {i : Nat} {C : String} {n : Int32} (cap : Nat) (pc' : Nat) (hp : pc + 3 = pc') (hd : decode B.code pc = .ok (.anewarray i, 3)) (w1 : (Jvm.Cond.classLink B.y.cls i C).before V.a0 V.Z = true) (w2 : (Jvm.Cond.arrayOver (.object C)).before V.a0 V.Z = true) (hn : ¬ n < 0) (hcap : n.toNatClampNeg ≤ cap) (hbig : cap * 8 ≤ 536870912) (hc : cs + 1 ≤ B.R.cells) (hl : sl + cap ≤ B.R.slots)
    (r : ∀ (a : Nat) h' k, a = h.size → V.Z.heap.size ≤ a → Ext h h' → Arv V.Z h' a k (.object C) n [] .null → Ovr V.Z k C → Run V K B Q h' (a :: ps) (cs + 1) (sl + cap) pc' L (.ref a :: S)) : Run V K B Q h ps cs sl pc L (.int n :: S) := by
  subst hp; refine Run.make (S' := fun a => .ref a :: S) (P := fun h' => ∃ k, Arv V.Z h' h.size k (.object C) n [] .null ∧ Ovr V.Z k C) (fun h' E hz ⟨k, q, q'⟩ => r _ h' k rfl hz E q q') fun T locs vm0 X eT hZ ho G => ?_
  obtain ⟨T', h', cA, X', e', E, A, O, st⟩ := newR X G.1 hZ ho w1 w2 eT (g := mkF K.m pc L.toArray (.int n :: S)) rfl (hb G.2.1 hd) rfl hn hcap hbig hc hl
  exact ⟨T', h', X', e', E, A.lt, ⟨cA, Arv.new A hn, O⟩, st⟩
theorem r_iaload {a : Nat} {k : ClassId} {z j : Int32} {vs : List Value} {dv v : Value} (pc' : Nat) (hp : pc + 1 = pc') (hd : decode B.code pc = .ok (.iaload, 1)) (A : Arv V.Z h a k .int z vs dv) (hj : ¬ j < 0 ∧ j < z) (hv : vs.getD j.toNatClampNeg dv = v) (r : Run V K B Q h ps cs sl pc' L (v :: S)) : Run V K B Q h ps cs sl pc L (.int j :: .ref a :: S) := by
  subst hp; refine r.still fun T locs vm0 X eT hZ ho O G => ⟨T, X, eT, fun t st => ?_⟩
  obtain ⟨c, A1, q1, S1, N1, H1, G1⟩ := A
  exact X.iaload G.1 (by rw [eT]; exact A1.1) (State.isArrayOf_alike hZ.alike A1.2.1) A1.2.2 (inb_of S1 hj) (H1.at (inb_of S1 hj) hv) (g := mkF K.m pc L.toArray (.int j :: .ref a :: S)) rfl rfl (hb G.2.1 hd) _ st
theorem r_caload {a : Nat} {k : ClassId} {z j : Int32} {vs : List Value} {dv v : Value} (pc' : Nat) (hp : pc + 1 = pc') (hd : decode B.code pc = .ok (.caload, 1)) (A : Arv V.Z h a k .char z vs dv) (hj : ¬ j < 0 ∧ j < z) (hv : vs.getD j.toNatClampNeg dv = v) (r : Run V K B Q h ps cs sl pc' L (v :: S)) : Run V K B Q h ps cs sl pc L (.int j :: .ref a :: S) := by
  subst hp; refine r.still fun T locs vm0 X eT hZ ho O G => ⟨T, X, eT, fun t st => ?_⟩
  obtain ⟨c, A1, q1, S1, N1, H1, G1⟩ := A
  exact X.caload G.1 (by rw [eT]; exact A1.1) (State.isArrayOf_alike hZ.alike A1.2.1) A1.2.2 (inb_of S1 hj) (H1.at (inb_of S1 hj) hv) (g := mkF K.m pc L.toArray (.int j :: .ref a :: S)) rfl rfl (hb G.2.1 hd) _ st
theorem r_baload {a : Nat} {k : ClassId} {z j : Int32} {vs : List Value} {dv v : Value} (pc' : Nat) (hp : pc + 1 = pc') (hd : decode B.code pc = .ok (.baload, 1)) (A : Arv V.Z h a k .byte z vs dv) (hj : ¬ j < 0 ∧ j < z) (hv : vs.getD j.toNatClampNeg dv = v) (r : Run V K B Q h ps cs sl pc' L (v :: S)) : Run V K B Q h ps cs sl pc L (.int j :: .ref a :: S) := by
  subst hp; refine r.still fun T locs vm0 X eT hZ ho O G => ⟨T, X, eT, fun t st => ?_⟩
  obtain ⟨c, A1, q1, S1, N1, H1, G1⟩ := A
  exact X.baloadBytes G.1 (by rw [eT]; exact A1.1) (State.isArrayOf_alike hZ.alike A1.2.1) A1.2.2 (inb_of S1 hj) (H1.at (inb_of S1 hj) hv) (g := mkF K.m pc L.toArray (.int j :: .ref a :: S)) rfl rfl (hb G.2.1 hd) _ st
theorem r_saload {a : Nat} {k : ClassId} {z j : Int32} {vs : List Value} {dv v : Value} (pc' : Nat) (hp : pc + 1 = pc') (hd : decode B.code pc = .ok (.saload, 1)) (A : Arv V.Z h a k .short z vs dv) (hj : ¬ j < 0 ∧ j < z) (hv : vs.getD j.toNatClampNeg dv = v) (r : Run V K B Q h ps cs sl pc' L (v :: S)) : Run V K B Q h ps cs sl pc L (.int j :: .ref a :: S) := by
  subst hp; refine r.still fun T locs vm0 X eT hZ ho O G => ⟨T, X, eT, fun t st => ?_⟩
  obtain ⟨c, A1, q1, S1, N1, H1, G1⟩ := A
  exact X.saload G.1 (by rw [eT]; exact A1.1) (State.isArrayOf_alike hZ.alike A1.2.1) A1.2.2 (inb_of S1 hj) (H1.at (inb_of S1 hj) hv) (g := mkF K.m pc L.toArray (.int j :: .ref a :: S)) rfl rfl (hb G.2.1 hd) _ st
theorem r_laload {a : Nat} {k : ClassId} {z j : Int32} {vs : List Value} {dv v : Value} (pc' : Nat) (hp : pc + 1 = pc') (hd : decode B.code pc = .ok (.laload, 1)) (A : Arv V.Z h a k .long z vs dv) (hj : ¬ j < 0 ∧ j < z) (hv : vs.getD j.toNatClampNeg dv = v) (r : Run V K B Q h ps cs sl pc' L (v :: S)) : Run V K B Q h ps cs sl pc L (.int j :: .ref a :: S) := by
  subst hp; refine r.still fun T locs vm0 X eT hZ ho O G => ⟨T, X, eT, fun t st => ?_⟩
  obtain ⟨c, A1, q1, S1, N1, H1, G1⟩ := A
  exact X.laload G.1 (by rw [eT]; exact A1.1) (State.isArrayOf_alike hZ.alike A1.2.1) A1.2.2 (inb_of S1 hj) (H1.at (inb_of S1 hj) hv) (g := mkF K.m pc L.toArray (.int j :: .ref a :: S)) rfl rfl (hb G.2.1 hd) _ st
theorem r_aaload {a : Nat} {k : ClassId} {ty : FieldType} {z j : Int32} {vs : List Value} {dv v : Value} (pc' : Nat) (hp : pc + 1 = pc') (hd : decode B.code pc = .ok (.aaload, 1)) (A : Arv V.Z h a k ty z vs dv) (hty : ty.isReference = true) (hj : ¬ j < 0 ∧ j < z) (hv : vs.getD j.toNatClampNeg dv = v) (r : Run V K B Q h ps cs sl pc' L (v :: S)) : Run V K B Q h ps cs sl pc L (.int j :: .ref a :: S) := by
  subst hp; refine r.still fun T locs vm0 X eT hZ ho O G => ⟨T, X, eT, fun t st => ?_⟩
  obtain ⟨c, A1, q1, S1, N1, H1, G1⟩ := A
  exact X.aaload G.1 (by rw [eT]; exact A1.1) (State.isArrayOf_alike hZ.alike A1.2.1) hty A1.2.2 (inb_of S1 hj) (H1.at (inb_of S1 hj) hv) (g := mkF K.m pc L.toArray (.int j :: .ref a :: S)) rfl rfl (hb G.2.1 hd) _ st
theorem r_arraylength {a : Nat} {k : ClassId} {ty : FieldType} {z : Int32} {vs : List Value} {dv : Value} (pc' : Nat) (hp : pc + 1 = pc') (hd : decode B.code pc = .ok (.arraylength, 1)) (A : Arv V.Z h a k ty z vs dv) (r : Run V K B Q h ps cs sl pc' L (.int z :: S)) : Run V K B Q h ps cs sl pc L (.ref a :: S) := by
  subst hp; refine r.still fun T locs vm0 X eT hZ ho O G => ⟨T, X, eT, fun t st => ?_⟩
  obtain ⟨c, A1, q1, S1, N1, H1, G1⟩ := A
  exact X.arraylength G.1 (by rw [eT]; exact A1.1) (State.isArrayOf_alike hZ.alike A1.2.1) (g := mkF K.m pc L.toArray (.ref a :: S)) rfl rfl (hb G.2.1 hd) _ (by rw [len_of S1 N1]; exact st)
theorem r_castore {a : Nat} {k : ClassId} {z j x : Int32} {vs : List Value} {dv : Value} (i : Nat) (pc' : Nat) (hp : pc + 1 = pc') (hd : decode B.code pc = .ok (.castore, 1)) (A : Arv V.Z h a k .char z vs dv) (hj : ¬ j < 0 ∧ j < z) (ji : j.toNatClampNeg = i) (hi : i < vs.length) (ha : V.Z.heap.size ≤ a) (x' : Int32) (hx' : nar .char x = x')
    (r : ∀ h', Wr h h' a i (.int x') → Arv V.Z h' a k .char z (vs.set i (.int x')) dv → Run V K B Q h' ps cs sl pc' L S) : Run V K B Q h ps cs sl pc L (.int x :: .int j :: .ref a :: S) := by
  subst hp hx' ji; refine Run.write ha (fun vm al P => Safe.arr al A.choose_spec.1 (by decide)) (fun h' W => r h' W ?_) fun T locs vm0 X eT hZ ho G => ?_
  · obtain ⟨c, A1, q1, S1, N1, H1, G1⟩ := A
    exact Arv.set A1 q1 S1 N1 H1 G1 (fits_nar_char x) W _ rfl hi
  · obtain ⟨c, A1, q1, S1, N1, H1, G1⟩ := A
    exact stC X G.1 hZ eT A1 (inb_of S1 hj) (g := mkF K.m pc L.toArray (.int x :: .int j :: .ref a :: S)) rfl rfl (hb G.2.1 hd)
theorem r_bastore {a : Nat} {k : ClassId} {z j x : Int32} {vs : List Value} {dv : Value} (i : Nat) (pc' : Nat) (hp : pc + 1 = pc') (hd : decode B.code pc = .ok (.bastore, 1)) (A : Arv V.Z h a k .byte z vs dv) (hj : ¬ j < 0 ∧ j < z) (ji : j.toNatClampNeg = i) (hi : i < vs.length) (ha : V.Z.heap.size ≤ a) (hs : a ∈ ps) (x' : Int32) (hx' : x.toInt8.toInt32 = x')
    (r : ∀ h', Wr h h' a i (.int x') → Arv V.Z h' a k .byte z (vs.set i (.int x')) dv → Run V K B Q h' ps cs sl pc' L S) : Run V K B Q h ps cs sl pc L (.int x :: .int j :: .ref a :: S) := by
  subst hp hx' ji; refine Run.write ha (fun vm al P => (P a hs).2) (fun h' W => r h' W ?_) fun T locs vm0 X eT hZ ho G => ?_
  · obtain ⟨c, A1, q1, S1, N1, H1, G1⟩ := A
    exact Arv.set A1 q1 S1 N1 H1 G1 (fits_nar_byte x) W _ rfl hi
  · obtain ⟨c, A1, q1, S1, N1, H1, G1⟩ := A
    exact stB X G.1 hZ eT A1 (inb_of S1 hj) (g := mkF K.m pc L.toArray (.int x :: .int j :: .ref a :: S)) rfl rfl (hb G.2.1 hd)
theorem r_iastore {a : Nat} {k : ClassId} {z j x : Int32} {vs : List Value} {dv : Value} (i : Nat) (pc' : Nat) (hp : pc + 1 = pc') (hd : decode B.code pc = .ok (.iastore, 1)) (A : Arv V.Z h a k .int z vs dv) (hj : ¬ j < 0 ∧ j < z) (ji : j.toNatClampNeg = i) (hi : i < vs.length) (ha : V.Z.heap.size ≤ a) (x' : Int32) (hx' : x = x')
    (r : ∀ h', Wr h h' a i (.int x') → Arv V.Z h' a k .int z (vs.set i (.int x')) dv → Run V K B Q h' ps cs sl pc' L S) : Run V K B Q h ps cs sl pc L (.int x :: .int j :: .ref a :: S) := by
  subst hp hx' ji; refine Run.write ha (fun vm al P => Safe.arr al A.choose_spec.1 (by decide)) (fun h' W => r h' W ?_) fun T locs vm0 X eT hZ ho G => ?_
  · obtain ⟨c, A1, q1, S1, N1, H1, G1⟩ := A
    exact Arv.set A1 q1 S1 N1 H1 G1 (rfl) W _ rfl hi
  · obtain ⟨c, A1, q1, S1, N1, H1, G1⟩ := A
    exact stI X G.1 hZ eT A1 (inb_of S1 hj) (g := mkF K.m pc L.toArray (.int x :: .int j :: .ref a :: S)) rfl rfl (hb G.2.1 hd)
theorem r_aastore {a : Nat} {k : ClassId} {C : String} {z j : Int32} {x : Value} {vs : List Value} {dv : Value} (i : Nat) (pc' : Nat) (hp : pc + 1 = pc') (hd : decode B.code pc = .ok (.aastore, 1)) (A : Arv V.Z h a k (.object C) z vs dv) (F : ∀ c, Arr V.Z h a c (.object C) → c.cls = k → Sto V.Z h a x) (hj : ¬ j < 0 ∧ j < z) (ji : j.toNatClampNeg = i) (hi : i < vs.length) (ha : V.Z.heap.size ≤ a) (hfx : fits (.object C) x = true)
    (r : ∀ h', Wr h h' a i x → Arv V.Z h' a k (.object C) z (vs.set i x) dv → Run V K B Q h' ps cs sl pc' L S) : Run V K B Q h ps cs sl pc L (x :: .int j :: .ref a :: S) := by
  subst hp ji; refine Run.write ha (fun vm al P => Safe.arr al A.choose_spec.1 (by simp)) (fun h' W => r h' W ?_) fun T locs vm0 X eT hZ ho G => ?_
  · obtain ⟨c, A1, q1, S1, N1, H1, G1⟩ := A
    exact Arv.set A1 q1 S1 N1 H1 G1 hfx W _ rfl hi
  · obtain ⟨c, A1, q1, S1, N1, H1, G1⟩ := A
    exact stR X G.1 hZ eT A1 (inb_of S1 hj) rfl (F c A1 q1) (g := mkF K.m pc L.toArray (x :: .int j :: .ref a :: S)) rfl rfl (hb G.2.1 hd)
theorem r_instY {i : Nat} {C : String} {a : Nat} (pc' : Nat) (hp : pc + 3 = pc') (hd : decode B.code pc = .ok (.instanceof i, 3)) (w : (Jvm.Cond.classLink B.y.cls i C).before V.a0 V.Z = true) (F : Ins V.Z h a C true) (r : Run V K B Q h ps cs sl pc' L (.int 1 :: S)) : Run V K B Q h ps cs sl pc L (.ref a :: S) := by
  subst hp; exact r.still fun T locs vm0 X eT hZ ho O G => instY X G.1 hZ ho w eT F (g := mkF K.m pc L.toArray (.ref a :: S)) rfl rfl (hb G.2.1 hd)
theorem r_instNo {i : Nat} {C D : String} {a : Nat} (pc' : Nat) (hp : pc + 3 = pc') (hd : decode B.code pc = .ok (.instanceof i, 3)) (w : (Jvm.Cond.classLink B.y.cls i D).before V.a0 V.Z = true) (E : Exa V.Z h a C) (F : ∃ c t, V.Z.vm.findClass C = some c ∧ V.Z.vm.findClass D = some t ∧ V.Z.vm.assignable c t = false) (r : Run V K B Q h ps cs sl pc' L (.int 0 :: S)) : Run V K B Q h ps cs sl pc L (.ref a :: S) := by
  subst hp; exact r.still fun T locs vm0 X eT hZ ho O G => instNo X G.1 hZ ho w eT E F (g := mkF K.m pc L.toArray (.ref a :: S)) rfl rfl (hb G.2.1 hd)
theorem r_cast {i : Nat} {C : String} {a : Nat} (pc' : Nat) (hp : pc + 3 = pc') (hd : decode B.code pc = .ok (.checkcast i, 3)) (w : (Jvm.Cond.classLink B.y.cls i C).before V.a0 V.Z = true) (F : Ins V.Z h a C true) (r : Run V K B Q h ps cs sl pc' L (.ref a :: S)) : Run V K B Q h ps cs sl pc L (.ref a :: S) := by
  subst hp; exact r.still fun T locs vm0 X eT hZ ho O G => castY X G.1 hZ ho w eT F (g := mkF K.m pc L.toArray (.ref a :: S)) rfl rfl (hb G.2.1 hd)
theorem r_initO {i : Nat} {a : Nat} (W : Nat) (pc' : Nat) (hp : pc + 3 = pc') (hd : decode B.code pc = .ok (.invokespecial i, 3)) (w1 : (Jvm.Cond.methodLink B.y.cls i Lib.objectInit).before V.a0 V.Z = true) (w2 : (Jvm.Cond.instanceMethod Lib.objectInit).before V.a0 V.Z = true) (w3 : (Jvm.Cond.code Lib.objectInit ⟨#[0xb1]⟩ 1 none).before V.a0 V.Z = true) (hsz : L.length = B.ml) (hf : 1 ≤ B.R.frames) (hW : (S.map fun v => v.category).sum ≤ W) (hl : W + 12 ≤ B.R.locals) (r : Run V K B Q h ps cs sl pc' L S) : Run V K B Q h ps cs sl pc L (.ref a :: S) := by
  subst hp; exact r.still fun T locs vm0 X eT hZ ho O G => initO X G.1 hZ ho w1 w2 w3 eT (g := mkF K.m pc L.toArray (.ref a :: S)) rfl (by rw [G.2.2.1]; simpa using hsz) rfl (hb G.2.1 hd) hf (W := W) (by simpa using hW) hl
theorem Run.ret {v : Option Value} (hv : K.meth.sig.returnType = none → v = none) (hc : cs ≤ B.R.cells) (hs : sl ≤ B.R.slots) (qps : List Addr) (hq : ∀ x ∈ qps, x ∈ ps) (q : Q v h qps)
    (st : ∀ T locs vm0 fs, Stand K.p V.l K.e B.R (K.s.setVm vm0) K.m K.args K.below K.meth K.c T locs cs sl → Fx K B → (∀ (f : JFrame) (acts : List Action), f.method = K.m → f.locked = none → f.entered = [] → (doReturn K.e (T.setTop f) acts v).1 = T.setFrames fs) → Steps K.p.tables K.e K.below (T.setTop (mkF K.m pc L.toArray S)) (T.setFrames fs)) :
    Run V K B Q h ps cs sl pc L S := fun T hT => by
  obtain ⟨locs, vm0, k0, X, e1, e2, e3, e4, e5, e6, e7, e8, e9, e10, e11, e12⟩ := hT
  have hl : K.meth.locks = false := e12.2.2.2.2.1
  have C := e8.trans (CHv.at X e2 e10 e8.1)
  have A := CHv.at X e2 e10 e8.1
  cases hn : V.nar
  · obtain ⟨fs, hr, hrun, hend, w1, w2, w3, w4⟩ := X.leaveW e4 (by rw [e1]; exact e5) hv hl
    refine ⟨_, _, st T locs vm0 fs X e12 hr, hrun, hend, v, locs, qps, rfl, e6, by show Q v T.heap qps; rw [e1]; exact q, by show Ext V.Z.heap T.heap; rw [e1]; exact e7, by show Sf V T.vm T.heap qps; rw [e1]; exact (e9.sub hq).go A, by show CHr V.Z V.EL K.s.vm K.s.heap T.vm T.heap; rw [e1]; exact C, ⟨w1, w2, w3, w4.mono hc hs⟩, fun z => absurd (hn.symm.trans z) (by decide)⟩
  · obtain ⟨rfl, -⟩ := e11 hn
    obtain ⟨fs, hr, hrun, hend, w1, w2⟩ := X.leave hv hl
    refine ⟨_, _, st T locs _ fs X e12 hr, hrun, hend, v, locs, qps, rfl, e6, by show Q v T.heap qps; rw [e1]; exact q, by show Ext V.Z.heap T.heap; rw [e1]; exact e7, by show Sf V T.vm T.heap qps; rw [e1]; exact (e9.sub hq).go A, by show CHr V.Z V.EL K.s.vm K.s.heap T.vm T.heap; rw [e1]; exact C, ReturnedEndW.of_narrow ⟨v, rfl⟩ w1 (w2.mono hc hs), fun z => ⟨⟨v, rfl⟩, w1, w2.mono hc hs⟩⟩
theorem r_ret (hr : B.ret = none) (hd : decode B.code pc = .ok (.return_, 1)) (hc : cs ≤ B.R.cells) (hs : sl ≤ B.R.slots) (qps : List Addr) (hq : ∀ x ∈ qps, x ∈ ps) (q : Q none h qps) : Run V K B Q h ps cs sl pc L [] :=
  Run.ret (fun _ => rfl) hc hs qps hq q fun T locs vm0 fs X G hl => X.returnOut G.1 (G.2.2.2.1.trans hr) (hb G.2.1 hd) hl
theorem r_iret {z : Int32} (hr : B.ret = some .int) (hd : decode B.code pc = .ok (.ireturn, 1)) (hc : cs ≤ B.R.cells) (hs : sl ≤ B.R.slots) (qps : List Addr) (hq : ∀ x ∈ qps, x ∈ ps) (q : Q (some (.int z)) h qps) : Run V K B Q h ps cs sl pc L (.int z :: S) := by
  intro T hT; have G : Fx K B := by obtain ⟨locs, vm0, k0, X, e1, e2, e3, e4, e5, e6, e7, e8, e9, e10, e11, e12⟩ := hT; exact e12
  exact Run.ret (fun z => by rw [G.2.2.2.1.trans hr] at z; cases z) hc hs qps hq q (fun T locs vm0 fs X G hl => retOut X G.1 (G.2.2.2.1.trans hr) rfl (Or.inl ⟨rfl, Or.inl rfl, _, rfl⟩) (hb G.2.1 hd) hl) T hT
theorem r_nret {z : Int32} {t : FieldType} (z' : Int32) (hr : B.ret = some t) (ht : t = .boolean ∨ t = .byte ∨ t = .char ∨ t = .short) (hz : RoadKit.nar t z = z') (hd : decode B.code pc = .ok (.ireturn, 1)) (hc : cs ≤ B.R.cells) (hs : sl ≤ B.R.slots) (qps : List Addr) (hq : ∀ x ∈ qps, x ∈ ps) (q : Q (some (.int z')) h qps) : Run V K B Q h ps cs sl pc L (.int z :: S) := by
  subst hz; intro T hT; have G : Fx K B := by obtain ⟨locs, vm0, k0, X, e1, e2, e3, e4, e5, e6, e7, e8, e9, e10, e11, e12⟩ := hT; exact e12
  exact Run.ret (fun z => by rw [G.2.2.2.1.trans hr] at z; cases z) hc hs qps hq q (fun T locs vm0 fs X G hl => retN X G.1 (G.2.2.2.1.trans hr) ht (hb G.2.1 hd) hl) T hT
theorem r_lret {z : Int64} (hr : B.ret = some .long) (hd : decode B.code pc = .ok (.lreturn, 1)) (hc : cs ≤ B.R.cells) (hs : sl ≤ B.R.slots) (qps : List Addr) (hq : ∀ x ∈ qps, x ∈ ps) (q : Q (some (.long z)) h qps) : Run V K B Q h ps cs sl pc L (.long z :: S) := by
  intro T hT; have G : Fx K B := by obtain ⟨locs, vm0, k0, X, e1, e2, e3, e4, e5, e6, e7, e8, e9, e10, e11, e12⟩ := hT; exact e12
  exact Run.ret (fun z => by rw [G.2.2.2.1.trans hr] at z; cases z) hc hs qps hq q (fun T locs vm0 fs X G hl => retOut X G.1 (G.2.2.2.1.trans hr) rfl (Or.inr (Or.inl ⟨rfl, rfl, _, rfl⟩)) (hb G.2.1 hd) hl) T hT
theorem r_aret {x : Value} {t : FieldType} (hr : B.ret = some t) (ht : t.isReference = true) (hx : x.isRef = true) (hd : decode B.code pc = .ok (.areturn, 1)) (hc : cs ≤ B.R.cells) (hs : sl ≤ B.R.slots) (qps : List Addr) (hq : ∀ x ∈ qps, x ∈ ps) (q : Q (some x) h qps) : Run V K B Q h ps cs sl pc L (x :: S) := by
  intro T hT; have G : Fx K B := by obtain ⟨locs, vm0, k0, X, e1, e2, e3, e4, e5, e6, e7, e8, e9, e10, e11, e12⟩ := hT; exact e12
  have hn : narrow t x = x := by rcases ref_cases hx with rfl | ⟨a, rfl⟩ <;> cases t <;> first | rfl | cases ht
  exact Run.ret (fun z => by rw [G.2.2.2.1.trans hr] at z; cases z) hc hs qps hq q (fun T locs vm0 fs X G hl => retOut X G.1 (G.2.2.2.1.trans hr) hn (Or.inr (Or.inr (Or.inr (Or.inr ⟨rfl, ht, hx⟩)))) (hb G.2.1 hd) hl) T hT
theorem r_static {i W nc ns : Nat} {y : MethodName} {Q' : Qt} {bytes : ByteArray} {ml : Nat} {ret : Option FieldType} {argsL S0 : List Value} {as' : Array Value} (pc' : Nat) (hp : pc + 3 = pc') (hd : decode B.code pc = .ok (.invokestatic i, 3)) (w1 : (Jvm.Cond.methodLink B.y.cls i y).before V.a0 V.Z = true) (w2 : (Jvm.Cond.static y).before V.a0 V.Z = true) (w3 : (Jvm.Cond.initialized y.cls).before V.a0 V.Z = true) (w4 : (Jvm.Cond.code y bytes ml ret).before V.a0 V.Z = true)
    (hy : y.cls ≠ "java/lang/invoke/MethodHandle" ∧ y.cls ≠ "java/lang/invoke/VarHandle") (P : Pays V K B y 3 W as' h ps nc ns Q') (hlen : ∀ sig, parseMethodDescriptor y.desc = some sig → argsL.length = sig.parameters.length) (hS : S0 = argsL.reverse ++ S) (ha : argsL.toArray = as') (hsz : L.length = B.ml) (hW : (S.map fun v => v.category).sum ≤ W) (hc : cs + nc ≤ B.R.cells) (hs : sl + ns ≤ B.R.slots) (r : ∀ v h' ps', Q' v h' ps' → h.size ≤ h'.size → Run V K B Q h' (ps' ++ ps) (cs + nc) (sl + ns) pc' L (v.toList ++ S)) : Run V K B Q h ps cs sl pc L S0 := fun T hT => by
  subst hp hS ha
  obtain ⟨locs, vm0, k0, X, e1, e2, e3, e4, e5, e6, e7, e8, e9, e10, e11, e12⟩ := hT
  have P1 := P vm0 e2 e8.1 e9 e10 e7 fun q => (e11 q).2
  have hsize : (mkF K.m pc L.toArray (argsL.reverse ++ S)).locals.size = K.c.maxLocals := by rw [e12.2.2.1]; simpa using hsz
  have hZ : V.Z.Warmed39 (K.s.setVm vm0).vm := e2
  cases hn : V.nar
  · obtain ⟨v, vm₁, C, -, X', hS', -, hpo, st⟩ := callSS X e12.1 e3 (mvT hZ w1) (mvT hZ w2) (mvT hZ w3) (mvT hZ w4) hy (P1.2 hn) (g := mkF K.m pc L.toArray (argsL.reverse ++ S)) rfl hsize hlen rfl (by simpa using hW) (hb e12.2.1 hd) (fun vm₁ _ => ⟨rfl, e1, hc, hs⟩)
    obtain ⟨t, o, s1, s2⟩ := Run.behind e2 e3 e4 e5 e6 e8 e9 e10 e11 e12 (Or.inr ⟨hn, X', hS'⟩) hpo r
    exact ⟨t, o, st.trans s1, s2⟩
  · obtain ⟨v, vm₁, C, -, X', hpo, st⟩ := Jvm.LawKit.callS X e12.1 e3 (mvT hZ w1) (mvT hZ w2) (mvT hZ w3) (mvT hZ w4) hy (P1.1 hn) (g := mkF K.m pc L.toArray (argsL.reverse ++ S)) rfl hsize hlen rfl (by simpa using hW) (hb e12.2.1 hd) (fun vm₁ _ => ⟨rfl, e1, hc, hs⟩)
    obtain ⟨t, o, s1, s2⟩ := Run.behind e2 e3 e4 e5 e6 e8 e9 e10 e11 e12 (Or.inl ⟨hn, X'⟩) hpo r
    exact ⟨t, o, st _ s1, s2⟩
theorem r_special {i W nc ns : Nat} {y : MethodName} {Q' : Qt} {bytes : ByteArray} {ml : Nat} {argsL S0 : List Value} {a : Nat} {as' : Array Value} (pc' : Nat) (hp : pc + 3 = pc') (hd : decode B.code pc = .ok (.invokespecial i, 3)) (hy1 : y.name = "<init>") (w1 : (Jvm.Cond.methodLink B.y.cls i y).before V.a0 V.Z = true) (w2 : (Jvm.Cond.instanceMethod y).before V.a0 V.Z = true) (w4 : (Jvm.Cond.code y bytes ml none).before V.a0 V.Z = true)
    (hy : y.cls ≠ "java/lang/invoke/MethodHandle" ∧ y.cls ≠ "java/lang/invoke/VarHandle") (P : Pays V K B y 3 W as' h ps nc ns Q') (hlen : ∀ sig, parseMethodDescriptor y.desc = some sig → argsL.length = sig.parameters.length) (hS : S0 = argsL.reverse ++ .ref a :: S) (ha : (.ref a :: argsL).toArray = as') (hsz : L.length = B.ml) (hW : (S.map fun v => v.category).sum ≤ W) (hc : cs + nc ≤ B.R.cells) (hs : sl + ns ≤ B.R.slots) (r : ∀ v h' ps', Q' v h' ps' → h.size ≤ h'.size → Run V K B Q h' (ps' ++ ps) (cs + nc) (sl + ns) pc' L (v.toList ++ S)) : Run V K B Q h ps cs sl pc L S0 := fun T hT => by
  subst hp hS ha
  obtain ⟨locs, vm0, k0, X, e1, e2, e3, e4, e5, e6, e7, e8, e9, e10, e11, e12⟩ := hT
  have P1 := P vm0 e2 e8.1 e9 e10 e7 fun q => (e11 q).2
  have hsize : (mkF K.m pc L.toArray (argsL.reverse ++ .ref a :: S)).locals.size = K.c.maxLocals := by rw [e12.2.2.1]; simpa using hsz
  have hZ : V.Z.Warmed39 (K.s.setVm vm0).vm := e2
  cases hn : V.nar
  · obtain ⟨v, vm₁, C, -, X', hS', -, hpo, st⟩ := X.specialBackS e12.1 hy1 e3 (mvT hZ w1) (mvT hZ w2) (mvT hZ w4) hy (P1.2 hn) (g := mkF K.m pc L.toArray (argsL.reverse ++ .ref a :: S)) rfl hsize (Steps.refl _) hlen rfl (by simpa using hW) (hb e12.2.1 hd) (fun vm₁ _ => ⟨rfl, e1, hc, hs⟩)
    obtain ⟨t, o, s1, s2⟩ := Run.behind e2 e3 e4 e5 e6 e8 e9 e10 e11 e12 (Or.inr ⟨hn, X', hS'⟩) hpo r
    exact ⟨t, o, st.trans s1, s2⟩
  · obtain ⟨v, vm₁, C, -, X', hpo, st⟩ := X.specialBack e12.1 hy1 e3 (mvT hZ w1) (mvT hZ w2) (mvT hZ w4) hy (P1.1 hn) (g := mkF K.m pc L.toArray (argsL.reverse ++ .ref a :: S)) rfl hsize (Steps.refl _) hlen rfl (by simpa using hW) (hb e12.2.1 hd) (fun vm₁ _ => ⟨rfl, e1, hc, hs⟩)
    obtain ⟨t, o, s1, s2⟩ := Run.behind e2 e3 e4 e5 e6 e8 e9 e10 e11 e12 (Or.inl ⟨hn, X'⟩) hpo r
    exact ⟨t, o, st.trans s1, s2⟩
theorem nfS {C0 : String} {y : MethodName} (w : (Jvm.Cond.selects C0 y y).before V.a0 V.Z = true) : ∀ s : State, V.Z.Warmed39 s.vm → NotFace s y := fun s hZ => notFace_of_selects (args := #[]) (mvT hZ w)
theorem r_virtual {i W nc ns : Nat} {y : MethodName} {Q' : Qt} {z : MethodName} {C0 : String} {argsL S0 : List Value} {a : Nat} {as' : Array Value} (pc' : Nat) (hp : pc + 3 = pc') (hd : decode B.code pc = .ok (.invokevirtual i, 3)) (w1 : (Jvm.Cond.methodLink B.y.cls i y).before V.a0 V.Z = true) (w2 : (Jvm.Cond.declares y).before V.a0 V.Z = true) (w3 : (Jvm.Cond.selects C0 y z).before V.a0 V.Z = true) (w4 : (Jvm.Cond.instanceMethod z).before V.a0 V.Z = true)
    (hnf : ∀ s : State, V.Z.Warmed39 s.vm → NotFace s y) (hy : y.cls ≠ "java/lang/invoke/MethodHandle" ∧ y.cls ≠ "java/lang/invoke/VarHandle") (E : Exa V.Z h a C0) (P : Pays V K B z 3 W as' h ps nc ns Q') (hlen : ∀ sig, parseMethodDescriptor y.desc = some sig → argsL.length = sig.parameters.length) (hS : S0 = argsL.reverse ++ .ref a :: S) (ha : (.ref a :: argsL).toArray = as') (hsz : L.length = B.ml) (hW : (S.map fun v => v.category).sum ≤ W) (hc : cs + nc ≤ B.R.cells) (hs : sl + ns ≤ B.R.slots) (r : ∀ v h' ps', Q' v h' ps' → h.size ≤ h'.size → Run V K B Q h' (ps' ++ ps) (cs + nc) (sl + ns) pc' L (v.toList ++ S)) : Run V K B Q h ps cs sl pc L S0 := fun T hT => by
  subst hp hS ha
  obtain ⟨locs, vm0, k0, X, e1, e2, e3, e4, e5, e6, e7, e8, e9, e10, e11, e12⟩ := hT
  have P1 := P vm0 e2 e8.1 e9 e10 e7 fun q => (e11 q).2
  have hsize : (mkF K.m pc L.toArray (argsL.reverse ++ .ref a :: S)).locals.size = K.c.maxLocals := by rw [e12.2.2.1]; simpa using hsz
  have hZ : V.Z.Warmed39 (K.s.setVm vm0).vm := e2
  obtain ⟨cq, kq, q1, q2, q3⟩ := isOf (s := K.s.setVm vm0) hZ e1 E
  cases hn : V.nar
  · obtain ⟨v, vm₁, C, -, X', hS', -, hpo, st⟩ := X.virtualBackS e12.1 e3 (mvT hZ w1) (mvT hZ w2) (hnf _ hZ) (mvT hZ w3) (mvT hZ w4) hy (P1.2 hn) q1 q3 (g := mkF K.m pc L.toArray (argsL.reverse ++ .ref a :: S)) rfl hsize (Steps.refl _) hlen rfl (by simpa using hW) (hb e12.2.1 hd) (fun vm₁ _ => ⟨rfl, e1, hc, hs⟩)
    obtain ⟨t, o, s1, s2⟩ := Run.behind e2 e3 e4 e5 e6 e8 e9 e10 e11 e12 (Or.inr ⟨hn, X', hS'⟩) hpo r
    exact ⟨t, o, st.trans s1, s2⟩
  · obtain ⟨v, vm₁, C, -, X', hpo, st⟩ := X.virtualBack e12.1 e3 (mvT hZ w1) (mvT hZ w2) (hnf _ hZ) (mvT hZ w3) (mvT hZ w4) hy (P1.1 hn) q1 q3 (g := mkF K.m pc L.toArray (argsL.reverse ++ .ref a :: S)) rfl hsize (Steps.refl _) hlen rfl (by simpa using hW) (hb e12.2.1 hd) (fun vm₁ _ => ⟨rfl, e1, hc, hs⟩)
    obtain ⟨t, o, s1, s2⟩ := Run.behind e2 e3 e4 e5 e6 e8 e9 e10 e11 e12 (Or.inl ⟨hn, X'⟩) hpo r
    exact ⟨t, o, st.trans s1, s2⟩
theorem r_ldcS {i : Nat} {text : String} (vs : List Value) (z : Int32) (n : Nat) (pc' : Nat) (hp : pc + 2 = pc') (hd : decode B.code pc = .ok (.ldc i, 2)) (w : (Jvm.Cond.stringLink B.y.cls i text).before V.a0 V.Z = true) (wS : ∀ a ∈ Bundle.stringAtoms, a.before V.a0 V.Z = true) (hmem : (B.y.cls, i) ∈ V.EL) (hnar : V.nar = false)
    (ht : (∀ c ∈ text.toList, c.toNat < 256) ∧ text.toList.map (fun c => Value.int (Jvm.Lit.byteI c.toNat.toUInt16)) = vs) (hz : ¬ z < 0) (hl : z.toNatClampNeg = vs.length) (hn : 4 * text.toList.length ≤ n) (hbig : n ≤ 536870912) (hc : cs + 2 ≤ B.R.cells) (hl' : sl + (n + 4) ≤ B.R.slots)
    (r : ∀ (a b : Nat) k h', Ext h h' → Exa V.Z h' a "java/lang/String" → Fld V.Z h' a "java/lang/String" "coder" "B" (.int 0) → Fld V.Z h' a "java/lang/String" "value" "[B" (.ref b) → Arv V.Z h' b k .byte z vs (.int 0) → (∀ x ∈ ps, x ≠ a ∧ x ≠ b) → Run V K B Q h' ps (cs + 2) (sl + (n + 4)) pc' L (.ref a :: S)) : Run V K B Q h ps cs sl pc L S := fun T hT => by
  subst hp
  obtain ⟨locs, vm0, k0, X, e1, e2, e3, e4, e5, e6, e7, e8, e9, e10, e11, e12⟩ := hT
  obtain ⟨a, T', h', k1, b, k, X', q1, q2, q3, q4, q5, q6, q7, q8, q9, q10, q11, q12, q13, q14, q15, st⟩ := ldcCH X e12.1 e2 e3 w wS e1 e4 e5 e10 hmem e8.1 ht hz hl (g := mkF K.m pc L.toArray S) rfl (hb e12.2.1 hd) hn hbig hc hl'
  have S' : Sf V T'.vm h' ps := e9.go q13
  obtain ⟨t, o, s1, s2⟩ := r a b k h' q2 q7 q8 q9 q10 (fun x hx => q15 x (S' x hx).2) T' ⟨_, _, k1, X', q1, q5, q6, q3, q4, e6, Ext.trans' e7 q2, e8.trans q13, S', e10, fun q => absurd (hnar.symm.trans q) (by decide), e12⟩
  exact ⟨t, o, st _ s1, s2⟩
end Rules
end Jvm.Own
namespace Jvm.Own
open Jvm Jvm.ClassFile Sem Op Lib Jvm.Free Jvm.Stand Jvm.LawKit Jvm.RoadKit Bundle
section More
variable {V : Vw} {K : Cx} {B : Bx} {Q : Qt} {T : State} {h h' : Heap} {ps ps' : List Addr} {cs sl pc : Nat} {L : List Slot} {S : List Value}
theorem r_gen {x : Int32} (r : ∀ z, z = x → Run V K B Q h ps cs sl pc L (.int z :: S)) : Run V K B Q h ps cs sl pc L (.int x :: S) := r x rfl
theorem r_genL {x : Int64} (r : ∀ z, z = x → Run V K B Q h ps cs sl pc L (.long z :: S)) : Run V K B Q h ps cs sl pc L (.long x :: S) := r x rfl
theorem layL {as' : Array Value} {n : Nat} {L : List Slot} (h : Jvm.Sym.laidSlots as'.toList ++ List.replicate (n - (Jvm.Sym.laidSlots as'.toList).length) .unset = L) : argsToLocals as' n = L.toArray :=
  Array.toList_inj.mp (by rw [Jvm.Sym.argsToLocals_toList, h])
theorem nc16 (x : Int32) : RoadKit.nar .char x.toUInt32.toUInt16.toUInt32.toInt32 = x.toUInt32.toUInt16.toUInt32.toInt32 := by
  show x.toUInt32.toUInt16.toUInt32.toInt32.toUInt32.toUInt16.toUInt32.toInt32 = _
  simp only [UInt32.toUInt32_toInt32, UInt16.toUInt16_toUInt32]
theorem nc8 (x : Int32) : RoadKit.nar .char (x &&& 255).toUInt32.toUInt16.toUInt32.toInt32 = x &&& 255 := by rw [nc16, i2c_mask]
theorem ncm (x : Int32) : RoadKit.nar .char (x &&& 255) = x &&& 255 := i2c_mask x
/-- 0 to 255 -/
def By (x : Int32) : Prop := ¬ x < 0 ∧ ¬ 255 < x
theorem By.mask (x : Int32) : By (x &&& 255) := by
  have h := c_and x 255 (by decide)
  refine ⟨fun q => ?_, fun q => ?_⟩
  · rw [Int32.lt_iff_toInt_lt] at q; have : (0 : Int32).toInt = 0 := rfl; omega
  · rw [Int32.lt_iff_toInt_lt] at q; have : (255 : Int32).toInt = 255 := rfl; omega
end More
end Jvm.Own
namespace Jvm.Own
open Jvm Jvm.ClassFile Sem Op Lib Jvm.Free Jvm.Stand Jvm.LawKit Jvm.RoadKit Bundle
section More2
variable {V : Vw} {K : Cx} {B : Bx} {Q : Qt} {T : State} {h h' : Heap} {ps ps' : List Addr} {cs sl pc : Nat} {L : List Slot} {S : List Value}
theorem r_instNull {i : Nat} (pc' : Nat) (hp : pc + 3 = pc') (hd : decode B.code pc = .ok (.instanceof i, 3)) (r : Run V K B Q h ps cs sl pc' L (.int 0 :: S)) : Run V K B Q h ps cs sl pc L (.null :: S) := by
  subst hp; exact r.still fun T locs vm0 X eT hZ ho O G => ⟨T, X, eT, fun t st => X.instanceofNull G.1 (g := mkF K.m pc L.toArray (.null :: S)) rfl rfl (hb G.2.1 hd) _ st⟩
theorem noCast {Z : State} {a0 : Array Value} {C S K : String} {n : Nat} (w : (Jvm.Cond.superclass C S).before a0 Z = true) (w0 : (Jvm.Cond.noSuperclass S).before a0 Z = true) (wi : (Jvm.Cond.instantiable K n).before a0 Z = true) (h1 : C ≠ K) (h2 : S ≠ K) : ∃ c t, Z.vm.findClass C = some c ∧ Z.vm.findClass K = some t ∧ Z.vm.assignable c t = false := by
  obtain ⟨t, kt, i1, i2, i3, i4, -⟩ := Cond.instantiable_spec wi
  obtain ⟨cS, kS, s1, s2, s3, -, -⟩ := Cond.noSuperclass_spec w0
  have neS := ids_ne s1 i1 h2
  obtain ⟨c, h0⟩ := found_sup w
  obtain ⟨p, k, kp, q1, q2, q3, q4, q5, -, q7⟩ := Cond.superclass_spec h0 w
  cases q1.symm.trans s1
  have neC := ids_ne h0 i1 h1
  have nS : ∀ f, Z.vm.isSubclassAux f cS t = false := fun f => by
    cases f with
    | zero => rfl
    | succ f => simp [Vm.isSubclassAux, neS, s2, s3]
  have nC : ∀ f, Z.vm.isSubclassAux f c t = false := fun f => by
    cases f with
    | zero => rfl
    | succ f => simp [Vm.isSubclassAux, neC, q2, q4, nS]
  have i5 : kt.isInterface = false := by simp only [Bool.or_eq_false_iff] at i4; exact i4.1
  refine ⟨c, t, h0, i1, ?_⟩
  show Z.vm.assignableAux (255 + 1) c t = false
  simp [Vm.assignableAux, neC, q2, i2, q5, i3, i5, Vm.isSubclass, nC]
end More2
end Jvm.Own
namespace Jvm.Own
open Jvm Jvm.ClassFile Sem Op Lib Jvm.Free Jvm.Stand Jvm.LawKit Jvm.RoadKit Bundle
section More3
variable {V : Vw} {K : Cx} {B : Bx} {Q : Qt} {T : State} {h h' : Heap} {ps ps' : List Addr} {cs sl pc : Nat} {L : List Slot} {S : List Value}
/-- ldc of a String constant, opaque -/
theorem r_ldcO {i : Nat} {text : String} (n : Nat) (pc' : Nat) (hp : pc + 2 = pc') (hd : decode B.code pc = .ok (.ldc i, 2)) (w : (Jvm.Cond.stringLink B.y.cls i text).before V.a0 V.Z = true) (wS : ∀ a ∈ Bundle.stringAtoms, a.before V.a0 V.Z = true) (hnar : V.nar = false)
    (hn : 4 * text.toList.length ≤ n) (hbig : n ≤ 536870912) (hc : cs + 2 ≤ B.R.cells) (hl' : sl + (n + 4) ≤ B.R.slots) (r : ∀ (a : Nat) h', Ext h h' → Run V K B Q h' ps (cs + 2) (sl + (n + 4)) pc' L (.ref a :: S)) : Run V K B Q h ps cs sl pc L S := fun T hT => by
  subst hp
  obtain ⟨locs, vm0, k0, X, e1, e2, e3, e4, e5, e6, e7, e8, e9, e10, e11, e12⟩ := hT
  obtain ⟨a, T', h', k1, X', q1, q2, q3, q4, q5, q6, q13, q14, st⟩ := ldcOH X e12.1 e2 e3 w wS e1 e4 e5 e10 e8.1 (g := mkF K.m pc L.toArray S) rfl (hb e12.2.1 hd) hn hbig hc hl'
  obtain ⟨t, o, s1, s2⟩ := r a h' q2 T' ⟨_, _, k1, X', q1, q5, q6, q3, q4, e6, Ext.trans' e7 q2, e8.trans q13, e9.go q13, e10, fun q => absurd (hnar.symm.trans q) (by decide), e12⟩
  exact ⟨t, o, st _ s1, s2⟩
end More3
end Jvm.Own
namespace Jvm.Own
open Jvm Jvm.ClassFile Sem Op Lib Jvm.Free Jvm.Stand Jvm.LawKit Jvm.RoadKit Bundle
section Again
variable {V : Vw} {K : Cx} {B : Bx} {Q : Qt} {T : State} {h h' : Heap} {ps ps' : List Addr} {cs sl pc : Nat} {L : List Slot} {S : List Value}
/-- 'Std' at a table where the entry i of the body's class is booked as the String a -/
def StdL (V : Vw) (K : Cx) (B : Bx) (ix : Nat) (ad : Addr) (T : State) (h : Heap) (ps : List Addr) (cs sl : Nat) : Prop :=
  ∃ (locs : List Loc) (vm0 : Vm) (k0 : Nat), Stand K.p V.l K.e B.R (K.s.setVm vm0) K.m K.args K.below K.meth K.c T locs cs sl ∧ T.heap = h ∧ V.Z.Warmed39 vm0 ∧ vm0.findClass B.y.cls = some K.m.cls ∧ K.s.Since vm0 k0 ∧ k0 ≤ h.size ∧
    Fr V.Z.heap.size locs ∧ Ext V.Z.heap h ∧ CHr V.Z V.EL K.s.vm K.s.heap vm0 h ∧ Sf V vm0 h ps ∧ EW V.Z V.a0 V.EL ∧ (V.nar = true → vm0 = K.s.vm ∧ V.EL = []) ∧ Fx K B ∧ Lit (K.s.setVm vm0) B.y.cls ix ad
def RunL (V : Vw) (K : Cx) (B : Bx) (Q : Qt) (ix : Nat) (ad : Addr) (h : Heap) (ps : List Addr) (cs sl pc : Nat) (L : List Slot) (S : List Value) : Prop :=
  ∀ T, StdL V K B ix ad T h ps cs sl → ∃ t o, Steps K.p.tables K.e K.below (T.setTop (mkF K.m pc L.toArray S)) t ∧ t.status = .running ∧ Ended t K.below o ∧ Fnl V K B Q o t
theorem rL_aloadN {ix : Nat} {ad : Addr} {k : Fin 4} {v : Value} (pc' : Nat) (hp : pc + 1 = pc') (hd : decode B.code pc = .ok (.aload_n k, 1)) (hl : L[k.val]? = some (.val v)) (hv : v.isRef = true) (r : RunL V K B Q ix ad h ps cs sl pc' L (v :: S)) : RunL V K B Q ix ad h ps cs sl pc L (S) := fun T hT => by
  subst hp
  obtain ⟨t, o, h1, h2⟩ := r T hT
  obtain ⟨locs, vm0, k0, X, -, -, -, -, -, -, -, -, -, -, -, G, -⟩ := hT
  exact ⟨t, o, XS.aloadN X.here G.1 rfl (hb G.2.1 hd) (by show L.toArray[_]? = _; rw [List.getElem?_toArray]; exact hl) hv h1, h2⟩
theorem rL_getfield {ix : Nat} {ad : Addr} {i : Nat} {O n d : String} {a : Nat} {v : Value} (pc' : Nat) (hp : pc + 3 = pc') (hd : decode B.code pc = .ok (.getfield i, 3)) (w : (Jvm.Cond.fieldLink B.y.cls i O n d).before V.a0 V.Z = true) (F : Fld V.Z h a O n d v) (r : RunL V K B Q ix ad h ps cs sl pc' L (v :: S)) : RunL V K B Q ix ad h ps cs sl pc L (.ref a :: S) := fun T hT => by
  subst hp
  obtain ⟨locs, vm0, k0, X, e1, e2, e3, e4, e5, e6, e7, e8, e9, e10, e11, e12, e13⟩ := hT
  obtain ⟨T', X', e', st'⟩ := getF X e12.1 e2 e3 (host := "") (Or.inl w) Via.refl e1 F (g := mkF K.m pc L.toArray (.ref a :: S)) rfl rfl (hb e12.2.1 hd)
  obtain ⟨t, o, h1, h2⟩ := r T' ⟨locs, vm0, k0, X', e', e2, e3, e4, e5, e6, e7, e8, e9, e10, e11, e12, e13⟩
  exact ⟨t, o, st' _ h1, h2⟩
theorem rL_putfield {ix : Nat} {ad : Addr} {i kk : Nat} {O n d C : String} {a : Nat} {v old : Value} {ty : FieldType} (pc' : Nat) (hp : pc + 3 = pc') (hd : decode B.code pc = .ok (.putfield i, 3)) (w : (Jvm.Cond.fieldLink B.y.cls i O n d).before V.a0 V.Z = true) (F : Fld V.Z h a O n d old) (E : Exa V.Z h a C)
    (Lw : (Jvm.Cond.lays C O n d).before V.a0 V.Z = true ∨ ((Jvm.Cond.laysFinal C O n d).before V.a0 V.Z = true ∧ B.y.cls = O ∧ B.y.name = "<init>")) (wi : (Jvm.Cond.instantiable C kk).before V.a0 V.Z = true) (hty : parseFieldDescriptor d = some ty) (hn : narrow ty v = v) (hf : fits ty v = true)
    (ha : V.Z.heap.size ≤ a) (hs : C ≠ "java/lang/String" ∧ C ≠ "[B" ∨ a ∈ ps) (r : ∀ h', Wr h h' a (RoadKit.slotOf V.Z O n d) v → RunL V K B Q ix ad h' ps cs sl pc' L S) : RunL V K B Q ix ad h ps cs sl pc L (v :: .ref a :: S) := fun T hT => by
  subst hp
  obtain ⟨locs, vm0, k0, X, e1, e2, e3, e4, e5, e6, e7, e8, e9, e10, e11, e12, e13⟩ := hT
  obtain ⟨T', h', X', e', W, st'⟩ := putF X e12.1 e2 e3 (host := "") (Or.inl w) Via.refl e1 F E (Lw.imp id fun q => ⟨q.1, q.2.1, e12.2.2.2.2.2.trans q.2.2⟩) wi hty hn hf (g := mkF K.m pc L.toArray (v :: .ref a :: S)) rfl rfl (hb e12.2.1 hd)
  have C := CHr.wr W (hs.elim (fun q => Safe.exa e2.alike E q.1 q.2) (fun q => (e9 a q).2)) e8.1
  obtain ⟨t, o, h1, h2⟩ := r h' W T' ⟨_, vm0, k0, X', e', e2, e3, e4, by rw [W.size]; exact e5, Fr.snoc X' e6 ha, oldWr e7 W ha, e8.trans C, e9.go C, e10, e11, e12, e13⟩
  exact ⟨t, o, st' _ h1, h2⟩
theorem rL_again {ix : Nat} {ad : Nat} {text : String} (pc' : Nat) (hp : pc + 2 = pc') (hd : decode B.code pc = .ok (.ldc ix, 2)) (w : (Jvm.Cond.stringLink B.y.cls ix text).before V.a0 V.Z = true) (r : Run V K B Q h ps cs sl pc' L (.ref ad :: S)) : RunL V K B Q ix ad h ps cs sl pc L S := fun T hT => by
  subst hp
  obtain ⟨locs, vm0, k0, X, e1, e2, e3, e4, e5, e6, e7, e8, e9, e10, e11, e12, e13⟩ := hT
  obtain ⟨t, o, h1, h2⟩ := r T ⟨locs, vm0, k0, X, e1, e2, e3, e4, e5, e6, e7, e8, e9, e10, e11, e12⟩
  exact ⟨t, o, ldcAgain X e12.1 e2 e3 w e13 (g := mkF K.m pc L.toArray S) rfl (hb e12.2.1 hd) _ h1, h2⟩
theorem r_ldcSL {i : Nat} {text : String} (vs : List Value) (z : Int32) (n : Nat) (pc' : Nat) (hp : pc + 2 = pc') (hd : decode B.code pc = .ok (.ldc i, 2)) (w : (Jvm.Cond.stringLink B.y.cls i text).before V.a0 V.Z = true) (wS : ∀ a ∈ Bundle.stringAtoms, a.before V.a0 V.Z = true) (hmem : (B.y.cls, i) ∈ V.EL) (hnar : V.nar = false)
    (ht : (∀ c ∈ text.toList, c.toNat < 256) ∧ text.toList.map (fun c => Value.int (Jvm.Lit.byteI c.toNat.toUInt16)) = vs) (hz : ¬ z < 0) (hl : z.toNatClampNeg = vs.length) (hn : 4 * text.toList.length ≤ n) (hbig : n ≤ 536870912) (hc : cs + 2 ≤ B.R.cells) (hl' : sl + (n + 4) ≤ B.R.slots)
    (r : ∀ (a b : Nat) k h', Ext h h' → Exa V.Z h' a "java/lang/String" → Fld V.Z h' a "java/lang/String" "coder" "B" (.int 0) → Fld V.Z h' a "java/lang/String" "value" "[B" (.ref b) → Arv V.Z h' b k .byte z vs (.int 0) → (∀ x ∈ ps, x ≠ a ∧ x ≠ b) → RunL V K B Q i a h' ps (cs + 2) (sl + (n + 4)) pc' L (.ref a :: S)) : Run V K B Q h ps cs sl pc L S := fun T hT => by
  subst hp
  obtain ⟨locs, vm0, k0, X, e1, e2, e3, e4, e5, e6, e7, e8, e9, e10, e11, e12⟩ := hT
  obtain ⟨a, T', h', k1, b, k, X', q1, q2, q3, q4, q5, q6, q7, q8, q9, q10, q11, q12, q13, q14, q15, st⟩ := ldcCH X e12.1 e2 e3 w wS e1 e4 e5 e10 hmem e8.1 ht hz hl (g := mkF K.m pc L.toArray S) rfl (hb e12.2.1 hd) hn hbig hc hl'
  have S' : Sf V T'.vm h' ps := e9.go q13
  obtain ⟨t, o, s1, s2⟩ := r a b k h' q2 q7 q8 q9 q10 (fun x hx => q15 x (S' x hx).2) T' ⟨_, _, k1, X', q1, q5, q6, q3, q4, e6, Ext.trans' e7 q2, e8.trans q13, S', e10, fun q => absurd (hnar.symm.trans q) (by decide), e12, q14⟩
  exact ⟨t, o, st _ s1, s2⟩
end Again
end Jvm.Own
namespace Jvm.Own
open Jvm Jvm.ClassFile Sem Op Lib Jvm.Free Jvm.Stand Jvm.LawKit Jvm.RoadKit Bundle
section PaysMore
variable {V : Vw} {K : Cx} {B : Bx} {Q : Qt} {h : Heap} {ps : List Addr}
theorem Pays.more {y : MethodName} {as' : Array Value} {len W nc ns nc' ns' : Nat} (P : Pays V K B y len W as' h ps nc ns Q) (hc : nc ≤ nc') (hs : ns ≤ ns') : Pays V K B y len W as' h ps nc' ns' Q := fun vm0 hZ hC hS hE hO hN => by
  obtain ⟨p1, p2⟩ := P vm0 hZ hC hS hE hO hN
  refine ⟨fun hn => ?_, fun hn => ?_⟩
  · intro m meth c A g ig mk a X hg hsize hdg hW hn' hp
    have c1 := hp.2.2.1
    have c2 := hp.2.2.2
    obtain ⟨v, C, X', hpost, hst⟩ := p1 hn m meth c A g ig mk a X hg hsize hdg hW hn' ⟨hp.1, hp.2.1, Nat.le_trans (Nat.add_le_add_left hc _) c1, Nat.le_trans (Nat.add_le_add_left hs _) c2⟩
    obtain ⟨L, ps', q1, q2, q3, q4, q5, q6, q7, q8, q9⟩ := hpost
    exact ⟨v, ⟨C.U, C.locs, A.cells + nc', A.slots + ns'⟩, X'.more (show C.cells ≤ A.cells + nc' from by rw [q7]; exact Nat.add_le_add_left hc _) (show C.slots ≤ A.slots + ns' from by rw [q8]; exact Nat.add_le_add_left hs _), ⟨L, ps', q1, q2, q3, q4, q5, q6, rfl, rfl, q9⟩, hst⟩
  · intro m meth c A g ig mk a X hg hsize hdg hW hn' hp
    have c1 := hp.2.2.1
    have c2 := hp.2.2.2
    obtain ⟨v, C, X', k1, k2, hpost, hst⟩ := p2 hn m meth c A g ig mk a X hg hsize hdg hW hn' ⟨hp.1, hp.2.1, Nat.le_trans (Nat.add_le_add_left hc _) c1, Nat.le_trans (Nat.add_le_add_left hs _) c2⟩
    obtain ⟨L, ps', q1, q2, q3, q4, q5, q6, q7, q8, q9⟩ := hpost
    exact ⟨v, ⟨C.U, C.locs, A.cells + nc', A.slots + ns'⟩, X'.more (show C.cells ≤ A.cells + nc' from by rw [q7]; exact Nat.add_le_add_left hc _) (show C.slots ≤ A.slots + ns' from by rw [q8]; exact Nat.add_le_add_left hs _), k1, k2, ⟨L, ps', q1, q2, q3, q4, q5, q6, rfl, rfl, q9⟩, hst⟩
end PaysMore
end Jvm.Own
namespace Jvm.Own
open Jvm Jvm.ClassFile Sem Op Lib Jvm.Free Jvm.Stand Jvm.LawKit Jvm.RoadKit Bundle
section Copy
variable {V : Vw} {K : Cx} {B : Bx} {Q : Qt} {T : State} {h h' : Heap} {ps ps' : List Addr} {cs sl pc : Nat} {L : List Slot} {S : List Value}
theorem Arv.xt {Z : State} {h : Heap} {a : Addr} {k : ClassId} {ty : FieldType} {z : Int32} {vs : List Value} {d : Value} (A : RoadKit.Arv Z h a k ty z vs d) {T : State} (e : T.heap = h) (al : Z.vm.Alike T.vm) :
    ∃ c : Cell, Jvm.Free.XT.Arr ty a c T ∧ RoadKit.Arr Z h a c ty ∧ c.cls = k ∧ c.slots.size = z.toNatClampNeg ∧ ¬ z < 0 ∧ Has c vs d ∧ ∀ i, i < c.slots.size → fits ty (vs.getD i d) = true := by
  obtain ⟨c, A1, q1, q2, q3, q4, q5⟩ := A
  refine ⟨c, ⟨by rw [e]; exact A1.1, State.isArrayOf_alike al A1.2.1, A1.2.2, ?_⟩, A1, q1, q2, q3, q4, q5⟩
  rw [q2]; have := Int32.toInt_lt z; simp only [Int32.toNatClampNeg]; omega
theorem has_getD {c : Cell} {vs : List Value} {d : Value} (H : Has c vs d) {i : Nat} (hi : i < c.slots.size) (e : Value) : c.slots.getD i e = vs.getD i d := by
  have := H i hi; rw [Array.getD_eq_getD_getElem?, this]; rfl
/-- System.arraycopy of bytes, within -/
theorem r_acopy {i a b : Nat} {ka kb : ClassId} {za zb jo jq jn : Int32} {us vs : List Value} (o q n W : Nat) (vs' : List Value) (pc' : Nat) (hp : pc + 3 = pc') (hd : decode B.code pc = .ok (.invokestatic i, 3))
    (w1 : (Jvm.Cond.methodLink B.y.cls i acN).before V.a0 V.Z = true) (w2 : (Jvm.Cond.native acN).before V.a0 V.Z = true) (w3 : (Jvm.Cond.static acN).before V.a0 V.Z = true) (w4 : (Jvm.Cond.initialized "java/lang/System").before V.a0 V.Z = true)
    (A : RoadKit.Arv V.Z h a ka .byte za us (.int 0)) (D : RoadKit.Arv V.Z h b kb .byte zb vs (.int 0)) (ho : jo = Int32.ofNat o) (hq : jq = Int32.ofNat q) (hn : jn = Int32.ofNat n) (h4 : o + n ≤ za.toNatClampNeg) (h5 : q + n ≤ zb.toNatClampNeg)
    (hv : ∀ j, j < zb.toNatClampNeg → vs'.getD j (.int 0) = if q ≤ j ∧ j < q + n then us.getD (o + (j - q)) (.int 0) else vs.getD j (.int 0)) (hz : V.Z.heap.size ≤ b) (hs : b ∈ ps) (hsz : L.length = B.ml) (hf : 1 ≤ B.R.frames) (hW : (S.map fun v => v.category).sum ≤ W) (hl : W + 40 ≤ B.R.locals)
    (r : ∀ h', Keep h h' [b] → RoadKit.Arv V.Z h' b kb .byte zb vs' (.int 0) → Run V K B Q h' ps cs sl pc' L S) : Run V K B Q h ps cs sl pc L (.int jn :: .int jq :: .ref b :: .int jo :: .ref a :: S) := fun T hT => by
  subst hp
  obtain ⟨locs, vm0, k0, X, e1, e2, e3, e4, e5, e6, e7, e8, e9, e10, e11, e12⟩ := hT
  have al : V.Z.vm.Alike T.vm := e2.alike.trans X.warmed.alike
  obtain ⟨cA, XA, A1, a1, a2, a3, a4, a5⟩ := Arv.xt A e1 al
  obtain ⟨cD, XD, D1, d1, d2, d3, d4, d5⟩ := Arv.xt D e1 al
  obtain ⟨T', B', X', P, b1, b2, b3, b4, st⟩ := X.acopy e12.1 (own := B.y.cls) (index := i) e3 (fun w hw => by
      simp only [Jvm.Free.XT.acW, List.mem_cons, List.not_mem_nil, or_false] at hw
      rcases hw with rfl | rfl | rfl | rfl
      · exact mv (s := K.s.setVm vm0) e2 w1
      · exact mv (s := K.s.setVm vm0) e2 w2
      · exact mv (s := K.s.setVm vm0) e2 w3
      · exact mv (s := K.s.setVm vm0) e2 w4) XA XD (by decide) ho hq hn (by rw [a2]; exact h4) (by rw [d2]; exact h5)
    (fun j hj => ⟨by rw [has_getD a4 (by omega)]; exact a5 _ (by omega), fun q => absurd q (by decide)⟩)
    (g := mkF K.m pc L.toArray (.int jn :: .int jq :: .ref b :: .int jo :: .ref a :: S)) rfl (by rw [e12.2.2.1]; simpa using hsz) rfl (hb e12.2.1 hd) (W := W) (by simpa using hW) hf hl
  have KK : Keep h T'.heap [b] := by
    subst e1
    refine ⟨by rw [P.2.2]; exact Nat.le_refl _, fun x c hx hn => ?_, fun x c hx => ?_⟩
    · rw [P.2.1 x (fun e => hn (by simp [e]))]; exact hx
    · by_cases e : x = b
      · subst e; cases hx.symm.trans D1.1; exact ⟨B', P.1, b1, b2, b3⟩
      · exact ⟨c, by rw [P.2.1 x e]; exact hx, rfl, rfl, rfl⟩
  have AV : RoadKit.Arv V.Z T'.heap b kb .byte zb vs' (.int 0) := by
    obtain ⟨u1, uk, u2, u3⟩ := D1.2.1
    refine ⟨B', ⟨P.1, ⟨by rw [b2]; exact u1, uk, by rw [b1]; exact u2, u3⟩, by rw [b2]; exact D1.2.2⟩, b1.trans d1, b3.trans d2, d3, fun j hj => ?_, fun j hj => ?_⟩
    · rw [b3] at hj; rw [b4 j, hv j (by rw [← d2]; exact hj)]
      split
      · rw [has_getD a4 (by omega)]
      · exact d4 j hj
    · rw [b3] at hj; rw [hv j (by rw [← d2]; exact hj)]
      split
      · exact a5 _ (by omega)
      · exact d5 j hj
  have C := CHr.keep KK (fun x hx => by cases List.mem_singleton.mp hx; exact (e9 b hs).2) e8.1
  obtain ⟨t, o', s1, s2⟩ := r T'.heap KK AV T' ⟨_, vm0, k0, X', rfl, e2, e3, e4, Nat.le_trans e5 KK.1, e6.app (fun y hy => by rw [copyLocs_base hy]; exact hz), oldKeep e7 KK (fun x hx => by cases List.mem_singleton.mp hx; exact hz), e8.trans C, e9.go C, e10, e11, e12⟩
  exact ⟨t, o', st _ s1, s2⟩
end Copy
end Jvm.Own
namespace Jvm.Own
open Jvm Jvm.ClassFile Sem Op Lib Jvm.Free Jvm.Stand Jvm.LawKit Jvm.RoadKit Bundle
section Calls
variable {V : Vw} {K : Cx} {B : Bx} {Q : Qt} {T : State} {h h' : Heap} {ps ps' : List Addr} {cs sl pc : Nat} {L : List Slot} {S : List Value}
/-- a call, its linking step given -/
theorem Run.callG {y : MethodName} {ig : Instr} {W nc ns : Nat} {Q' : Qt} {as' : Array Value} {S0 : List Value} (pc' : Nat) (hp : pc + 3 = pc') (hd : decode B.code pc = .ok (ig, 3)) (P : Pays V K B y 3 W as' h ps nc ns Q') (hsz : L.length = B.ml) (hW : (S.map fun v => v.category).sum ≤ W) (hc : cs + nc ≤ B.R.cells) (hs : sl + ns ≤ B.R.slots)
    (step : ∀ T locs vm0, Stand K.p V.l K.e B.R (K.s.setVm vm0) K.m K.args K.below K.meth K.c T locs cs sl → T.heap = h → V.Z.Warmed39 (K.s.setVm vm0).vm → (K.s.setVm vm0).vm.findClass B.y.cls = some K.m.cls → Fx K B →
      ∃ (vm₁ : Vm) (mk : MethodId), Stand K.p V.l K.e B.R (K.s.setVm vm0) K.m K.args K.below K.meth K.c (T.setVm vm₁) locs cs sl ∧ (K.s.setVm vm0).methodNamed? y = some mk ∧
        Steps K.p.tables K.e K.below (T.setTop (mkF K.m pc L.toArray S0)) (doInvoke K.e ((T.setVm vm₁).setTop (mkF K.m pc L.toArray S)) [] mk as').1)
    (r : ∀ v h' ps', Q' v h' ps' → h.size ≤ h'.size → Run V K B Q h' (ps' ++ ps) (cs + nc) (sl + ns) pc' L (v.toList ++ S)) : Run V K B Q h ps cs sl pc L S0 := fun T hT => by
  subst hp
  obtain ⟨locs, vm0, k0, X, e1, e2, e3, e4, e5, e6, e7, e8, e9, e10, e11, e12⟩ := hT
  have P1 := P vm0 e2 e8.1 e9 e10 e7 fun q => (e11 q).2
  obtain ⟨vm₁, mk, X₁, hnm, st⟩ := step T locs vm0 X e1 e2 e3 e12
  have hsize : (mkF K.m pc L.toArray S).locals.size = K.c.maxLocals := by rw [e12.2.2.1]; simpa using hsz
  cases hn : V.nar
  · obtain ⟨v, C, X', hS', -, hpo, hst⟩ := P1.2 hn K.m K.meth K.c ⟨T.setVm vm₁, locs, cs, sl⟩ (mkF K.m pc L.toArray S) ig mk as' X₁ rfl hsize (hb e12.2.1 hd) (by simpa using hW) (X₁.named hnm) ⟨rfl, e1, hc, hs⟩
    obtain ⟨t, o, s1, s2⟩ := Run.behind e2 e3 e4 e5 e6 e8 e9 e10 e11 e12 (Or.inr ⟨hn, X', hS'⟩) hpo r
    exact ⟨t, o, (st.trans hst).trans s1, s2⟩
  · obtain ⟨v, C, X', hpo, hst⟩ := P1.1 hn K.m K.meth K.c ⟨T.setVm vm₁, locs, cs, sl⟩ (mkF K.m pc L.toArray S) ig mk as' X₁ rfl hsize (hb e12.2.1 hd) (by simpa using hW) (X₁.named hnm) ⟨rfl, e1, hc, hs⟩
    obtain ⟨t, o, s1, s2⟩ := Run.behind e2 e3 e4 e5 e6 e8 e9 e10 e11 e12 (Or.inl ⟨hn, X'⟩) hpo r
    exact ⟨t, o, (st.trans hst).trans s1, s2⟩
theorem r_private {i W nc ns : Nat} {y : MethodName} {Q' : Qt} {C0 : String} {bytes : ByteArray} {ml : Nat} {ret : Option FieldType} {argsL S0 : List Value} {a : Nat} {as' : Array Value} (pc' : Nat) (hp : pc + 3 = pc') (hd : decode B.code pc = .ok (.invokevirtual i, 3)) (w1 : (Jvm.Cond.methodLink B.y.cls i y).before V.a0 V.Z = true) (w2 : (Jvm.Cond.privateMethod y).before V.a0 V.Z = true) (w3 : (Jvm.Cond.selects C0 y y).before V.a0 V.Z = true) (w4 : (Jvm.Cond.instanceMethod y).before V.a0 V.Z = true) (w5 : (Jvm.Cond.code y bytes ml ret).before V.a0 V.Z = true)
    (hy : y.cls ≠ "java/lang/invoke/MethodHandle" ∧ y.cls ≠ "java/lang/invoke/VarHandle") (E : Exa V.Z h a C0) (P : Pays V K B y 3 W as' h ps nc ns Q') (hlen : ∀ sig, parseMethodDescriptor y.desc = some sig → argsL.length = sig.parameters.length) (hS : S0 = argsL.reverse ++ .ref a :: S) (ha : (.ref a :: argsL).toArray = as') (hsz : L.length = B.ml) (hW : (S.map fun v => v.category).sum ≤ W) (hc : cs + nc ≤ B.R.cells) (hs : sl + ns ≤ B.R.slots) (r : ∀ v h' ps', Q' v h' ps' → h.size ≤ h'.size → Run V K B Q h' (ps' ++ ps) (cs + nc) (sl + ns) pc' L (v.toList ++ S)) : Run V K B Q h ps cs sl pc L S0 := by
  subst ha
  refine Run.callG pc' hp hd P hsz hW hc hs (fun T locs vm0 X e1 hZ e3 e12 => ?_) r
  obtain ⟨mk, methM, hnamed, hmethM, hstM, habM⟩ := Cond.instanceMethod_spec (args := K.args) (mvT hZ w4)
  obtain ⟨methM', cM, hmethM', -, -, -, -, -, -, hsigM⟩ := Cond.code_spec (args := K.args) hnamed (mvT hZ w5)
  cases hmethM.symm.trans hmethM'
  obtain ⟨c2, r2, m2, -, -, q3, -, kP, hkP, hkPi⟩ := Cond.selects_spec (args := K.args) (mvT hZ w3)
  cases hnamed.symm.trans q3
  have hpriv := Cond.privateMethod_at (args := K.args) (mvP hZ w2)
  obtain ⟨cell, cT, h1, h2, h3⟩ := Ins.self E
  simp only [Bool.and_eq_true, Bool.not_eq_true'] at h3
  have hselP : selectMethod K.e.platform (K.s.setVm vm0).vm cell.cls mk = .method mk := selectMethod_private hmethM (hpriv mk methM hnamed hmethM)
  obtain ⟨vm₁, X₁, hstep₁⟩ := X.invokevirtual e12.1 e3 (mvT hZ w1) hnamed hmethM hstM hkP hkPi hy (a := a) (cell := cell) (by rw [e1]; exact h1) (fun q e => by rw [e] at h3; cases h3.1) hselP hmethM habM hkP hkPi (g := mkF K.m pc L.toArray S0) rfl (argsL := argsL) (rest := S) (hlen _ hsigM) hS (hb e12.2.1 hd)
  exact ⟨vm₁, mk, X₁, hnamed, hstep₁ _ fun acts => by rw [doInvoke_state]; exact Steps.refl _⟩
theorem r_super {i W nc ns : Nat} {y : MethodName} {Q' : Qt} {C0 : String} {bytes : ByteArray} {ml : Nat} {ret : Option FieldType} {argsL S0 : List Value} {a : Nat} {as' : Array Value} (pc' : Nat) (hp : pc + 3 = pc') (hd : decode B.code pc = .ok (.invokespecial i, 3)) (hn : y.name ≠ "<init>") (w1 : (Jvm.Cond.methodLink B.y.cls i y).before V.a0 V.Z = true) (w3 : (Jvm.Cond.superclass B.y.cls y.cls).before V.a0 V.Z = true) (w4 : (Jvm.Cond.instanceMethod y).before V.a0 V.Z = true) (w5 : (Jvm.Cond.code y bytes ml ret).before V.a0 V.Z = true) {y' : MethodName} {C1 : String} (w6 : (Jvm.Cond.selects C1 y' y').before V.a0 V.Z = true) (hy' : y'.cls = y.cls)
    (hy : y.cls ≠ "java/lang/invoke/MethodHandle" ∧ y.cls ≠ "java/lang/invoke/VarHandle") (E : Exa V.Z h a C0) (P : Pays V K B y 3 W as' h ps nc ns Q') (hlen : ∀ sig, parseMethodDescriptor y.desc = some sig → argsL.length = sig.parameters.length) (hS : S0 = argsL.reverse ++ .ref a :: S) (ha : (.ref a :: argsL).toArray = as') (hsz : L.length = B.ml) (hW : (S.map fun v => v.category).sum ≤ W) (hc : cs + nc ≤ B.R.cells) (hs : sl + ns ≤ B.R.slots) (r : ∀ v h' ps', Q' v h' ps' → h.size ≤ h'.size → Run V K B Q h' (ps' ++ ps) (cs + nc) (sl + ns) pc' L (v.toList ++ S)) : Run V K B Q h ps cs sl pc L S0 := by
  subst ha
  refine Run.callG pc' hp hd P hsz hW hc hs (fun T locs vm0 X e1 hZ hown e12 => ?_) r
  obtain ⟨mk, methM, hnamed, hmethM, hstM, habM⟩ := Cond.instanceMethod_spec (args := K.args) (mvT hZ w4)
  obtain ⟨methM', cM, hmethM', -, -, -, -, -, -, hsig⟩ := Cond.code_spec (args := K.args) hnamed (mvT hZ w5)
  cases hmethM.symm.trans hmethM'
  have hcn := findClass_of_methodNamed hnamed
  obtain ⟨dk, hdk, -⟩ := Vm.findClass_spec hown
  obtain ⟨kp, hkp, -⟩ := Vm.findClass_spec hcn
  have ws := mv (args := K.args) hZ w3
  simp only [Cond.before, Cond.holds, Cond.value, hown, hcn, hdk, hkp, Option.bind_some, Option.map_some] at ws
  have ws' : ((dk.super = some mk.cls ∧ dk.kind = .ordinary) ∧ kp.kind = .ordinary) ∧ dk.isInterface = false := by simpa using ws
  obtain ⟨cell, cT, h1, h2, h3⟩ := Ins.self E
  simp only [Bool.and_eq_true, Bool.not_eq_true'] at h3
  obtain ⟨k, hk⟩ := Vm.classAt_of_assignable h3.2 (Vm.classAt_of_findClass h2)
  obtain ⟨k', hk', -⟩ := hZ.alike.2.2 _ _ hk
  have hfound := State.methodFound?_of_named hnamed hy
  have hsame : (Jvm.Cond.sameMethod y.cls y.cls y.name y.desc).before K.args (K.s.setVm vm0) = true := by
    obtain ⟨c2, r2, m2, -, -, q3, -, kP, hkP, hkPi⟩ := Cond.selects_spec (args := K.args) (mvT hZ w6)
    have q4 := findClass_of_methodNamed q3
    rw [hy', hcn] at q4
    obtain rfl : kp = kP := by
      have q5 : mk.cls = m2.cls := Option.some.inj q4
      rw [← q5] at hkP; exact Option.some.inj (hkp.symm.trans hkP)
    simp only [Cond.before, Cond.holds, Cond.value, hcn, hfound, hnamed, hkp]
    simp [hkPi]
  obtain ⟨vm₁, X₁, hstep₁⟩ := X.invokespecialUp e12.1 (owner := y.cls) hown (mv hZ w1) hsame hnamed hmethM hstM habM hn hdk ws'.2 hcn ws'.1.1.1 (by simp [Vm.isSubclass, Vm.isSubclassAux]) (a := a) (by rw [e1]; exact h1) (fun q e => by rw [e] at h3; cases h3.1) hk' (g := mkF K.m pc L.toArray S0) rfl (hlen _ hsig) hS (hb e12.2.1 hd)
  exact ⟨vm₁, mk, X₁, hnamed, hstep₁ _ (Steps.refl _)⟩
theorem nfO {C0 : String} {y y' : MethodName} (w : (Jvm.Cond.selects C0 y' y').before V.a0 V.Z = true) (hc : y'.cls = y.cls) : ∀ s : State, V.Z.Warmed39 s.vm → NotFace s y := fun s hZ r0 hn => by
  obtain ⟨c2, r2, m2, -, -, q3, -, kP, hkP, hkPi⟩ := Cond.selects_spec (args := #[]) (mvT hZ w)
  have q4 := findClass_of_methodNamed q3
  rw [hc, findClass_of_methodNamed hn] at q4
  have q5 : r0.cls = m2.cls := Option.some.inj q4
  exact ⟨kP, by rw [q5]; exact hkP, hkPi⟩
end Calls
end Jvm.Own
namespace Jvm.Own
open Jvm Jvm.ClassFile Sem Op Lib Jvm.Free Jvm.Stand Jvm.LawKit Jvm.RoadKit Bundle
theorem shl0 (x : Int32) : x <<< ((0 : Int32) &&& 31) = x := by simp
theorem shr0 (x : Int32) : x >>> ((0 : Int32) &&& 31) = x := by simp
theorem sub0 (x : Int32) : x - 0 = x := by simp
theorem sub_nle {m c : Nat} (h : m ≤ c) (hc : c < 2 ^ 31) : ¬ 0 < Int32.ofNat m - Int32.ofNat c := fun q => by
  have e := c_isub (Int32.ofNat m) (Int32.ofNat c)
  have r := rng32 (Int32.ofNat m - Int32.ofNat c)
  rw [Int32.toInt_ofNat_small (by omega), Int32.toInt_ofNat_small hc] at e
  rw [Int32.lt_iff_toInt_lt] at q
  have e0 : (0 : Int32).toInt = 0 := rfl
  omega
theorem appG (f : Int32 → Value) (cs ds : List Int32) (d : Value) (j : Nat) : ((cs ++ ds).map f).getD j d = if cs.length ≤ j ∧ j < cs.length + ds.length then (ds.map f).getD (0 + (j - cs.length)) d else (cs.map f).getD j d := by
  simp only [List.getD_eq_getElem?_getD, List.map_append, Nat.zero_add]
  by_cases q : j < cs.length
  · rw [List.getElem?_append_left (by simpa using q), if_neg (by omega)]
  · rw [List.getElem?_append_right (by simpa using q), List.length_map]
    split
    · rfl
    · rw [List.getElem?_eq_none (by simp; omega), List.getElem?_eq_none (by simp; omega)]
theorem cpyG (f : Int32 → Value) (cs : List Int32) (d : Value) (j : Nat) (h : j < cs.length) : (cs.map f).getD j d = if 0 ≤ j ∧ j < 0 + cs.length then (cs.map f).getD (0 + (j - 0)) d else ([] : List Value).getD j d := by
  rw [if_pos (by omega)]; simp
end Jvm.Own
/- laws to paste: Road.backV, Road.lenW, Road.chN, Road.codOf (cut by pick.py; bodies as the Statement names them) -/
namespace Jvm.Pilot.@@N@@
namespace StrChars
open Jvm Sem ClassFile Op Lib Jvm.Stand Jvm.Free.XT Jvm.Free.ALB Jvm.Free.JM Jvm.Free
open Jvm.Lib.Cold (StaticIs)
/-- a char array whose places are chars -/
def Ch (a : Addr) (A : Cell) (U : State) : Prop := Arr .char a A U ∧ Typed .char A
theorem Ch.mv {a : Addr} {A : Cell} {U U' : State} (h : Ch a A U) (hal : U.vm.Alike U'.vm) (hh : U'.heap = U.heap) : Ch a A U' := ⟨h.1.mv hal hh, h.2⟩
theorem Ch.keep {a : Addr} {A : Cell} {U U' : State} (h : Ch a A U) (hal : U.vm.Alike U'.vm) (hk : U'.heap[a]? = some A) : Ch a A U' := ⟨h.1.keep hal hk, h.2⟩
/-- what place i of a char[]'s cell holds -/
def cv (A : Cell) (i : Nat) : Int32 := match A.slots[i]? with | some (.int x) => x | _ => 0
theorem Ch.get {a : Addr} {A : Cell} {U : State} (h : Ch a A U) {i : Nat} (hi : i < A.slots.size) : A.slots[i]? = some (.int (cv A i)) := by
  have e := Array.getElem?_eq_getElem hi
  have f := h.2 i _ e
  unfold cv; rw [e]
  generalize A.slots[i] = v at f
  cases v <;> simp [fits] at f ⊢
/-- the byte that i2b leaves of a char -/
def lo8 (x : Int32) : Int32 := x.toInt8.toInt32
theorem fits_lo8 (y : Int32) : fits .byte (.int (lo8 y)) = true := by
  have h1 := y.toInt8.le_toInt
  have h2 := y.toInt8.toInt_lt
  simp only [lo8, fits, Bool.and_eq_true, decide_eq_true_eq, Int32.le_iff_toInt_le, Int8.toInt_toInt32, show (-128 : Int32).toInt = -128 from by decide, show (127 : Int32).toInt = 127 from by decide]
  omega
/-- A' is A but that each place j of lo .. hi - 1 holds f j -/
def Laid (A A' : Cell) (lo hi : Nat) (f : Nat → Value) : Prop := A'.cls = A.cls ∧ A'.vm = A.vm ∧ A'.slots.size = A.slots.size ∧ ∀ i, A'.slots[i]? = if lo ≤ i ∧ i < hi then some (f i) else A.slots[i]?
theorem Laid.zero (A : Cell) (lo : Nat) (f : Nat → Value) : Laid A A lo (lo + 0) f := ⟨rfl, rfl, rfl, fun i => by rw [if_neg (by omega)]⟩
theorem Laid.step {A Ak : Cell} {lo k : Nat} {f : Nat → Value} {v : Value} (h : Laid A Ak lo k f) (hlo : lo ≤ k) (hk : k < Ak.slots.size) (hv : v = f k) : Laid A (Ak.setSlot k v) lo (k + 1) f := by
  refine ⟨h.1, h.2.1, by simpa [Cell.setSlot] using h.2.2.1, fun i => ?_⟩
  by_cases e : k = i
  · subst e; rw [Cell.slots_setSlot_self v hk, if_pos (by omega), hv]
  · rw [Cell.slots_setSlot_ne v e, h.2.2.2 i]
    by_cases q : lo ≤ i ∧ i < k
    · rw [if_pos q, if_pos (by omega)]
    · rw [if_neg q, if_neg (by omega)]
def U16 : String := "java/lang/StringUTF16"
namespace Cmp5
def yN : MethodName := ⟨"java/lang/StringUTF16", "compress", "([CI[BII)I"⟩
abbrev yB : ByteArray := jdk_52_method_21_code
theorem d0 : decode yB 0 = .ok (.iconst 0, 1) := by decide +kernel
theorem d1 : decode yB 1 = .ok (.istore 5, 2) := by decide +kernel
theorem d3 : decode yB 3 = .ok (.iload 5, 2) := by decide +kernel
theorem d5 : decode yB 5 = .ok (.iload 4, 2) := by decide +kernel
theorem d7 : decode yB 7 = .ok (.if_icmp (.ge) 37, 3) := by decide +kernel
theorem d10 : decode yB 10 = .ok (.aload_n 0, 1) := by decide +kernel
theorem d11 : decode yB 11 = .ok (.iload_n 1, 1) := by decide +kernel
theorem d12 : decode yB 12 = .ok (.caload, 1) := by decide +kernel
theorem d13 : decode yB 13 = .ok (.istore 6, 2) := by decide +kernel
theorem d15 : decode yB 15 = .ok (.iload 6, 2) := by decide +kernel
theorem d17 : decode yB 17 = .ok (.sipush 255, 3) := by decide +kernel
theorem d20 : decode yB 20 = .ok (.if_icmp (.le) 6, 3) := by decide +kernel
theorem d26 : decode yB 26 = .ok (.aload_n 2, 1) := by decide +kernel
theorem d27 : decode yB 27 = .ok (.iload_n 3, 1) := by decide +kernel
theorem d28 : decode yB 28 = .ok (.iload 6, 2) := by decide +kernel
theorem d30 : decode yB 30 = .ok (.i2b, 1) := by decide +kernel
theorem d31 : decode yB 31 = .ok (.bastore, 1) := by decide +kernel
theorem d32 : decode yB 32 = .ok (.iinc 1 1, 3) := by decide +kernel
theorem d35 : decode yB 35 = .ok (.iinc 3 1, 3) := by decide +kernel
theorem d38 : decode yB 38 = .ok (.iinc 5 1, 3) := by decide +kernel
theorem d41 : decode yB 41 = .ok (.goto (-38), 3) := by decide +kernel
theorem d44 : decode yB 44 = .ok (.iload 4, 2) := by decide +kernel
theorem d46 : decode yB 46 = .ok (.ireturn, 1) := by decide +kernel
def site : List Cond := []
def tab : Cond := tabOf yN yB 7 (some .int) site
def P (b : Addr) (A : Cell) (d : Addr) (B : Cell) (o q len : Nat) (args : Array Value) (s : State) : Prop := args = #[.ref b, .int (Int32.ofNat o), .ref d, .int (Int32.ofNat q), .int (Int32.ofNat len)] ∧ Ch b A s ∧ Arr .byte d B s ∧ b ≠ d ∧ o + len ≤ A.slots.size ∧ q + len ≤ B.slots.size ∧ ∀ i, i < len → ¬ 255 < cv A (o + i)
def E (b : Addr) (A : Cell) (d : Addr) (B : Cell) (o q len : Nat) (r : Option Value) (s u : State) : Prop := r = some (.int (Int32.ofNat len)) ∧ ∃ B', Put d B' s u ∧ Laid B B' q (q + len) (fun j => Value.int (lo8 (cv A (o + (j - q)))))
/-- no char of the range above 255: len; the places written hold each char's low byte -/
theorem law (l : Launch) (b : Addr) (A : Cell) (d : Addr) (B : Cell) (o q len : Nat) : Law l yN 5 5 0 0 yB 7 (some .int) site (P b A d B o q len) (E b A d B o q len) (copyLocs d q len) 0 0 := by
  refine Law.of_walk (plainFor_of_name (by decide +kernel)) (by decide +kernel) (by decide +kernel) (by decide) (fun _ _ h => by rw [h.1]; rfl) (fun _ U U' hal hh h => ⟨h.1, h.2.1.mv hal hh, h.2.2.1.mv hal hh, h.2.2.2⟩) (fun r U U' V V' h1 hal h2 h => ⟨h.1, h.2.elim fun B' q => ⟨B', q.1.mv h1 h2, q.2⟩⟩) ?_
  intro p e s m args below meth c s₁ X0 hexec hbytes hml hret hlk hnm hown hh0 W hP
  obtain ⟨rfl, hA, hB, hne, l1, l2, hp⟩ := hP
  have c1 : Steps p.tables e below (s₁.setTop (entryFrame m #[.ref b, .int (Int32.ofNat o), .ref d, .int (Int32.ofNat q), .int (Int32.ofNat len)] 7)) (s₁.setTop (mkF m 0 #[.val (.ref b), .val (.int (Int32.ofNat o)), .val (.ref d), .val (.int (Int32.ofNat q)), .val (.int (Int32.ofNat len)), .unset, .unset] [])) := entry rfl
  have hA0 := hA.1.mv X0.warmed.alike hh0
  have hB0 := hB.mv X0.warmed.alike hh0
  have a31 := hA.1.2.2.2
  have c2 : Steps p.tables e below (s₁.setTop (entryFrame m #[.ref b, .int (Int32.ofNat o), .ref d, .int (Int32.ofNat q), .int (Int32.ofNat len)] 7)) (s₁.setTop (mkF m 3 #[.val (.ref b), .val (.int (Int32.ofNat o)), .val (.ref d), .val (.int (Int32.ofNat q)), .val (.int (Int32.ofNat len)), .val (.int 0), .unset] [])) := c1.trans (by
    refine iconstV X0.here hexec rfl 0 (hb hbytes d0) (by decide) ?_
    refine XS.istore X0.here hexec rfl (hb hbytes d1) rfl rfl ?_
    exact Steps.refl _)
  have loop : ∀ (r i : Nat), i + r = len → ∀ (z : Slot), (z = .unset ∨ ∃ w, z = .val w ∧ w.category = 1) → ∀ (Tl : State) (Bk : Cell), Stand p l e { frames := 0, locals := 0, cells := 0, slots := 0 } s m #[.ref b, .int (Int32.ofNat o), .ref d, .int (Int32.ofNat q), .int (Int32.ofNat len)] below meth c Tl ([] ++ copyLocs d q i) 0 0 → Put d Bk s₁ Tl → Laid B Bk q (q + i) (fun j => Value.int (lo8 (cv A (o + (j - q))))) →
      Steps p.tables e below (s₁.setTop (entryFrame m #[.ref b, .int (Int32.ofNat o), .ref d, .int (Int32.ofNat q), .int (Int32.ofNat len)] 7)) (Tl.setTop (mkF m 3 #[.val (.ref b), .val (.int (Int32.ofNat (o + i))), .val (.ref d), .val (.int (Int32.ofNat (q + i))), .val (.int (Int32.ofNat len)), .val (.int (Int32.ofNat i)), z] [])) → ∃ (T' : State) (B' : Cell) (z' : Slot), Stand p l e { frames := 0, locals := 0, cells := 0, slots := 0 } s m #[.ref b, .int (Int32.ofNat o), .ref d, .int (Int32.ofNat q), .int (Int32.ofNat len)] below meth c T' ([] ++ copyLocs d q len) 0 0 ∧ Put d B' s₁ T' ∧ Laid B B' q (q + len) (fun j => Value.int (lo8 (cv A (o + (j - q))))) ∧
      Steps p.tables e below (s₁.setTop (entryFrame m #[.ref b, .int (Int32.ofNat o), .ref d, .int (Int32.ofNat q), .int (Int32.ofNat len)] 7)) (T'.setTop (mkF m 3 #[.val (.ref b), .val (.int (Int32.ofNat (o + len))), .val (.ref d), .val (.int (Int32.ofNat (q + len))), .val (.int (Int32.ofNat len)), .val (.int (Int32.ofNat len)), z'] [])) := by
    intro r
    induction r with
    | zero =>
      intro i hi z hz Tl Bk Xl pl fl cl
      have hil : i = len := by omega
      rw [hil] at Xl fl cl
      exact ⟨Tl, Bk, z, Xl, pl, fl, cl⟩
    | succ r ih =>
      intro i hi z hz Tl Bk Xl pl fl cl
      have all := X0.warmed.alike.symm.trans Xl.warmed.alike
      have hAl := hA0.keep all (pl.other hne hA0.1)
      have hBk := hB0.like all pl.1 fl.1 fl.2.1 fl.2.2.1
      have hlt : q + i < Bk.slots.size := by rw [fl.2.2.1]; omega
      have c3 : Steps p.tables e below (s₁.setTop (entryFrame m #[.ref b, .int (Int32.ofNat o), .ref d, .int (Int32.ofNat q), .int (Int32.ofNat len)] 7)) (Tl.setTop (mkF m 12 #[.val (.ref b), .val (.int (Int32.ofNat (o + i))), .val (.ref d), .val (.int (Int32.ofNat (q + i))), .val (.int (Int32.ofNat len)), .val (.int (Int32.ofNat i)), z] [.int (Int32.ofNat (o + i)), .ref b])) := cl.trans (by
        refine XS.iload Xl.here hexec rfl (hb hbytes d3) rfl ?_
        refine XS.iload Xl.here hexec rfl (hb hbytes d5) rfl ?_
        refine XS.icmpNo Xl.here hexec rfl (hb hbytes d7) rfl (ii_ge_f (lt32 (by omega) (by omega))) ?_
        refine XS.aloadN Xl.here hexec rfl (hb hbytes d10) rfl rfl ?_
        refine XS.iloadN Xl.here hexec rfl (hb hbytes d11) rfl ?_
        exact Steps.refl _)
      have c4 : Steps p.tables e below (s₁.setTop (entryFrame m #[.ref b, .int (Int32.ofNat o), .ref d, .int (Int32.ofNat q), .int (Int32.ofNat len)] 7)) (Tl.setTop (mkF m 13 #[.val (.ref b), .val (.int (Int32.ofNat (o + i))), .val (.ref d), .val (.int (Int32.ofNat (q + i))), .val (.int (Int32.ofNat len)), .val (.int (Int32.ofNat i)), z] [.int (cv A (o + i))])) := c3.trans (by
        refine Xl.aget hexec hAl rfl (hA.get (i := o + i) (by omega)) rfl rfl (hb hbytes d12) ?_
        exact Steps.refl _)
      have c5 : Steps p.tables e below (s₁.setTop (entryFrame m #[.ref b, .int (Int32.ofNat o), .ref d, .int (Int32.ofNat q), .int (Int32.ofNat len)] 7)) (Tl.setTop (mkF m 15 #[.val (.ref b), .val (.int (Int32.ofNat (o + i))), .val (.ref d), .val (.int (Int32.ofNat (q + i))), .val (.int (Int32.ofNat len)), .val (.int (Int32.ofNat i)), .val (.int (cv A (o + i)))] [])) := c4.trans (by
        refine XS.istoreS Xl.here hexec rfl (hb hbytes d13) rfl rfl hz ?_
        exact Steps.refl _)
      have c6 : Steps p.tables e below (s₁.setTop (entryFrame m #[.ref b, .int (Int32.ofNat o), .ref d, .int (Int32.ofNat q), .int (Int32.ofNat len)] 7)) (Tl.setTop (mkF m 31 #[.val (.ref b), .val (.int (Int32.ofNat (o + i))), .val (.ref d), .val (.int (Int32.ofNat (q + i))), .val (.int (Int32.ofNat len)), .val (.int (Int32.ofNat i)), .val (.int (cv A (o + i)))] [.int (lo8 (cv A (o + i))), .int (Int32.ofNat (q + i)), .ref d])) := c5.trans (by
        refine XS.iload Xl.here hexec rfl (hb hbytes d15) rfl ?_
        refine sipushV Xl.here hexec rfl 255 (hb hbytes d17) (by decide) ?_
        refine XS.icmpYes Xl.here hexec rfl (pc0 := 20) rfl (hb hbytes d20) rfl (ii_le_t (hp i (by omega))) (by decide) rfl ?_
        refine XS.aloadN Xl.here hexec rfl (hb hbytes d26) rfl rfl ?_
        refine XS.iloadN Xl.here hexec rfl (hb hbytes d27) rfl ?_
        refine XS.iload Xl.here hexec rfl (hb hbytes d28) rfl ?_
        refine i2b Xl.here hexec rfl (hb hbytes d30) rfl ?_
        exact Steps.refl _)
      obtain ⟨T7, X7, p7, st7⟩ := Xl.aput hexec hBk rfl hlt rfl (fits_lo8 (cv A (o + i))) (g := (mkF m 31 #[.val (.ref b), .val (.int (Int32.ofNat (o + i))), .val (.ref d), .val (.int (Int32.ofNat (q + i))), .val (.int (Int32.ofNat len)), .val (.int (Int32.ofNat i)), .val (.int (cv A (o + i)))] [.int (lo8 (cv A (o + i))), .int (Int32.ofNat (q + i)), .ref d])) rfl (rest := []) rfl (hb hbytes d31)
      have c8 : Steps p.tables e below (s₁.setTop (entryFrame m #[.ref b, .int (Int32.ofNat o), .ref d, .int (Int32.ofNat q), .int (Int32.ofNat len)] 7)) (T7.setTop (mkF m 32 #[.val (.ref b), .val (.int (Int32.ofNat (o + i))), .val (.ref d), .val (.int (Int32.ofNat (q + i))), .val (.int (Int32.ofNat len)), .val (.int (Int32.ofNat i)), .val (.int (cv A (o + i)))] [])) := c6.trans (st7 _ (Steps.refl _))
      have c9 : Steps p.tables e below (s₁.setTop (entryFrame m #[.ref b, .int (Int32.ofNat o), .ref d, .int (Int32.ofNat q), .int (Int32.ofNat len)] 7)) (T7.setTop (mkF m 3 #[.val (.ref b), .val (.int (Int32.ofNat (o + i) + 1)), .val (.ref d), .val (.int (Int32.ofNat (q + i) + 1)), .val (.int (Int32.ofNat len)), .val (.int (Int32.ofNat i + 1)), .val (.int (cv A (o + i)))] [])) := c8.trans (by
        refine iincV X7.here hexec rfl 1 (hb hbytes d32) (by decide) rfl rfl ?_
        refine iincV X7.here hexec rfl 1 (hb hbytes d35) (by decide) rfl rfl ?_
        refine iincV X7.here hexec rfl 1 (hb hbytes d38) (by decide) rfl rfl ?_
        refine XS.goto X7.here hexec rfl (pc0 := 41) rfl (hb hbytes d41) (by decide) rfl ?_
        exact Steps.refl _)
      have c10 : Steps p.tables e below (s₁.setTop (entryFrame m #[.ref b, .int (Int32.ofNat o), .ref d, .int (Int32.ofNat q), .int (Int32.ofNat len)] 7)) (T7.setTop (mkF m 3 #[.val (.ref b), .val (.int (Int32.ofNat (o + (i + 1)))), .val (.ref d), .val (.int (Int32.ofNat (q + (i + 1)))), .val (.int (Int32.ofNat len)), .val (.int (Int32.ofNat (i + 1))), .val (.int (cv A (o + i)))] [])) := by
        have := c9
        rw [succ32, succ32, succ32] at this
        exact this
      exact ih (i + 1) (by omega) _ (Or.inr ⟨_, rfl, rfl⟩) T7 _ (by rw [copyLocs_step, ← List.append_assoc]; exact X7) (pl.trans p7) (fl.step (by omega) hlt (by simp)) c10
  obtain ⟨T9, B9, z9, X9, p9, f9, g9⟩ := loop len 0 (by omega) .unset (Or.inl rfl) s₁ B (by simpa [copyLocs] using X0) ⟨hB0.1, fun _ _ => rfl, rfl⟩ (Laid.zero _ _ _) c2
  have c11 : Steps p.tables e below (s₁.setTop (entryFrame m #[.ref b, .int (Int32.ofNat o), .ref d, .int (Int32.ofNat q), .int (Int32.ofNat len)] 7)) (T9.setTop (mkF m 46 #[.val (.ref b), .val (.int (Int32.ofNat (o + len))), .val (.ref d), .val (.int (Int32.ofNat (q + len))), .val (.int (Int32.ofNat len)), .val (.int (Int32.ofNat len)), z9] [.int (Int32.ofNat len)])) := g9.trans (by
    refine XS.iload X9.here hexec rfl (hb hbytes d3) rfl ?_
    refine XS.iload X9.here hexec rfl (hb hbytes d5) rfl ?_
    refine XS.icmpYes X9.here hexec rfl (pc0 := 7) rfl (hb hbytes d7) rfl (ii_ge_t (nlt32 (by omega) (Nat.le_refl _))) (by decide) rfl ?_
    refine XS.iload X9.here hexec rfl (hb hbytes d44) rfl ?_
    exact Steps.refl _)
  exact ⟨T9, some (.int (Int32.ofNat len)), _, _, _, X9, by simp, rfl, rfl, (fun h => by cases h), ⟨rfl, B9, p9.from hh0, f9⟩, fun fs hl => c11.trans (X9.ireturnOut hexec hret rfl (Or.inl rfl) (hb hbytes d46) hl)⟩
end Cmp5
namespace Cmp3
def yN : MethodName := ⟨"java/lang/StringUTF16", "compress", "([CII)[B"⟩
abbrev yB : ByteArray := jdk_52_method_16_code
theorem d0 : decode yB 0 = .ok (.iload_n 2, 1) := by decide +kernel
theorem d1 : decode yB 1 = .ok (.newarray .byte, 2) := by decide +kernel
theorem d3 : decode yB 3 = .ok (.astore_n 3, 1) := by decide +kernel
theorem d4 : decode yB 4 = .ok (.aload_n 0, 1) := by decide +kernel
theorem d5 : decode yB 5 = .ok (.iload_n 1, 1) := by decide +kernel
theorem d6 : decode yB 6 = .ok (.aload_n 3, 1) := by decide +kernel
theorem d7 : decode yB 7 = .ok (.iconst 0, 1) := by decide +kernel
theorem d8 : decode yB 8 = .ok (.iload_n 2, 1) := by decide +kernel
theorem d9 : decode yB 9 = .ok (.invokestatic 115, 3) := by decide +kernel
theorem d12 : decode yB 12 = .ok (.istore 4, 2) := by decide +kernel
theorem d14 : decode yB 14 = .ok (.iload 4, 2) := by decide +kernel
theorem d16 : decode yB 16 = .ok (.iload_n 2, 1) := by decide +kernel
theorem d17 : decode yB 17 = .ok (.if_icmp (.eq) 40, 3) := by decide +kernel
theorem d57 : decode yB 57 = .ok (.aload_n 3, 1) := by decide +kernel
theorem d58 : decode yB 58 = .ok (.areturn, 1) := by decide +kernel
def site : List Cond := [.arrayClass .byte, Cmp5.tab] ++ staticW U16 115 Cmp5.yN
def tab : Cond := tabOf yN yB 6 (some (.array .byte)) site
def P (b : Addr) (A : Cell) (o len : Nat) (args : Array Value) (s : State) : Prop := args = #[.ref b, .int (Int32.ofNat o), .int (Int32.ofNat len)] ∧ Ch b A s ∧ o + len ≤ A.slots.size ∧ len ≤ 536870912 ∧ ∀ i, i < len → ¬ 255 < cv A (o + i)
def E (b : Addr) (A : Cell) (o len : Nat) (r : Option Value) (s u : State) : Prop := NewArr .byte "[B" len (fun j => .int (lo8 (cv A (o + j)))) r s u ∧ u.heap.size = s.heap.size + 1
/-- no char of the range above 255: a new byte[] of their low bytes -/
theorem law (l : Launch) (b : Addr) (A : Cell) (o len : Nat) : Law l yN 3 3 1 18 yB 6 (some (.array .byte)) site (P b A o len) (E b A o len) [] 1 len := by
  refine Law.of_walk (plainFor_of_name (by decide +kernel)) (by decide +kernel) (by decide +kernel) (by decide) (fun _ _ h => by rw [h.1]; rfl) (fun _ U U' hal hh h => ⟨h.1, h.2.1.mv hal hh, h.2.2⟩) (fun r U U' V V' h1 hal h2 h => ⟨NewArr.mv r U U' V V' h1 hal h2 h.1, by rw [h1, h2]; exact h.2⟩) ?_
  intro p e s m args below meth c s₁ X0 hexec hbytes hml hret hlk hnm hown hh0 W hP
  obtain ⟨rfl, hA, l1, l2, hp⟩ := hP
  have a31 := hA.1.2.2.2
  have c1 : Steps p.tables e below (s₁.setTop (entryFrame m #[.ref b, .int (Int32.ofNat o), .int (Int32.ofNat len)] 6)) (s₁.setTop (mkF m 0 #[.val (.ref b), .val (.int (Int32.ofNat o)), .val (.int (Int32.ofNat len)), .unset, .unset, .unset] [])) := entry rfl
  have c2 : Steps p.tables e below (s₁.setTop (entryFrame m #[.ref b, .int (Int32.ofNat o), .int (Int32.ofNat len)] 6)) (s₁.setTop (mkF m 1 #[.val (.ref b), .val (.int (Int32.ofNat o)), .val (.int (Int32.ofNat len)), .unset, .unset, .unset] [.int (Int32.ofNat len)])) := c1.trans (by
    refine XS.iloadN X0.here hexec rfl (hb hbytes d0) rfl ?_
    exact Steps.refl _)
  obtain ⟨T3, B3, X3, ba3, bs3, bv3, bh3, bf3, st3⟩ := X0.anew hexec (atype := .byte) (wk W (.arrayClass .byte)) rfl (by show len * 1 ≤ _; omega) (by omega) (g := (mkF m 1 #[.val (.ref b), .val (.int (Int32.ofNat o)), .val (.int (Int32.ofNat len)), .unset, .unset, .unset] [.int (Int32.ofNat len)])) rfl (hb hbytes d1) (rest := []) rfl (Nat.le_refl _) (by show 0 + len ≤ len; omega)
  rw [hh0] at ba3 st3
  have kp3 : XT.Kept s T3 := (XT.Kept.of_eq hh0).push bh3
  have hA3 := hA.keep X3.warmed.alike (kp3 _ _ hA.1.1)
  have hne : b ≠ s.heap.size := hA.1.ne
  have c4 : Steps p.tables e below (s₁.setTop (entryFrame m #[.ref b, .int (Int32.ofNat o), .int (Int32.ofNat len)] 6)) (T3.setTop (mkF m 3 #[.val (.ref b), .val (.int (Int32.ofNat o)), .val (.int (Int32.ofNat len)), .unset, .unset, .unset] [.ref s.heap.size])) := c2.trans (st3 _ (Steps.refl _))
  have c5 : Steps p.tables e below (s₁.setTop (entryFrame m #[.ref b, .int (Int32.ofNat o), .int (Int32.ofNat len)] 6)) (T3.setTop (mkF m 9 #[.val (.ref b), .val (.int (Int32.ofNat o)), .val (.int (Int32.ofNat len)), .val (.ref s.heap.size), .unset, .unset] [.int (Int32.ofNat len), .int 0, .ref s.heap.size, .int (Int32.ofNat o), .ref b])) := c4.trans (by
    refine XS.astoreN X3.here hexec rfl (hb hbytes d3) rfl rfl rfl ?_
    refine XS.aloadN X3.here hexec rfl (hb hbytes d4) rfl rfl ?_
    refine XS.iloadN X3.here hexec rfl (hb hbytes d5) rfl ?_
    refine XS.aloadN X3.here hexec rfl (hb hbytes d6) rfl rfl ?_
    refine iconstV X3.here hexec rfl 0 (hb hbytes d7) (by decide) ?_
    refine XS.iloadN X3.here hexec rfl (hb hbytes d8) rfl ?_
    exact Steps.refl _)
  obtain ⟨v6, T6, X6, E6, g6⟩ := X3.callS hexec (Cmp5.law l b A s.heap.size B3 o 0 len) hown (wks W (staticW U16 115 Cmp5.yN)) (wk W Cmp5.tab) (W := 0) (Nat.le_of_ble_eq_true rfl) (Nat.le_of_ble_eq_true rfl) (Nat.le_refl _) (by show 0 + len + 0 ≤ len; omega) (g := (mkF m 9 #[.val (.ref b), .val (.int (Int32.ofNat o)), .val (.int (Int32.ofNat len)), .val (.ref s.heap.size), .unset, .unset] [.int (Int32.ofNat len), .int (Int32.ofNat 0), .ref s.heap.size, .int (Int32.ofNat o), .ref b])) rfl (by rw [hml]; rfl) c5 (argsL := [.ref b, .int (Int32.ofNat o), .ref s.heap.size, .int (Int32.ofNat 0), .int (Int32.ofNat len)]) (rest := []) rfl rfl (by show 2 * 0 + 0 ≤ _; decide) (hb hbytes d9) (⟨rfl, hA3, ba3, hne, l1, by rw [bs3]; simp, hp⟩)
  obtain ⟨rfl, B6, p6, f6⟩ := E6
  have c7 : Steps p.tables e below (s₁.setTop (entryFrame m #[.ref b, .int (Int32.ofNat o), .int (Int32.ofNat len)] 6)) (T6.setTop (mkF m 12 #[.val (.ref b), .val (.int (Int32.ofNat o)), .val (.int (Int32.ofNat len)), .val (.ref s.heap.size), .unset, .unset] [.int (Int32.ofNat len)])) := g6
  have c8 : Steps p.tables e below (s₁.setTop (entryFrame m #[.ref b, .int (Int32.ofNat o), .int (Int32.ofNat len)] 6)) (T6.setTop (mkF m 58 #[.val (.ref b), .val (.int (Int32.ofNat o)), .val (.int (Int32.ofNat len)), .val (.ref s.heap.size), .val (.int (Int32.ofNat len)), .unset] [.ref s.heap.size])) := c7.trans (by
    refine XS.istore X6.here hexec rfl (hb hbytes d12) rfl rfl ?_
    refine XS.iload X6.here hexec rfl (hb hbytes d14) rfl ?_
    refine XS.iloadN X6.here hexec rfl (hb hbytes d16) rfl ?_
    refine XS.icmpYes X6.here hexec rfl (pc0 := 17) rfl (hb hbytes d17) rfl (ii_eq_t rfl) (by decide) rfl ?_
    refine XS.aloadN X6.here hexec rfl (hb hbytes d57) rfl rfl ?_
    exact Steps.refl _)
  have X8 := X6.wide (L' := []) (cells' := 1) (slots' := len) (fun x hx hlt => by
    simp only [List.nil_append, copyLocs, List.mem_map, List.mem_range] at hx
    obtain ⟨i, -, rfl⟩ := hx
    exact absurd hlt (Nat.lt_irrefl _)) (Nat.le_refl _) (by omega)
  exact ⟨T6, some (.ref s.heap.size), _, _, _, X8, rfl, rfl, rfl, (fun h => by cases h), ⟨⟨rfl, B6, ba3.like (X3.warmed.alike.symm.trans X6.warmed.alike) p6.1 f6.1 f6.2.1 f6.2.2.1, f6.2.1.trans bv3, by rw [X6.warmed.alike.findClass, f6.1]; exact bf3, by rw [f6.2.2.1, bs3]; simp, fun j hj => by rw [f6.2.2.2 j, if_pos (by omega)]; rfl, kp3.put p6 (Nat.le_refl _)⟩, by rw [p6.2.2, bh3, hh0]; simp⟩, fun fs hl => c8.trans (X8.areturnOut hexec rfl hret rfl (hb hbytes d58) hl)⟩
end Cmp3
namespace CodL
def yN : MethodName := ⟨"java/lang/StringUTF16", "coderFromArrayLen", "([BI)B"⟩
abbrev yB : ByteArray := jdk_52_method_15_code
theorem d0 : decode yB 0 = .ok (.iload_n 1, 1) := by decide +kernel
theorem d1 : decode yB 1 = .ok (.aload_n 0, 1) := by decide +kernel
theorem d2 : decode yB 2 = .ok (.arraylength, 1) := by decide +kernel
theorem d3 : decode yB 3 = .ok (.isub, 1) := by decide +kernel
theorem d4 : decode yB 4 = .ok (.bipush 31, 2) := by decide +kernel
theorem d6 : decode yB 6 = .ok (.iushr, 1) := by decide +kernel
theorem d7 : decode yB 7 = .ok (.i2b, 1) := by decide +kernel
theorem d8 : decode yB 8 = .ok (.ireturn, 1) := by decide +kernel
def site : List Cond := []
def tab : Cond := tabOf yN yB 2 (some .byte) site
def P (d : Addr) (B : Cell) (args : Array Value) (s : State) : Prop := args = #[.ref d, .int (Int32.ofNat B.slots.size)] ∧ Arr .byte d B s
def E (r : Option Value) (s u : State) : Prop := XT.PureE (some (.int 0)) r s u
/-- an array as long as the number of chars: LATIN1 -/
theorem law (l : Launch) (d : Addr) (B : Cell) : Law l yN 2 2 0 0 yB 2 (some .byte) site (P d B) E [] 0 0 := by
  refine Law.of_walk (plainFor_of_name (by decide +kernel)) (by decide +kernel) (by decide +kernel) (by decide) (fun _ _ h => by rw [h.1]; rfl) (fun _ U U' hal hh h => ⟨h.1, h.2.mv hal hh⟩) (fun r U U' V V' h1 hal h2 h => XT.PureE.mv r U U' V V' h1 hal h2 h) ?_
  intro p e s m args below meth c s₁ X0 hexec hbytes hml hret hlk hnm hown hh0 W hP
  obtain ⟨rfl, hB⟩ := hP
  have hB0 := hB.mv X0.warmed.alike hh0
  have c1 : Steps p.tables e below (s₁.setTop (entryFrame m #[.ref d, .int (Int32.ofNat B.slots.size)] 2)) (s₁.setTop (mkF m 0 #[.val (.ref d), .val (.int (Int32.ofNat B.slots.size))] [])) := entry rfl
  have c2 : Steps p.tables e below (s₁.setTop (entryFrame m #[.ref d, .int (Int32.ofNat B.slots.size)] 2)) (s₁.setTop (mkF m 2 #[.val (.ref d), .val (.int (Int32.ofNat B.slots.size))] [.ref d, .int (Int32.ofNat B.slots.size)])) := c1.trans (by
    refine XS.iloadN X0.here hexec rfl (hb hbytes d0) rfl ?_
    refine XS.aloadN X0.here hexec rfl (hb hbytes d1) rfl rfl ?_
    exact Steps.refl _)
  have c3 : Steps p.tables e below (s₁.setTop (entryFrame m #[.ref d, .int (Int32.ofNat B.slots.size)] 2)) (s₁.setTop (mkF m 8 #[.val (.ref d), .val (.int (Int32.ofNat B.slots.size))] [.int (lo8 (ushr (Int32.ofNat B.slots.size - Int32.ofNat B.slots.size) 31))])) := c2.trans (by
    refine X0.alen hexec hB0 rfl rfl (hb hbytes d2) ?_
    refine XS.isub X0.here hexec rfl (hb hbytes d3) rfl ?_
    refine bipushV X0.here hexec rfl 31 (hb hbytes d4) (by decide) ?_
    refine iushr X0.here hexec rfl (hb hbytes d6) rfl ?_
    refine i2b X0.here hexec rfl (hb hbytes d7) rfl ?_
    exact Steps.refl _)
  have e0 : lo8 (ushr (Int32.ofNat B.slots.size - Int32.ofNat B.slots.size) 31) = 0 := by rw [Int32.sub_self]; decide
  rw [e0] at c3
  exact ⟨s₁, some (.int 0), _, _, _, X0, rfl, rfl, rfl, (fun h => by cases h), ⟨rfl, hh0⟩, fun fs hl => c3.trans (X0.ireturnOut hexec hret rfl (Or.inr (Or.inr (Or.inl rfl))) (hb hbytes d8) hl)⟩
end CodL
/-- the String at a is Latin-1 over a new byte[] (the heap's one new cell): the low bytes of the len chars of A from o on; every cell but a is kept -/
def Got (a : Addr) (D : Cell) (fV fC : Field) (A : Cell) (o len : Nat) (r : Option Value) (s u : State) : Prop := r = none ∧ ∃ D' V : Cell, Blank "java/lang/String" a D' u ∧ Same D D' [fV.slot, fC.slot] ∧ D'.slots[fV.slot]? = some (.ref s.heap.size) ∧ D'.slots[fC.slot]? = some (.int 0) ∧ Arr .byte s.heap.size V u ∧ V.vm = .none ∧ u.vm.findClass "[B" = some V.cls ∧ V.slots.size = len ∧ (∀ j, j < len → V.slots[j]? = some (.int (lo8 (cv A (o + j))))) ∧ (∀ (y : Addr) (c : Cell), y ≠ a → s.heap[y]? = some c → u.heap[y]? = some c) ∧ u.heap.size = s.heap.size + 1
theorem Got.mv {a : Addr} {D A : Cell} {fV fC : Field} {o len : Nat} : ∀ r (U U' V V' : State), U'.heap = U.heap → V.vm.Alike V'.vm → V'.heap = V.heap → Got a D fV fC A o len r U V → Got a D fV fC A o len r U' V' :=
  fun r U U' V V' h1 hal h2 ⟨e0, D', X, a1, a2, a3, a4, a5, a6, a7, a8, a9, a10, a11⟩ => ⟨e0, D', X, a1.mv hal h2, a2, by rw [h1]; exact a3, a4, by rw [h1]; exact a5.mv hal h2, a6, by rw [hal.findClass]; exact a7, a8, a9, by rw [h1, h2]; exact a10, by rw [h1, h2]; exact a11⟩
namespace New4
def yN : MethodName := ⟨"java/lang/String", "<init>", "([CIILjava/lang/Void;)V"⟩
abbrev yB : ByteArray := jdk_42_method_149_code
theorem d0 : decode yB 0 = .ok (.aload_n 0, 1) := by decide +kernel
theorem d1 : decode yB 1 = .ok (.invokespecial 1, 3) := by decide +kernel
theorem d4 : decode yB 4 = .ok (.iload_n 3, 1) := by decide +kernel
theorem d5 : decode yB 5 = .ok (.ifCond (.ne) 22, 3) := by decide +kernel
theorem d27 : decode yB 27 = .ok (.getstatic 38, 3) := by decide +kernel
theorem d30 : decode yB 30 = .ok (.ifCond (.eq) 28, 3) := by decide +kernel
theorem d33 : decode yB 33 = .ok (.aload_n 1, 1) := by decide +kernel
theorem d34 : decode yB 34 = .ok (.iload_n 2, 1) := by decide +kernel
theorem d35 : decode yB 35 = .ok (.iload_n 3, 1) := by decide +kernel
theorem d36 : decode yB 36 = .ok (.invokestatic 177, 3) := by decide +kernel
theorem d39 : decode yB 39 = .ok (.astore 5, 2) := by decide +kernel
theorem d41 : decode yB 41 = .ok (.aload_n 0, 1) := by decide +kernel
theorem d42 : decode yB 42 = .ok (.aload 5, 2) := by decide +kernel
theorem d44 : decode yB 44 = .ok (.iload_n 3, 1) := by decide +kernel
theorem d45 : decode yB 45 = .ok (.invokestatic 47, 3) := by decide +kernel
theorem d48 : decode yB 48 = .ok (.putfield 15, 3) := by decide +kernel
theorem d51 : decode yB 51 = .ok (.aload_n 0, 1) := by decide +kernel
theorem d52 : decode yB 52 = .ok (.aload 5, 2) := by decide +kernel
theorem d54 : decode yB 54 = .ok (.putfield 9, 3) := by decide +kernel
theorem d57 : decode yB 57 = .ok (.return_, 1) := by decide +kernel
def site : List Cond := [.fieldLink "java/lang/String" 38 "java/lang/String" "COMPACT_STRINGS" "Z", Cmp3.tab, CodL.tab, .laysFinal "java/lang/String" "java/lang/String" "value" "[B", .fieldLink "java/lang/String" 9 "java/lang/String" "value" "[B", .laysFinal "java/lang/String" "java/lang/String" "coder" "B", .fieldLink "java/lang/String" 15 "java/lang/String" "coder" "B"] ++ objW "java/lang/String" 1 ++ staticW "java/lang/String" 177 Cmp3.yN ++ staticW "java/lang/String" 47 CodL.yN
def tab : Cond := tabOf yN yB 6 none site
def P (a : Addr) (D : Cell) (fV fC : Field) (b : Addr) (A : Cell) (z : Int32) (o len : Nat) (args : Array Value) (s : State) : Prop := args = #[.ref a, .ref b, .int (Int32.ofNat o), .int (Int32.ofNat len), .null] ∧ Blank "java/lang/String" a D s ∧ Found "java/lang/String" "value" "[B" fV s ∧ Found "java/lang/String" "coder" "B" fC s ∧ Ch b A s ∧ StaticIs s "java/lang/String" "COMPACT_STRINGS" "Z" (.int z) ∧ ¬ z = 0 ∧ 0 < len ∧ o + len ≤ A.slots.size ∧ len ≤ 536870912 ∧ ∀ i, i < len → ¬ 255 < cv A (o + i)
def E (a : Addr) (D : Cell) (fV fC : Field) (A : Cell) (o len : Nat) (r : Option Value) (s u : State) : Prop := Got a D fV fC A o len r s u
/-- len > 0, no char of the range above 255: a Latin-1 String of their low bytes -/
theorem law (l : Launch) (a : Addr) (D : Cell) (fV fC : Field) (b : Addr) (A : Cell) (z : Int32) (o len : Nat) : Law l yN 5 4 2 35 yB 6 none site (P a D fV fC b A z o len) (E a D fV fC A o len) [⟨a, fC.slot⟩, ⟨a, fV.slot⟩] 1 len := by
  refine Law.of_walk (plainFor_of_name (by decide +kernel)) (by decide +kernel) (by decide +kernel) (by decide) (fun _ _ h => by rw [h.1]; rfl) (fun _ U U' hal hh h => ⟨h.1, h.2.1.mv hal hh, h.2.2.1.al hal, h.2.2.2.1.al hal, h.2.2.2.2.1.mv hal hh, h.2.2.2.2.2.1.there hal hh, h.2.2.2.2.2.2⟩) (fun r U U' V V' h1 hal h2 h => Got.mv r U U' V V' h1 hal h2 h) ?_
  intro p e s m args below meth c s₁ X0 hexec hbytes hml hret hlk hnm hown hh0 W hP
  obtain ⟨rfl, hB, f1, f2, hA, s1, hz, l0, l1, l2, hp⟩ := hP
  have a31 := hA.1.2.2.2
  have c1 : Steps p.tables e below (s₁.setTop (entryFrame m #[.ref a, .ref b, .int (Int32.ofNat o), .int (Int32.ofNat len), .null] 6)) (s₁.setTop (mkF m 0 #[.val (.ref a), .val (.ref b), .val (.int (Int32.ofNat o)), .val (.int (Int32.ofNat len)), .val .null, .unset] [])) := entry rfl
  have c2 : Steps p.tables e below (s₁.setTop (entryFrame m #[.ref a, .ref b, .int (Int32.ofNat o), .int (Int32.ofNat len), .null] 6)) (s₁.setTop (mkF m 1 #[.val (.ref a), .val (.ref b), .val (.int (Int32.ofNat o)), .val (.int (Int32.ofNat len)), .val .null, .unset] [.ref a])) := c1.trans (by
    refine XS.aloadN X0.here hexec rfl (hb hbytes d0) rfl rfl ?_
    exact Steps.refl _)
  obtain ⟨T3, X3, q3, st3⟩ := X0.oinit hexec hown (wks W (objW "java/lang/String" 1)) (g := (mkF m 1 #[.val (.ref a), .val (.ref b), .val (.int (Int32.ofNat o)), .val (.int (Int32.ofNat len)), .val .null, .unset] [.ref a])) rfl (by rw [hml]; rfl) (rest := []) rfl (hb hbytes d1) (W := 0) (by show 2 * 0 + 0 ≤ _; decide) (Nat.le_of_ble_eq_true rfl) (Nat.le_of_ble_eq_true rfl)
  have hh3 := q3.trans hh0
  have c4 : Steps p.tables e below (s₁.setTop (entryFrame m #[.ref a, .ref b, .int (Int32.ofNat o), .int (Int32.ofNat len), .null] 6)) (T3.setTop (mkF m 27 #[.val (.ref a), .val (.ref b), .val (.int (Int32.ofNat o)), .val (.int (Int32.ofNat len)), .val .null, .unset] [])) := (c2.trans (st3 _ (Steps.refl _))).trans (by
    refine XS.iloadN X3.here hexec rfl (hb hbytes d4) rfl ?_
    refine XS.ifYes X3.here hexec rfl (pc0 := 5) rfl (hb hbytes d5) rfl (i0_ne_t (nz32 (by omega) l0)) (by decide) rfl ?_
    exact Steps.refl _)
  obtain ⟨T5, X5, q5, st5⟩ := X3.sget hexec hown (wk W (.fieldLink "java/lang/String" 38 "java/lang/String" "COMPACT_STRINGS" "Z")) s1 (fun _ _ h => by rw [hh3]; exact h) (g := (mkF m 27 #[.val (.ref a), .val (.ref b), .val (.int (Int32.ofNat o)), .val (.int (Int32.ofNat len)), .val .null, .unset] [])) rfl (hb hbytes d27)
  have hh5 := q5.trans hh3
  have c6 : Steps p.tables e below (s₁.setTop (entryFrame m #[.ref a, .ref b, .int (Int32.ofNat o), .int (Int32.ofNat len), .null] 6)) (T5.setTop (mkF m 30 #[.val (.ref a), .val (.ref b), .val (.int (Int32.ofNat o)), .val (.int (Int32.ofNat len)), .val .null, .unset] [.int z])) := c4.trans (st5 _ (Steps.refl _))
  have c7 : Steps p.tables e below (s₁.setTop (entryFrame m #[.ref a, .ref b, .int (Int32.ofNat o), .int (Int32.ofNat len), .null] 6)) (T5.setTop (mkF m 36 #[.val (.ref a), .val (.ref b), .val (.int (Int32.ofNat o)), .val (.int (Int32.ofNat len)), .val .null, .unset] [.int (Int32.ofNat len), .int (Int32.ofNat o), .ref b])) := c6.trans (by
    refine XS.ifNo X5.here hexec rfl (hb hbytes d30) rfl (i0_eq_f hz) ?_
    refine XS.aloadN X5.here hexec rfl (hb hbytes d33) rfl rfl ?_
    refine XS.iloadN X5.here hexec rfl (hb hbytes d34) rfl ?_
    refine XS.iloadN X5.here hexec rfl (hb hbytes d35) rfl ?_
    exact Steps.refl _)
  obtain ⟨v8, T8, X8, E8, g8⟩ := X5.callS hexec (Cmp3.law l b A o len) hown (wks W (staticW "java/lang/String" 177 Cmp3.yN)) (wk W Cmp3.tab) (W := 0) (Nat.le_of_ble_eq_true rfl) (Nat.le_of_ble_eq_true rfl) (Nat.le_refl _) (by show 0 + len ≤ len; omega) (g := (mkF m 36 #[.val (.ref a), .val (.ref b), .val (.int (Int32.ofNat o)), .val (.int (Int32.ofNat len)), .val .null, .unset] [.int (Int32.ofNat len), .int (Int32.ofNat o), .ref b])) rfl (by rw [hml]; rfl) c7 (argsL := [.ref b, .int (Int32.ofNat o), .int (Int32.ofNat len)]) (rest := []) rfl rfl (by show 2 * 0 + 0 ≤ _; decide) (hb hbytes d36) (⟨rfl, hA.mv X5.warmed.alike hh5, l1, l2, hp⟩)
  obtain ⟨e8, z8⟩ := E8
  obtain ⟨rfl, N, n1, n2, n3, n4, n5, n6⟩ := NewArr.mv _ T5 s _ _ hh5.symm (Vm.Alike.refl _) rfl e8
  rw [hh5] at z8
  have hB1 := hB.keep X8.warmed.alike (n6 _ _ hB.1)
  have hne : s.heap.size ≠ a := (Nat.ne_of_lt (Array.getElem?_eq_some_iff.mp hB.1).1).symm
  have c9 : Steps p.tables e below (s₁.setTop (entryFrame m #[.ref a, .ref b, .int (Int32.ofNat o), .int (Int32.ofNat len), .null] 6)) (T8.setTop (mkF m 39 #[.val (.ref a), .val (.ref b), .val (.int (Int32.ofNat o)), .val (.int (Int32.ofNat len)), .val .null, .unset] [.ref s.heap.size])) := g8
  have c10 : Steps p.tables e below (s₁.setTop (entryFrame m #[.ref a, .ref b, .int (Int32.ofNat o), .int (Int32.ofNat len), .null] 6)) (T8.setTop (mkF m 45 #[.val (.ref a), .val (.ref b), .val (.int (Int32.ofNat o)), .val (.int (Int32.ofNat len)), .val .null, .val (.ref s.heap.size)] [.int (Int32.ofNat N.slots.size), .ref s.heap.size, .ref a])) := by
    have hc : Steps p.tables e below (s₁.setTop (entryFrame m #[.ref a, .ref b, .int (Int32.ofNat o), .int (Int32.ofNat len), .null] 6)) (T8.setTop (mkF m 45 #[.val (.ref a), .val (.ref b), .val (.int (Int32.ofNat o)), .val (.int (Int32.ofNat len)), .val .null, .val (.ref s.heap.size)] [.int (Int32.ofNat len), .ref s.heap.size, .ref a])) := c9.trans (by
      refine XS.astore X8.here hexec rfl (hb hbytes d39) rfl rfl rfl ?_
      refine XS.aloadN X8.here hexec rfl (hb hbytes d41) rfl rfl ?_
      refine XS.aload X8.here hexec rfl (hb hbytes d42) rfl rfl ?_
      refine XS.iloadN X8.here hexec rfl (hb hbytes d44) rfl ?_
      exact Steps.refl _)
    rw [n4]; exact hc
  obtain ⟨v11, T11, X11, E11, g11⟩ := X8.callS hexec (CodL.law l s.heap.size N) hown (wks W (staticW "java/lang/String" 47 CodL.yN)) (wk W CodL.tab) (W := 1) (Nat.le_of_ble_eq_true rfl) (Nat.le_of_ble_eq_true rfl) (Nat.le_refl _) (by show 0 + len + 0 ≤ len; omega) (g := (mkF m 45 #[.val (.ref a), .val (.ref b), .val (.int (Int32.ofNat o)), .val (.int (Int32.ofNat len)), .val .null, .val (.ref s.heap.size)] [.int (Int32.ofNat N.slots.size), .ref s.heap.size, .ref a])) rfl (by rw [hml]; rfl) c10 (argsL := [.ref s.heap.size, .int (Int32.ofNat N.slots.size)]) (rest := [.ref a]) rfl rfl (by show 2 * 0 + (1 + 0) ≤ _; decide) (hb hbytes d45) (⟨rfl, n1⟩)
  obtain ⟨rfl, q11⟩ := E11
  have hB11 := hB1.mv (X8.warmed.alike.symm.trans X11.warmed.alike) q11
  have c12 : Steps p.tables e below (s₁.setTop (entryFrame m #[.ref a, .ref b, .int (Int32.ofNat o), .int (Int32.ofNat len), .null] 6)) (T11.setTop (mkF m 48 #[.val (.ref a), .val (.ref b), .val (.int (Int32.ofNat o)), .val (.int (Int32.ofNat len)), .val .null, .val (.ref s.heap.size)] [.int 0, .ref a])) := g11
  obtain ⟨T13, X13, p13, bl13, sl13, st13⟩ := X11.finit hexec hown (wk W (.fieldLink "java/lang/String" 15 "java/lang/String" "coder" "B")) (Or.inr ⟨_, (wk W (.laysFinal "java/lang/String" "java/lang/String" "coder" "B"))⟩) (Or.inl ⟨rfl, hnm⟩) f2 (Or.inl rfl) hB11 (t := .byte) (by decide +kernel) rfl (g := (mkF m 48 #[.val (.ref a), .val (.ref b), .val (.int (Int32.ofNat o)), .val (.int (Int32.ofNat len)), .val .null, .val (.ref s.heap.size)] [.int 0, .ref a])) rfl (rest := []) rfl (hb hbytes d48)
  have c14 : Steps p.tables e below (s₁.setTop (entryFrame m #[.ref a, .ref b, .int (Int32.ofNat o), .int (Int32.ofNat len), .null] 6)) (T13.setTop (mkF m 54 #[.val (.ref a), .val (.ref b), .val (.int (Int32.ofNat o)), .val (.int (Int32.ofNat len)), .val .null, .val (.ref s.heap.size)] [.ref s.heap.size, .ref a])) := (c12.trans (st13 _ (Steps.refl _))).trans (by
    refine XS.aloadN X13.here hexec rfl (hb hbytes d51) rfl rfl ?_
    refine XS.aload X13.here hexec rfl (hb hbytes d52) rfl rfl ?_
    exact Steps.refl _)
  obtain ⟨T15, X15, p15, bl15, sl15, st15⟩ := X13.finit hexec hown (wk W (.fieldLink "java/lang/String" 9 "java/lang/String" "value" "[B")) (Or.inr ⟨_, (wk W (.laysFinal "java/lang/String" "java/lang/String" "value" "[B"))⟩) (Or.inl ⟨rfl, hnm⟩) f1 (Or.inl rfl) bl13 (t := (.array .byte)) (by decide +kernel) rfl (g := (mkF m 54 #[.val (.ref a), .val (.ref b), .val (.int (Int32.ofNat o)), .val (.int (Int32.ofNat len)), .val .null, .val (.ref s.heap.size)] [.ref s.heap.size, .ref a])) rfl (rest := []) rfl (hb hbytes d54)
  have c16 : Steps p.tables e below (s₁.setTop (entryFrame m #[.ref a, .ref b, .int (Int32.ofNat o), .int (Int32.ofNat len), .null] 6)) (T15.setTop (mkF m 57 #[.val (.ref a), .val (.ref b), .val (.int (Int32.ofNat o)), .val (.int (Int32.ofNat len)), .val .null, .val (.ref s.heap.size)] [])) := c14.trans (st15 _ (Steps.refl _))
  have ap := apart (Or.inr ⟨_, (wk W (.laysFinal "java/lang/String" "java/lang/String" "value" "[B"))⟩) (Or.inr ⟨_, (wk W (.laysFinal "java/lang/String" "java/lang/String" "coder" "B"))⟩) f1 f2 (t₁ := .array .byte) (t₂ := .byte) (by decide +kernel) (by decide +kernel) (by decide)
  have al := X8.warmed.alike.symm.trans X15.warmed.alike
  have n7 : T11.heap[s.heap.size]? = some N := by rw [q11]; exact n1.1
  exact ⟨T15, none, _, _, _, X15, by simp, rfl, by omega, (fun _ => rfl), ⟨rfl, _, N, bl15, ((Same.refl D _).set _ (by simp)).set _ (by simp), sl15, (Cell.slots_setSlot_ne _ ap).trans sl13, n1.keep al (p15.other hne (p13.other hne n7)), n2, by rw [al.findClass]; exact n3, n4, n5, fun y c h1 h2 => p15.other h1 (p13.other h1 (by rw [q11]; exact n6 y c h2)), by rw [p15.2.2, p13.2.2, q11]; exact z8⟩, fun fs hl => c16.trans (X15.returnOut hexec hret (hb hbytes d57) hl)⟩
end New4
namespace New1
def yN : MethodName := ⟨"java/lang/String", "<init>", "([C)V"⟩
abbrev yB : ByteArray := jdk_42_method_3_code
theorem d0 : decode yB 0 = .ok (.aload_n 0, 1) := by decide +kernel
theorem d1 : decode yB 1 = .ok (.aload_n 1, 1) := by decide +kernel
theorem d2 : decode yB 2 = .ok (.iconst 0, 1) := by decide +kernel
theorem d3 : decode yB 3 = .ok (.aload_n 1, 1) := by decide +kernel
theorem d4 : decode yB 4 = .ok (.arraylength, 1) := by decide +kernel
theorem d5 : decode yB 5 = .ok (.aconst_null, 1) := by decide +kernel
theorem d6 : decode yB 6 = .ok (.invokespecial 27, 3) := by decide +kernel
theorem d9 : decode yB 9 = .ok (.return_, 1) := by decide +kernel
def site : List Cond := [New4.tab] ++ initW "java/lang/String" 27 New4.yN
def tab : Cond := tabOf yN yB 2 none site
def P (a : Addr) (D : Cell) (fV fC : Field) (b : Addr) (A : Cell) (z : Int32) (args : Array Value) (s : State) : Prop := args = #[.ref a, .ref b] ∧ Blank "java/lang/String" a D s ∧ Found "java/lang/String" "value" "[B" fV s ∧ Found "java/lang/String" "coder" "B" fC s ∧ Ch b A s ∧ StaticIs s "java/lang/String" "COMPACT_STRINGS" "Z" (.int z) ∧ ¬ z = 0 ∧ 0 < A.slots.size ∧ A.slots.size ≤ 536870912 ∧ ∀ i, i < A.slots.size → ¬ 255 < cv A i
def E (a : Addr) (D : Cell) (fV fC : Field) (A : Cell) (r : Option Value) (s u : State) : Prop := Got a D fV fC A 0 A.slots.size r s u
/-- new String(chars), not empty, no char above 255: a Latin-1 String of their low bytes -/
theorem law (l : Launch) (a : Addr) (D : Cell) (fV fC : Field) (b : Addr) (A : Cell) (z : Int32) : Law l yN 2 1 3 52 yB 2 none site (P a D fV fC b A z) (E a D fV fC A) [⟨a, fC.slot⟩, ⟨a, fV.slot⟩] 1 A.slots.size := by
  refine Law.of_walk (plainFor_of_name (by decide +kernel)) (by decide +kernel) (by decide +kernel) (by decide) (fun _ _ h => by rw [h.1]; rfl) (fun _ U U' hal hh h => ⟨h.1, h.2.1.mv hal hh, h.2.2.1.al hal, h.2.2.2.1.al hal, h.2.2.2.2.1.mv hal hh, h.2.2.2.2.2.1.there hal hh, h.2.2.2.2.2.2⟩) (fun r U U' V V' h1 hal h2 h => Got.mv r U U' V V' h1 hal h2 h) ?_
  intro p e s m args below meth c s₁ X0 hexec hbytes hml hret hlk hnm hown hh0 W hP
  obtain ⟨rfl, hB, f1, f2, hA, s1, hz, l0, l2, hp⟩ := hP
  have c1 : Steps p.tables e below (s₁.setTop (entryFrame m #[.ref a, .ref b] 2)) (s₁.setTop (mkF m 0 #[.val (.ref a), .val (.ref b)] [])) := entry rfl
  have c2 : Steps p.tables e below (s₁.setTop (entryFrame m #[.ref a, .ref b] 2)) (s₁.setTop (mkF m 6 #[.val (.ref a), .val (.ref b)] [.null, .int (Int32.ofNat A.slots.size), .int 0, .ref b, .ref a])) := c1.trans (by
    refine XS.aloadN X0.here hexec rfl (hb hbytes d0) rfl rfl ?_
    refine XS.aloadN X0.here hexec rfl (hb hbytes d1) rfl rfl ?_
    refine iconstV X0.here hexec rfl 0 (hb hbytes d2) (by decide) ?_
    refine XS.aloadN X0.here hexec rfl (hb hbytes d3) rfl rfl ?_
    refine X0.alen hexec (hA.1.mv X0.warmed.alike hh0) rfl rfl (hb hbytes d4) ?_
    refine XS.aconstNull X0.here hexec rfl (hb hbytes d5) ?_
    exact Steps.refl _)
  obtain ⟨v3, T3, X3, E3, g3⟩ := X0.callN hexec (New4.law l a D fV fC b A z 0 A.slots.size) rfl hown (wks W (initW "java/lang/String" 27 New4.yN)) (W New4.tab (by simp only [site, List.mem_cons, List.mem_append, true_or, or_true])) (W := 0) (Nat.le_of_ble_eq_true rfl) (Nat.le_of_ble_eq_true rfl) (Nat.le_refl _) (by show 0 + A.slots.size ≤ A.slots.size; omega) (g := (mkF m 6 #[.val (.ref a), .val (.ref b)] [.null, .int (Int32.ofNat A.slots.size), .int (Int32.ofNat 0), .ref b, .ref a])) rfl (by rw [hml]; rfl) c2 (argsL := [.ref b, .int (Int32.ofNat 0), .int (Int32.ofNat A.slots.size), .null]) (rest := []) rfl rfl (by show 2 * 0 + 0 ≤ _; decide) (hb hbytes d6) (⟨rfl, hB.mv X0.warmed.alike hh0, f1.al X0.warmed.alike, f2.al X0.warmed.alike, hA.mv X0.warmed.alike hh0, s1.there X0.warmed.alike hh0, hz, l0, by omega, l2, fun i hi => by rw [Nat.zero_add]; exact hp i hi⟩)
  have e0 := Got.mv _ s₁ s _ _ hh0.symm (Vm.Alike.refl _) rfl E3
  obtain rfl := e0.1
  have c4 : Steps p.tables e below (s₁.setTop (entryFrame m #[.ref a, .ref b] 2)) (T3.setTop (mkF m 9 #[.val (.ref a), .val (.ref b)] [])) := g3
  exact ⟨T3, none, _, _, _, X3, by simp, rfl, by omega, (fun _ => rfl), e0, fun fs hl => c4.trans (X3.returnOut hexec hret (hb hbytes d9) hl)⟩
theorem pays {l : Launch} {R : Room} {p : Program} {e : Env} {below : List Frame} {s : State} {sargs : Array Value} {len W : Nat} (a : Addr) (D : Cell) (fV fC : Field) (b : Addr) (A : Cell) (z : Int32) (htab : tab.before sargs s = true) (hfr : 4 ≤ R.frames) (hlo : W + 65 ≤ R.locals) :
    Back l R p e below s sargs yN len W (fun A₁ a₁ => A₁.cells + 1 ≤ R.cells ∧ A₁.slots + A.slots.size ≤ R.slots ∧ P a D fV fC b A z a₁ A₁.U) (fun A₁ _ v₁ B₁ => E a D fV fC A v₁ A₁.U B₁.U ∧ B₁.locs = A₁.locs ++ [⟨a, fC.slot⟩, ⟨a, fV.slot⟩] ∧ B₁.cells = A₁.cells + 1 ∧ B₁.slots = A₁.slots + A.slots.size) :=
  (law l a D fV fC b A z).pays htab hfr (by omega)
end New1
/-- the byte, read back as charAt reads it, is the char -/
theorem lo8_mask {x : Int32} (h0 : ¬ x < 0) (h1 : ¬ 255 < x) : lo8 x &&& 255 = x := by
  have t : ∀ k : Fin 256, lo8 (Int32.ofNat k.val) &&& 255 = Int32.ofNat k.val := by decide +kernel
  rw [Int32.lt_iff_toInt_lt] at h0 h1
  have e0 : (0 : Int32).toInt = 0 := rfl
  have e1 : (255 : Int32).toInt = 255 := rfl
  obtain ⟨k, hk⟩ : ∃ k : Nat, x.toInt = k := ⟨x.toInt.toNat, by omega⟩
  have hx : x = Int32.ofNat k := Int32.toInt_inj.mp (by rw [hk, Int32.toInt_ofNat_small (by omega)])
  rw [hx]
  exact t ⟨k, by omega⟩
end StrChars
namespace StrChars.Road
open Jvm Sem ClassFile Op Lib Jvm.Stand Jvm.Free Jvm.Free.XT
open Jvm.Lib.Cold (StaticIs)
abbrev ST : String := "java/lang/String"
/-- every table word that New1's law asks, flat -/
abbrev words : List Jvm.Cond := [.code New1.yN New1.yB 2 none, .initialized ST, .methodLink ST 27 New4.yN, .instanceMethod New4.yN,
  .code New4.yN New4.yB 6 none, .fieldLink ST 38 ST "COMPACT_STRINGS" "Z", .laysFinal ST ST "value" "[B", .fieldLink ST 9 ST "value" "[B", .laysFinal ST ST "coder" "B", .fieldLink ST 15 ST "coder" "B",
  .methodLink ST 1 Lib.objectInit, .instanceMethod Lib.objectInit, .code Lib.objectInit ⟨#[0xb1]⟩ 1 none, .methodLink ST 177 Cmp3.yN, .static Cmp3.yN, .methodLink ST 47 CodL.yN, .static CodL.yN,
  .code Cmp3.yN Cmp3.yB 6 (some (.array .byte)), .initialized U16, .arrayClass .byte, .methodLink U16 115 Cmp5.yN, .static Cmp5.yN, .code Cmp5.yN Cmp5.yB 7 (some .int), .code CodL.yN CodL.yB 2 (some .byte)]
theorem tab_of {a : Array Value} {s : State} (h : ∀ w ∈ words, w.before a s = true) : New1.tab.before a s = true := by
  have h5 : Cmp5.tab.before a s = true := unparts (wk h (.code Cmp5.yN Cmp5.yB 7 (some .int))) (wks h (.initialized Cmp5.yN.cls :: Cmp5.site))
  have hc : CodL.tab.before a s = true := unparts (wk h (.code CodL.yN CodL.yB 2 (some .byte))) (wks h (.initialized CodL.yN.cls :: CodL.site))
  have q5 : ∀ w ∈ Cmp5.tab :: words, w.before a s = true := fun w hw => (List.mem_cons.mp hw).elim (fun e => e ▸ h5) (h w)
  have h3 : Cmp3.tab.before a s = true := unparts (wk q5 (.code Cmp3.yN Cmp3.yB 6 (some (.array .byte)))) (wks q5 (.initialized Cmp3.yN.cls :: Cmp3.site))
  have q3 : ∀ w ∈ Cmp3.tab :: CodL.tab :: words, w.before a s = true := fun w hw => (List.mem_cons.mp hw).elim (fun e => e ▸ h3) fun hw => (List.mem_cons.mp hw).elim (fun e => e ▸ hc) (h w)
  have h4 : New4.tab.before a s = true := unparts (wk q3 (.code New4.yN New4.yB 6 none)) (wks q3 (.initialized New4.yN.cls :: New4.site))
  have q4 : ∀ w ∈ New4.tab :: words, w.before a s = true := fun w hw => (List.mem_cons.mp hw).elim (fun e => e ▸ h4) (h w)
  exact unparts (wk q4 (.code New1.yN New1.yB 2 none)) (wks q4 (.initialized New1.yN.cls :: New1.site))
/-- the words ride from the start Z to the walk's own state -/
theorem moved {Z s : State} {a0 args : Array Value} (hZ : Z.Warmed39 s.vm) (hw : ∀ d ∈ words, d.before a0 Z = true) : ∀ d ∈ words, d.before args s = true := fun d hd => by
  have q := hw d hd
  have t : ∀ d ∈ words, d = .arrayClass .byte ∨ (d.onTables && d.keepsFace) = true := by decide +kernel
  rcases t d hd with rfl | t
  · exact RoadKit.mvA hZ q
  · exact RoadKit.mv hZ q t
/-- WHAT COMES BACK, over the tables of the start Z: h the heap at the call, h' behind it -/
def Q (Z : State) (x : Addr) (A : Cell) (h : Heap) (v : Option Value) (h' : Heap) (L : List Loc) : Prop := v = none ∧ (∀ y ∈ L, y.base = x) ∧ RoadKit.Keep h h' [x] ∧ h'.size = h.size + 1 ∧ RoadKit.Exa Z h' x ST ∧ RoadKit.Fld Z h' x ST "value" "[B" (.ref h.size) ∧ RoadKit.Fld Z h' x ST "coder" "B" (.int 0) ∧
  (∃ V : Cell, RoadKit.Arr Z h' h.size V .byte ∧ V.vm = .none ∧ Z.vm.findClass "[B" = some V.cls ∧ V.slots.size = A.slots.size ∧ ∀ j, j < A.slots.size → V.slots[j]? = some (.int (lo8 (cv A j)))) ∧
  ∀ (O n d : String) (w : Value), RoadKit.Fld Z h x O n d w → RoadKit.slotOf Z O n d ≠ RoadKit.slotOf Z ST "value" "[B" → RoadKit.slotOf Z O n d ≠ RoadKit.slotOf Z ST "coder" "B" → RoadKit.Fld Z h' x O n d w
/-- **new String(chars) AT A CALL, IN THE ROAD'S FORM**: for specialBack behind newO: x the fresh String, b the char[] with the cell A -/
theorem back {p : Program} {l : Launch} {e : Env} {R : Room} {s : State} {args : Array Value} {below : List Frame} {len W : Nat} {Z : State} {a0 : Array Value} {h : Heap} (hZ : Z.Warmed39 s.vm) (hw : ∀ d ∈ words, d.before a0 Z = true) {kI : Nat} (wi : (Jvm.Cond.instantiable ST kI).before a0 Z = true)
    {x b : Addr} {A : Cell} {z : Int32} {v0 c0 : Value} (E : RoadKit.Exa Z h x ST) (V : RoadKit.Fld Z h x ST "value" "[B" v0) (C : RoadKit.Fld Z h x ST "coder" "B" c0) (K : RoadKit.Arr Z h b A .char) (hty : Typed .char A) (S : RoadKit.Sta Z h ST "COMPACT_STRINGS" "Z" (.int z)) (hz : ¬ z = 0)
    (l0 : 0 < A.slots.size) (l2 : A.slots.size ≤ 536870912) (hp : ∀ i, i < A.slots.size → ¬ 255 < cv A i) (hfr : 4 ≤ R.frames) (hlo : W + 65 ≤ R.locals) :
    Back l R p e below s args New1.yN len W (fun P a => a = #[.ref x, .ref b] ∧ P.U.heap = h ∧ P.cells + 1 ≤ R.cells ∧ P.slots + A.slots.size ≤ R.slots)
      (fun P _ v B => ∃ L, Q Z x A h v B.U.heap L ∧ B.locs = P.locs ++ L ∧ B.cells = P.cells + 1 ∧ B.slots = P.slots + A.slots.size) := by
  intro m meth c P g ig mk a X hg hsize hdg hW hn hp'
  obtain ⟨rfl, rfl, r1, r2⟩ := hp'
  have al : Z.vm.Alike P.U.vm := hZ.alike.trans X.warmed.alike
  obtain ⟨D, cfV, kV, iV, fV, hD, gV, stV, knV, obV, asV, slV⟩ := id V
  obtain ⟨D', cfC, kC, iC, fC, hD', gC, stC, -, -, asC, slC⟩ := id C
  cases hD.symm.trans hD'
  obtain ⟨D2, kD, e1, e2, e3, e4, e5⟩ := id E
  cases hD.symm.trans e1
  obtain ⟨c2, k2, i1, i2, i3, -⟩ := Cond.instantiable_spec wi
  cases e2.symm.trans i1
  cases e3.symm.trans i2
  obtain ⟨kU, u1, u2⟩ := al.2.2 _ _ e3
  have hB : Blank ST x D P.U := ⟨hD, ⟨knV, fun q hq => by rw [hq] at obV; cases obV⟩, by rw [al.findClass]; exact e2, kU, u1, by rw [u2]; exact i3, by rw [u2]; exact e5 i3⟩
  have F1 : Found ST "value" "[B" fV P.U := ⟨SBG.found_only al ⟨cfV, kV, iV, gV⟩, stV⟩
  have F2 : Found ST "coder" "B" fC P.U := ⟨SBG.found_only al ⟨cfC, kC, iC, gC⟩, stC⟩
  have hA : Ch b A P.U := ⟨⟨K.1, State.isArrayOf_alike al K.2.1, K.2.2, by omega⟩, hty⟩
  have hS : StaticIs P.U ST "COMPACT_STRINGS" "Z" (.int z) := by
    obtain ⟨cfS, iS, kS, fS, st, cS, t1, t2, t3, t4, t5, t6, t7⟩ := S
    exact StaticIs.there (s := { Z with heap := P.U.heap }) ⟨cfS, iS, kS, fS, st, cS, t1, t2, t3, t4, t5, (fun q => by rw [q] at t6; cases t6), t7⟩ al rfl
  obtain ⟨v, B, X', ⟨⟨hv, E', V', q1, q2, q3, q4, q5, q6, q7, q8, q9, q10, q11⟩, hl, hc, hs⟩, st⟩ := New1.pays x D fV fC b A z (tab_of (moved hZ hw)) hfr hlo m meth c P g ig mk _ X hg hsize hdg hW hn ⟨r1, r2, rfl, hB, F1, F2, hA, hS, hz, l0, l2, hp⟩
  have al' : Z.vm.Alike B.U.vm := hZ.alike.trans X'.warmed.alike
  have hsz : E'.slots.size = D.slots.size := by
    obtain ⟨-, -, -, kB, w1, w2, w3⟩ := q1
    obtain ⟨kB', y1, y2⟩ := al'.2.2 _ _ e3
    rw [q2.2.1] at w1
    cases w1.symm.trans y1
    rw [w3, e5 i3, y2]
  refine ⟨v, B, X', ⟨_, ⟨hv, ?_, ⟨by omega, fun y cy hy hn' => q10 y cy (by simpa using hn') hy, fun y cy hy => ?_⟩, q11, ⟨E', _, q1.1, by rw [q2.2.1]; exact e2, by rw [q2.2.1]; exact e3, by rw [q2.1]; exact obV, fun _ => by rw [hsz]; exact e5 i3⟩,
    ⟨E', cfV, kV, iV, fV, q1.1, gV, stV, by rw [q2.1]; exact knV, by rw [q2.1]; exact obV, by rw [q2.2.1]; exact asV, q3⟩, ⟨E', cfC, kC, iC, fC, q1.1, gC, stC, by rw [q2.1]; exact knV, by rw [q2.1]; exact obV, by rw [q2.2.1]; exact asC, q4⟩,
    ⟨V', ⟨q5.1, State.isArrayOf_alike al'.symm q5.2.1, q5.2.2.1⟩, q6, by rw [← al'.findClass]; exact q7, q8, fun j hj => by have := q9 j hj; rwa [Nat.zero_add] at this⟩, fun O n d w F n1 n2 => ?_⟩, hl, hc, hs⟩, st⟩
  · intro y hy
    simp only [List.mem_cons, List.not_mem_nil, or_false] at hy
    rcases hy with rfl | rfl <;> rfl
  · by_cases q : y = x
    · subst q
      cases hD.symm.trans hy
      exact ⟨E', q1.1, q2.2.1, q2.1, hsz⟩
    · exact ⟨cy, q10 y cy q hy, rfl, rfl, rfl⟩
  · obtain ⟨D3, cf, k, i, f, g1, g2, g3, g4, g5, g6, g7⟩ := F
    cases hD.symm.trans g1
    simp only [RoadKit.slotOf, g2, gV, gC, Option.map_some, Option.getD_some] at n1 n2
    exact ⟨E', cf, k, i, f, q1.1, g2, g3, by rw [q2.1]; exact g4, by rw [q2.1]; exact g5, by rw [q2.2.1]; exact g6, by rw [q2.2.2 f.slot (by simp [n1, n2])]; exact g7⟩
end StrChars.Road
namespace StrChars.Road
open Jvm Sem ClassFile Op Lib Jvm.Stand Jvm.Free Jvm.Free.XT
/-- WHAT COMES BACK, the byte[] as a list of values -/
def QA (Z : State) (x : Addr) (zn : Int32) (cs : List Int32) (h : Heap) (v : Option Value) (h' : Heap) (L : List Loc) : Prop := v = none ∧ (∀ y ∈ L, y.base = x) ∧ RoadKit.Keep h h' [x] ∧ h'.size = h.size + 1 ∧ RoadKit.Exa Z h' x ST ∧ RoadKit.Fld Z h' x ST "value" "[B" (.ref h.size) ∧ RoadKit.Fld Z h' x ST "coder" "B" (.int 0) ∧
  (∃ kb, Z.vm.findClass "[B" = some kb ∧ RoadKit.Arv Z h' h.size kb .byte zn (cs.map fun c => .int (lo8 c)) (.int 0)) ∧
  ∀ (O n d : String) (w : Value), RoadKit.Fld Z h x O n d w → RoadKit.slotOf Z O n d ≠ RoadKit.slotOf Z ST "value" "[B" → RoadKit.slotOf Z O n d ≠ RoadKit.slotOf Z ST "coder" "B" → RoadKit.Fld Z h' x O n d w
/-- **new String(chars) AT A CALL, THE ARRAYS AS LISTS**: the char[] at b holds cs, not empty, no char above 255 -/
theorem backArv {p : Program} {l : Launch} {e : Env} {R : Room} {s : State} {args : Array Value} {below : List Frame} {len W : Nat} {Z : State} {a0 : Array Value} {h : Heap} (hZ : Z.Warmed39 s.vm) (hw : ∀ d ∈ words, d.before a0 Z = true) {kI : Nat} (wi : (Jvm.Cond.instantiable ST kI).before a0 Z = true)
    {x b : Addr} {k : ClassId} {zn z : Int32} {cs : List Int32} {dv v0 c0 : Value} (E : RoadKit.Exa Z h x ST) (V : RoadKit.Fld Z h x ST "value" "[B" v0) (C : RoadKit.Fld Z h x ST "coder" "B" c0) (K : RoadKit.Arv Z h b k .char zn (cs.map Value.int) dv) (S : RoadKit.Sta Z h ST "COMPACT_STRINGS" "Z" (.int z)) (hz : ¬ z = 0)
    (hlen : zn.toNatClampNeg = cs.length) (h0 : 0 < cs.length) (hbig : cs.length ≤ 536870912) (hall : ∀ c ∈ cs, ¬ 255 < c) (hfr : 4 ≤ R.frames) (hlo : W + 65 ≤ R.locals) :
    Back l R p e below s args New1.yN len W (fun P a => a = #[.ref x, .ref b] ∧ P.U.heap = h ∧ P.cells + 1 ≤ R.cells ∧ P.slots + cs.length ≤ R.slots)
      (fun P _ v B => ∃ L, QA Z x zn cs h v B.U.heap L ∧ B.locs = P.locs ++ L ∧ B.cells = P.cells + 1 ∧ B.slots = P.slots + cs.length) := by
  obtain ⟨A, K1, K2, K3, K4, K5, K6⟩ := K
  have e : A.slots.size = cs.length := K3.trans hlen
  have hat : ∀ (i : Nat) (hi : i < cs.length), A.slots[i]? = some (.int cs[i]) := fun i hi => by rw [K5 i (by omega)]; simp [List.getD_eq_getElem?_getD, hi]
  have hcv : ∀ (i : Nat) (hi : i < cs.length), cv A i = cs[i] := fun i hi => by unfold cv; rw [hat i hi]
  have hty : Typed .char A := fun i v hv => by
    have hi : i < A.slots.size := (Array.getElem?_eq_some_iff.mp hv).1
    have q := K5 i hi
    rw [hv] at q
    rw [Option.some.inj q]
    exact K6 i hi
  refine Back.mono (back hZ hw wi E V C K1 hty S hz (by omega) (by omega) (fun i hi => by rw [hcv i (by omega)]; exact hall _ (List.getElem_mem _)) hfr hlo) (fun P a hp => ⟨hp.1, hp.2.1, hp.2.2.1, by rw [e]; exact hp.2.2.2⟩) (fun P a v B hp hq => ?_)
  obtain ⟨L, ⟨q1, q2, q3, q4, q5, q6, q7, ⟨V', v1, v2, v3, v4, v5⟩, q9⟩, hl, hc, hs⟩ := hq
  refine ⟨L, ⟨q1, q2, q3, q4, q5, q6, q7, ⟨V'.cls, v3, V', v1, rfl, by rw [v4, e, hlen], K4, fun i hi => ?_, fun i hi => ?_⟩, q9⟩, hl, hc, by rw [hs, e]⟩
  · have hi' : i < cs.length := by omega
    rw [v5 i (by omega), hcv i hi']; simp [List.getD_eq_getElem?_getD, hi']
  · have hi' : i < cs.length := by omega
    simp only [List.getD_eq_getElem?_getD, List.getElem?_map, List.getElem?_eq_getElem hi', Option.map_some, Option.getD_some]
    exact fits_lo8 _
end StrChars.Road
namespace StrChars.Road
open Jvm Sem ClassFile Op Lib Jvm.Stand Jvm.Free Jvm.Free.XT
/-- WHAT COMES BACK, in the writer's own shape -/
def QV (Z : State) (x : Addr) (N : Int32) (bs : List Int32) (h : Heap) (n0 : Nat) (v : Option Value) (h' : Heap) (L : List Loc) : Prop := v = none ∧ RoadKit.Fr n0 L ∧ RoadKit.Keep h h' [x] ∧ RoadKit.Exa Z h' x ST ∧ RoadKit.Fld Z h' x ST "coder" "B" (.int 0) ∧
  ∃ (t : Addr) (kb : ClassId), n0 ≤ t ∧ h.size ≤ t ∧ ¬ t = x ∧ RoadKit.Fld Z h' x ST "value" "[B" (.ref t) ∧ RoadKit.Arv Z h' t kb .byte N (bs.map Value.int) (.int 0)
/-- **new String(chars) AT A CALL, FOR THE WRITER**: a char[] of n known ints, each 0 to 255 -/
theorem backV {p : Program} {l : Launch} {e : Env} {R : Room} {s : State} {args : Array Value} {below : List Frame} {len W : Nat} {Z : State} {a0 : Array Value} {h : Heap} (hZ : Z.Warmed39 s.vm) (hw : ∀ d ∈ words, d.before a0 Z = true) {kI : Nat} (wi : (Jvm.Cond.instantiable ST kI).before a0 Z = true)
    {x b : Addr} {kC : ClassId} {cs bs : List Int32} {d v0 c0 : Value} {z N : Int32} {n n0 : Nat} (hx0 : n0 ≤ x) (hh0 : n0 ≤ h.size) (E : RoadKit.Exa Z h x ST) (V : RoadKit.Fld Z h x ST "value" "[B" v0) (C : RoadKit.Fld Z h x ST "coder" "B" c0) (K : RoadKit.Arv Z h b kC .char N (cs.map Value.int) d) (S : RoadKit.Sta Z h ST "COMPACT_STRINGS" "Z" (.int z)) (hz : ¬ z = 0)
    (hn : cs.length = n) (hN : N = Int32.ofNat n) (l0 : 0 < n) (l2 : n ≤ 4000) (hp : ∀ c ∈ cs, ¬ c < 0 ∧ ¬ (255 : Int32) < c) (hb : bs = cs.map (fun c => c.toInt8.toInt32)) (hfr : 4 ≤ R.frames) (hlo : W + 65 ≤ R.locals) :
    Back l R p e below s args (⟨"java/lang/String", "<init>", "([C)V"⟩ : MethodName) len W (fun P a => a = #[.ref x, .ref b] ∧ P.U.heap = h ∧ P.cells + 1 ≤ R.cells ∧ P.slots + n ≤ R.slots)
      (fun P _ v B => ∃ L, QV Z x N bs h n0 v B.U.heap L ∧ B.locs = P.locs ++ L ∧ B.cells = P.cells + 1 ∧ B.slots = P.slots + n) := by
  subst hn hN hb
  refine Back.mono (backArv hZ hw wi E V C K S hz (n32 (by omega)) l0 (by omega) (fun c hc => (hp c hc).2) hfr hlo) (fun P a hp => hp) (fun P a v B hp hq => ?_)
  obtain ⟨L, ⟨q1, q2, q3, q4, q5, q6, q7, ⟨kb, v1, v2⟩, q9⟩, hl, hc, hs⟩ := hq
  exact ⟨L, ⟨q1, fun y hy => by rw [q2 y hy]; exact hx0, q3, q5, q7, h.size, kb, hh0, Nat.le_refl _, Nat.ne_of_gt E.lt, q6, by rw [List.map_map]; exact v2⟩, hl, hc, hs⟩
end StrChars.Road
namespace StrChars
open Jvm Sem ClassFile Op Lib Jvm.Stand Jvm.Free.XT Jvm.Free.ALB Jvm.Free.JM Jvm.Free
open Jvm.Lib.Cold (StaticIs)
def hi8 (x : Int32) : Int32 := lo8 (x >>> ((8 : Int32) &&& 31))
/-- what StringUTF16.getChar makes of two bytes -/
def pairCh (u v : Int32) : Int32 := (((u &&& 255) <<< ((0 : Int32) &&& 31)) ||| ((v &&& 255) <<< ((8 : Int32) &&& 31))).toUInt32.toUInt16.toUInt32.toInt32
theorem shr0 (c : Int32) : c >>> ((0 : Int32) &&& 31) = c := by
  have e : ((0 : Int32) &&& 31) = 0 := by decide
  rw [e]
  apply Int32.toBitVec_inj.mp
  rw [Int32.toBitVec_shiftRight]
  have e1 : ((0 : Int32).toBitVec.smod 32) = 0#32 := by decide
  rw [e1, BitVec.sshiftRight_eq']
  exact BitVec.sshiftRight_zero
theorem lo8_and (x : Int32) : (lo8 x &&& 255).toBitVec.toNat = x.toBitVec.toNat % 256 := by
  have h : (lo8 x).toBitVec = (x.toBitVec.signExtend 8).signExtend 32 := by rw [lo8, Int8.toBitVec_toInt32, Int32.toBitVec_toInt8]
  rw [Int32.toBitVec_and, BitVec.toNat_and, h]
  have e : ((x.toBitVec.signExtend 8).signExtend 32).toNat % 256 = x.toBitVec.toNat % 256 := by
    rw [BitVec.toNat_signExtend]
    have hlt := x.toBitVec.isLt
    simp only [BitVec.toNat_setWidth, BitVec.toNat_signExtend]
    split <;> split <;> omega
  rw [← e]
  exact Nat.and_two_pow_sub_one_eq_mod _ 8
theorem pair_says {c : Int32} (h0 : ¬ c < 0) (h1 : ¬ 65535 < c) : pairCh (lo8 c) (hi8 c) = c := by
  rw [Int32.lt_iff_toInt_lt] at h0 h1
  have e0 : (0 : Int32).toInt = 0 := rfl
  have e1 : (65535 : Int32).toInt = 65535 := rfl
  have hc : c.toInt = c.toBitVec.toNat := by
    have := c.toBitVec.isLt
    have e : c.toInt = c.toBitVec.toInt := rfl
    rw [e] at h0 h1
    rw [e]
    rw [BitVec.toInt_eq_toNat_cond] at h0 h1 ⊢
    split at h0 <;> split <;> omega
  have hn : c.toBitVec.toNat < 65536 := by omega
  have a1 := lo8_and c
  have a2 : (hi8 c &&& 255).toBitVec.toNat = c.toBitVec.toNat / 256 := by
    rw [hi8, lo8_and]
    have e : ((8 : Int32) &&& 31) = 8 := by decide
    rw [e, Int32.toBitVec_shiftRight]
    have e2 : ((8 : Int32).toBitVec.smod 32) = 8#32 := by decide
    rw [e2, BitVec.sshiftRight_eq', BitVec.toNat_sshiftRight_of_msb_false (by rw [BitVec.msb_eq_false_iff_two_mul_lt]; omega)]
    show c.toBitVec.toNat >>> 8 % 256 = _
    rw [Nat.shiftRight_eq_div_pow]
    omega
  unfold pairCh
  apply Int32.toBitVec_inj.mp
  apply BitVec.eq_of_toNat_eq
  have f0 : ((0 : Int32) &&& 31) = 0 := by decide
  have f8 : ((8 : Int32) &&& 31) = 8 := by decide
  rw [f0, f8]
  have g : (((lo8 c &&& 255) <<< (0 : Int32)) ||| ((hi8 c &&& 255) <<< (8 : Int32))).toBitVec.toNat = c.toBitVec.toNat := by
    rw [Int32.toBitVec_or, Int32.toBitVec_shiftLeft, Int32.toBitVec_shiftLeft]
    have s0 : ((0 : Int32).toBitVec.smod 32) = 0#32 := by decide
    have s8 : ((8 : Int32).toBitVec.smod 32) = 8#32 := by decide
    rw [s0, s8, BitVec.toNat_or]
    simp only [BitVec.shiftLeft_eq', BitVec.toNat_shiftLeft, a1, a2]
    show (c.toBitVec.toNat % 256) <<< 0 % 2 ^ 32 ||| (c.toBitVec.toNat / 256) <<< 8 % 2 ^ 32 = _
    rw [Nat.shiftLeft_zero, Nat.mod_eq_of_lt (show c.toBitVec.toNat % 256 < 2 ^ 32 by omega), Nat.mod_eq_of_lt (show (c.toBitVec.toNat / 256) <<< 8 < 2 ^ 32 by rw [Nat.shiftLeft_eq]; omega), Nat.or_comm, ← Nat.shiftLeft_add_eq_or_of_lt (by omega), Nat.shiftLeft_eq]
    omega
  show BitVec.toNat (((((lo8 c &&& 255) <<< (0 : Int32)) ||| ((hi8 c &&& 255) <<< (8 : Int32))).toBitVec.setWidth 16).setWidth 32) = _
  rw [BitVec.toNat_setWidth, BitVec.toNat_setWidth, g]
  omega
end StrChars
namespace StrChars
open Jvm Sem ClassFile Op Lib Jvm.Stand Jvm.Free.XT Jvm.Free.ALB Jvm.Free.JM Jvm.Free
open Jvm.Lib.Cold (StaticIs)
theorem shr1 {n : Nat} (h : 2 * n < 2 ^ 31) : Int32.ofNat (2 * n) >>> ((1 : Int32) &&& 31) = Int32.ofNat n := by
  have e : ((1 : Int32) &&& 31) = 1 := by decide
  rw [e]
  apply Int32.toBitVec_inj.mp
  rw [Int32.toBitVec_shiftRight]
  have e1 : ((1 : Int32).toBitVec.smod 32) = 1#32 := by decide
  have hm : (BitVec.ofNat 32 (2 * n)).toNat = 2 * n := by rw [BitVec.toNat_ofNat, Nat.mod_eq_of_lt (by omega)]
  rw [e1, BitVec.sshiftRight_eq']
  apply BitVec.eq_of_toNat_eq
  show ((BitVec.ofNat 32 (2 * n)).sshiftRight 1).toNat = (BitVec.ofNat 32 n).toNat
  rw [BitVec.toNat_sshiftRight_of_msb_false (by rw [BitVec.msb_eq_false_iff_two_mul_lt, hm]; omega), hm, BitVec.toNat_ofNat, Nat.shiftRight_eq_div_pow]
  omega
/-- charAt's cast of a byte read back -/
def chr8 (u : Int32) : Int32 := (u &&& 255).toUInt32.toUInt16.toUInt32.toInt32
theorem chr8_lo8 {c : Int32} (h0 : ¬ c < 0) (h1 : ¬ 255 < c) : chr8 (lo8 c) = c := by
  have t : ∀ k : Fin 256, (Int32.ofNat k.val).toUInt32.toUInt16.toUInt32.toInt32 = Int32.ofNat k.val := by decide +kernel
  unfold chr8
  rw [lo8_mask h0 h1]
  rw [Int32.lt_iff_toInt_lt] at h0 h1
  have e0 : (0 : Int32).toInt = 0 := rfl
  have e1 : (255 : Int32).toInt = 255 := rfl
  obtain ⟨k, hk⟩ : ∃ k : Nat, c.toInt = k := ⟨c.toInt.toNat, by omega⟩
  have hx : c = Int32.ofNat k := Int32.toInt_inj.mp (by rw [hk, Int32.toInt_ofNat_small (by omega)])
  rw [hx]
  exact t ⟨k, by omega⟩
theorem narrow_ch {c : Int32} (h0 : ¬ c < 0) (h1 : ¬ 65535 < c) : narrow .char (.int c) = .int c := by
  have q : narrow .char (.int (pairCh (lo8 c) (hi8 c))) = .int (pairCh (lo8 c) (hi8 c)) := narrow_c _
  rwa [pair_says h0 h1] at q
/-- the array's cell V codes the n chars f 0 .. f (n - 1) by the coder cd, as the JDK does: coder 1 just where some char is above 255 -/
def Cod (cd : Int32) (n : Nat) (f : Nat → Int32) (V : Cell) : Prop := (cd = 0 ∧ V.slots.size = n ∧ ∀ j, j < n → V.slots[j]? = some (.int (lo8 (f j))) ∧ ¬ 255 < f j) ∨ (cd = 1 ∧ V.slots.size = 2 * n ∧ (∀ j, j < n → V.slots[2 * j]? = some (.int (lo8 (f j))) ∧ V.slots[2 * j + 1]? = some (.int (hi8 (f j)))) ∧ ∃ j, j < n ∧ 255 < f j)
theorem Cod.cd {cd : Int32} {n : Nat} {f : Nat → Int32} {V : Cell} (h : Cod cd n f V) : cd = 0 ∨ cd = 1 := h.imp (fun q => q.1) fun q => q.1
theorem Cod.len {cd : Int32} {n : Nat} {f : Nat → Int32} {V : Cell} (h : Cod cd n f V) (hs : V.slots.size < 2 ^ 31) : Int32.ofNat V.slots.size >>> (cd &&& 31) = Int32.ofNat n := by
  rcases h with ⟨rfl, h, -⟩ | ⟨rfl, h, -⟩
  · rw [shr0, h]
  · rw [h, shr1 (by omega)]
/-- **x is a String of the n chars f 0 .. f (n - 1)**, Latin-1 or UTF-16; its array at t has the cell V -/
def Txt (x t : Addr) (V : Cell) (cd : Int32) (n : Nat) (f : Nat → Int32) (U : State) : Prop := Exact "java/lang/String" x U ∧ Has x "java/lang/String" "value" "[B" (.ref t) U ∧ Has x "java/lang/String" "coder" "B" (.int cd) U ∧ XT.Arr .byte t V U ∧ Cod cd n f V ∧ ∀ j, j < n → ¬ f j < 0 ∧ ¬ 65535 < f j
theorem Txt.mv {x t : Addr} {V : Cell} {cd : Int32} {n : Nat} {f : Nat → Int32} {U U' : State} (h : Txt x t V cd n f U) (hal : U.vm.Alike U'.vm) (hh : U'.heap = U.heap) : Txt x t V cd n f U' := ⟨h.1.mv hal hh, h.2.1.mv hal hh, h.2.2.1.mv hal hh, h.2.2.2.1.mv hal hh, h.2.2.2.2⟩
namespace Cdr
def yN : MethodName := ⟨"java/lang/String", "coder", "()B"⟩
abbrev yB : ByteArray := jdk_42_method_152_code
theorem d0 : decode yB 0 = .ok (.getstatic 38, 3) := by decide +kernel
theorem d3 : decode yB 3 = .ok (.ifCond (.eq) 10, 3) := by decide +kernel
theorem d6 : decode yB 6 = .ok (.aload_n 0, 1) := by decide +kernel
theorem d7 : decode yB 7 = .ok (.getfield 15, 3) := by decide +kernel
theorem d10 : decode yB 10 = .ok (.goto 4, 3) := by decide +kernel
theorem d14 : decode yB 14 = .ok (.ireturn, 1) := by decide +kernel
def site : List Cond := [.fieldLink "java/lang/String" 38 "java/lang/String" "COMPACT_STRINGS" "Z", .fieldLink "java/lang/String" 15 "java/lang/String" "coder" "B"]
def tab : Cond := tabOf yN yB 1 (some .byte) site
def P (x : Addr) (cd z : Int32) (args : Array Value) (s : State) : Prop := args = #[.ref x] ∧ Has x "java/lang/String" "coder" "B" (.int cd) s ∧ (cd = 0 ∨ cd = 1) ∧ StaticIs s "java/lang/String" "COMPACT_STRINGS" "Z" (.int z) ∧ ¬ z = 0
def E (cd : Int32) (r : Option Value) (s u : State) : Prop := XT.PureE (some (.int cd)) r s u
theorem law (l : Launch) (x : Addr) (cd z : Int32) : Law l yN 1 0 0 0 yB 1 (some .byte) site (P x cd z) (E cd) [] 0 0 := by
  refine Law.of_walk (plainFor_of_name (by decide +kernel)) (by decide +kernel) (by decide +kernel) (by decide) (fun _ _ h => by rw [h.1]; rfl) (fun _ U U' hal hh h => ⟨h.1, h.2.1.mv hal hh, h.2.2.1, h.2.2.2.1.there hal hh, h.2.2.2.2⟩) (fun r U U' V V' h1 hal h2 h => XT.PureE.mv r U U' V V' h1 hal h2 h) ?_
  intro p e s m args below meth c s₁ X0 hexec hbytes hml hret hlk hnm hown hh0 W hP
  obtain ⟨rfl, hx, hc, s1, hz⟩ := hP
  have c1 : Steps p.tables e below (s₁.setTop (entryFrame m #[.ref x] 1)) (s₁.setTop (mkF m 0 #[.val (.ref x)] [])) := entry rfl
  obtain ⟨T2, X2, q2, st2⟩ := X0.sget hexec hown (wk W (.fieldLink "java/lang/String" 38 "java/lang/String" "COMPACT_STRINGS" "Z")) s1 (fun _ _ h => by rw [hh0]; exact h) (g := (mkF m 0 #[.val (.ref x)] [])) rfl (hb hbytes d0)
  have hh2 := q2.trans hh0
  have c3 : Steps p.tables e below (s₁.setTop (entryFrame m #[.ref x] 1)) (T2.setTop (mkF m 7 #[.val (.ref x)] [.ref x])) := (c1.trans (st2 _ (Steps.refl _))).trans (by
    refine XS.ifNo X2.here hexec rfl (hb hbytes d3) rfl (i0_eq_f hz) ?_
    refine XS.aloadN X2.here hexec rfl (hb hbytes d6) rfl rfl ?_
    exact Steps.refl _)
  obtain ⟨T4, X4, q4, st4⟩ := X2.hget hexec hown (wk W (.fieldLink "java/lang/String" 15 "java/lang/String" "coder" "B")) (hx.mv X2.warmed.alike hh2) (g := (mkF m 7 #[.val (.ref x)] [.ref x])) rfl (rest := []) rfl (hb hbytes d7)
  have c5 : Steps p.tables e below (s₁.setTop (entryFrame m #[.ref x] 1)) (T4.setTop (mkF m 14 #[.val (.ref x)] [.int cd])) := (c3.trans (st4 _ (Steps.refl _))).trans (by
    refine XS.goto X4.here hexec rfl (pc0 := 10) rfl (hb hbytes d10) (by decide) rfl ?_
    exact Steps.refl _)
  exact ⟨T4, some (.int cd), _, _, _, X4, rfl, rfl, rfl, (fun h => by cases h), ⟨rfl, q4.trans hh2⟩, fun fs hl => c5.trans (X4.ireturnOut hexec hret (by rcases hc with rfl | rfl <;> rfl) (Or.inr (Or.inr (Or.inl rfl))) (hb hbytes d14) hl)⟩
end Cdr
namespace Len
def yN : MethodName := ⟨"java/lang/String", "length", "()I"⟩
abbrev yB : ByteArray := jdk_42_method_54_code
theorem d0 : decode yB 0 = .ok (.aload_n 0, 1) := by decide +kernel
theorem d1 : decode yB 1 = .ok (.getfield 9, 3) := by decide +kernel
theorem d4 : decode yB 4 = .ok (.arraylength, 1) := by decide +kernel
theorem d5 : decode yB 5 = .ok (.aload_n 0, 1) := by decide +kernel
theorem d6 : decode yB 6 = .ok (.invokevirtual 335, 3) := by decide +kernel
theorem d9 : decode yB 9 = .ok (.ishr, 1) := by decide +kernel
theorem d10 : decode yB 10 = .ok (.ireturn, 1) := by decide +kernel
def site : List Cond := [.fieldLink "java/lang/String" 9 "java/lang/String" "value" "[B", Cdr.tab] ++ virtW "java/lang/String" 335 "java/lang/String" Cdr.yN Cdr.yN
def tab : Cond := tabOf yN yB 1 (some .int) site
def P (x t : Addr) (V : Cell) (cd : Int32) (n : Nat) (f : Nat → Int32) (z : Int32) (args : Array Value) (s : State) : Prop := args = #[.ref x] ∧ Txt x t V cd n f s ∧ StaticIs s "java/lang/String" "COMPACT_STRINGS" "Z" (.int z) ∧ ¬ z = 0
def E (n : Nat) (r : Option Value) (s u : State) : Prop := XT.PureE (some (.int (Int32.ofNat n))) r s u
/-- length() of a String of n chars, in either coding -/
theorem law (l : Launch) (x t : Addr) (V : Cell) (cd : Int32) (n : Nat) (f : Nat → Int32) (z : Int32) : Law l yN 1 0 1 13 yB 1 (some .int) site (P x t V cd n f z) (E n) [] 0 0 := by
  refine Law.of_walk (plainFor_of_name (by decide +kernel)) (by decide +kernel) (by decide +kernel) (by decide) (fun _ _ h => by rw [h.1]; rfl) (fun _ U U' hal hh h => ⟨h.1, h.2.1.mv hal hh, h.2.2.1.there hal hh, h.2.2.2⟩) (fun r U U' V V' h1 hal h2 h => XT.PureE.mv r U U' V V' h1 hal h2 h) ?_
  intro p e s m args below meth c s₁ X0 hexec hbytes hml hret hlk hnm hown hh0 W hP
  obtain ⟨rfl, hx, s1, hz⟩ := hP
  have v31 := hx.2.2.2.1.2.2.2
  have c1 : Steps p.tables e below (s₁.setTop (entryFrame m #[.ref x] 1)) (s₁.setTop (mkF m 1 #[.val (.ref x)] [.ref x])) := Steps.trans (entry rfl) (by
    show Steps p.tables e below (s₁.setTop (mkF m 0 #[.val (.ref x)] [])) _
    refine XS.aloadN X0.here hexec rfl (hb hbytes d0) rfl rfl ?_
    exact Steps.refl _)
  obtain ⟨T2, X2, q2, st2⟩ := X0.hget hexec hown (wk W (.fieldLink "java/lang/String" 9 "java/lang/String" "value" "[B")) (hx.mv X0.warmed.alike hh0).2.1 (g := (mkF m 1 #[.val (.ref x)] [.ref x])) rfl (rest := []) rfl (hb hbytes d1)
  have hh2 := q2.trans hh0
  have hx2 := hx.mv X2.warmed.alike hh2
  have c3 : Steps p.tables e below (s₁.setTop (entryFrame m #[.ref x] 1)) (T2.setTop (mkF m 6 #[.val (.ref x)] [.ref x, .int (Int32.ofNat V.slots.size)])) := (c1.trans (st2 _ (Steps.refl _))).trans (by
    refine X2.alen hexec hx2.2.2.2.1 rfl rfl (hb hbytes d4) ?_
    refine XS.aloadN X2.here hexec rfl (hb hbytes d5) rfl rfl ?_
    exact Steps.refl _)
  obtain ⟨v4, T4, X4, E4, g4⟩ := X2.callV hexec (Cdr.law l x cd z) hown (wks W (virtW "java/lang/String" 335 "java/lang/String" Cdr.yN Cdr.yN)) rfl (by decide) (wk W Cdr.tab) (W := 1) (Nat.le_of_ble_eq_true rfl) (Nat.le_of_ble_eq_true rfl) (Nat.le_refl _) (Nat.le_refl _) (hx2.1.fc X2.warmed.alike) hx2.1.is (g := (mkF m 6 #[.val (.ref x)] [.ref x, .int (Int32.ofNat V.slots.size)])) rfl (by rw [hml]; rfl) c3 (argsL := []) (rest := [.int (Int32.ofNat V.slots.size)]) rfl rfl (by show 2 * 0 + (1 + 0) ≤ _; decide) (hb hbytes d6) (⟨rfl, hx2.2.2.1, hx.2.2.2.2.1.cd, s1.there X2.warmed.alike hh2, hz⟩)
  obtain ⟨rfl, q4⟩ := E4
  have c5 : Steps p.tables e below (s₁.setTop (entryFrame m #[.ref x] 1)) (T4.setTop (mkF m 10 #[.val (.ref x)] [.int (Int32.ofNat V.slots.size >>> (cd &&& 31))])) := Steps.trans g4 (by
    refine ishr X4.here hexec rfl (hb hbytes d9) rfl ?_
    exact Steps.refl _)
  rw [hx.2.2.2.2.1.len v31] at c5
  exact ⟨T4, some (.int (Int32.ofNat n)), _, _, _, X4, rfl, rfl, rfl, (fun h => by cases h), ⟨rfl, q4.trans hh2⟩, fun fs hl => c5.trans (X4.ireturnOut hexec hret rfl (Or.inl rfl) (hb hbytes d10) hl)⟩
theorem pays {l : Launch} {R : Room} {p : Program} {e : Env} {below : List Frame} {s : State} {sargs : Array Value} {len W : Nat} (x t : Addr) (V : Cell) (cd : Int32) (n : Nat) (f : Nat → Int32) (z : Int32) (htab : tab.before sargs s = true) (hfr : 2 ≤ R.frames) (hlo : W + 25 ≤ R.locals) :
    Back l R p e below s sargs yN len W (fun A₁ a₁ => A₁.cells + 0 ≤ R.cells ∧ A₁.slots + 0 ≤ R.slots ∧ P x t V cd n f z a₁ A₁.U) (fun A₁ _ v₁ B₁ => E n v₁ A₁.U B₁.U ∧ B₁.locs = A₁.locs ++ [] ∧ B₁.cells = A₁.cells + 0 ∧ B₁.slots = A₁.slots + 0) :=
  (law l x t V cd n f z).pays htab hfr (by omega)
end Len
namespace IsL
def yN : MethodName := ⟨"java/lang/String", "isLatin1", "()Z"⟩
abbrev yB : ByteArray := jdk_42_method_154_code
theorem d0 : decode yB 0 = .ok (.getstatic 38, 3) := by decide +kernel
theorem d3 : decode yB 3 = .ok (.ifCond (.eq) 14, 3) := by decide +kernel
theorem d6 : decode yB 6 = .ok (.aload_n 0, 1) := by decide +kernel
theorem d7 : decode yB 7 = .ok (.getfield 15, 3) := by decide +kernel
theorem d10 : decode yB 10 = .ok (.ifCond (.ne) 7, 3) := by decide +kernel
theorem d13 : decode yB 13 = .ok (.iconst 1, 1) := by decide +kernel
theorem d14 : decode yB 14 = .ok (.goto 4, 3) := by decide +kernel
theorem d17 : decode yB 17 = .ok (.iconst 0, 1) := by decide +kernel
theorem d18 : decode yB 18 = .ok (.ireturn, 1) := by decide +kernel
def site : List Cond := [.fieldLink "java/lang/String" 38 "java/lang/String" "COMPACT_STRINGS" "Z", .fieldLink "java/lang/String" 15 "java/lang/String" "coder" "B"]
def tab : Cond := tabOf yN yB 1 (some .boolean) site
def P (x : Addr) (cd z : Int32) (args : Array Value) (s : State) : Prop := args = #[.ref x] ∧ Has x "java/lang/String" "coder" "B" (.int cd) s ∧ (cd = 0 ∨ cd = 1) ∧ StaticIs s "java/lang/String" "COMPACT_STRINGS" "Z" (.int z) ∧ ¬ z = 0
def E (cd : Int32) (r : Option Value) (s u : State) : Prop := XT.PureE (some (.int (1 - cd))) r s u
theorem law (l : Launch) (x : Addr) (cd z : Int32) : Law l yN 1 0 0 0 yB 1 (some .boolean) site (P x cd z) (E cd) [] 0 0 := by
  refine Law.of_walk (plainFor_of_name (by decide +kernel)) (by decide +kernel) (by decide +kernel) (by decide) (fun _ _ h => by rw [h.1]; rfl) (fun _ U U' hal hh h => ⟨h.1, h.2.1.mv hal hh, h.2.2.1, h.2.2.2.1.there hal hh, h.2.2.2.2⟩) (fun r U U' V V' h1 hal h2 h => XT.PureE.mv r U U' V V' h1 hal h2 h) ?_
  intro p e s m args below meth c s₁ X0 hexec hbytes hml hret hlk hnm hown hh0 W hP
  obtain ⟨rfl, hx, hc, s1, hz⟩ := hP
  have c1 : Steps p.tables e below (s₁.setTop (entryFrame m #[.ref x] 1)) (s₁.setTop (mkF m 0 #[.val (.ref x)] [])) := entry rfl
  obtain ⟨T2, X2, q2, st2⟩ := X0.sget hexec hown (wk W (.fieldLink "java/lang/String" 38 "java/lang/String" "COMPACT_STRINGS" "Z")) s1 (fun _ _ h => by rw [hh0]; exact h) (g := (mkF m 0 #[.val (.ref x)] [])) rfl (hb hbytes d0)
  have hh2 := q2.trans hh0
  have c3 : Steps p.tables e below (s₁.setTop (entryFrame m #[.ref x] 1)) (T2.setTop (mkF m 7 #[.val (.ref x)] [.ref x])) := (c1.trans (st2 _ (Steps.refl _))).trans (by
    refine XS.ifNo X2.here hexec rfl (hb hbytes d3) rfl (i0_eq_f hz) ?_
    refine XS.aloadN X2.here hexec rfl (hb hbytes d6) rfl rfl ?_
    exact Steps.refl _)
  obtain ⟨T4, X4, q4, st4⟩ := X2.hget hexec hown (wk W (.fieldLink "java/lang/String" 15 "java/lang/String" "coder" "B")) (hx.mv X2.warmed.alike hh2) (g := (mkF m 7 #[.val (.ref x)] [.ref x])) rfl (rest := []) rfl (hb hbytes d7)
  have c5 : Steps p.tables e below (s₁.setTop (entryFrame m #[.ref x] 1)) (T4.setTop (mkF m 10 #[.val (.ref x)] [.int cd])) := c3.trans (st4 _ (Steps.refl _))
  have c6 : Steps p.tables e below (s₁.setTop (entryFrame m #[.ref x] 1)) (T4.setTop (mkF m 18 #[.val (.ref x)] [.int (1 - cd)])) := by
    rcases hc with rfl | rfl
    · exact c5.trans (by
        refine XS.ifNo X4.here hexec rfl (hb hbytes d10) rfl (i0_ne_f rfl) ?_
        refine iconstV X4.here hexec rfl 1 (hb hbytes d13) (by decide) ?_
        refine XS.goto X4.here hexec rfl (pc0 := 14) rfl (hb hbytes d14) (by decide) rfl ?_
        exact Steps.refl _)
    · exact c5.trans (by
        refine XS.ifYes X4.here hexec rfl (pc0 := 10) rfl (hb hbytes d10) rfl (i0_ne_t (by decide)) (by decide) rfl ?_
        refine iconstV X4.here hexec rfl 0 (hb hbytes d17) (by decide) ?_
        exact Steps.refl _)
  exact ⟨T4, some (.int (1 - cd)), _, _, _, X4, rfl, rfl, rfl, (fun h => by cases h), ⟨rfl, q4.trans hh2⟩, fun fs hl => c6.trans (X4.ireturnOut hexec hret (by rcases hc with rfl | rfl <;> rfl) (Or.inr (Or.inl rfl)) (hb hbytes d18) hl)⟩
end IsL
namespace LChA
def yN : MethodName := ⟨"java/lang/StringLatin1", "charAt", "([BI)C"⟩
abbrev yB : ByteArray := jdk_43_method_2_code
theorem d0 : decode yB 0 = .ok (.iload_n 1, 1) := by decide +kernel
theorem d1 : decode yB 1 = .ok (.aload_n 0, 1) := by decide +kernel
theorem d2 : decode yB 2 = .ok (.arraylength, 1) := by decide +kernel
theorem d3 : decode yB 3 = .ok (.invokestatic 9, 3) := by decide +kernel
theorem d6 : decode yB 6 = .ok (.aload_n 0, 1) := by decide +kernel
theorem d7 : decode yB 7 = .ok (.iload_n 1, 1) := by decide +kernel
theorem d8 : decode yB 8 = .ok (.baload, 1) := by decide +kernel
theorem d9 : decode yB 9 = .ok (.sipush 255, 3) := by decide +kernel
theorem d12 : decode yB 12 = .ok (.iand, 1) := by decide +kernel
theorem d13 : decode yB 13 = .ok (.i2c, 1) := by decide +kernel
theorem d14 : decode yB 14 = .ok (.ireturn, 1) := by decide +kernel
def site : List Cond := [JO.Str_checkIndex.tab] ++ staticW "java/lang/StringLatin1" 9 JO.Str_checkIndex.yN
def tab : Cond := tabOf yN yB 2 (some .char) site
def P (t : Addr) (V : Cell) (i : Nat) (u : Int32) (fm : Value) (args : Array Value) (s : State) : Prop := args = #[.ref t, .int (Int32.ofNat i)] ∧ XT.Arr .byte t V s ∧ V.slots[i]? = some (.int u) ∧ (StaticIs s "jdk/internal/util/Preconditions" "SIOOBE_FORMATTER" "Ljava/util/function/BiFunction;" fm ∧ fm.isRef = true)
def E (u : Int32) (r : Option Value) (s w : State) : Prop := XT.PureE (some (.int (chr8 u))) r s w
theorem law (l : Launch) (t : Addr) (V : Cell) (i : Nat) (u : Int32) (fm : Value) : Law l yN 2 2 2 27 yB 2 (some .char) site (P t V i u fm) (E u) [] 0 0 := by
  refine Law.of_walk (plainFor_of_name (by decide +kernel)) (by decide +kernel) (by decide +kernel) (by decide) (fun _ _ h => by rw [h.1]; rfl) (fun _ U U' hal hh h => ⟨h.1, h.2.1.mv hal hh, h.2.2.1, h.2.2.2.1.there hal hh, h.2.2.2.2⟩) (fun r U U' V V' h1 hal h2 h => XT.PureE.mv r U U' V V' h1 hal h2 h) ?_
  intro p e s m args below meth c s₁ X0 hexec hbytes hml hret hlk hnm hown hh0 W hP
  obtain ⟨rfl, hV, hu, s1, rf⟩ := hP
  have v31 := hV.2.2.2
  have hi : i < V.slots.size := (Array.getElem?_eq_some_iff.mp hu).1
  have c1 : Steps p.tables e below (s₁.setTop (entryFrame m #[.ref t, .int (Int32.ofNat i)] 2)) (s₁.setTop (mkF m 0 #[.val (.ref t), .val (.int (Int32.ofNat i))] [])) := entry rfl
  have c2 : Steps p.tables e below (s₁.setTop (entryFrame m #[.ref t, .int (Int32.ofNat i)] 2)) (s₁.setTop (mkF m 3 #[.val (.ref t), .val (.int (Int32.ofNat i))] [.int (Int32.ofNat V.slots.size), .int (Int32.ofNat i)])) := c1.trans (by
    refine XS.iloadN X0.here hexec rfl (hb hbytes d0) rfl ?_
    refine XS.aloadN X0.here hexec rfl (hb hbytes d1) rfl rfl ?_
    refine X0.alen hexec (hV.mv X0.warmed.alike hh0) rfl rfl (hb hbytes d2) ?_
    exact Steps.refl _)
  obtain ⟨v3, T3, X3, E3, g3⟩ := X0.callS hexec (JO.Str_checkIndex.law l (Int32.ofNat i) (Int32.ofNat V.slots.size) fm) hown (wks W (staticW "java/lang/StringLatin1" 9 JO.Str_checkIndex.yN)) (wk W JO.Str_checkIndex.tab) (W := 0) (Nat.le_of_ble_eq_true rfl) (Nat.le_of_ble_eq_true rfl) (Nat.le_refl _) (Nat.le_refl _) (g := (mkF m 3 #[.val (.ref t), .val (.int (Int32.ofNat i))] [.int (Int32.ofNat V.slots.size), .int (Int32.ofNat i)])) rfl (by rw [hml]; rfl) c2 (argsL := [.int (Int32.ofNat i), .int (Int32.ofNat V.slots.size)]) (rest := []) rfl rfl (by show 2 * 0 + 0 ≤ _; decide) (hb hbytes d3) (⟨rfl, rf, s1.there X0.warmed.alike hh0, Int32.ofNat_not_neg (by omega), lt32 v31 hi⟩)
  obtain ⟨rfl, q3⟩ := E3
  have hh3 := q3.trans hh0
  have c4 : Steps p.tables e below (s₁.setTop (entryFrame m #[.ref t, .int (Int32.ofNat i)] 2)) (T3.setTop (mkF m 14 #[.val (.ref t), .val (.int (Int32.ofNat i))] [.int (chr8 u)])) := Steps.trans g3 (by
    refine XS.aloadN X3.here hexec rfl (hb hbytes d6) rfl rfl ?_
    refine XS.iloadN X3.here hexec rfl (hb hbytes d7) rfl ?_
    refine X3.aget hexec (hV.mv X3.warmed.alike hh3) rfl hu rfl rfl (hb hbytes d8) ?_
    refine sipushV X3.here hexec rfl 255 (hb hbytes d9) (by decide) ?_
    refine XS.iand X3.here hexec rfl (hb hbytes d12) rfl ?_
    refine i2c X3.here hexec rfl (hb hbytes d13) rfl ?_
    exact Steps.refl _)
  exact ⟨T3, some (.int (chr8 u)), _, _, _, X3, rfl, rfl, rfl, (fun h => by cases h), ⟨rfl, hh3⟩, fun fs hl => c4.trans (X3.ireturnOut hexec hret (narrow_c _) (Or.inr (Or.inr (Or.inr (Or.inl rfl)))) (hb hbytes d14) hl)⟩
end LChA
end StrChars
namespace StrChars.Road
open Jvm Sem ClassFile Op Lib Jvm.Stand Jvm.Free Jvm.Free.XT
open Jvm.Lib.Cold (StaticIs)
theorem consq {a : Array Value} {s : State} {c : Jvm.Cond} {L : List Jvm.Cond} (h0 : c.before a s = true) (h : ∀ w ∈ L, w.before a s = true) : ∀ w ∈ c :: L, w.before a s = true := fun w hw => (List.mem_cons.mp hw).elim (fun e => e ▸ h0) (h w)
/-- the words of String.length(), either coding -/
abbrev wordsLen : List Jvm.Cond := [.code Len.yN Len.yB 1 (some .int), .initialized ST, .fieldLink ST 9 ST "value" "[B", .fieldLink ST 38 ST "COMPACT_STRINGS" "Z", .fieldLink ST 15 ST "coder" "B", .code Cdr.yN Cdr.yB 1 (some .byte), .methodLink ST 335 Cdr.yN, .declares Cdr.yN, .selects ST Cdr.yN Cdr.yN, .instanceMethod Cdr.yN]
theorem tabLen_of {a : Array Value} {s : State} (h : ∀ w ∈ wordsLen, w.before a s = true) : Len.tab.before a s = true := by
  have hc : Cdr.tab.before a s = true := unparts (wk h (.code Cdr.yN Cdr.yB 1 (some .byte))) (wks h (.initialized Cdr.yN.cls :: Cdr.site))
  have q := consq hc h
  exact unparts (wk q (.code Len.yN Len.yB 1 (some .int))) (wks q (.initialized Len.yN.cls :: Len.site))
theorem movedLen {Z s : State} {a0 args : Array Value} (hZ : Z.Warmed39 s.vm) (hw : ∀ d ∈ wordsLen, d.before a0 Z = true) : ∀ d ∈ wordsLen, d.before args s = true := fun d hd => by
  have q := hw d hd
  have t : ∀ d ∈ wordsLen, d = .arrayClass .byte ∨ (d.onTables && d.keepsFace) = true := by decide +kernel
  rcases t d hd with rfl | t
  · exact RoadKit.mvA hZ q
  · exact RoadKit.mv hZ q t
/-- the bytes of the chars cs, low before high -/
def wideBytes : List Int32 → List Value
  | [] => []
  | c :: cs => .int (lo8 c) :: .int (hi8 c) :: wideBytes cs
theorem wide_lo (d : Value) : ∀ (cs : List Int32) (j : Nat), j < cs.length → (wideBytes cs).getD (2 * j) d = .int (lo8 (cs.getD j 0))
  | [], j, h => absurd h (Nat.not_lt_zero j)
  | c :: cs, 0, _ => rfl
  | c :: cs, j + 1, h => by
    have q := wide_lo d cs j (by simpa using h)
    rw [show 2 * (j + 1) = 2 * j + 1 + 1 from by omega]
    simpa [wideBytes] using q
theorem wide_hi (d : Value) : ∀ (cs : List Int32) (j : Nat), j < cs.length → (wideBytes cs).getD (2 * j + 1) d = .int (hi8 (cs.getD j 0))
  | [], j, h => absurd h (Nat.not_lt_zero j)
  | c :: cs, 0, _ => rfl
  | c :: cs, j + 1, h => by
    have q := wide_hi d cs j (by simpa using h)
    rw [show 2 * (j + 1) + 1 = 2 * j + 1 + 1 + 1 from by omega]
    simpa [wideBytes] using q
theorem low_at (d : Value) (cs : List Int32) (j : Nat) (h : j < cs.length) : (cs.map fun c => Value.int (lo8 c)).getD j d = .int (lo8 (cs.getD j 0)) := by
  simp [List.getD_eq_getElem?_getD, h]
/-- an array of N2 bytes vs codes the chars cs by the coder cd -/
def CodA (cs : List Int32) (cd N2 : Int32) (vs : List Value) : Prop := (cd = 0 ∧ N2 = Int32.ofNat cs.length ∧ vs = (cs.map fun c => Value.int (lo8 c)) ∧ ∀ c ∈ cs, ¬ 255 < c) ∨ (cd = 1 ∧ N2 = Int32.ofNat (2 * cs.length) ∧ vs = wideBytes cs ∧ ∃ c ∈ cs, 255 < c)
theorem CodA.cod {cs : List Int32} {cd N2 : Int32} {vs : List Value} {V : Cell} (h : CodA cs cd N2 vs) (hn : 2 * cs.length < 2 ^ 31) (hs : V.slots.size = N2.toNatClampNeg) (hv : RoadKit.Has V vs (.int 0)) : Cod cd cs.length (fun j => cs.getD j 0) V := by
  rcases h with ⟨rfl, rfl, rfl, h⟩ | ⟨rfl, rfl, rfl, c, hc, hw⟩
  · rw [n32 (by omega)] at hs
    exact Or.inl ⟨rfl, hs, fun j hj => ⟨by rw [hv j (by omega), low_at _ _ _ hj], by
      have e : cs.getD j 0 = cs[j] := by simp [List.getD_eq_getElem?_getD, hj]
      show ¬ 255 < cs.getD j 0
      rw [e]; exact h _ (List.getElem_mem _)⟩⟩
  · rw [n32 (by omega)] at hs
    obtain ⟨j, hj, rfl⟩ := List.getElem_of_mem hc
    exact Or.inr ⟨rfl, hs, fun j hj => ⟨by rw [hv _ (by omega), wide_lo _ _ _ hj], by rw [hv _ (by omega), wide_hi _ _ _ hj]⟩, j, hj, by
      have e : cs.getD j 0 = cs[j] := by simp [List.getD_eq_getElem?_getD, hj]
      show 255 < cs.getD j 0
      rw [e]; exact hw⟩
/-- an object of exactly java/lang/String, its two fields found: as the laws ask it -/
theorem strObj {Z U : State} {a0 : Array Value} {kI : Nat} (wi : (Jvm.Cond.instantiable ST kI).before a0 Z = true) (al : Z.vm.Alike U.vm) {x : Addr} {v0 c0 : Value} (E : RoadKit.Exa Z U.heap x ST) (V : RoadKit.Fld Z U.heap x ST "value" "[B" v0) (C : RoadKit.Fld Z U.heap x ST "coder" "B" c0) :
    ∃ (D : Cell) (fV fC : Field), Blank ST x D U ∧ Found ST "value" "[B" fV U ∧ Found ST "coder" "B" fC U ∧ D.slots[fV.slot]? = some v0 ∧ D.slots[fC.slot]? = some c0 ∧ RoadKit.slotOf Z ST "value" "[B" = fV.slot ∧ RoadKit.slotOf Z ST "coder" "B" = fC.slot := by
  obtain ⟨D, cfV, kV, iV, fV, hD, gV, stV, knV, obV, asV, slV⟩ := V
  obtain ⟨D', cfC, kC, iC, fC, hD', gC, stC, -, -, asC, slC⟩ := C
  cases hD.symm.trans hD'
  obtain ⟨D2, kD, e1, e2, e3, e4, e5⟩ := E
  cases hD.symm.trans e1
  obtain ⟨c2, k2, i1, i2, i3, -⟩ := Cond.instantiable_spec wi
  cases e2.symm.trans i1
  cases e3.symm.trans i2
  obtain ⟨kU, u1, u2⟩ := al.2.2 _ _ e3
  exact ⟨D, fV, fC, ⟨hD, ⟨knV, fun q hq => by rw [hq] at obV; cases obV⟩, by rw [al.findClass]; exact e2, kU, u1, by rw [u2]; exact i3, by rw [u2]; exact e5 i3⟩, ⟨SBG.found_only al ⟨cfV, kV, iV, gV⟩, stV⟩, ⟨SBG.found_only al ⟨cfC, kC, iC, gC⟩, stC⟩, slV, slC, by simp [RoadKit.slotOf, gV], by simp [RoadKit.slotOf, gC]⟩
theorem sta_is {Z U : State} (al : Z.vm.Alike U.vm) {C n d : String} {v : Value} (S : RoadKit.Sta Z U.heap C n d v) : StaticIs U C n d v := by
  obtain ⟨cfS, iS, kS, fS, st, cS, t1, t2, t3, t4, t5, t6, t7⟩ := S
  exact StaticIs.there (s := { Z with heap := U.heap }) ⟨cfS, iS, kS, fS, st, cS, t1, t2, t3, t4, t5, (fun q => by rw [q] at t6; cases t6), t7⟩ al rfl
/-- **length() OF SUCH A STRING** -/
theorem lenW {p : Program} {l : Launch} {e : Env} {R : Room} {s : State} {args : Array Value} {below : List Frame} {len W : Nat} {Z : State} {a0 : Array Value} {h : Heap} (hZ : Z.Warmed39 s.vm) (hw : ∀ d ∈ wordsLen, d.before a0 Z = true) {kI : Nat} (wi : (Jvm.Cond.instantiable ST kI).before a0 Z = true)
    {x t : Addr} {kb : ClassId} {cs : List Int32} {cd N2 z : Int32} {vs : List Value} (E : RoadKit.Exa Z h x ST) (V : RoadKit.Fld Z h x ST "value" "[B" (.ref t)) (C : RoadKit.Fld Z h x ST "coder" "B" (.int cd)) (K : RoadKit.Arv Z h t kb .byte N2 vs (.int 0)) (hc : CodA cs cd N2 vs) (hb : ∀ c ∈ cs, ¬ c < 0 ∧ ¬ (65535 : Int32) < c)
    (S : RoadKit.Sta Z h ST "COMPACT_STRINGS" "Z" (.int z)) (hz : ¬ z = 0) (l2 : cs.length ≤ 4000) (hfr : 2 ≤ R.frames) (hlo : W + 25 ≤ R.locals) :
    Back l R p e below s args (⟨"java/lang/String", "length", "()I"⟩ : MethodName) len W (fun P a => a = #[.ref x] ∧ P.U.heap = h ∧ P.cells + 0 ≤ R.cells ∧ P.slots + 0 ≤ R.slots)
      (fun P _ v B => ∃ L, (v = some (.int (Int32.ofNat cs.length)) ∧ L = [] ∧ B.U.heap = h) ∧ B.locs = P.locs ++ L ∧ B.cells = P.cells + 0 ∧ B.slots = P.slots + 0) := by
  obtain ⟨A, K1, K2, K3, K4, K5, K6⟩ := K
  have hcod := hc.cod (by omega) K3 K5
  intro m meth c P g ig mk a X hg hsize hdg hW hn hp'
  obtain ⟨rfl, rfl, r1, r2⟩ := hp'
  have al : Z.vm.Alike P.U.vm := hZ.alike.trans X.warmed.alike
  obtain ⟨D, fV, fC, hB, F1, F2, g1, g2, -, -⟩ := strObj wi al E V C
  have hx : Txt x t A cd cs.length (fun j => cs.getD j 0) P.U := ⟨⟨_, hB.2.2.1, D, hB.1, rfl, by cases q : D.vm <;> first | rfl | exact absurd q (hB.2.1.2 _)⟩, Has.of hB F1 g1, Has.of hB F2 g2, ⟨K1.1, State.isArrayOf_alike al K1.2.1, K1.2.2, by rcases hcod with ⟨-, q, -⟩ | ⟨-, q, -⟩ <;> omega⟩, hcod, fun j hj => by
    have e : cs.getD j 0 = cs[j] := by simp [List.getD_eq_getElem?_getD, hj]
    show ¬ cs.getD j 0 < 0 ∧ ¬ 65535 < cs.getD j 0
    rw [e]; exact hb _ (List.getElem_mem _)⟩
  obtain ⟨v, B, X', ⟨⟨hv, hh⟩, hl, hk, hs⟩, st⟩ := Len.pays x t A cd cs.length (fun j => cs.getD j 0) z (tabLen_of (movedLen hZ hw)) hfr hlo m meth c P g ig mk _ X hg hsize hdg hW hn ⟨r1, r2, rfl, hx, sta_is al S, hz⟩
  exact ⟨v, B, X', ⟨[], ⟨hv, rfl, hh⟩, hl, hk, hs⟩, st⟩
end StrChars.Road
namespace StrChars.Road
open Jvm Sem ClassFile Op Lib Jvm.Stand Jvm.Free Jvm.Free.XT
open Jvm.Lib.Cold (StaticIs)
/-- the road's facts of a String, as the laws ask it -/
theorem txt_of {Z U : State} {a0 : Array Value} {kI : Nat} (wi : (Jvm.Cond.instantiable ST kI).before a0 Z = true) (al : Z.vm.Alike U.vm) {x t : Addr} {kb : ClassId} {cs : List Int32} {cd N2 : Int32} {vs : List Value} (E : RoadKit.Exa Z U.heap x ST) (V : RoadKit.Fld Z U.heap x ST "value" "[B" (.ref t)) (C : RoadKit.Fld Z U.heap x ST "coder" "B" (.int cd)) (K : RoadKit.Arv Z U.heap t kb .byte N2 vs (.int 0)) (hc : CodA cs cd N2 vs) (hb : ∀ c ∈ cs, ¬ c < 0 ∧ ¬ (65535 : Int32) < c) (l2 : cs.length ≤ 4000) :
    ∃ A, Txt x t A cd cs.length (fun j => cs.getD j 0) U := by
  obtain ⟨A, K1, K2, K3, K4, K5, K6⟩ := K
  have hcod := hc.cod (by omega) K3 K5
  obtain ⟨D, fV, fC, hB, F1, F2, g1, g2, -, -⟩ := strObj wi al E V C
  exact ⟨A, ⟨_, hB.2.2.1, D, hB.1, rfl, by cases q : D.vm <;> first | rfl | exact absurd q (hB.2.1.2 _)⟩, Has.of hB F1 g1, Has.of hB F2 g2, ⟨K1.1, State.isArrayOf_alike al K1.2.1, K1.2.2, by rcases hcod with ⟨-, q, -⟩ | ⟨-, q, -⟩ <;> omega⟩, hcod, fun j hj => by
    have e : cs.getD j 0 = cs[j] := by simp [List.getD_eq_getElem?_getD, hj]
    show ¬ cs.getD j 0 < 0 ∧ ¬ 65535 < cs.getD j 0
    rw [e]; exact hb _ (List.getElem_mem _)⟩
end StrChars.Road
namespace StrChars
open Jvm Sem ClassFile Op Lib Jvm.Stand Jvm.Free.XT Jvm.Free.ALB Jvm.Free.JM Jvm.Free
open Jvm.Lib.Cold (StaticIs)
namespace ChN
def yN : MethodName := ⟨"java/lang/String", "charAt", "(I)C"⟩
abbrev yB : ByteArray := jdk_42_method_56_code
theorem d0 : decode yB 0 = .ok (.aload_n 0, 1) := by decide +kernel
theorem d1 : decode yB 1 = .ok (.invokevirtual 492, 3) := by decide +kernel
theorem d4 : decode yB 4 = .ok (.ifCond (.eq) 12, 3) := by decide +kernel
theorem d7 : decode yB 7 = .ok (.aload_n 0, 1) := by decide +kernel
theorem d8 : decode yB 8 = .ok (.getfield 9, 3) := by decide +kernel
theorem d11 : decode yB 11 = .ok (.iload_n 1, 1) := by decide +kernel
theorem d12 : decode yB 12 = .ok (.invokestatic 495, 3) := by decide +kernel
theorem d15 : decode yB 15 = .ok (.ireturn, 1) := by decide +kernel
def site : List Cond := [.fieldLink "java/lang/String" 9 "java/lang/String" "value" "[B", IsL.tab, LChA.tab] ++ virtW "java/lang/String" 492 "java/lang/String" IsL.yN IsL.yN ++ staticW "java/lang/String" 495 LChA.yN
def tab : Cond := tabOf yN yB 2 (some .char) site
def P (x t : Addr) (V : Cell) (n : Nat) (f : Nat → Int32) (z : Int32) (fm : Value) (i : Nat) (args : Array Value) (s : State) : Prop := args = #[.ref x, .int (Int32.ofNat i)] ∧ Txt x t V 0 n f s ∧ i < n ∧ StaticIs s "java/lang/String" "COMPACT_STRINGS" "Z" (.int z) ∧ ¬ z = 0 ∧ StaticIs s "jdk/internal/util/Preconditions" "SIOOBE_FORMATTER" "Ljava/util/function/BiFunction;" fm ∧ fm.isRef = true
def E (f : Nat → Int32) (i : Nat) (r : Option Value) (s u : State) : Prop := XT.PureE (some (.int (f i))) r s u
/-- charAt(i) of a Latin-1 String of n chars, i < n: f i -/
theorem law (l : Launch) (x t : Addr) (V : Cell) (n : Nat) (f : Nat → Int32) (z : Int32) (fm : Value) (i : Nat) : Law l yN 2 1 3 40 yB 2 (some .char) site (P x t V n f z fm i) (E f i) [] 0 0 := by
  refine Law.of_walk (plainFor_of_name (by decide +kernel)) (by decide +kernel) (by decide +kernel) (by decide) (fun _ _ h => by rw [h.1]; rfl) (fun _ U U' hal hh h => ⟨h.1, h.2.1.mv hal hh, h.2.2.1, h.2.2.2.1.there hal hh, h.2.2.2.2.1, h.2.2.2.2.2.1.there hal hh, h.2.2.2.2.2.2⟩) (fun r U U' V V' h1 hal h2 h => XT.PureE.mv r U U' V V' h1 hal h2 h) ?_
  intro p e s m args below meth c s₁ X0 hexec hbytes hml hret hlk hnm hown hh0 W hP
  obtain ⟨rfl, hx, hi, s1, hz, s3, rf⟩ := hP
  have v31 := hx.2.2.2.1.2.2.2
  have hr := hx.2.2.2.2.2 i hi
  have hx0 := hx.mv X0.warmed.alike hh0
  have c1 : Steps p.tables e below (s₁.setTop (entryFrame m #[.ref x, .int (Int32.ofNat i)] 2)) (s₁.setTop (mkF m 1 #[.val (.ref x), .val (.int (Int32.ofNat i))] [.ref x])) := Steps.trans (entry rfl) (by
    show Steps p.tables e below (s₁.setTop (mkF m 0 #[.val (.ref x), .val (.int (Int32.ofNat i))] [])) _
    refine XS.aloadN X0.here hexec rfl (hb hbytes d0) rfl rfl ?_
    exact Steps.refl _)
  obtain ⟨v2, T2, X2, E2, g2⟩ := X0.callV hexec (IsL.law l x 0 z) hown (wks W (virtW "java/lang/String" 492 "java/lang/String" IsL.yN IsL.yN)) rfl (by decide) (wk W IsL.tab) (W := 0) (Nat.le_of_ble_eq_true rfl) (Nat.le_of_ble_eq_true rfl) (Nat.le_refl _) (Nat.le_refl _) (hx0.1.fc X0.warmed.alike) hx0.1.is (g := (mkF m 1 #[.val (.ref x), .val (.int (Int32.ofNat i))] [.ref x])) rfl (by rw [hml]; rfl) c1 (argsL := []) (rest := []) rfl rfl (by show 2 * 0 + 0 ≤ _; decide) (hb hbytes d1) (⟨rfl, hx0.2.2.1, hx.2.2.2.2.1.cd, s1.there X0.warmed.alike hh0, hz⟩)
  obtain ⟨rfl, q2⟩ := E2
  have hh2 := q2.trans hh0
  have hx2 := hx.mv X2.warmed.alike hh2
  obtain ⟨-, k1, k2⟩ | ⟨k0, -⟩ := hx.2.2.2.2.1
  · have c3 : Steps p.tables e below (s₁.setTop (entryFrame m #[.ref x, .int (Int32.ofNat i)] 2)) (T2.setTop (mkF m 8 #[.val (.ref x), .val (.int (Int32.ofNat i))] [.ref x])) := Steps.trans g2 (by
      refine XS.ifNo X2.here hexec rfl (hb hbytes d4) rfl (i0_eq_f (by decide)) ?_
      refine XS.aloadN X2.here hexec rfl (hb hbytes d7) rfl rfl ?_
      exact Steps.refl _)
    obtain ⟨T4, X4, q4, st4⟩ := X2.hget hexec hown (wk W (.fieldLink "java/lang/String" 9 "java/lang/String" "value" "[B")) hx2.2.1 (g := (mkF m 8 #[.val (.ref x), .val (.int (Int32.ofNat i))] [.ref x])) rfl (rest := []) rfl (hb hbytes d8)
    have hh4 := q4.trans hh2
    have c5 : Steps p.tables e below (s₁.setTop (entryFrame m #[.ref x, .int (Int32.ofNat i)] 2)) (T4.setTop (mkF m 12 #[.val (.ref x), .val (.int (Int32.ofNat i))] [.int (Int32.ofNat i), .ref t])) := (c3.trans (st4 _ (Steps.refl _))).trans (by
      refine XS.iloadN X4.here hexec rfl (hb hbytes d11) rfl ?_
      exact Steps.refl _)
    obtain ⟨v6, T6, X6, E6, g6⟩ := X4.callS hexec (LChA.law l t V i (lo8 (f i)) fm) hown (wks W (staticW "java/lang/String" 495 LChA.yN)) (wk W LChA.tab) (W := 0) (Nat.le_of_ble_eq_true rfl) (Nat.le_of_ble_eq_true rfl) (Nat.le_refl _) (Nat.le_refl _) (g := (mkF m 12 #[.val (.ref x), .val (.int (Int32.ofNat i))] [.int (Int32.ofNat i), .ref t])) rfl (by rw [hml]; rfl) c5 (argsL := [.ref t, .int (Int32.ofNat i)]) (rest := []) rfl rfl (by show 2 * 0 + 0 ≤ _; decide) (hb hbytes d12) (⟨rfl, hx.2.2.2.1.mv X4.warmed.alike hh4, (k2 i hi).1, s3.there X4.warmed.alike hh4, rf⟩)
    obtain ⟨rfl, q6⟩ := E6
    rw [chr8_lo8 hr.1 (k2 i hi).2] at g6
    exact ⟨T6, some (.int (f i)), _, _, _, X6, rfl, rfl, rfl, (fun h => by cases h), ⟨rfl, q6.trans hh4⟩, fun fs hl => Steps.trans g6 (X6.ireturnOut hexec hret (narrow_ch hr.1 hr.2) (Or.inr (Or.inr (Or.inr (Or.inl rfl)))) (hb hbytes d15) hl)⟩
  · exact absurd k0 (by decide)
theorem pays {l : Launch} {R : Room} {p : Program} {e : Env} {below : List Frame} {s : State} {sargs : Array Value} {len W : Nat} (x t : Addr) (V : Cell) (n : Nat) (f : Nat → Int32) (z : Int32) (fm : Value) (i : Nat) (htab : tab.before sargs s = true) (hfr : 4 ≤ R.frames) (hlo : W + 53 ≤ R.locals) :
    Back l R p e below s sargs yN len W (fun A₁ a₁ => A₁.cells + 0 ≤ R.cells ∧ A₁.slots + 0 ≤ R.slots ∧ P x t V n f z fm i a₁ A₁.U) (fun A₁ _ v₁ B₁ => E f i v₁ A₁.U B₁.U ∧ B₁.locs = A₁.locs ++ [] ∧ B₁.cells = A₁.cells + 0 ∧ B₁.slots = A₁.slots + 0) :=
  (law l x t V n f z fm i).pays htab hfr (by omega)
end ChN
end StrChars
namespace StrChars.Road
open Jvm Sem ClassFile Op Lib Jvm.Stand Jvm.Free Jvm.Free.XT
open Jvm.Lib.Cold (StaticIs)
/-- the words of String.charAt(int), the Latin-1 road alone -/
abbrev wordsChN : List Jvm.Cond := [.code ChN.yN ChN.yB 2 (some .char), .initialized ST, .fieldLink ST 9 ST "value" "[B", .fieldLink ST 38 ST "COMPACT_STRINGS" "Z", .fieldLink ST 15 ST "coder" "B", .code IsL.yN IsL.yB 1 (some .boolean), .methodLink ST 492 IsL.yN, .declares IsL.yN, .selects ST IsL.yN IsL.yN, .instanceMethod IsL.yN,
  .methodLink ST 495 LChA.yN, .static LChA.yN, .code LChA.yN LChA.yB 2 (some .char), .initialized "java/lang/StringLatin1", .methodLink "java/lang/StringLatin1" 9 JO.Str_checkIndex.yN, .static JO.Str_checkIndex.yN, .code JO.Str_checkIndex.yN JO.Str_checkIndex.yB 2 none,
  .fieldLink ST 1053 "jdk/internal/util/Preconditions" "SIOOBE_FORMATTER" "Ljava/util/function/BiFunction;", .methodLink ST 1059 JC.PreCheck.yN, .static JC.PreCheck.yN, .code JC.PreCheck.yN JC.PreCheck.yB 3 (some .int), .initialized "jdk/internal/util/Preconditions"]
theorem tabChN_of {a : Array Value} {s : State} (h : ∀ w ∈ wordsChN, w.before a s = true) : ChN.tab.before a s = true := by
  have hp : JC.PreCheck.tab.before a s = true := unparts (wk h (.code JC.PreCheck.yN JC.PreCheck.yB 3 (some .int))) (wks h (.initialized JC.PreCheck.yN.cls :: JC.PreCheck.site))
  have qk := consq hp h
  have hk : JO.Str_checkIndex.tab.before a s = true := unparts (wk qk (.code JO.Str_checkIndex.yN JO.Str_checkIndex.yB 2 none)) (wks qk (.initialized JO.Str_checkIndex.yN.cls :: JO.Str_checkIndex.site))
  have ql := consq hk h
  have hl : LChA.tab.before a s = true := unparts (wk ql (.code LChA.yN LChA.yB 2 (some .char))) (wks ql (.initialized LChA.yN.cls :: LChA.site))
  have hi : IsL.tab.before a s = true := unparts (wk h (.code IsL.yN IsL.yB 1 (some .boolean))) (wks h (.initialized IsL.yN.cls :: IsL.site))
  have q := consq hi (consq hl h)
  exact unparts (wk q (.code ChN.yN ChN.yB 2 (some .char))) (wks q (.initialized ChN.yN.cls :: ChN.site))
theorem movedChN {Z s : State} {a0 args : Array Value} (hZ : Z.Warmed39 s.vm) (hw : ∀ d ∈ wordsChN, d.before a0 Z = true) : ∀ d ∈ wordsChN, d.before args s = true := fun d hd => by
  have t : ∀ d ∈ wordsChN, (d.onTables && d.keepsFace) = true := by decide +kernel
  exact RoadKit.mv hZ (hw d hd) (t d hd)
/-- **charAt(i) OF A LATIN-1 STRING**, i < n: the char -/
theorem chN {p : Program} {l : Launch} {e : Env} {R : Room} {s : State} {args : Array Value} {below : List Frame} {len W : Nat} {Z : State} {a0 : Array Value} {h : Heap} (hZ : Z.Warmed39 s.vm) (hw : ∀ d ∈ wordsChN, d.before a0 Z = true) {kI : Nat} (wi : (Jvm.Cond.instantiable ST kI).before a0 Z = true)
    {x t : Addr} {kb : ClassId} {cs : List Int32} {N2 z : Int32} {vs : List Value} {fm : Value} {i : Nat} {j : Int32} (E : RoadKit.Exa Z h x ST) (V : RoadKit.Fld Z h x ST "value" "[B" (.ref t)) (C : RoadKit.Fld Z h x ST "coder" "B" (.int 0)) (K : RoadKit.Arv Z h t kb .byte N2 vs (.int 0)) (hc : CodA cs 0 N2 vs) (hb : ∀ c ∈ cs, ¬ c < 0 ∧ ¬ (65535 : Int32) < c)
    (S : RoadKit.Sta Z h ST "COMPACT_STRINGS" "Z" (.int z)) (hz : ¬ z = 0) (F : RoadKit.Sta Z h "jdk/internal/util/Preconditions" "SIOOBE_FORMATTER" "Ljava/util/function/BiFunction;" fm) (rf : fm.isRef = true) (l2 : cs.length ≤ 4000) (hi : i < cs.length) (hj : j = Int32.ofNat i) (hfr : 4 ≤ R.frames) (hlo : W + 53 ≤ R.locals) :
    Back l R p e below s args (⟨"java/lang/String", "charAt", "(I)C"⟩ : MethodName) len W (fun P a => a = #[.ref x, .int j] ∧ P.U.heap = h ∧ P.cells + 0 ≤ R.cells ∧ P.slots + 0 ≤ R.slots)
      (fun P _ v B => ∃ L, (v = some (.int (cs.getD i 0)) ∧ L = [] ∧ B.U.heap = h) ∧ B.locs = P.locs ++ L ∧ B.cells = P.cells + 0 ∧ B.slots = P.slots + 0) := by
  subst hj
  intro m meth c P g ig mk a X hg hsize hdg hW hn hp'
  obtain ⟨rfl, rfl, r1, r2⟩ := hp'
  have al : Z.vm.Alike P.U.vm := hZ.alike.trans X.warmed.alike
  obtain ⟨A, hx⟩ := txt_of wi al E V C K hc hb l2
  obtain ⟨v, B, X', ⟨⟨hv, hh⟩, hl, hk, hs⟩, st⟩ := ChN.pays x t A cs.length (fun j => cs.getD j 0) z fm i (tabChN_of (movedChN hZ hw)) hfr hlo m meth c P g ig mk _ X hg hsize hdg hW hn ⟨r1, r2, rfl, hx, hi, sta_is al S, hz, sta_is al F, rf⟩
  exact ⟨v, B, X', ⟨[], ⟨hv, rfl, hh⟩, hl, hk, hs⟩, st⟩
/-- what backV says of its String, as the contracts of this text ask it: cs's low bytes, coder 0 -/
theorem codOf {cs : List Int32} {n : Nat} (hn : cs.length = n) (hb : ∀ c ∈ cs, ¬ 255 < c) : CodA cs 0 (Int32.ofNat n) ((cs.map lo8).map Value.int) := Or.inl ⟨rfl, by rw [hn], by simp [List.map_map, Function.comp_def], hb⟩
end StrChars.Road
end Jvm.Pilot.@@N@@
set_option maxRecDepth 65536
set_option maxHeartbeats 40000000
namespace Jvm.Pilot.@@N@@
open Jvm Jvm.ClassFile Sem Op Lib Jvm.Free Jvm.Stand Jvm.LawKit Jvm.RoadKit Bundle Jvm.Own Jvm.Pilot.@@N@@.Jvm.D
theorem pn_0 : plainName "java/lang/String" = true := by first | (simp [plainName, overriddenIn]; done) | decide +kernel
theorem pd_0 : parseMethodDescriptor "([CIILjava/lang/Void;)V" = some ⟨[(.array .char), .int, .int, (.object "java/lang/Void")], none⟩ := by decide +kernel
theorem pd_1 : parseMethodDescriptor "([C)V" = some ⟨[(.array .char)], none⟩ := by decide +kernel
theorem pn_1 : plainName "java/lang/StringUTF16" = true := by first | (simp [plainName, overriddenIn]; done) | decide +kernel
theorem pd_2 : parseMethodDescriptor "([B)I" = some ⟨[(.array .byte)], some .int⟩ := by decide +kernel
theorem pd_3 : parseMethodDescriptor "([BI)C" = some ⟨[(.array .byte), .int], some .char⟩ := by decide +kernel
theorem pd_4 : parseMethodDescriptor "([BII)V" = some ⟨[(.array .byte), .int, .int], none⟩ := by decide +kernel
theorem pd_5 : parseMethodDescriptor "(I)I" = some ⟨[.int], some .int⟩ := by decide +kernel
theorem pd_6 : parseMethodDescriptor "(I)[B" = some ⟨[.int], some (.array .byte)⟩ := by decide +kernel
theorem pd_7 : parseMethodDescriptor "([CII)[B" = some ⟨[(.array .char), .int, .int], some (.array .byte)⟩ := by decide +kernel
theorem pd_8 : parseMethodDescriptor "([CI[BII)I" = some ⟨[(.array .char), .int, (.array .byte), .int, .int], some .int⟩ := by decide +kernel
theorem pd_9 : parseMethodDescriptor "([BI)B" = some ⟨[(.array .byte), .int], some .byte⟩ := by decide +kernel
theorem pn_2 : plainName "jdk/internal/util/Preconditions" = true := by first | (simp [plainName, overriddenIn]; done) | decide +kernel
theorem pd_10 : parseMethodDescriptor "(IILjava/util/function/BiFunction;)I" = some ⟨[.int, .int, (.object "java/util/function/BiFunction")], some .int⟩ := by decide +kernel
theorem pd_11 : parseMethodDescriptor "(II)V" = some ⟨[.int, .int], none⟩ := by decide +kernel
theorem pd_12 : parseMethodDescriptor "(I[B)V" = some ⟨[.int, (.array .byte)], none⟩ := by decide +kernel
theorem pd_13 : parseMethodDescriptor "()Z" = some ⟨[], some .boolean⟩ := by decide +kernel
theorem pd_14 : parseMethodDescriptor "(I)C" = some ⟨[.int], some .char⟩ := by decide +kernel
theorem pn_3 : plainName "com/example/linetally/linetally/io/FieldsPrintablePinLaw" = true := by first | (simp [plainName, overriddenIn]; done) | decide +kernel
theorem pd_15 : parseMethodDescriptor "(C)Z" = some ⟨[.char], some .boolean⟩ := by decide +kernel
theorem pn_4 : plainName "java/lang/Character" = true := by first | (simp [plainName, overriddenIn]; done) | decide +kernel
theorem pd_16 : parseMethodDescriptor "(I)Z" = some ⟨[.int], some .boolean⟩ := by decide +kernel
theorem pn_5 : plainName "com/example/linetally/linetally/io/Fields" = true := by first | (simp [plainName, overriddenIn]; done) | decide +kernel
theorem pd_17 : parseMethodDescriptor "(Ljava/lang/String;)Z" = some ⟨[(.object "java/lang/String")], some .boolean⟩ := by decide +kernel
theorem pd_18 : parseMethodDescriptor "()I" = some ⟨[], some .int⟩ := by decide +kernel
theorem pd_19 : parseMethodDescriptor "(ICCCC)Ljava/lang/String;" = some ⟨[.int, .char, .char, .char, .char], some (.object "java/lang/String")⟩ := by decide +kernel

def Str (V : Vw) (h : Heap) (m : Nat) (x : Nat) (cs : List Int32) : Prop := ∃ (t : Nat) (kb : ClassId) (cd N2 : Int32) (vs : List Value), x < m ∧ t < m ∧ m ≤ h.size ∧ Exa V.Z h x "java/lang/String" ∧ Fld V.Z h x "java/lang/String" "value" "[B" (.ref t) ∧ Fld V.Z h x "java/lang/String" "coder" "B" (.int cd) ∧ Arv V.Z h t kb .byte N2 vs (.int 0) ∧ StrChars.Road.CodA cs cd N2 vs ∧ (∀ c ∈ cs, ¬ c < 0 ∧ ¬ (65535 : Int32) < c) ∧ cs.length ≤ 4000
theorem Str.ext {V : Vw} {h h' : Heap} {m : Nat} {x : Nat} {cs : List Int32} (E : Ext h h') (S : Str V h m x cs) : Str V h' m x cs := by
  obtain ⟨t, kb, cd, N2, vs, a1, a2, a3, a4, a5, a6, a7, a8⟩ := S
  exact ⟨t, kb, cd, N2, vs, a1, a2, Nat.le_trans a3 E.1, a4.ext E, a5.ext E, a6.ext E, a7.ext E, a8⟩
theorem Str.up {V : Vw} {h : Heap} {m m' : Nat} {x : Nat} {cs : List Int32} (S : Str V h m x cs) (q : m ≤ m') (r : m' ≤ h.size) : Str V h m' x cs := by
  obtain ⟨t, kb, cd, N2, vs, a1, a2, a3, a8⟩ := S
  exact ⟨t, kb, cd, N2, vs, by omega, by omega, r, a8⟩
theorem Str.keep {V : Vw} {h h' : Heap} {ws : List Addr} {m : Nat} {x : Nat} {cs : List Int32} (K : Keep h h' ws) (q : ∀ w ∈ ws, m ≤ w) (S : Str V h m x cs) : Str V h' m x cs := by
  obtain ⟨t, kb, cd, N2, vs, a1, a2, a3, a4, a5, a6, a7, a8⟩ := S
  have nx : x ∉ ws := fun z => absurd (q x z) (by omega)
  have nt : t ∉ ws := fun z => absurd (q t z) (by omega)
  exact ⟨t, kb, cd, N2, vs, a1, a2, Nat.le_trans a3 K.1, a4.keep K, a5.keep K nx, a6.keep K nx, a7.keep K nt, a8⟩
theorem Str.keepE {V : Vw} {h h' : Heap} {a : Nat} {C : String} {n m : Nat} {x : Nat} {cs : List Int32} (K : Keep h h' [a]) (E : Exa V.Z h a C) (hC : C ≠ "java/lang/String") (wi : (Jvm.Cond.instantiable C n).before V.a0 V.Z = true) (S : Str V h m x cs) : Str V h' m x cs := by
  obtain ⟨t, kb, cd, N2, vs, a1, a2, a3, a4, a5, a6, a7, a8⟩ := S
  have nx : x ∉ [a] := ninS (a4.ne E (Ne.symm hC)) nin0
  have nt : t ∉ [a] := ninS (Ne.symm (E.neArv a7 wi)) nin0
  exact ⟨t, kb, cd, N2, vs, a1, a2, Nat.le_trans a3 K.1, a4.keep K, a5.keep K nx, a6.keep K nx, a7.keep K nt, a8⟩
theorem Arr.neTy {Z : State} {h : Heap} {a b : Nat} {c d : Cell} {ty ty' : FieldType} (A : RoadKit.Arr Z h a c ty) (D : RoadKit.Arr Z h b d ty') (q : ty ≠ ty') : a ≠ b := fun e => by
  subst e
  cases A.1.symm.trans D.1
  obtain ⟨-, k1, h1, c1, g1⟩ := A.2.1
  obtain ⟨-, k2, h2, c2, g2⟩ := D.2.1
  cases h1.symm.trans h2
  rw [g1] at g2
  injection g2 with _ g3
  exact q g3
theorem Str.keepA {V : Vw} {h h' : Heap} {a : Nat} {k : ClassId} {ty : FieldType} {z : Int32} {us : List Value} {dv : Value} {n m : Nat} {x : Nat} {cs : List Int32} (K : Keep h h' [a]) (A : Arv V.Z h a k ty z us dv) (hty : ty ≠ .byte) (wi : (Jvm.Cond.instantiable "java/lang/String" n).before V.a0 V.Z = true) (S : Str V h m x cs) : Str V h' m x cs := by
  obtain ⟨t, kb, cd, N2, vs, a1, a2, a3, a4, a5, a6, a7, a8⟩ := S
  have nx : x ∉ [a] := ninS (a4.neArv A wi) nin0
  have nt : t ∉ [a] := ninS (fun e => by obtain ⟨c1, A1, -⟩ := A; obtain ⟨c2, A2, -⟩ := a7; exact Arr.neTy A1 A2 hty e.symm) nin0
  exact ⟨t, kb, cd, N2, vs, a1, a2, Nat.le_trans a3 K.1, a4.keep K, a5.keep K nx, a6.keep K nx, a7.keep K nt, a8⟩
theorem Str.exa {V : Vw} {h : Heap} {m : Nat} {x : Nat} {cs : List Int32} (S : Str V h m x cs) : Exa V.Z h x "java/lang/String" := by
  obtain ⟨t, kb, cd, N2, vs, a1, a2, a3, a4, -⟩ := S; exact a4
theorem Str.lt {V : Vw} {h : Heap} {m : Nat} {x : Nat} {cs : List Int32} (S : Str V h m x cs) : x < m ∧ m ≤ h.size := by
  obtain ⟨t, kb, cd, N2, vs, a1, a2, a3, a4, -⟩ := S; exact ⟨a1, a3⟩
theorem up16 {cs : List Int32} (h : ∀ c ∈ cs, By c) : ∀ c ∈ cs, ¬ c < 0 ∧ ¬ (65535 : Int32) < c := fun c hc => ⟨(h c hc).1, fun q => (h c hc).2 (by
  rw [Int32.lt_iff_toInt_lt] at q ⊢; have e1 : (65535 : Int32).toInt = 65535 := rfl; have e2 : (255 : Int32).toInt = 255 := rfl; omega)⟩

def Qsm (q : Prop) (h0 : Heap) : Qt := fun v h _ => ∃ b : Int32, v = some (.int b) ∧ h = h0 ∧ (b = 1 ∧ q ∨ b = 0 ∧ ¬ q)
theorem bt {b : Int32} {q : Prop} (h : b = 1 ∧ q ∨ b = 0 ∧ ¬ q) (c : ¬ b = 0) : q := h.elim (fun x => x.2) (fun x => absurd x.1 c)
theorem bf {b : Int32} {q : Prop} (h : b = 1 ∧ q ∨ b = 0 ∧ ¬ q) (c : b = 0) : ¬ q := h.elim (fun x => absurd (x.1.symm.trans c) (by decide)) (fun x => x.2)
theorem beq {b c : Int32} {q r : Prop} (h : b = 1 ∧ q ∨ b = 0 ∧ ¬ q) (k : c = 1 ∧ r ∨ c = 0 ∧ ¬ r) (e : q ↔ r) : b = c := by
  rcases h with ⟨rfl, x⟩ | ⟨rfl, x⟩ <;> rcases k with ⟨rfl, y⟩ | ⟨rfl, y⟩ <;> first | rfl | exact absurd (e.mp x) y | exact absurd (e.mpr y) x
theorem bnar {b : Int32} {q : Prop} (h : b = 1 ∧ q ∨ b = 0 ∧ ¬ q) : RoadKit.nar .boolean b = b := by rcases h with ⟨rfl, x⟩ | ⟨rfl, x⟩ <;> rfl
def Qmk (V : Vw) (cs : List Int32) (h0 : Heap) : Qt := fun v h _ => ∃ x : Nat, v = some (.ref x) ∧ Ext h0 h ∧ Str V h h.size x cs
theorem Keep.ext0 {h h1 h2 : Heap} {ws : List Addr} (E : Ext h h1) (K : Keep h1 h2 ws) (q : ∀ w ∈ ws, h.size ≤ w) : Ext h h2 := ⟨Nat.le_trans E.1 K.1, fun a c hc => K.2.1 a c (E.2 a c hc) fun z => absurd (Array.getElem?_eq_some_iff.mp hc).1 (Nat.not_lt.mpr (q a z))⟩
theorem Ext.wr0 {h h1 h2 : Heap} {a : Nat} {j : Nat} {v : Value} (E : Ext h h1) (W : Wr h1 h2 a j v) (q : h.size ≤ a) : Ext h h2 := Keep.ext0 E (Keep.of_wr W) (fun w hw => by cases List.mem_singleton.mp hw; exact q)
theorem Ext.refl0 (h : Heap) : Ext h h := ⟨Nat.le_refl _, fun _ _ q => q⟩
theorem nby {c : Int32} (h : By c) : RoadKit.nar .char c = c := by
  have f := c_i2c c
  obtain ⟨a, b⟩ := h
  rw [Int32.lt_iff_toInt_lt] at a b
  have e0 : (0 : Int32).toInt = 0 := rfl
  have e1 : (255 : Int32).toInt = 255 := rfl
  show c.toUInt32.toUInt16.toUInt32.toInt32 = c
  rw [← Int32.toInt_inj]; omega
theorem by0 : ∀ c ∈ ([] : List Int32), By c := fun _ q => nomatch q
theorem by1 {a : Int32} (h : By a) : ∀ c ∈ [a], By c := fun c hc => by cases List.mem_singleton.mp hc; exact h
theorem byS {a : Int32} {l : List Int32} (h : By a) (t : ∀ c ∈ l, By c) : ∀ c ∈ a :: l, By c := fun c hc => by rcases List.mem_cons.mp hc with rfl | hc; exact h; exact t c hc
def Qn (V : Vw) (x : Nat) (cs : List Int32) (h0 : Heap) : Qt := fun v h _ => v = none ∧ Keep h0 h [x] ∧ Str V h h.size x cs
theorem wds (V : Vw) (hw : ∀ d ∈ tables_1, d.before V.a0 V.Z = true) (ws : List Jvm.Cond) (h : ∀ d ∈ ws, d ∈ tables_1) : ∀ d ∈ ws, d.before V.a0 V.Z = true := fun d hd => hw d (h d hd)
theorem pay_newN (V : Vw) (hw : ∀ d ∈ tables_1, d.before V.a0 V.Z = true) (K : Cx) (B : Bx) (W : Nat) (x b : Nat) (kC : ClassId) (cs : List Int32) (N : Int32) (h : Heap) (ps : List Addr) (d v0 c0 : Value) (zx : V.Z.heap.size ≤ x) (zh : V.Z.heap.size ≤ h.size) (E : Exa V.Z h x "java/lang/String") (Fv : Fld V.Z h x "java/lang/String" "value" "[B" v0) (Fc : Fld V.Z h x "java/lang/String" "coder" "B" c0) (A : Arv V.Z h b kC .char N (cs.map Value.int) d) (O : Ext V.Z.heap h) (cz : Int32) (hCS : Sta V.Z V.Z.heap "java/lang/String" "COMPACT_STRINGS" "Z" (.int cz)) (hcz : ¬ cz = 0) (hN : N = Int32.ofNat cs.length) (l0 : 0 < cs.length) (l2 : cs.length ≤ 4000) (hp : ∀ c ∈ cs, By c) (hxp : x ∈ ps) (hfr : 4 ≤ B.R.frames) (hlo : W + 65 ≤ B.R.locals) :
    Pays V K B (⟨"java/lang/String", "<init>", "([C)V"⟩ : MethodName) 3 W #[.ref x, .ref b] h ps 1 cs.length (Qn V x cs h) :=
  Pays.back (ws := [x]) (fun s hZ => StrChars.Road.backV (W := W) hZ (wds V hw _ (by decide +kernel)) (kI := 4) (wd hw 11 rfl) (cs := cs) (bs := cs.map (fun c => c.toInt8.toInt32)) (n := cs.length) zx zh E Fv Fc A (hCS.ext O) hcz rfl hN l0 l2 hp rfl hfr hlo)
    (fun v h' L q => by
      obtain ⟨q1, q2, q3, q4, q5, t, kb, q6, q7, q8, q9, q10⟩ := q
      exact ⟨q2, q3, q1, q3, t, kb, 0, N, _, q4.lt, q10.lt, Nat.le_refl _, q4, q9, q5, q10, Or.inl ⟨rfl, hN, by simp [List.map_map, Function.comp_def, StrChars.lo8], fun c hc => (hp c hc).2⟩, up16 hp, l2⟩)
    (by simpa using zx) (fun vm al P y hy => by cases List.mem_singleton.mp hy; exact (P _ hxp).2)
theorem satoms (V : Vw) (hw : ∀ d ∈ tables_1, d.before V.a0 V.Z = true) : ∀ a ∈ Bundle.stringAtoms, a.before V.a0 V.Z = true := wds V hw _ (by decide +kernel)
theorem d0_0 : decode jdk_42_method_149_code 0 = .ok (.aload_n 0, 1) := by decide +kernel
theorem d0_1 : decode jdk_42_method_149_code 1 = .ok (.invokespecial 1, 3) := by decide +kernel
theorem d0_4 : decode jdk_42_method_149_code 4 = .ok (.iload_n 3, 1) := by decide +kernel
theorem d0_5 : decode jdk_42_method_149_code 5 = .ok (.ifCond .ne 22, 3) := by decide +kernel
theorem d0_8 : decode jdk_42_method_149_code 8 = .ok (.aload_n 0, 1) := by decide +kernel
theorem d0_9 : decode jdk_42_method_149_code 9 = .ok (.ldc 7, 2) := by decide +kernel
theorem d0_11 : decode jdk_42_method_149_code 11 = .ok (.getfield 9, 3) := by decide +kernel
theorem d0_14 : decode jdk_42_method_149_code 14 = .ok (.putfield 9, 3) := by decide +kernel
theorem d0_17 : decode jdk_42_method_149_code 17 = .ok (.aload_n 0, 1) := by decide +kernel
theorem d0_18 : decode jdk_42_method_149_code 18 = .ok (.ldc 7, 2) := by decide +kernel
theorem d0_20 : decode jdk_42_method_149_code 20 = .ok (.getfield 15, 3) := by decide +kernel
theorem d0_23 : decode jdk_42_method_149_code 23 = .ok (.putfield 15, 3) := by decide +kernel
theorem d0_26 : decode jdk_42_method_149_code 26 = .ok (.return_, 1) := by decide +kernel
theorem d0_27 : decode jdk_42_method_149_code 27 = .ok (.getstatic 38, 3) := by decide +kernel
theorem d0_30 : decode jdk_42_method_149_code 30 = .ok (.ifCond .eq 28, 3) := by decide +kernel
theorem d0_33 : decode jdk_42_method_149_code 33 = .ok (.aload_n 1, 1) := by decide +kernel
theorem d0_34 : decode jdk_42_method_149_code 34 = .ok (.iload_n 2, 1) := by decide +kernel
theorem d0_35 : decode jdk_42_method_149_code 35 = .ok (.iload_n 3, 1) := by decide +kernel
theorem d0_36 : decode jdk_42_method_149_code 36 = .ok (.invokestatic 177, 3) := by decide +kernel
theorem d0_39 : decode jdk_42_method_149_code 39 = .ok (.astore 5, 2) := by decide +kernel
theorem d0_41 : decode jdk_42_method_149_code 41 = .ok (.aload_n 0, 1) := by decide +kernel
theorem d0_42 : decode jdk_42_method_149_code 42 = .ok (.aload 5, 2) := by decide +kernel
theorem d0_44 : decode jdk_42_method_149_code 44 = .ok (.iload_n 3, 1) := by decide +kernel
theorem d0_45 : decode jdk_42_method_149_code 45 = .ok (.invokestatic 47, 3) := by decide +kernel
theorem d0_48 : decode jdk_42_method_149_code 48 = .ok (.putfield 15, 3) := by decide +kernel
theorem d0_51 : decode jdk_42_method_149_code 51 = .ok (.aload_n 0, 1) := by decide +kernel
theorem d0_52 : decode jdk_42_method_149_code 52 = .ok (.aload 5, 2) := by decide +kernel
theorem d0_54 : decode jdk_42_method_149_code 54 = .ok (.putfield 9, 3) := by decide +kernel
theorem d0_57 : decode jdk_42_method_149_code 57 = .ok (.return_, 1) := by decide +kernel
theorem d0_58 : decode jdk_42_method_149_code 58 = .ok (.aload_n 0, 1) := by decide +kernel
theorem d0_59 : decode jdk_42_method_149_code 59 = .ok (.iconst 1, 1) := by decide +kernel
theorem d0_60 : decode jdk_42_method_149_code 60 = .ok (.putfield 15, 3) := by decide +kernel
theorem d0_63 : decode jdk_42_method_149_code 63 = .ok (.aload_n 0, 1) := by decide +kernel
theorem d0_64 : decode jdk_42_method_149_code 64 = .ok (.aload_n 1, 1) := by decide +kernel
theorem d0_65 : decode jdk_42_method_149_code 65 = .ok (.iload_n 2, 1) := by decide +kernel
theorem d0_66 : decode jdk_42_method_149_code 66 = .ok (.iload_n 3, 1) := by decide +kernel
theorem d0_67 : decode jdk_42_method_149_code 67 = .ok (.invokestatic 180, 3) := by decide +kernel
theorem d0_70 : decode jdk_42_method_149_code 70 = .ok (.putfield 9, 3) := by decide +kernel
theorem d0_73 : decode jdk_42_method_149_code 73 = .ok (.return_, 1) := by decide +kernel
abbrev b_new4 : Bx := (⟨"java/lang/String", "<init>", "([CIILjava/lang/Void;)V"⟩, jdk_42_method_149_code, 6, none, { frames := 1, cells := 4, slots := 8, locals := 24 })
theorem c_new4e (V : Vw) (hw : ∀ d ∈ tables_1, d.before V.a0 V.Z = true) (hm : ("java/lang/String", 7) ∈ V.EL) (hn : V.nar = false) (x b : Nat) (h : Heap) (ps : List Addr) (zx : V.Z.heap.size ≤ x) (hxp : x ∈ ps) (E : Exa V.Z h x "java/lang/String") (Fv : Fld V.Z h x "java/lang/String" "value" "[B" .null) (Fc : Fld V.Z h x "java/lang/String" "coder" "B" (.int 0)) : Con V b_new4 #[.ref x, .ref b, .int 0, .int 0, .null] h ps (Qn V x [] h) := Con.of (plainFor_of_name pn_0) (L := [.val (.ref x), .val (.ref b), .val (.int (0 : Int32)), .val (.int (0 : Int32)), .val (.null), .unset]) rfl fun K => by
  have lx := ltN E.lt
  refine r_aloadN 1 rfl d0_0 rfl rfl ?_
  refine r_initO 0 4 rfl d0_1 (wd hw 21 rfl) (wd hw 22 rfl) (wd hw 23 rfl) rfl (by decide) (Nat.le_of_eq rfl) (by decide) ?_
  refine r_iloadN 5 rfl d0_4 rfl ?_
  refine r_if_ne 27 8 d0_5 (by decide) rfl rfl (fun c1 => ?_) (fun c1 => ?_)
  · exact absurd rfl c1
  refine r_aloadN 9 rfl d0_8 rfl rfl ?_
  refine r_ldcS [] (0 : Int32) 0 11 rfl d0_9 (wd hw 24 rfl) (satoms V hw) hm hn (by decide) (by decide) rfl (by decide) (by decide) (by decide) (by decide) fun a2 b3 k4 h5 Eh5 Xh5 Ch5 Yh5 Ah5 Nh5 => ?_
  have f6 := Exa.ext Eh5 E
  have f7 := Fld.ext Eh5 Fv
  have f8 := Fld.ext Eh5 Fc
  have sh5 := Eh5.1
  have la2 := ltN Xh5.lt
  have lb3 := ltN Ah5.lt
  have n1xh5 := neN (Nh5 _ hxp).1
  have n2xh5 := neN (Nh5 _ hxp).2
  refine r_getfield 14 rfl d0_11 (wd hw 30 rfl) Yh5 ?_
  refine r_putfield 17 rfl d0_14 (wd hw 30 rfl) f7 f6 (Or.inr ⟨wd hw 26 rfl, rfl, rfl⟩) (wd hw 11 rfl) (ty := (.array .byte)) (by decide) rfl rfl zx (Or.inr hxp) fun h9 Wh9 => ?_
  have sh9 := Wh9.size
  have f10 := Exa.wr Wh9 f6
  have f11 := Fld.same Wh9 f7
  have f12 := Fld.other Wh9 f8 (Or.inr (slot_ne (C := "java/lang/String") (Or.inr (wd hw 27 rfl)) (Or.inr (wd hw 26 rfl)) (by decide) (t := .byte) (by decide) (t' := (.array .byte)) (by decide)))
  have f13 := Exa.wr Wh9 Xh5
  have f14 := Fld.other Wh9 Ch5 (Or.inl (neA (by omega)))
  have f15 := Fld.other Wh9 Yh5 (Or.inl (neA (by omega)))
  have f16 := Arv.other Ah5 Wh9 (neA (by omega))
  refine r_aloadN 18 rfl d0_17 rfl rfl ?_
  refine r_ldcS [] (0 : Int32) 0 20 rfl d0_18 (wd hw 24 rfl) (satoms V hw) hm hn (by decide) (by decide) rfl (by decide) (by decide) (by decide) (by decide) fun a17 b18 k19 h20 Eh20 Xh20 Ch20 Yh20 Ah20 Nh20 => ?_
  have f21 := Exa.ext Eh20 f10
  have f22 := Fld.ext Eh20 f11
  have f23 := Fld.ext Eh20 f12
  have f24 := Exa.ext Eh20 f13
  have f25 := Fld.ext Eh20 f14
  have f26 := Fld.ext Eh20 f15
  have f27 := f16.ext Eh20
  have sh20 := Eh20.1
  have la17 := ltN Xh20.lt
  have lb18 := ltN Ah20.lt
  have n1xh20 := neN (Nh20 _ hxp).1
  have n2xh20 := neN (Nh20 _ hxp).2
  refine r_getfield 23 rfl d0_20 (wd hw 31 rfl) Ch20 ?_
  refine r_putfield 26 rfl d0_23 (wd hw 31 rfl) f23 f21 (Or.inr ⟨wd hw 27 rfl, rfl, rfl⟩) (wd hw 11 rfl) (ty := .byte) (by decide) (by decide) (by decide) zx (Or.inr hxp) fun h28 Wh28 => ?_
  have sh28 := Wh28.size
  have f29 := Exa.wr Wh28 f21
  have f30 := Fld.other Wh28 f22 (Or.inr (slot_ne (C := "java/lang/String") (Or.inr (wd hw 26 rfl)) (Or.inr (wd hw 27 rfl)) (by decide) (t := (.array .byte)) (by decide) (t' := .byte) (by decide)))
  have f31 := Fld.same Wh28 f23
  have f32 := Exa.wr Wh28 f24
  have f33 := Fld.other Wh28 f25 (Or.inl (neA (by omega)))
  have f34 := Fld.other Wh28 f26 (Or.inl (neA (by omega)))
  have f35 := Arv.other f27 Wh28 (neA (by omega))
  have f36 := Exa.wr Wh28 Xh20
  have f37 := Fld.other Wh28 Ch20 (Or.inl (neA (by omega)))
  have f38 := Fld.other Wh28 Yh20 (Or.inl (neA (by omega)))
  have f39 := Arv.other Ah20 Wh28 (neA (by omega))
  have KK : Keep h h28 [x] := ((((Keep.refl _ _).ext Eh5).wr Wh9 (Or.inl (by simp))).ext Eh20).wr Wh28 (Or.inl (by simp))
  refine r_ret rfl d0_26 (by decide) (by decide) [] (fun _ q => nomatch q) ?_
  exact ⟨rfl, KK, b3, _, 0, 0, [], f29.lt, f35.lt, Nat.le_refl _, f29, f30, f31, f35, Or.inl ⟨rfl, rfl, rfl, fun _ q => nomatch q⟩, (fun _ q => nomatch q), by decide⟩
theorem d1_0 : decode jdk_42_method_3_code 0 = .ok (.aload_n 0, 1) := by decide +kernel
theorem d1_1 : decode jdk_42_method_3_code 1 = .ok (.aload_n 1, 1) := by decide +kernel
theorem d1_2 : decode jdk_42_method_3_code 2 = .ok (.iconst 0, 1) := by decide +kernel
theorem d1_3 : decode jdk_42_method_3_code 3 = .ok (.aload_n 1, 1) := by decide +kernel
theorem d1_4 : decode jdk_42_method_3_code 4 = .ok (.arraylength, 1) := by decide +kernel
theorem d1_5 : decode jdk_42_method_3_code 5 = .ok (.aconst_null, 1) := by decide +kernel
theorem d1_6 : decode jdk_42_method_3_code 6 = .ok (.invokespecial 27, 3) := by decide +kernel
theorem d1_9 : decode jdk_42_method_3_code 9 = .ok (.return_, 1) := by decide +kernel
abbrev b_new1 : Bx := (⟨"java/lang/String", "<init>", "([C)V"⟩, jdk_42_method_3_code, 2, none, { frames := 2, cells := 4, slots := 8, locals := 44 })
theorem c_new1e (V : Vw) (hw : ∀ d ∈ tables_1, d.before V.a0 V.Z = true) (hm : ("java/lang/String", 7) ∈ V.EL) (hn : V.nar = false) (x b : Nat) (kC : ClassId) (vs : List Value) (d : Value) (h : Heap) (ps : List Addr) (zx : V.Z.heap.size ≤ x) (hxp : x ∈ ps) (E : Exa V.Z h x "java/lang/String") (Fv : Fld V.Z h x "java/lang/String" "value" "[B" .null) (Fc : Fld V.Z h x "java/lang/String" "coder" "B" (.int 0)) (A : Arv V.Z h b kC .char 0 vs d) : Con V b_new1 #[.ref x, .ref b] h ps (Qn V x [] h) := Con.of (plainFor_of_name pn_0) (L := [.val (.ref x), .val (.ref b)]) rfl fun K => by
  refine r_aloadN 1 rfl d1_0 rfl rfl ?_
  refine r_aloadN 2 rfl d1_1 rfl rfl ?_
  refine r_iconst (0 : Int32) 3 rfl d1_2 rfl ?_
  refine r_aloadN 4 rfl d1_3 rfl rfl ?_
  refine r_arraylength 5 rfl d1_4 A ?_
  refine r_null 6 rfl d1_5 ?_
  refine r_special 9 rfl d1_6 rfl (wd hw 17 rfl) (wd hw 18 rfl) (wd hw 20 rfl) (by decide) (Pays.con (K := K) (B := b_new1) (c_new4e V hw hm hn x b h _ zx hxp E Fv Fc) (wd hw 20 rfl) (wd hw 12 rfl) (by decide) (by decide)) (W := 0) (argsL := [.ref b, .int (0 : Int32), .int (0 : Int32), .null]) (lenOf pd_0 rfl) rfl rfl rfl (Nat.le_of_eq rfl) (Nat.le_of_ble_eq_true rfl) (Nat.le_of_ble_eq_true rfl) fun v43 h44 ps40 q42 z41 => ?_
  obtain ⟨rfl, K1, S1⟩ := q42
  show Own.Run V K b_new1 _ h44 _ 4 8 9 [.val (.ref x), .val (.ref b)] []
  refine r_ret rfl d1_9 (by decide) (by decide) [] (fun _ q => nomatch q) ?_
  exact ⟨rfl, K1, S1⟩
theorem pay_newE (V : Vw) (hw : ∀ d ∈ tables_1, d.before V.a0 V.Z = true) (K : Cx) (B : Bx) (W : Nat) (hm : ("java/lang/String", 7) ∈ V.EL) (hn : V.nar = false) (x b : Nat) (kC : ClassId) (vs : List Value) (d : Value) (h : Heap) (ps : List Addr) (zx : V.Z.heap.size ≤ x) (hxp : x ∈ ps) (E : Exa V.Z h x "java/lang/String") (Fv : Fld V.Z h x "java/lang/String" "value" "[B" .null) (Fc : Fld V.Z h x "java/lang/String" "coder" "B" (.int 0)) (A : Arv V.Z h b kC .char 0 vs d) (hfr : 3 ≤ B.R.frames) (hlo : W + 57 ≤ B.R.locals) :
    Pays V K B (⟨"java/lang/String", "<init>", "([C)V"⟩ : MethodName) 3 W #[.ref x, .ref b] h ps 4 8 (Qn V x [] h) := Pays.con (B' := b_new1) (c_new1e V hw hm hn x b kC vs d h ps zx hxp E Fv Fc A) (wd hw 16 rfl) (wd hw 12 rfl) hfr (by show W + (2 + 11) + 44 ≤ _; omega)
theorem pay_len (V : Vw) (hw : ∀ d ∈ tables_1, d.before V.a0 V.Z = true) (K : Cx) (B : Bx) (W : Nat) (x : Nat) (m : Nat) (cs : List Int32) (h : Heap) (ps : List Addr) (S : Str V h m x cs) (O : Ext V.Z.heap h) (cz : Int32) (hCS : Sta V.Z V.Z.heap "java/lang/String" "COMPACT_STRINGS" "Z" (.int cz)) (hcz : ¬ cz = 0) (hfr : 2 ≤ B.R.frames) (hlo : W + 25 ≤ B.R.locals) : Pays V K B (⟨"java/lang/String", "length", "()I"⟩ : MethodName) 3 W #[.ref x] h ps 0 0 (fun v h' _ => v = some (.int (Int32.ofNat cs.length)) ∧ h' = h) := by
  obtain ⟨t, kb, cd, N2, vs, a1, a2, a3, a4, a5, a6, a7, a8, a9, a10⟩ := S
  exact Pays.back (ws := []) (Q0 := fun v h' L => v = some (.int (Int32.ofNat cs.length)) ∧ L = [] ∧ h' = h) (fun s hZ => StrChars.Road.lenW (W := W) hZ (wds V hw _ (by decide +kernel)) (kI := 4) (wd hw 11 rfl) a4 a5 a6 a7 a8 a9 (hCS.ext O) hcz a10 hfr hlo) (fun v h' L q => ⟨by rw [q.2.1]; exact Fr.nil _, by rw [q.2.2]; exact Keep.refl _ _, q.1, q.2.2⟩) all0 (fun vm al P => all0)
theorem pay_ch (V : Vw) (hw : ∀ d ∈ tables_1, d.before V.a0 V.Z = true) (K : Cx) (B : Bx) (W : Nat) (x : Nat) (m i : Nat) (j : Int32) (cs : List Int32) (h : Heap) (ps : List Addr) (S : Str V h m x cs) (hby : ∀ c ∈ cs, ¬ 255 < c) (O : Ext V.Z.heap h) (cz : Int32) (hCS : Sta V.Z V.Z.heap "java/lang/String" "COMPACT_STRINGS" "Z" (.int cz)) (hcz : ¬ cz = 0) (fm : Value) (hFM : Sta V.Z V.Z.heap "jdk/internal/util/Preconditions" "SIOOBE_FORMATTER" "Ljava/util/function/BiFunction;" fm) (rf : fm.isRef = true) (hi : i < cs.length) (hj : j = Int32.ofNat i) (hfr : 4 ≤ B.R.frames) (hlo : W + 53 ≤ B.R.locals) : Pays V K B (⟨"java/lang/String", "charAt", "(I)C"⟩ : MethodName) 3 W #[.ref x, .int j] h ps 0 0 (fun v h' _ => v = some (.int (cs.getD i 0)) ∧ h' = h) := by
  obtain ⟨t, kb, cd, N2, vs, a1, a2, a3, a4, a5, a6, a7, a8, a9, a10⟩ := S
  have hcd : cd = 0 := by rcases a8 with q | ⟨-, -, -, c, hc, hq⟩; exact q.1; exact absurd hq (hby c hc)
  subst hcd
  exact Pays.back (ws := []) (Q0 := fun v h' L => v = some (.int (cs.getD i 0)) ∧ L = [] ∧ h' = h) (fun s hZ => StrChars.Road.chN (W := W) hZ (wds V hw _ (by decide +kernel)) (kI := 4) (wd hw 11 rfl) a4 a5 a6 a7 a8 a9 (hCS.ext O) hcz (hFM.ext O) rf a10 hi hj hfr hlo) (fun v h' L q => ⟨by rw [q.2.1]; exact Fr.nil _, by rw [q.2.2]; exact Keep.refl _ _, q.1, q.2.2⟩) all0 (fun vm al P => all0)
theorem ofN_nat {n : Nat} (h : n < 2 ^ 31) : (Int32.ofNat n).toNatClampNeg = n := by
  have q : (Int32.ofNat n).toInt = n := Int32.toInt_ofNat_small h
  simp only [Int32.toNatClampNeg, q]; omega
theorem ofN_lt {n k : Nat} (h : n < 2 ^ 31) (g : k < 2 ^ 31) : Int32.ofNat n < Int32.ofNat k ↔ n < k := by
  have q : (Int32.ofNat n).toInt = n := Int32.toInt_ofNat_small h
  have r : (Int32.ofNat k).toInt = k := Int32.toInt_ofNat_small g
  rw [Int32.lt_iff_toInt_lt, q, r]; omega
theorem ofN_nn {n : Nat} (h : n < 2 ^ 31) : ¬ Int32.ofNat n < 0 := by
  have q : (Int32.ofNat n).toInt = n := Int32.toInt_ofNat_small h
  rw [Int32.lt_iff_toInt_lt, q]; have : (0 : Int32).toInt = 0 := rfl; omega
theorem ofN_s (n : Nat) : Int32.ofNat n + 1 = Int32.ofNat (n + 1) := (Int32.ofNat_add n 1).symm
theorem by_int {x : Int32} (h : By x) : 0 ≤ x.toInt ∧ x.toInt ≤ 255 := by
  obtain ⟨a, b⟩ := h
  rw [Int32.lt_iff_toInt_lt] at a b
  have e0 : (0 : Int32).toInt = 0 := rfl
  have e1 : (255 : Int32).toInt = 255 := rfl
  omega
theorem lo8_by {x y : Int32} (hx : By x) (hy : By y) (e : x.toInt8.toInt32 = y.toInt8.toInt32) : x = y := by
  have a := c_i2b x
  have b := c_i2b y
  have c := by_int hx
  have d := by_int hy
  rw [e] at a
  rw [← Int32.toInt_inj]; omega
theorem vsGet (cs : List Int32) (i : Nat) (h : i < cs.length) : ((cs.map fun c => Value.int (StrChars.lo8 c))).getD i (.int 0) = .int ((cs.getD i 0).toInt8.toInt32) := by
  simp [List.getD_eq_getElem?_getD, h, StrChars.lo8]

def Qi (z : Int32) (h0 : Heap) : Qt := fun v h _ => v = some (.int z) ∧ h = h0
def Qu (h0 : Heap) : Qt := fun v h _ => v = none ∧ h = h0
def U6 (c : Int32) : Prop := ¬ c < 0 ∧ ¬ (65535 : Int32) < c
theorem shr1 {n : Nat} (h : 2 * n < 2 ^ 31) : Int32.ofNat (2 * n) >>> ((1 : Int32) &&& 31) = Int32.ofNat n := by
  rw [← Int32.toInt_inj, c_ishr _ 1 1 (by decide), Int32.toInt_ofNat_small h, Int32.toInt_ofNat_small (by omega)]; omega
theorem shl1 {n : Nat} (h : 2 * n < 2 ^ 31) : Int32.ofNat n <<< ((1 : Int32) &&& 31) = Int32.ofNat (2 * n) := by
  have e := c_ishl (Int32.ofNat n) 1 1 (by decide)
  have r := rng32 (Int32.ofNat n <<< ((1 : Int32) &&& 31))
  rw [Int32.toInt_ofNat_small (by omega)] at e
  rw [← Int32.toInt_inj, Int32.toInt_ofNat_small h]; omega
theorem ofN_inj {n k : Nat} (h : n < 2 ^ 31) (g : k < 2 ^ 31) (e : Int32.ofNat n = Int32.ofNat k) : n = k := by
  have := congrArg Int32.toNatClampNeg e; rwa [ofN_nat h, ofN_nat g] at this
theorem wide_len : ∀ cs : List Int32, (StrChars.Road.wideBytes cs).length = 2 * cs.length
  | [] => rfl
  | c :: cs => by simp only [StrChars.Road.wideBytes, List.length_cons, wide_len cs]; omega
theorem u6_get {cs : List Int32} (h : ∀ c ∈ cs, U6 c) {j : Nat} (hj : j < cs.length) : U6 (cs.getD j 0) := h _ (by simp [List.getD_eq_getElem?_getD, hj])
theorem nu6 {c : Int32} (h : U6 c) : RoadKit.nar .char c = c := by
  have f := c_i2c c
  obtain ⟨a, b⟩ := h
  rw [Int32.lt_iff_toInt_lt] at a b
  have e0 : (0 : Int32).toInt = 0 := rfl
  have e1 : (65535 : Int32).toInt = 65535 := rfl
  show c.toUInt32.toUInt16.toUInt32.toInt32 = c
  rw [← Int32.toInt_inj]; omega
theorem u0 : ∀ c ∈ ([] : List Int32), U6 c := fun _ q => nomatch q
theorem uS {a : Int32} {l : List Int32} (h : U6 a) (t : ∀ c ∈ l, U6 c) : ∀ c ∈ a :: l, U6 c := fun c hc => by rcases List.mem_cons.mp hc with rfl | hc; exact h; exact t c hc
theorem d2_0 : decode jdk_52_method_6_code 0 = .ok (.aload_n 0, 1) := by decide +kernel
theorem d2_1 : decode jdk_52_method_6_code 1 = .ok (.arraylength, 1) := by decide +kernel
theorem d2_2 : decode jdk_52_method_6_code 2 = .ok (.iconst 1, 1) := by decide +kernel
theorem d2_3 : decode jdk_52_method_6_code 3 = .ok (.ishr, 1) := by decide +kernel
theorem d2_4 : decode jdk_52_method_6_code 4 = .ok (.ireturn, 1) := by decide +kernel
abbrev b_ul : Bx := (⟨"java/lang/StringUTF16", "length", "([B)I"⟩, jdk_52_method_6_code, 1, some .int, { frames := 0, cells := 0, slots := 0, locals := 0 })
theorem c_ul (V : Vw) (hw : ∀ d ∈ tables_1, d.before V.a0 V.Z = true) (u n : Nat) (k : ClassId) (vs : List Value) (h : Heap) (ps : List Addr) (A : Arv V.Z h u k .byte (Int32.ofNat (2 * n)) vs (.int 0)) (hn : n ≤ 4000) : Con V b_ul #[.ref u] h ps (Qi (Int32.ofNat n) h) := Con.of (plainFor_of_name pn_1) (L := [.val (.ref u)]) rfl fun K => by
  refine r_aloadN 1 rfl d2_0 rfl rfl ?_
  refine r_arraylength 2 rfl d2_1 A ?_
  refine r_iconst (1 : Int32) 3 rfl d2_2 rfl ?_
  refine r_ishr 4 rfl d2_3 ?_
  rw [shr1 (by omega)]
  refine r_iret rfl d2_4 (by decide) (by decide) [] (fun _ q => nomatch q) ?_
  exact ⟨rfl, rfl⟩
theorem d3_0 : decode jdk_52_method_5_code 0 = .ok (.getstatic 44, 3) := by decide +kernel
theorem d3_3 : decode jdk_52_method_5_code 3 = .ok (.ifCond .ne 25, 3) := by decide +kernel
theorem d3_6 : decode jdk_52_method_5_code 6 = .ok (.iload_n 1, 1) := by decide +kernel
theorem d3_7 : decode jdk_52_method_5_code 7 = .ok (.ifCond .lt 11, 3) := by decide +kernel
theorem d3_10 : decode jdk_52_method_5_code 10 = .ok (.iload_n 1, 1) := by decide +kernel
theorem d3_11 : decode jdk_52_method_5_code 11 = .ok (.aload_n 0, 1) := by decide +kernel
theorem d3_12 : decode jdk_52_method_5_code 12 = .ok (.invokestatic 48, 3) := by decide +kernel
theorem d3_15 : decode jdk_52_method_5_code 15 = .ok (.if_icmp .lt 13, 3) := by decide +kernel
theorem d3_18 : decode jdk_52_method_5_code 18 = .ok (.new 52, 3) := by decide +kernel
theorem d3_21 : decode jdk_52_method_5_code 21 = .ok (.dup, 1) := by decide +kernel
theorem d3_22 : decode jdk_52_method_5_code 22 = .ok (.ldc 54, 2) := by decide +kernel
theorem d3_24 : decode jdk_52_method_5_code 24 = .ok (.invokespecial 56, 3) := by decide +kernel
theorem d3_27 : decode jdk_52_method_5_code 27 = .ok (.athrow, 1) := by decide +kernel
theorem d3_28 : decode jdk_52_method_5_code 28 = .ok (.iload_n 1, 1) := by decide +kernel
theorem d3_29 : decode jdk_52_method_5_code 29 = .ok (.iconst 1, 1) := by decide +kernel
theorem d3_30 : decode jdk_52_method_5_code 30 = .ok (.ishl, 1) := by decide +kernel
theorem d3_31 : decode jdk_52_method_5_code 31 = .ok (.istore_n 1, 1) := by decide +kernel
theorem d3_32 : decode jdk_52_method_5_code 32 = .ok (.aload_n 0, 1) := by decide +kernel
theorem d3_33 : decode jdk_52_method_5_code 33 = .ok (.iload_n 1, 1) := by decide +kernel
theorem d3_34 : decode jdk_52_method_5_code 34 = .ok (.iinc 1 1, 3) := by decide +kernel
theorem d3_37 : decode jdk_52_method_5_code 37 = .ok (.baload, 1) := by decide +kernel
theorem d3_38 : decode jdk_52_method_5_code 38 = .ok (.sipush 255, 3) := by decide +kernel
theorem d3_41 : decode jdk_52_method_5_code 41 = .ok (.iand, 1) := by decide +kernel
theorem d3_42 : decode jdk_52_method_5_code 42 = .ok (.getstatic 59, 3) := by decide +kernel
theorem d3_45 : decode jdk_52_method_5_code 45 = .ok (.ishl, 1) := by decide +kernel
theorem d3_46 : decode jdk_52_method_5_code 46 = .ok (.aload_n 0, 1) := by decide +kernel
theorem d3_47 : decode jdk_52_method_5_code 47 = .ok (.iload_n 1, 1) := by decide +kernel
theorem d3_48 : decode jdk_52_method_5_code 48 = .ok (.baload, 1) := by decide +kernel
theorem d3_49 : decode jdk_52_method_5_code 49 = .ok (.sipush 255, 3) := by decide +kernel
theorem d3_52 : decode jdk_52_method_5_code 52 = .ok (.iand, 1) := by decide +kernel
theorem d3_53 : decode jdk_52_method_5_code 53 = .ok (.getstatic 63, 3) := by decide +kernel
theorem d3_56 : decode jdk_52_method_5_code 56 = .ok (.ishl, 1) := by decide +kernel
theorem d3_57 : decode jdk_52_method_5_code 57 = .ok (.ior, 1) := by decide +kernel
theorem d3_58 : decode jdk_52_method_5_code 58 = .ok (.i2c, 1) := by decide +kernel
theorem d3_59 : decode jdk_52_method_5_code 59 = .ok (.ireturn, 1) := by decide +kernel
abbrev b_gc : Bx := (⟨"java/lang/StringUTF16", "getChar", "([BI)C"⟩, jdk_52_method_5_code, 2, some .char, { frames := 0, cells := 0, slots := 0, locals := 0 })
theorem c_gc (V : Vw) (hw : ∀ d ∈ tables_1, d.before V.a0 V.Z = true) (hAD : Sta V.Z V.Z.heap "java/lang/StringUTF16" "$assertionsDisabled" "Z" (.int 1)) (hHI : Sta V.Z V.Z.heap "java/lang/StringUTF16" "HI_BYTE_SHIFT" "I" (.int 0)) (hLO : Sta V.Z V.Z.heap "java/lang/StringUTF16" "LO_BYTE_SHIFT" "I" (.int 8)) (u : Nat) (k : ClassId) (cs : List Int32) (j : Nat) (hj : j < cs.length) (hU : ∀ c ∈ cs, U6 c) (hl : cs.length ≤ 1000) (h : Heap) (ps : List Addr) (A : Arv V.Z h u k .byte (Int32.ofNat (2 * cs.length)) (StrChars.Road.wideBytes cs) (.int 0)) : Con V b_gc #[.ref u, .int (Int32.ofNat j)] h ps (Qi (cs.getD j 0) h) := Con.of (plainFor_of_name pn_1) (L := [.val (.ref u), .val (.int (Int32.ofNat j))]) rfl fun K => by
  refine r_getstatic 3 rfl d3_0 (wd hw 102 rfl) hAD ?_
  refine r_if_ne 28 6 d3_3 (by decide) rfl rfl (fun c45 => ?_) (fun c45 => ?_)
  rotate_left
  · exact absurd c45 (by decide)
  refine r_iloadN 29 rfl d3_28 rfl ?_
  refine r_iconst (1 : Int32) 30 rfl d3_29 rfl ?_
  refine r_ishl 31 rfl d3_30 ?_
  rw [shl1 (by omega)]
  refine r_istoreN [.val (.ref u), .val (.int (Int32.ofNat (2 * j)))] 32 rfl d3_31 rfl ?_
  refine r_aloadN 33 rfl d3_32 rfl rfl ?_
  refine r_iloadN 34 rfl d3_33 rfl ?_
  refine r_iinc (1) [.val (.ref u), .val (.int ((Int32.ofNat (2 * j)) + (1 : Int32)))] 37 rfl d3_34 rfl rfl rfl ?_
  rw [ofN_s]
  refine r_baload (v := .int (StrChars.lo8 (cs.getD j 0))) 38 rfl d3_37 A ⟨ofN_nn (by omega), (ofN_lt (by omega) (by omega)).mpr (by omega)⟩ (by rw [ofN_nat (by omega)]; exact StrChars.Road.wide_lo _ cs j hj) ?_
  refine r_sipush (255 : Int32) 41 rfl d3_38 rfl ?_
  refine r_iand 42 rfl d3_41 ?_
  refine r_getstatic 45 rfl d3_42 (wd hw 103 rfl) hHI ?_
  refine r_ishl 46 rfl d3_45 ?_
  refine r_aloadN 47 rfl d3_46 rfl rfl ?_
  refine r_iloadN 48 rfl d3_47 rfl ?_
  refine r_baload (v := .int (StrChars.hi8 (cs.getD j 0))) 49 rfl d3_48 A ⟨ofN_nn (by omega), (ofN_lt (by omega) (by omega)).mpr (by omega)⟩ (by rw [ofN_nat (by omega)]; exact StrChars.Road.wide_hi _ cs j hj) ?_
  refine r_sipush (255 : Int32) 52 rfl d3_49 rfl ?_
  refine r_iand 53 rfl d3_52 ?_
  refine r_getstatic 56 rfl d3_53 (wd hw 104 rfl) hLO ?_
  refine r_ishl 57 rfl d3_56 ?_
  refine r_ior 58 rfl d3_57 ?_
  refine r_i2c 59 rfl d3_58 ?_
  refine r_nret (t := .char) ((((StrChars.lo8 (cs.getD j 0)) &&& (255 : Int32)) <<< ((0 : Int32) &&& 31)) ||| (((StrChars.hi8 (cs.getD j 0)) &&& (255 : Int32)) <<< ((8 : Int32) &&& 31))).toUInt32.toUInt16.toUInt32.toInt32 rfl (by simp) (nc16 _) d3_59 (by decide) (by decide) [] (fun _ q => nomatch q) ?_
  exact ⟨congrArg (fun z => some (Value.int z)) (StrChars.pair_says (u6_get hU hj).1 (u6_get hU hj).2), rfl⟩
theorem d4_0 : decode jdk_52_method_4_code 0 = .ok (.getstatic 44, 3) := by decide +kernel
theorem d4_3 : decode jdk_52_method_4_code 3 = .ok (.ifCond .ne 25, 3) := by decide +kernel
theorem d4_6 : decode jdk_52_method_4_code 6 = .ok (.iload_n 1, 1) := by decide +kernel
theorem d4_7 : decode jdk_52_method_4_code 7 = .ok (.ifCond .lt 11, 3) := by decide +kernel
theorem d4_10 : decode jdk_52_method_4_code 10 = .ok (.iload_n 1, 1) := by decide +kernel
theorem d4_11 : decode jdk_52_method_4_code 11 = .ok (.aload_n 0, 1) := by decide +kernel
theorem d4_12 : decode jdk_52_method_4_code 12 = .ok (.invokestatic 48, 3) := by decide +kernel
theorem d4_15 : decode jdk_52_method_4_code 15 = .ok (.if_icmp .lt 13, 3) := by decide +kernel
theorem d4_18 : decode jdk_52_method_4_code 18 = .ok (.new 52, 3) := by decide +kernel
theorem d4_21 : decode jdk_52_method_4_code 21 = .ok (.dup, 1) := by decide +kernel
theorem d4_22 : decode jdk_52_method_4_code 22 = .ok (.ldc 54, 2) := by decide +kernel
theorem d4_24 : decode jdk_52_method_4_code 24 = .ok (.invokespecial 56, 3) := by decide +kernel
theorem d4_27 : decode jdk_52_method_4_code 27 = .ok (.athrow, 1) := by decide +kernel
theorem d4_28 : decode jdk_52_method_4_code 28 = .ok (.iload_n 1, 1) := by decide +kernel
theorem d4_29 : decode jdk_52_method_4_code 29 = .ok (.iconst 1, 1) := by decide +kernel
theorem d4_30 : decode jdk_52_method_4_code 30 = .ok (.ishl, 1) := by decide +kernel
theorem d4_31 : decode jdk_52_method_4_code 31 = .ok (.istore_n 1, 1) := by decide +kernel
theorem d4_32 : decode jdk_52_method_4_code 32 = .ok (.aload_n 0, 1) := by decide +kernel
theorem d4_33 : decode jdk_52_method_4_code 33 = .ok (.iload_n 1, 1) := by decide +kernel
theorem d4_34 : decode jdk_52_method_4_code 34 = .ok (.iinc 1 1, 3) := by decide +kernel
theorem d4_37 : decode jdk_52_method_4_code 37 = .ok (.iload_n 2, 1) := by decide +kernel
theorem d4_38 : decode jdk_52_method_4_code 38 = .ok (.getstatic 59, 3) := by decide +kernel
theorem d4_41 : decode jdk_52_method_4_code 41 = .ok (.ishr, 1) := by decide +kernel
theorem d4_42 : decode jdk_52_method_4_code 42 = .ok (.i2b, 1) := by decide +kernel
theorem d4_43 : decode jdk_52_method_4_code 43 = .ok (.bastore, 1) := by decide +kernel
theorem d4_44 : decode jdk_52_method_4_code 44 = .ok (.aload_n 0, 1) := by decide +kernel
theorem d4_45 : decode jdk_52_method_4_code 45 = .ok (.iload_n 1, 1) := by decide +kernel
theorem d4_46 : decode jdk_52_method_4_code 46 = .ok (.iload_n 2, 1) := by decide +kernel
theorem d4_47 : decode jdk_52_method_4_code 47 = .ok (.getstatic 63, 3) := by decide +kernel
theorem d4_50 : decode jdk_52_method_4_code 50 = .ok (.ishr, 1) := by decide +kernel
theorem d4_51 : decode jdk_52_method_4_code 51 = .ok (.i2b, 1) := by decide +kernel
theorem d4_52 : decode jdk_52_method_4_code 52 = .ok (.bastore, 1) := by decide +kernel
theorem d4_53 : decode jdk_52_method_4_code 53 = .ok (.return_, 1) := by decide +kernel
abbrev b_pc : Bx := (⟨"java/lang/StringUTF16", "putChar", "([BII)V"⟩, jdk_52_method_4_code, 3, none, { frames := 0, cells := 0, slots := 0, locals := 0 })
def Qpc (V : Vw) (u : Nat) (k : ClassId) (N : Int32) (vs : List Value) (h0 : Heap) : Qt := fun v h _ => v = none ∧ Keep h0 h [u] ∧ Arv V.Z h u k .byte N vs (.int 0)
theorem c_pc (V : Vw) (hw : ∀ d ∈ tables_1, d.before V.a0 V.Z = true) (hAD : Sta V.Z V.Z.heap "java/lang/StringUTF16" "$assertionsDisabled" "Z" (.int 1)) (hHI : Sta V.Z V.Z.heap "java/lang/StringUTF16" "HI_BYTE_SHIFT" "I" (.int 0)) (hLO : Sta V.Z V.Z.heap "java/lang/StringUTF16" "LO_BYTE_SHIFT" "I" (.int 8)) (u : Nat) (k : ClassId) (N : Nat) (vs : List Value) (j : Nat) (c : Int32) (h : Heap) (ps : List Addr) (A : Arv V.Z h u k .byte (Int32.ofNat N) vs (.int 0)) (hj : 2 * j + 1 < vs.length) (hN : vs.length ≤ N) (hM : N ≤ 4000) (zu : V.Z.heap.size ≤ u) (mu : u ∈ ps) : Con V b_pc #[.ref u, .int (Int32.ofNat j), .int c] h ps (Qpc V u k (Int32.ofNat N) ((vs.set (2 * j) (.int (StrChars.lo8 c))).set (2 * j + 1) (.int (StrChars.hi8 c))) h) := Con.of (plainFor_of_name pn_1) (L := [.val (.ref u), .val (.int (Int32.ofNat j)), .val (.int c)]) rfl fun K => by
  refine r_getstatic 3 rfl d4_0 (wd hw 102 rfl) hAD ?_
  refine r_if_ne 28 6 d4_3 (by decide) rfl rfl (fun c46 => ?_) (fun c46 => ?_)
  rotate_left
  · exact absurd c46 (by decide)
  refine r_iloadN 29 rfl d4_28 rfl ?_
  refine r_iconst (1 : Int32) 30 rfl d4_29 rfl ?_
  refine r_ishl 31 rfl d4_30 ?_
  rw [shl1 (by omega)]
  refine r_istoreN [.val (.ref u), .val (.int (Int32.ofNat (2 * j))), .val (.int c)] 32 rfl d4_31 rfl ?_
  refine r_aloadN 33 rfl d4_32 rfl rfl ?_
  refine r_iloadN 34 rfl d4_33 rfl ?_
  refine r_iinc (1) [.val (.ref u), .val (.int ((Int32.ofNat (2 * j)) + (1 : Int32))), .val (.int c)] 37 rfl d4_34 rfl rfl rfl ?_
  rw [ofN_s]
  refine r_iloadN 38 rfl d4_37 rfl ?_
  refine r_getstatic 41 rfl d4_38 (wd hw 103 rfl) hHI ?_
  refine r_ishr 42 rfl d4_41 ?_
  refine r_i2b 43 rfl d4_42 ?_
  refine r_bastore (2 * j) 44 rfl d4_43 A ⟨ofN_nn (by omega), (ofN_lt (by omega) (by omega)).mpr (by omega)⟩ (ofN_nat (by omega)) (by omega) zu mu (StrChars.lo8 c) (by rw [StrChars.shr0]; simp [StrChars.lo8]) fun h47 Wh47 A1 => ?_
  refine r_aloadN 45 rfl d4_44 rfl rfl ?_
  refine r_iloadN 46 rfl d4_45 rfl ?_
  refine r_iloadN 47 rfl d4_46 rfl ?_
  refine r_getstatic 50 rfl d4_47 (wd hw 104 rfl) hLO ?_
  refine r_ishr 51 rfl d4_50 ?_
  refine r_i2b 52 rfl d4_51 ?_
  refine r_bastore (2 * j + 1) 53 rfl d4_52 A1 ⟨ofN_nn (by omega), (ofN_lt (by omega) (by omega)).mpr (by omega)⟩ (ofN_nat (by omega)) (by rw [List.length_set]; omega) zu mu (StrChars.hi8 c) (by simp [StrChars.hi8, StrChars.lo8]) fun h48 Wh48 A2 => ?_
  refine r_ret rfl d4_53 (by decide) (by decide) [] (fun _ q => nomatch q) ?_
  exact ⟨rfl, (Keep.of_wr Wh47).wr Wh48 (Or.inl (by simp)), A2⟩
theorem d5_0 : decode jdk_52_method_3_code 0 = .ok (.iload_n 0, 1) := by decide +kernel
theorem d5_1 : decode jdk_52_method_3_code 1 = .ok (.ifCond .ge 11, 3) := by decide +kernel
theorem d5_4 : decode jdk_52_method_3_code 4 = .ok (.new 17, 3) := by decide +kernel
theorem d5_7 : decode jdk_52_method_3_code 7 = .ok (.dup, 1) := by decide +kernel
theorem d5_8 : decode jdk_52_method_3_code 8 = .ok (.invokespecial 19, 3) := by decide +kernel
theorem d5_11 : decode jdk_52_method_3_code 11 = .ok (.athrow, 1) := by decide +kernel
theorem d5_12 : decode jdk_52_method_3_code 12 = .ok (.iload_n 0, 1) := by decide +kernel
theorem d5_13 : decode jdk_52_method_3_code 13 = .ok (.ldc 20, 2) := by decide +kernel
theorem d5_15 : decode jdk_52_method_3_code 15 = .ok (.if_icmp .lt 40, 3) := by decide +kernel
theorem d5_18 : decode jdk_52_method_3_code 18 = .ok (.new 21, 3) := by decide +kernel
theorem d5_21 : decode jdk_52_method_3_code 21 = .ok (.dup, 1) := by decide +kernel
theorem d5_22 : decode jdk_52_method_3_code 22 = .ok (.new 23, 3) := by decide +kernel
theorem d5_25 : decode jdk_52_method_3_code 25 = .ok (.dup, 1) := by decide +kernel
theorem d5_26 : decode jdk_52_method_3_code 26 = .ok (.invokespecial 25, 3) := by decide +kernel
theorem d5_29 : decode jdk_52_method_3_code 29 = .ok (.ldc 26, 2) := by decide +kernel
theorem d5_31 : decode jdk_52_method_3_code 31 = .ok (.invokevirtual 28, 3) := by decide +kernel
theorem d5_34 : decode jdk_52_method_3_code 34 = .ok (.iload_n 0, 1) := by decide +kernel
theorem d5_35 : decode jdk_52_method_3_code 35 = .ok (.invokevirtual 32, 3) := by decide +kernel
theorem d5_38 : decode jdk_52_method_3_code 38 = .ok (.ldc 35, 2) := by decide +kernel
theorem d5_40 : decode jdk_52_method_3_code 40 = .ok (.invokevirtual 28, 3) := by decide +kernel
theorem d5_43 : decode jdk_52_method_3_code 43 = .ok (.ldc 20, 2) := by decide +kernel
theorem d5_45 : decode jdk_52_method_3_code 45 = .ok (.invokevirtual 32, 3) := by decide +kernel
theorem d5_48 : decode jdk_52_method_3_code 48 = .ok (.invokevirtual 37, 3) := by decide +kernel
theorem d5_51 : decode jdk_52_method_3_code 51 = .ok (.invokespecial 41, 3) := by decide +kernel
theorem d5_54 : decode jdk_52_method_3_code 54 = .ok (.athrow, 1) := by decide +kernel
theorem d5_55 : decode jdk_52_method_3_code 55 = .ok (.iload_n 0, 1) := by decide +kernel
theorem d5_56 : decode jdk_52_method_3_code 56 = .ok (.iconst 1, 1) := by decide +kernel
theorem d5_57 : decode jdk_52_method_3_code 57 = .ok (.ishl, 1) := by decide +kernel
theorem d5_58 : decode jdk_52_method_3_code 58 = .ok (.ireturn, 1) := by decide +kernel
abbrev b_nbl : Bx := (⟨"java/lang/StringUTF16", "newBytesLength", "(I)I"⟩, jdk_52_method_3_code, 1, some .int, { frames := 0, cells := 0, slots := 0, locals := 0 })
theorem c_nbl (V : Vw) (hw : ∀ d ∈ tables_1, d.before V.a0 V.Z = true) (n : Nat) (hn : n ≤ 4) (h : Heap) (ps : List Addr) : Con V b_nbl #[.int (Int32.ofNat n)] h ps (Qi (Int32.ofNat (2 * n)) h) := Con.of (plainFor_of_name pn_1) (L := [.val (.int (Int32.ofNat n))]) rfl fun K => by
  refine r_iloadN 1 rfl d5_0 rfl ?_
  refine r_if_ge 12 4 d5_1 (by decide) rfl rfl (fun c49 => ?_) (fun c49 => ?_)
  rotate_left
  · exact absurd (ofN_nn (by omega)) (fun q => q c49)
  refine r_iloadN 13 rfl d5_12 rfl ?_
  refine r_ldcI 15 rfl d5_13 (wd hw 98 rfl) ?_
  refine r_icmp_lt 55 18 d5_15 (by decide) rfl rfl (fun c50 => ?_) (fun c50 => ?_)
  rotate_left
  · exact absurd ((ofN_lt (n := n) (k := 1073741823) (by omega) (by decide)).mpr (by omega)) c50
  refine r_iloadN 56 rfl d5_55 rfl ?_
  refine r_iconst (1 : Int32) 57 rfl d5_56 rfl ?_
  refine r_ishl 58 rfl d5_57 ?_
  rw [shl1 (by omega)]
  refine r_iret rfl d5_58 (by decide) (by decide) [] (fun _ q => nomatch q) ?_
  exact ⟨rfl, rfl⟩
theorem d6_0 : decode jdk_52_method_2_code 0 = .ok (.iload_n 0, 1) := by decide +kernel
theorem d6_1 : decode jdk_52_method_2_code 1 = .ok (.invokestatic 11, 3) := by decide +kernel
theorem d6_4 : decode jdk_52_method_2_code 4 = .ok (.newarray .byte, 2) := by decide +kernel
theorem d6_6 : decode jdk_52_method_2_code 6 = .ok (.areturn, 1) := by decide +kernel
abbrev b_nbf : Bx := (⟨"java/lang/StringUTF16", "newBytesFor", "(I)[B"⟩, jdk_52_method_2_code, 1, some (.array .byte), { frames := 1, cells := 1, slots := 8, locals := 14 })
theorem c_nbf (V : Vw) (hw : ∀ d ∈ tables_1, d.before V.a0 V.Z = true) (n : Nat) (hn : n ≤ 4) (h : Heap) (ps : List Addr) : Con V b_nbf #[.int (Int32.ofNat n)] h ps (fun v h' ps' => ∃ (u : Nat) (k : ClassId), v = some (.ref u) ∧ Ext h h' ∧ h.size ≤ u ∧ V.Z.heap.size ≤ u ∧ u ∈ ps' ∧ Arv V.Z h' u k .byte (Int32.ofNat (2 * n)) [] (.int 0)) := Con.of (plainFor_of_name pn_1) (L := [.val (.int (Int32.ofNat n))]) rfl fun K => by
  refine r_iloadN 1 rfl d6_0 rfl ?_
  refine r_static 4 rfl d6_1 (wd hw 95 rfl) (wd hw 96 rfl) (wd hw 49 rfl) (wd hw 97 rfl) (by decide) (Pays.con (K := K) (B := b_nbf) (c_nbl V hw n hn h _) (wd hw 97 rfl) (wd hw 49 rfl) (by decide) (by decide)) (W := 0) (argsL := [.int (Int32.ofNat n)]) (lenOf pd_5 rfl) rfl rfl rfl (Nat.le_of_eq rfl) (Nat.le_of_ble_eq_true rfl) (Nat.le_of_ble_eq_true rfl) fun v54 h55 ps51 q53 z52 => ?_
  obtain ⟨rfl, es56⟩ := q53
  subst h55
  show Own.Run V K b_nbf _ h _ 0 0 4 [.val (.int (Int32.ofNat n))] [.int (Int32.ofNat (2 * n))]
  refine r_newarray 8 6 rfl d6_4 (wd hw 25 rfl) (ofN_nn (by omega)) (by rw [ofN_nat (by omega)]; exact (by omega)) (by decide) (by decide) (by decide) fun a57 h58 k59 ga57 za57 Eh58 Aa57 => ?_
  have sh58 := Eh58.1
  have la57 := ltN Aa57.lt
  refine r_aret (t := (.array .byte)) rfl rfl rfl d6_6 (by decide) (by decide) [a57] (fun y hy => by cases List.mem_singleton.mp hy; simp) ?_
  exact ⟨_, _, rfl, Eh58, by omega, za57, List.mem_singleton.mpr rfl, Aa57⟩
def Qtb (V : Vw) (n : Nat) (cs : List Int32) (h0 : Heap) : Qt := fun v h _ => ∃ (u : Nat) (k : ClassId), v = some (.ref u) ∧ Ext h0 h ∧ h0.size ≤ u ∧ Arv V.Z h u k .byte (Int32.ofNat (2 * n)) (StrChars.Road.wideBytes cs) (.int 0)
def Qc5 (t n : Nat) (cs : List Int32) (h0 : Heap) : Qt := fun v h _ => ∃ j : Nat, v = some (.int (Int32.ofNat j)) ∧ j < n ∧ 255 < cs.getD j 0 ∧ Keep h0 h [t]
theorem d7_0 : decode jdk_52_method_14_code 0 = .ok (.iload_n 2, 1) := by decide +kernel
theorem d7_1 : decode jdk_52_method_14_code 1 = .ok (.invokestatic 107, 3) := by decide +kernel
theorem d7_4 : decode jdk_52_method_14_code 4 = .ok (.astore_n 3, 1) := by decide +kernel
theorem d7_5 : decode jdk_52_method_14_code 5 = .ok (.iconst 0, 1) := by decide +kernel
theorem d7_6 : decode jdk_52_method_14_code 6 = .ok (.istore 4, 2) := by decide +kernel
theorem d7_8 : decode jdk_52_method_14_code 8 = .ok (.iload 4, 2) := by decide +kernel
theorem d7_10 : decode jdk_52_method_14_code 10 = .ok (.iload_n 2, 1) := by decide +kernel
theorem d7_11 : decode jdk_52_method_14_code 11 = .ok (.if_icmp .ge 21, 3) := by decide +kernel
theorem d7_14 : decode jdk_52_method_14_code 14 = .ok (.aload_n 3, 1) := by decide +kernel
theorem d7_15 : decode jdk_52_method_14_code 15 = .ok (.iload 4, 2) := by decide +kernel
theorem d7_17 : decode jdk_52_method_14_code 17 = .ok (.aload_n 0, 1) := by decide +kernel
theorem d7_18 : decode jdk_52_method_14_code 18 = .ok (.iload_n 1, 1) := by decide +kernel
theorem d7_19 : decode jdk_52_method_14_code 19 = .ok (.caload, 1) := by decide +kernel
theorem d7_20 : decode jdk_52_method_14_code 20 = .ok (.invokestatic 111, 3) := by decide +kernel
theorem d7_23 : decode jdk_52_method_14_code 23 = .ok (.iinc 1 1, 3) := by decide +kernel
theorem d7_26 : decode jdk_52_method_14_code 26 = .ok (.iinc 4 1, 3) := by decide +kernel
theorem d7_29 : decode jdk_52_method_14_code 29 = .ok (.goto (-21), 3) := by decide +kernel
theorem d7_32 : decode jdk_52_method_14_code 32 = .ok (.aload_n 3, 1) := by decide +kernel
theorem d7_33 : decode jdk_52_method_14_code 33 = .ok (.areturn, 1) := by decide +kernel
abbrev b_tb1 : Bx := (⟨"java/lang/StringUTF16", "toBytes", "([CII)[B"⟩, jdk_52_method_14_code, 5, some (.array .byte), { frames := 2, cells := 1, slots := 8, locals := 34 })
theorem c_tb1 (V : Vw) (hw : ∀ d ∈ tables_1, d.before V.a0 V.Z = true) (hAD : Sta V.Z V.Z.heap "java/lang/StringUTF16" "$assertionsDisabled" "Z" (.int 1)) (hHI : Sta V.Z V.Z.heap "java/lang/StringUTF16" "HI_BYTE_SHIFT" "I" (.int 0)) (hLO : Sta V.Z V.Z.heap "java/lang/StringUTF16" "LO_BYTE_SHIFT" "I" (.int 8)) (c0 : Int32) (h : Heap) (ps : List Addr) (b : Nat) (kC : ClassId) (A : Arv V.Z h b kC .char (1 : Int32) [.int c0] (.int 0)) : Con V b_tb1 #[.ref b, .int 0, .int (1 : Int32)] h ps (Qtb V 1 ([c0] : List Int32) h) := Con.of (plainFor_of_name pn_1) (L := [.val (.ref b), .val (.int (0 : Int32)), .val (.int (1 : Int32)), .unset, .unset]) rfl fun K => by
  have lb := ltN A.lt
  refine r_iloadN 1 rfl d7_0 rfl ?_
  refine r_static 4 rfl d7_1 (wd hw 92 rfl) (wd hw 93 rfl) (wd hw 49 rfl) (wd hw 94 rfl) (by decide) (Pays.con (K := K) (B := b_tb1) (c_nbf V hw 1 (by decide) h _) (wd hw 94 rfl) (wd hw 49 rfl) (by decide) (by decide)) (W := 0) (argsL := [.int (1 : Int32)]) (lenOf pd_6 rfl) rfl rfl rfl (Nat.le_of_eq rfl) (Nat.le_of_ble_eq_true rfl) (Nat.le_of_ble_eq_true rfl) fun v62 h63 psu q61 z60 => ?_
  obtain ⟨u, ku, rfl, E0, gu, zu, mu, A0⟩ := q61
  have f64 := A.ext E0
  have sh63 := E0.1
  show Own.Run V K b_tb1 _ h63 _ 1 8 4 [.val (.ref b), .val (.int (0 : Int32)), .val (.int (1 : Int32)), .unset, .unset] [.ref u]
  have D0 : Arv V.Z h63 u ku .byte (Int32.ofNat (2 * 1)) [.int 0, .int 0] (.int 0) := Arv.pad A0 (pad_rep [] (.int 0) 2)
  refine r_astoreN [.val (.ref b), .val (.int (0 : Int32)), .val (.int (1 : Int32)), .val (.ref u), .unset] 5 rfl d7_4 rfl rfl ?_
  refine r_iconst (0 : Int32) 6 rfl d7_5 rfl ?_
  refine r_istore [.val (.ref b), .val (.int (0 : Int32)), .val (.int (1 : Int32)), .val (.ref u), .val (.int (0 : Int32))] 8 rfl d7_6 rfl ?_
  refine r_iload 10 rfl d7_8 rfl ?_
  refine r_iloadN 11 rfl d7_10 rfl ?_
  refine r_icmp_ge 32 14 d7_11 (by decide) rfl rfl (fun c65 => ?_) (fun c65 => ?_)
  · exact absurd c65 (by decide)
  refine r_aloadN 15 rfl d7_14 rfl rfl ?_
  refine r_iload 17 rfl d7_15 rfl ?_
  refine r_aloadN 18 rfl d7_17 rfl rfl ?_
  refine r_iloadN 19 rfl d7_18 rfl ?_
  refine r_caload (v := .int c0) 20 rfl d7_19 f64 (by decide) rfl ?_
  refine r_static 23 rfl d7_20 (wd hw 99 rfl) (wd hw 100 rfl) (wd hw 49 rfl) (wd hw 101 rfl) (by decide) (Pays.con (K := K) (B := b_tb1) (c_pc V hw hAD hHI hLO u ku (2 * 1) [.int 0, .int 0] 0 c0 h63 _ D0 (Nat.le_of_ble_eq_true rfl) (Nat.le_of_ble_eq_true rfl) (by decide) zu (by simp [mu])) (wd hw 101 rfl) (wd hw 49 rfl) (by decide) (by decide)) (W := 0) (argsL := [.ref u, .int (0 : Int32), .int c0]) (lenOf pd_4 rfl) rfl rfl rfl (Nat.le_of_eq rfl) (Nat.le_of_ble_eq_true rfl) (Nat.le_of_ble_eq_true rfl) fun v69 h70 ps66 q68 z67 => ?_
  obtain ⟨rfl, K1, D1⟩ := q68
  have f71 := Arv.keep f64 K1 (ninS (neA (by omega)) nin0)
  show Own.Run V K b_tb1 _ h70 _ 1 8 23 [.val (.ref b), .val (.int (0 : Int32)), .val (.int (1 : Int32)), .val (.ref u), .val (.int (0 : Int32))] []
  replace D1 : Arv V.Z h70 u ku .byte (Int32.ofNat (2 * 1)) [.int (StrChars.lo8 c0), .int (StrChars.hi8 c0)] (.int 0) := D1
  have sh70 := K1.1
  refine r_iinc (1) [.val (.ref b), .val (.int ((0 : Int32) + (1 : Int32))), .val (.int (1 : Int32)), .val (.ref u), .val (.int (0 : Int32))] 26 rfl d7_23 rfl rfl rfl ?_
  rw [show (0 : Int32) + 1 = 1 from by decide]
  refine r_iinc (1) [.val (.ref b), .val (.int (1 : Int32)), .val (.int (1 : Int32)), .val (.ref u), .val (.int ((0 : Int32) + (1 : Int32)))] 29 rfl d7_26 rfl rfl rfl ?_
  rw [show (0 : Int32) + 1 = 1 from by decide]
  refine r_goto 8 d7_29 (by decide) rfl ?_
  refine r_iload 10 rfl d7_8 rfl ?_
  refine r_iloadN 11 rfl d7_10 rfl ?_
  refine r_icmp_ge 32 14 d7_11 (by decide) rfl rfl (fun c72 => ?_) (fun c72 => ?_)
  rotate_left
  · exact absurd c72 (by decide)
  refine r_aloadN 33 rfl d7_32 rfl rfl ?_
  refine r_aret (t := (.array .byte)) rfl rfl rfl d7_33 (by decide) (by decide) [] (fun _ q => nomatch q) ?_
  exact ⟨_, _, rfl, Keep.ext0 (E0) K1 (fun w hw' => by cases List.mem_singleton.mp hw'; exact leA (by omega)), gu, D1⟩
theorem d8_0 : decode jdk_52_method_21_code 0 = .ok (.iconst 0, 1) := by decide +kernel
theorem d8_1 : decode jdk_52_method_21_code 1 = .ok (.istore 5, 2) := by decide +kernel
theorem d8_3 : decode jdk_52_method_21_code 3 = .ok (.iload 5, 2) := by decide +kernel
theorem d8_5 : decode jdk_52_method_21_code 5 = .ok (.iload 4, 2) := by decide +kernel
theorem d8_7 : decode jdk_52_method_21_code 7 = .ok (.if_icmp .ge 37, 3) := by decide +kernel
theorem d8_10 : decode jdk_52_method_21_code 10 = .ok (.aload_n 0, 1) := by decide +kernel
theorem d8_11 : decode jdk_52_method_21_code 11 = .ok (.iload_n 1, 1) := by decide +kernel
theorem d8_12 : decode jdk_52_method_21_code 12 = .ok (.caload, 1) := by decide +kernel
theorem d8_13 : decode jdk_52_method_21_code 13 = .ok (.istore 6, 2) := by decide +kernel
theorem d8_15 : decode jdk_52_method_21_code 15 = .ok (.iload 6, 2) := by decide +kernel
theorem d8_17 : decode jdk_52_method_21_code 17 = .ok (.sipush 255, 3) := by decide +kernel
theorem d8_20 : decode jdk_52_method_21_code 20 = .ok (.if_icmp .le 6, 3) := by decide +kernel
theorem d8_23 : decode jdk_52_method_21_code 23 = .ok (.iload 5, 2) := by decide +kernel
theorem d8_25 : decode jdk_52_method_21_code 25 = .ok (.ireturn, 1) := by decide +kernel
theorem d8_26 : decode jdk_52_method_21_code 26 = .ok (.aload_n 2, 1) := by decide +kernel
theorem d8_27 : decode jdk_52_method_21_code 27 = .ok (.iload_n 3, 1) := by decide +kernel
theorem d8_28 : decode jdk_52_method_21_code 28 = .ok (.iload 6, 2) := by decide +kernel
theorem d8_30 : decode jdk_52_method_21_code 30 = .ok (.i2b, 1) := by decide +kernel
theorem d8_31 : decode jdk_52_method_21_code 31 = .ok (.bastore, 1) := by decide +kernel
theorem d8_32 : decode jdk_52_method_21_code 32 = .ok (.iinc 1 1, 3) := by decide +kernel
theorem d8_35 : decode jdk_52_method_21_code 35 = .ok (.iinc 3 1, 3) := by decide +kernel
theorem d8_38 : decode jdk_52_method_21_code 38 = .ok (.iinc 5 1, 3) := by decide +kernel
theorem d8_41 : decode jdk_52_method_21_code 41 = .ok (.goto (-38), 3) := by decide +kernel
theorem d8_44 : decode jdk_52_method_21_code 44 = .ok (.iload 4, 2) := by decide +kernel
theorem d8_46 : decode jdk_52_method_21_code 46 = .ok (.ireturn, 1) := by decide +kernel
abbrev b_c51 : Bx := (⟨"java/lang/StringUTF16", "compress", "([CI[BII)I"⟩, jdk_52_method_21_code, 7, some .int, { frames := 0, cells := 0, slots := 0, locals := 0 })
theorem c_c51 (V : Vw) (hw : ∀ d ∈ tables_1, d.before V.a0 V.Z = true) (c0 : Int32) (hwd : ∃ c ∈ ([c0] : List Int32), 255 < c) (h : Heap) (ps : List Addr) (b : Nat) (kC : ClassId) (A : Arv V.Z h b kC .char (1 : Int32) [.int c0] (.int 0)) (t : Nat) (kt : ClassId) (D : Arv V.Z h t kt .byte (1 : Int32) [.int 0] (.int 0)) (zt : V.Z.heap.size ≤ t) (mt : t ∈ ps) (nbt : b ≠ t) : Con V b_c51 #[.ref b, .int 0, .ref t, .int 0, .int (1 : Int32)] h ps (Qc5 t 1 ([c0] : List Int32) h) := Con.of (plainFor_of_name pn_1) (L := [.val (.ref b), .val (.int (0 : Int32)), .val (.ref t), .val (.int (0 : Int32)), .val (.int (1 : Int32)), .unset, .unset]) rfl fun K => by
  have nb := neN nbt
  refine r_iconst (0 : Int32) 1 rfl d8_0 rfl ?_
  refine r_istore [.val (.ref b), .val (.int (0 : Int32)), .val (.ref t), .val (.int (0 : Int32)), .val (.int (1 : Int32)), .val (.int (0 : Int32)), .unset] 3 rfl d8_1 rfl ?_
  refine r_iload 5 rfl d8_3 rfl ?_
  refine r_iload 7 rfl d8_5 rfl ?_
  refine r_icmp_ge 44 10 d8_7 (by decide) rfl rfl (fun c73 => ?_) (fun c73 => ?_)
  · exact absurd c73 (by decide)
  refine r_aloadN 11 rfl d8_10 rfl rfl ?_
  refine r_iloadN 12 rfl d8_11 rfl ?_
  refine r_caload (v := .int c0) 13 rfl d8_12 A (by decide) rfl ?_
  refine r_istore [.val (.ref b), .val (.int (0 : Int32)), .val (.ref t), .val (.int (0 : Int32)), .val (.int (1 : Int32)), .val (.int (0 : Int32)), .val (.int c0)] 15 rfl d8_13 rfl ?_
  refine r_iload 17 rfl d8_15 rfl ?_
  refine r_sipush (255 : Int32) 20 rfl d8_17 rfl ?_
  refine r_icmp_le 26 23 d8_20 (by decide) rfl rfl (fun c74 => ?_) (fun c74 => ?_)
  rotate_left
  · refine r_iload 25 rfl d8_23 rfl ?_
    refine r_iret rfl d8_25 (by decide) (by decide) [] (fun _ q => nomatch q) ?_
    exact ⟨0, rfl, by decide, c74, Keep.refl _ _⟩
  refine r_aloadN 27 rfl d8_26 rfl rfl ?_
  refine r_iloadN 28 rfl d8_27 rfl ?_
  refine r_iload 30 rfl d8_28 rfl ?_
  refine r_i2b 31 rfl d8_30 ?_
  refine r_bastore 0 32 rfl d8_31 D (by decide) rfl (Nat.le_of_ble_eq_true rfl) zt (by simp [mt]) c0.toInt8.toInt32 (by simp) fun h75 Wh75 f76 => ?_
  have f77 := Arv.other A Wh75 (neA (by omega))
  replace f76 : Arv V.Z h75 t kt .byte (1 : Int32) [.int c0.toInt8.toInt32] (.int 0) := f76
  refine r_iinc (1) [.val (.ref b), .val (.int ((0 : Int32) + (1 : Int32))), .val (.ref t), .val (.int (0 : Int32)), .val (.int (1 : Int32)), .val (.int (0 : Int32)), .val (.int c0)] 35 rfl d8_32 rfl rfl rfl ?_
  rw [show (0 : Int32) + 1 = 1 from by decide]
  refine r_iinc (1) [.val (.ref b), .val (.int (1 : Int32)), .val (.ref t), .val (.int ((0 : Int32) + (1 : Int32))), .val (.int (1 : Int32)), .val (.int (0 : Int32)), .val (.int c0)] 38 rfl d8_35 rfl rfl rfl ?_
  rw [show (0 : Int32) + 1 = 1 from by decide]
  refine r_iinc (1) [.val (.ref b), .val (.int (1 : Int32)), .val (.ref t), .val (.int (1 : Int32)), .val (.int (1 : Int32)), .val (.int ((0 : Int32) + (1 : Int32))), .val (.int c0)] 41 rfl d8_38 rfl rfl rfl ?_
  rw [show (0 : Int32) + 1 = 1 from by decide]
  refine r_goto 3 d8_41 (by decide) rfl ?_
  refine absurd hwd ?_
  rintro ⟨c, hc, q⟩
  simp only [List.mem_cons, List.not_mem_nil, or_false] at hc
  rcases hc with rfl
  · exact c74 q
theorem d9_0 : decode jdk_52_method_16_code 0 = .ok (.iload_n 2, 1) := by decide +kernel
theorem d9_1 : decode jdk_52_method_16_code 1 = .ok (.newarray .byte, 2) := by decide +kernel
theorem d9_3 : decode jdk_52_method_16_code 3 = .ok (.astore_n 3, 1) := by decide +kernel
theorem d9_4 : decode jdk_52_method_16_code 4 = .ok (.aload_n 0, 1) := by decide +kernel
theorem d9_5 : decode jdk_52_method_16_code 5 = .ok (.iload_n 1, 1) := by decide +kernel
theorem d9_6 : decode jdk_52_method_16_code 6 = .ok (.aload_n 3, 1) := by decide +kernel
theorem d9_7 : decode jdk_52_method_16_code 7 = .ok (.iconst 0, 1) := by decide +kernel
theorem d9_8 : decode jdk_52_method_16_code 8 = .ok (.iload_n 2, 1) := by decide +kernel
theorem d9_9 : decode jdk_52_method_16_code 9 = .ok (.invokestatic 115, 3) := by decide +kernel
theorem d9_12 : decode jdk_52_method_16_code 12 = .ok (.istore 4, 2) := by decide +kernel
theorem d9_14 : decode jdk_52_method_16_code 14 = .ok (.iload 4, 2) := by decide +kernel
theorem d9_16 : decode jdk_52_method_16_code 16 = .ok (.iload_n 2, 1) := by decide +kernel
theorem d9_17 : decode jdk_52_method_16_code 17 = .ok (.if_icmp .eq 40, 3) := by decide +kernel
theorem d9_20 : decode jdk_52_method_16_code 20 = .ok (.aload_n 0, 1) := by decide +kernel
theorem d9_21 : decode jdk_52_method_16_code 21 = .ok (.iload_n 1, 1) := by decide +kernel
theorem d9_22 : decode jdk_52_method_16_code 22 = .ok (.iload_n 2, 1) := by decide +kernel
theorem d9_23 : decode jdk_52_method_16_code 23 = .ok (.invokestatic 119, 3) := by decide +kernel
theorem d9_26 : decode jdk_52_method_16_code 26 = .ok (.astore 5, 2) := by decide +kernel
theorem d9_28 : decode jdk_52_method_16_code 28 = .ok (.aload 5, 2) := by decide +kernel
theorem d9_30 : decode jdk_52_method_16_code 30 = .ok (.iload 4, 2) := by decide +kernel
theorem d9_32 : decode jdk_52_method_16_code 32 = .ok (.invokestatic 71, 3) := by decide +kernel
theorem d9_35 : decode jdk_52_method_16_code 35 = .ok (.sipush 255, 3) := by decide +kernel
theorem d9_38 : decode jdk_52_method_16_code 38 = .ok (.if_icmp .gt 16, 3) := by decide +kernel
theorem d9_41 : decode jdk_52_method_16_code 41 = .ok (.aload 5, 2) := by decide +kernel
theorem d9_43 : decode jdk_52_method_16_code 43 = .ok (.iconst 0, 1) := by decide +kernel
theorem d9_44 : decode jdk_52_method_16_code 44 = .ok (.aload_n 3, 1) := by decide +kernel
theorem d9_45 : decode jdk_52_method_16_code 45 = .ok (.iconst 0, 1) := by decide +kernel
theorem d9_46 : decode jdk_52_method_16_code 46 = .ok (.iload_n 2, 1) := by decide +kernel
theorem d9_47 : decode jdk_52_method_16_code 47 = .ok (.invokestatic 123, 3) := by decide +kernel
theorem d9_50 : decode jdk_52_method_16_code 50 = .ok (.iload_n 2, 1) := by decide +kernel
theorem d9_51 : decode jdk_52_method_16_code 51 = .ok (.if_icmp .eq 6, 3) := by decide +kernel
theorem d9_54 : decode jdk_52_method_16_code 54 = .ok (.aload 5, 2) := by decide +kernel
theorem d9_56 : decode jdk_52_method_16_code 56 = .ok (.areturn, 1) := by decide +kernel
theorem d9_57 : decode jdk_52_method_16_code 57 = .ok (.aload_n 3, 1) := by decide +kernel
theorem d9_58 : decode jdk_52_method_16_code 58 = .ok (.areturn, 1) := by decide +kernel
abbrev b_c31 : Bx := (⟨"java/lang/StringUTF16", "compress", "([CII)[B"⟩, jdk_52_method_16_code, 6, some (.array .byte), { frames := 3, cells := 2, slots := 12, locals := 60 })
theorem c_c31 (V : Vw) (hw : ∀ d ∈ tables_1, d.before V.a0 V.Z = true) (hAD : Sta V.Z V.Z.heap "java/lang/StringUTF16" "$assertionsDisabled" "Z" (.int 1)) (hHI : Sta V.Z V.Z.heap "java/lang/StringUTF16" "HI_BYTE_SHIFT" "I" (.int 0)) (hLO : Sta V.Z V.Z.heap "java/lang/StringUTF16" "LO_BYTE_SHIFT" "I" (.int 8)) (c0 : Int32) (hc0 : U6 c0) (hwd : ∃ c ∈ ([c0] : List Int32), 255 < c) (h : Heap) (ps : List Addr) (b : Nat) (kC : ClassId) (A : Arv V.Z h b kC .char (1 : Int32) [.int c0] (.int 0)) : Con V b_c31 #[.ref b, .int 0, .int (1 : Int32)] h ps (Qtb V 1 ([c0] : List Int32) h) := Con.of (plainFor_of_name pn_1) (L := [.val (.ref b), .val (.int (0 : Int32)), .val (.int (1 : Int32)), .unset, .unset, .unset]) rfl fun K => by
  have lb := ltN A.lt
  refine r_iloadN 1 rfl d9_0 rfl ?_
  refine r_newarray 1 3 rfl d9_1 (wd hw 25 rfl) (by decide) (by decide) (by decide) (by decide) (by decide) fun a78 h79 k80 ga78 za78 Eh79 Aa78 => ?_
  have f81 := A.ext Eh79
  have sh79 := Eh79.1
  have la78 := ltN Aa78.lt
  have f82 : Arv V.Z h79 a78 k80 .byte (1 : Int32) [.int 0] (.int 0) := Arv.pad Aa78 (pad_rep [] (.int 0) 1)
  refine r_astoreN [.val (.ref b), .val (.int (0 : Int32)), .val (.int (1 : Int32)), .val (.ref a78), .unset, .unset] 4 rfl d9_3 rfl rfl ?_
  refine r_aloadN 5 rfl d9_4 rfl rfl ?_
  refine r_iloadN 6 rfl d9_5 rfl ?_
  refine r_aloadN 7 rfl d9_6 rfl rfl ?_
  refine r_iconst (0 : Int32) 8 rfl d9_7 rfl ?_
  refine r_iloadN 9 rfl d9_8 rfl ?_
  refine r_static 12 rfl d9_9 (wd hw 51 rfl) (wd hw 52 rfl) (wd hw 49 rfl) (wd hw 53 rfl) (by decide) (Pays.con (K := K) (B := b_c31) (c_c51 V hw c0 hwd h79 _ b kC f81 a78 _ f82 za78 (by simp) (neA (by omega))) (wd hw 53 rfl) (wd hw 49 rfl) (by decide) (by decide)) (W := 0) (argsL := [.ref b, .int (0 : Int32), .ref a78, .int (0 : Int32), .int (1 : Int32)]) (lenOf pd_8 rfl) rfl rfl rfl (Nat.le_of_eq rfl) (Nat.le_of_ble_eq_true rfl) (Nat.le_of_ble_eq_true rfl) fun v86 h87 ps83 q85 z84 => ?_
  obtain ⟨j, rfl, hj, hjc, K1⟩ := q85
  have f88 := Arv.keep f81 K1 (ninS (neA (by omega)) nin0)
  show Own.Run V K b_c31 _ h87 _ 1 1 12 [.val (.ref b), .val (.int (0 : Int32)), .val (.int (1 : Int32)), .val (.ref a78), .unset, .unset] [.int (Int32.ofNat j)]
  have sh87 := K1.1
  refine r_istore [.val (.ref b), .val (.int (0 : Int32)), .val (.int (1 : Int32)), .val (.ref a78), .val (.int (Int32.ofNat j)), .unset] 14 rfl d9_12 rfl ?_
  refine r_iload 16 rfl d9_14 rfl ?_
  refine r_iloadN 17 rfl d9_16 rfl ?_
  refine r_icmp_eq 57 20 d9_17 (by decide) rfl rfl (fun c89 => ?_) (fun c89 => ?_)
  · exact absurd (ofN_inj (k := 1) (by omega) (by decide) c89) (by omega)
  refine r_aloadN 21 rfl d9_20 rfl rfl ?_
  refine r_iloadN 22 rfl d9_21 rfl ?_
  refine r_iloadN 23 rfl d9_22 rfl ?_
  refine r_static 26 rfl d9_23 (wd hw 89 rfl) (wd hw 90 rfl) (wd hw 49 rfl) (wd hw 91 rfl) (by decide) (Pays.con (K := K) (B := b_c31) (c_tb1 V hw hAD hHI hLO c0 h87 _ b kC f88) (wd hw 91 rfl) (wd hw 49 rfl) (by decide) (by decide)) (W := 0) (argsL := [.ref b, .int (0 : Int32), .int (1 : Int32)]) (lenOf pd_7 rfl) rfl rfl rfl (Nat.le_of_eq rfl) (Nat.le_of_ble_eq_true rfl) (Nat.le_of_ble_eq_true rfl) fun v93 h94 ps90 q92 z91 => ?_
  obtain ⟨u, ku, rfl, E2, gu, A2⟩ := q92
  have f95 := f88.ext E2
  have sh94 := E2.1
  show Own.Run V K b_c31 _ h94 _ 2 9 26 [.val (.ref b), .val (.int (0 : Int32)), .val (.int (1 : Int32)), .val (.ref a78), .val (.int (Int32.ofNat j)), .unset] [.ref u]
  refine r_astore [.val (.ref b), .val (.int (0 : Int32)), .val (.int (1 : Int32)), .val (.ref a78), .val (.int (Int32.ofNat j)), .val (.ref u)] 28 rfl d9_26 rfl rfl ?_
  refine r_aload 30 rfl d9_28 rfl rfl ?_
  refine r_iload 32 rfl d9_30 rfl ?_
  refine r_static 35 rfl d9_32 (wd hw 105 rfl) (wd hw 106 rfl) (wd hw 49 rfl) (wd hw 107 rfl) (by decide) (Pays.con (K := K) (B := b_c31) (c_gc V hw hAD hHI hLO u ku ([c0] : List Int32) j hj (uS hc0 u0) (Nat.le_of_ble_eq_true rfl) h94 _ A2) (wd hw 107 rfl) (wd hw 49 rfl) (by decide) (by decide)) (W := 0) (argsL := [.ref u, .int (Int32.ofNat j)]) (lenOf pd_3 rfl) rfl rfl rfl (Nat.le_of_eq rfl) (Nat.le_of_ble_eq_true rfl) (Nat.le_of_ble_eq_true rfl) fun v99 h100 ps96 q98 z97 => ?_
  obtain ⟨rfl, es101⟩ := q98
  subst h100
  show Own.Run V K b_c31 _ h94 _ 2 9 35 [.val (.ref b), .val (.int (0 : Int32)), .val (.int (1 : Int32)), .val (.ref a78), .val (.int (Int32.ofNat j)), .val (.ref u)] [.int (([c0] : List Int32).getD j 0)]
  refine r_sipush (255 : Int32) 38 rfl d9_35 rfl ?_
  refine r_icmp_gt 54 41 d9_38 (by decide) rfl rfl (fun c102 => ?_) (fun c102 => ?_)
  rotate_left
  · exact absurd hjc c102
  refine r_aload 56 rfl d9_54 rfl rfl ?_
  refine r_aret (t := (.array .byte)) rfl rfl rfl d9_56 (by decide) (by decide) [] (fun _ q => nomatch q) ?_
  exact ⟨u, ku, rfl, Ext.trans' (Keep.ext0 Eh79 K1 (fun w hw' => by cases List.mem_singleton.mp hw'; exact leA (by omega))) E2, by omega, A2⟩
theorem d10_0 : decode jdk_52_method_15_code 0 = .ok (.iload_n 1, 1) := by decide +kernel
theorem d10_1 : decode jdk_52_method_15_code 1 = .ok (.aload_n 0, 1) := by decide +kernel
theorem d10_2 : decode jdk_52_method_15_code 2 = .ok (.arraylength, 1) := by decide +kernel
theorem d10_3 : decode jdk_52_method_15_code 3 = .ok (.isub, 1) := by decide +kernel
theorem d10_4 : decode jdk_52_method_15_code 4 = .ok (.bipush 31, 2) := by decide +kernel
theorem d10_6 : decode jdk_52_method_15_code 6 = .ok (.iushr, 1) := by decide +kernel
theorem d10_7 : decode jdk_52_method_15_code 7 = .ok (.i2b, 1) := by decide +kernel
theorem d10_8 : decode jdk_52_method_15_code 8 = .ok (.ireturn, 1) := by decide +kernel
abbrev b_cl1 : Bx := (⟨"java/lang/StringUTF16", "coderFromArrayLen", "([BI)B"⟩, jdk_52_method_15_code, 2, some .byte, { frames := 0, cells := 0, slots := 0, locals := 0 })
theorem c_cl1 (V : Vw) (hw : ∀ d ∈ tables_1, d.before V.a0 V.Z = true) (u : Nat) (k : ClassId) (vs : List Value) (h : Heap) (ps : List Addr) (A : Arv V.Z h u k .byte (Int32.ofNat (2 * 1)) vs (.int 0)) : Con V b_cl1 #[.ref u, .int (1 : Int32)] h ps (Qi 1 h) := Con.of (plainFor_of_name pn_1) (L := [.val (.ref u), .val (.int (1 : Int32))]) rfl fun K => by
  refine r_iloadN 1 rfl d10_0 rfl ?_
  refine r_aloadN 2 rfl d10_1 rfl rfl ?_
  refine r_arraylength 3 rfl d10_2 A ?_
  refine r_isub 4 rfl d10_3 ?_
  refine r_bipush (31 : Int32) 6 rfl d10_4 rfl ?_
  refine r_iushr 7 rfl d10_6 ?_
  refine r_i2b 8 rfl d10_7 ?_
  rw [show (ushr ((1 : Int32) - (Int32.ofNat (2 * 1))) (31 : Int32)).toInt8.toInt32 = 1 from by decide]
  refine r_nret (t := .byte) (1 : Int32) rfl (by simp) rfl d10_8 (by decide) (by decide) [] (fun _ q => nomatch q) ?_
  exact ⟨rfl, rfl⟩
abbrev b_n41 : Bx := (⟨"java/lang/String", "<init>", "([CIILjava/lang/Void;)V"⟩, jdk_42_method_149_code, 6, none, { frames := 4, cells := 2, slots := 12, locals := 80 })
theorem c_n41 (V : Vw) (hw : ∀ d ∈ tables_1, d.before V.a0 V.Z = true) (cz : Int32) (hCS : Sta V.Z V.Z.heap "java/lang/String" "COMPACT_STRINGS" "Z" (.int cz)) (hcz : ¬ cz = 0) (hAD : Sta V.Z V.Z.heap "java/lang/StringUTF16" "$assertionsDisabled" "Z" (.int 1)) (hHI : Sta V.Z V.Z.heap "java/lang/StringUTF16" "HI_BYTE_SHIFT" "I" (.int 0)) (hLO : Sta V.Z V.Z.heap "java/lang/StringUTF16" "LO_BYTE_SHIFT" "I" (.int 8)) (c0 : Int32) (hc0 : U6 c0) (hwd : ∃ c ∈ ([c0] : List Int32), 255 < c) (h : Heap) (ps : List Addr) (b : Nat) (kC : ClassId) (A : Arv V.Z h b kC .char (1 : Int32) [.int c0] (.int 0)) (x : Nat) (zx : V.Z.heap.size ≤ x) (hxp : x ∈ ps) (E : Exa V.Z h x "java/lang/String") (Gv : Fld V.Z h x "java/lang/String" "value" "[B" .null) (Gc : Fld V.Z h x "java/lang/String" "coder" "B" (.int 0)) : Con V b_n41 #[.ref x, .ref b, .int 0, .int (1 : Int32), .null] h ps (Qn V x ([c0] : List Int32) h) := Con.of (plainFor_of_name pn_0) (L := [.val (.ref x), .val (.ref b), .val (.int (0 : Int32)), .val (.int (1 : Int32)), .val (.null), .unset]) rfl fun K => by
  have lx := ltN E.lt
  refine r_aloadN 1 rfl d0_0 rfl rfl ?_
  refine r_initO 0 4 rfl d0_1 (wd hw 21 rfl) (wd hw 22 rfl) (wd hw 23 rfl) rfl (by decide) (Nat.le_of_eq rfl) (by decide) ?_
  refine r_iloadN 5 rfl d0_4 rfl ?_
  refine r_if_ne 27 8 d0_5 (by decide) rfl rfl (fun c103 => ?_) (fun c103 => ?_)
  rotate_left
  · exact absurd c103 (by decide)
  refine r_getstatic 30 rfl d0_27 (wd hw 46 rfl) hCS ?_
  refine r_if_eq 58 33 d0_30 (by decide) rfl rfl (fun c104 => ?_) (fun c104 => ?_)
  · exact absurd c104 hcz
  refine r_aloadN 34 rfl d0_33 rfl rfl ?_
  refine r_iloadN 35 rfl d0_34 rfl ?_
  refine r_iloadN 36 rfl d0_35 rfl ?_
  refine r_static 39 rfl d0_36 (wd hw 47 rfl) (wd hw 48 rfl) (wd hw 49 rfl) (wd hw 50 rfl) (by decide) (Pays.con (K := K) (B := b_n41) (c_c31 V hw hAD hHI hLO c0 hc0 hwd h _ b kC A) (wd hw 50 rfl) (wd hw 49 rfl) (by decide) (by decide)) (W := 0) (argsL := [.ref b, .int (0 : Int32), .int (1 : Int32)]) (lenOf pd_7 rfl) rfl rfl rfl (Nat.le_of_eq rfl) (Nat.le_of_ble_eq_true rfl) (Nat.le_of_ble_eq_true rfl) fun v108 h109 ps105 q107 z106 => ?_
  obtain ⟨u, ku, rfl, E2, gu, A2⟩ := q107
  have f110 := Exa.ext E2 E
  have f111 := Fld.ext E2 Gv
  have f112 := Fld.ext E2 Gc
  have sh109 := E2.1
  show Own.Run V K b_n41 _ h109 _ 2 12 39 [.val (.ref x), .val (.ref b), .val (.int (0 : Int32)), .val (.int (1 : Int32)), .val (.null), .unset] [.ref u]
  have lu := ltN A2.lt
  refine r_astore [.val (.ref x), .val (.ref b), .val (.int (0 : Int32)), .val (.int (1 : Int32)), .val (.null), .val (.ref u)] 41 rfl d0_39 rfl rfl ?_
  refine r_aloadN 42 rfl d0_41 rfl rfl ?_
  refine r_aload 44 rfl d0_42 rfl rfl ?_
  refine r_iloadN 45 rfl d0_44 rfl ?_
  refine r_static 48 rfl d0_45 (wd hw 54 rfl) (wd hw 55 rfl) (wd hw 49 rfl) (wd hw 56 rfl) (by decide) (Pays.con (K := K) (B := b_n41) (c_cl1 V hw u ku _ h109 _ A2) (wd hw 56 rfl) (wd hw 49 rfl) (by decide) (by decide)) (W := 1) (argsL := [.ref u, .int (1 : Int32)]) (lenOf pd_9 rfl) rfl rfl rfl (Nat.le_of_eq rfl) (Nat.le_of_ble_eq_true rfl) (Nat.le_of_ble_eq_true rfl) fun v116 h117 ps113 q115 z114 => ?_
  obtain ⟨rfl, es118⟩ := q115
  subst h117
  show Own.Run V K b_n41 _ h109 _ 2 12 48 [.val (.ref x), .val (.ref b), .val (.int (0 : Int32)), .val (.int (1 : Int32)), .val (.null), .val (.ref u)] [.int (1 : Int32), .ref x]
  refine r_putfield 51 rfl d0_48 (wd hw 31 rfl) f112 f110 (Or.inr ⟨wd hw 27 rfl, rfl, rfl⟩) (wd hw 11 rfl) (ty := .byte) (by decide) (by decide) (by decide) zx (Or.inr (by simp [hxp])) fun h119 Wh119 => ?_
  have sh119 := Wh119.size
  have f120 := Exa.wr Wh119 f110
  have f121 := Fld.other Wh119 f111 (Or.inr (slot_ne (C := "java/lang/String") (Or.inr (wd hw 26 rfl)) (Or.inr (wd hw 27 rfl)) (by decide) (t := (.array .byte)) (by decide) (t' := .byte) (by decide)))
  have f122 := Fld.same Wh119 f112
  have f123 := Arv.other A2 Wh119 (neA (by omega))
  refine r_aloadN 52 rfl d0_51 rfl rfl ?_
  refine r_aload 54 rfl d0_52 rfl rfl ?_
  refine r_putfield 57 rfl d0_54 (wd hw 30 rfl) f121 f120 (Or.inr ⟨wd hw 26 rfl, rfl, rfl⟩) (wd hw 11 rfl) (ty := (.array .byte)) (by decide) rfl rfl zx (Or.inr (by simp [hxp])) fun h124 Wh124 => ?_
  have sh124 := Wh124.size
  have f125 := Exa.wr Wh124 f120
  have f126 := Fld.same Wh124 f121
  have f127 := Fld.other Wh124 f122 (Or.inr (slot_ne (C := "java/lang/String") (Or.inr (wd hw 27 rfl)) (Or.inr (wd hw 26 rfl)) (by decide) (t := .byte) (by decide) (t' := (.array .byte)) (by decide)))
  have f128 := Arv.other f123 Wh124 (neA (by omega))
  refine r_ret rfl d0_57 (by decide) (by decide) [] (fun _ q => nomatch q) ?_
  exact ⟨rfl, (((Keep.refl _ _).ext E2).wr Wh119 (Or.inl (by simp))).wr Wh124 (Or.inl (by simp)), u, ku, 1, _, _, f125.lt, f128.lt, Nat.le_refl _, f125, f126, f127, f128, Or.inr ⟨rfl, rfl, rfl, hwd⟩, (fun c hc => (uS hc0 u0) c hc), Nat.le_of_ble_eq_true rfl⟩
abbrev b_n11 : Bx := (⟨"java/lang/String", "<init>", "([C)V"⟩, jdk_42_method_3_code, 2, none, { frames := 5, cells := 2, slots := 12, locals := 100 })
theorem c_n11 (V : Vw) (hw : ∀ d ∈ tables_1, d.before V.a0 V.Z = true) (cz : Int32) (hCS : Sta V.Z V.Z.heap "java/lang/String" "COMPACT_STRINGS" "Z" (.int cz)) (hcz : ¬ cz = 0) (hAD : Sta V.Z V.Z.heap "java/lang/StringUTF16" "$assertionsDisabled" "Z" (.int 1)) (hHI : Sta V.Z V.Z.heap "java/lang/StringUTF16" "HI_BYTE_SHIFT" "I" (.int 0)) (hLO : Sta V.Z V.Z.heap "java/lang/StringUTF16" "LO_BYTE_SHIFT" "I" (.int 8)) (c0 : Int32) (hc0 : U6 c0) (hwd : ∃ c ∈ ([c0] : List Int32), 255 < c) (h : Heap) (ps : List Addr) (b : Nat) (kC : ClassId) (A : Arv V.Z h b kC .char (1 : Int32) [.int c0] (.int 0)) (x : Nat) (zx : V.Z.heap.size ≤ x) (hxp : x ∈ ps) (E : Exa V.Z h x "java/lang/String") (Gv : Fld V.Z h x "java/lang/String" "value" "[B" .null) (Gc : Fld V.Z h x "java/lang/String" "coder" "B" (.int 0)) : Con V b_n11 #[.ref x, .ref b] h ps (Qn V x ([c0] : List Int32) h) := Con.of (plainFor_of_name pn_0) (L := [.val (.ref x), .val (.ref b)]) rfl fun K => by
  refine r_aloadN 1 rfl d1_0 rfl rfl ?_
  refine r_aloadN 2 rfl d1_1 rfl rfl ?_
  refine r_iconst (0 : Int32) 3 rfl d1_2 rfl ?_
  refine r_aloadN 4 rfl d1_3 rfl rfl ?_
  refine r_arraylength 5 rfl d1_4 A ?_
  refine r_null 6 rfl d1_5 ?_
  refine r_special 9 rfl d1_6 rfl (wd hw 17 rfl) (wd hw 18 rfl) (wd hw 20 rfl) (by decide) (Pays.con (K := K) (B := b_n11) (c_n41 V hw cz hCS hcz hAD hHI hLO c0 hc0 hwd h _ b kC A x zx (by simp [hxp]) E Gv Gc) (wd hw 20 rfl) (wd hw 12 rfl) (by decide) (by decide)) (W := 0) (argsL := [.ref b, .int (0 : Int32), .int (1 : Int32), .null]) (lenOf pd_0 rfl) rfl rfl rfl (Nat.le_of_eq rfl) (Nat.le_of_ble_eq_true rfl) (Nat.le_of_ble_eq_true rfl) fun v132 h133 ps129 q131 z130 => ?_
  obtain ⟨rfl, K1, S1⟩ := q131
  show Own.Run V K b_n11 _ h133 _ 2 12 9 [.val (.ref x), .val (.ref b)] []
  refine r_ret rfl d1_9 (by decide) (by decide) [] (fun _ q => nomatch q) ?_
  exact ⟨rfl, K1, S1⟩
abbrev b_tb2 : Bx := (⟨"java/lang/StringUTF16", "toBytes", "([CII)[B"⟩, jdk_52_method_14_code, 5, some (.array .byte), { frames := 2, cells := 1, slots := 8, locals := 34 })
theorem c_tb2 (V : Vw) (hw : ∀ d ∈ tables_1, d.before V.a0 V.Z = true) (hAD : Sta V.Z V.Z.heap "java/lang/StringUTF16" "$assertionsDisabled" "Z" (.int 1)) (hHI : Sta V.Z V.Z.heap "java/lang/StringUTF16" "HI_BYTE_SHIFT" "I" (.int 0)) (hLO : Sta V.Z V.Z.heap "java/lang/StringUTF16" "LO_BYTE_SHIFT" "I" (.int 8)) (c0 c1 : Int32) (h : Heap) (ps : List Addr) (b : Nat) (kC : ClassId) (A : Arv V.Z h b kC .char (2 : Int32) [.int c0, .int c1] (.int 0)) : Con V b_tb2 #[.ref b, .int 0, .int (2 : Int32)] h ps (Qtb V 2 ([c0, c1] : List Int32) h) := Con.of (plainFor_of_name pn_1) (L := [.val (.ref b), .val (.int (0 : Int32)), .val (.int (2 : Int32)), .unset, .unset]) rfl fun K => by
  have lb := ltN A.lt
  refine r_iloadN 1 rfl d7_0 rfl ?_
  refine r_static 4 rfl d7_1 (wd hw 92 rfl) (wd hw 93 rfl) (wd hw 49 rfl) (wd hw 94 rfl) (by decide) (Pays.con (K := K) (B := b_tb2) (c_nbf V hw 2 (by decide) h _) (wd hw 94 rfl) (wd hw 49 rfl) (by decide) (by decide)) (W := 0) (argsL := [.int (2 : Int32)]) (lenOf pd_6 rfl) rfl rfl rfl (Nat.le_of_eq rfl) (Nat.le_of_ble_eq_true rfl) (Nat.le_of_ble_eq_true rfl) fun v136 h137 psu q135 z134 => ?_
  obtain ⟨u, ku, rfl, E0, gu, zu, mu, A0⟩ := q135
  have f138 := A.ext E0
  have sh137 := E0.1
  show Own.Run V K b_tb2 _ h137 _ 1 8 4 [.val (.ref b), .val (.int (0 : Int32)), .val (.int (2 : Int32)), .unset, .unset] [.ref u]
  have D0 : Arv V.Z h137 u ku .byte (Int32.ofNat (2 * 2)) [.int 0, .int 0, .int 0, .int 0] (.int 0) := Arv.pad A0 (pad_rep [] (.int 0) 4)
  refine r_astoreN [.val (.ref b), .val (.int (0 : Int32)), .val (.int (2 : Int32)), .val (.ref u), .unset] 5 rfl d7_4 rfl rfl ?_
  refine r_iconst (0 : Int32) 6 rfl d7_5 rfl ?_
  refine r_istore [.val (.ref b), .val (.int (0 : Int32)), .val (.int (2 : Int32)), .val (.ref u), .val (.int (0 : Int32))] 8 rfl d7_6 rfl ?_
  refine r_iload 10 rfl d7_8 rfl ?_
  refine r_iloadN 11 rfl d7_10 rfl ?_
  refine r_icmp_ge 32 14 d7_11 (by decide) rfl rfl (fun c139 => ?_) (fun c139 => ?_)
  · exact absurd c139 (by decide)
  refine r_aloadN 15 rfl d7_14 rfl rfl ?_
  refine r_iload 17 rfl d7_15 rfl ?_
  refine r_aloadN 18 rfl d7_17 rfl rfl ?_
  refine r_iloadN 19 rfl d7_18 rfl ?_
  refine r_caload (v := .int c0) 20 rfl d7_19 f138 (by decide) rfl ?_
  refine r_static 23 rfl d7_20 (wd hw 99 rfl) (wd hw 100 rfl) (wd hw 49 rfl) (wd hw 101 rfl) (by decide) (Pays.con (K := K) (B := b_tb2) (c_pc V hw hAD hHI hLO u ku (2 * 2) [.int 0, .int 0, .int 0, .int 0] 0 c0 h137 _ D0 (Nat.le_of_ble_eq_true rfl) (Nat.le_of_ble_eq_true rfl) (by decide) zu (by simp [mu])) (wd hw 101 rfl) (wd hw 49 rfl) (by decide) (by decide)) (W := 0) (argsL := [.ref u, .int (0 : Int32), .int c0]) (lenOf pd_4 rfl) rfl rfl rfl (Nat.le_of_eq rfl) (Nat.le_of_ble_eq_true rfl) (Nat.le_of_ble_eq_true rfl) fun v143 h144 ps140 q142 z141 => ?_
  obtain ⟨rfl, K1, D1⟩ := q142
  have f145 := Arv.keep f138 K1 (ninS (neA (by omega)) nin0)
  show Own.Run V K b_tb2 _ h144 _ 1 8 23 [.val (.ref b), .val (.int (0 : Int32)), .val (.int (2 : Int32)), .val (.ref u), .val (.int (0 : Int32))] []
  replace D1 : Arv V.Z h144 u ku .byte (Int32.ofNat (2 * 2)) [.int (StrChars.lo8 c0), .int (StrChars.hi8 c0), .int 0, .int 0] (.int 0) := D1
  have sh144 := K1.1
  refine r_iinc (1) [.val (.ref b), .val (.int ((0 : Int32) + (1 : Int32))), .val (.int (2 : Int32)), .val (.ref u), .val (.int (0 : Int32))] 26 rfl d7_23 rfl rfl rfl ?_
  rw [show (0 : Int32) + 1 = 1 from by decide]
  refine r_iinc (1) [.val (.ref b), .val (.int (1 : Int32)), .val (.int (2 : Int32)), .val (.ref u), .val (.int ((0 : Int32) + (1 : Int32)))] 29 rfl d7_26 rfl rfl rfl ?_
  rw [show (0 : Int32) + 1 = 1 from by decide]
  refine r_goto 8 d7_29 (by decide) rfl ?_
  refine r_iload 10 rfl d7_8 rfl ?_
  refine r_iloadN 11 rfl d7_10 rfl ?_
  refine r_icmp_ge 32 14 d7_11 (by decide) rfl rfl (fun c146 => ?_) (fun c146 => ?_)
  · exact absurd c146 (by decide)
  refine r_aloadN 15 rfl d7_14 rfl rfl ?_
  refine r_iload 17 rfl d7_15 rfl ?_
  refine r_aloadN 18 rfl d7_17 rfl rfl ?_
  refine r_iloadN 19 rfl d7_18 rfl ?_
  refine r_caload (v := .int c1) 20 rfl d7_19 f145 (by decide) rfl ?_
  refine r_static 23 rfl d7_20 (wd hw 99 rfl) (wd hw 100 rfl) (wd hw 49 rfl) (wd hw 101 rfl) (by decide) (Pays.con (K := K) (B := b_tb2) (c_pc V hw hAD hHI hLO u ku (2 * 2) [.int (StrChars.lo8 c0), .int (StrChars.hi8 c0), .int 0, .int 0] 1 c1 h144 _ D1 (Nat.le_of_ble_eq_true rfl) (Nat.le_of_ble_eq_true rfl) (by decide) zu (by simp [mu])) (wd hw 101 rfl) (wd hw 49 rfl) (by decide) (by decide)) (W := 0) (argsL := [.ref u, .int (1 : Int32), .int c1]) (lenOf pd_4 rfl) rfl rfl rfl (Nat.le_of_eq rfl) (Nat.le_of_ble_eq_true rfl) (Nat.le_of_ble_eq_true rfl) fun v150 h151 ps147 q149 z148 => ?_
  obtain ⟨rfl, K2, D2⟩ := q149
  have f152 := Arv.keep f145 K2 (ninS (neA (by omega)) nin0)
  show Own.Run V K b_tb2 _ h151 _ 1 8 23 [.val (.ref b), .val (.int (1 : Int32)), .val (.int (2 : Int32)), .val (.ref u), .val (.int (1 : Int32))] []
  replace D2 : Arv V.Z h151 u ku .byte (Int32.ofNat (2 * 2)) [.int (StrChars.lo8 c0), .int (StrChars.hi8 c0), .int (StrChars.lo8 c1), .int (StrChars.hi8 c1)] (.int 0) := D2
  have sh151 := K2.1
  refine r_iinc (1) [.val (.ref b), .val (.int ((1 : Int32) + (1 : Int32))), .val (.int (2 : Int32)), .val (.ref u), .val (.int (1 : Int32))] 26 rfl d7_23 rfl rfl rfl ?_
  rw [show (1 : Int32) + 1 = 2 from by decide]
  refine r_iinc (1) [.val (.ref b), .val (.int (2 : Int32)), .val (.int (2 : Int32)), .val (.ref u), .val (.int ((1 : Int32) + (1 : Int32)))] 29 rfl d7_26 rfl rfl rfl ?_
  rw [show (1 : Int32) + 1 = 2 from by decide]
  refine r_goto 8 d7_29 (by decide) rfl ?_
  refine r_iload 10 rfl d7_8 rfl ?_
  refine r_iloadN 11 rfl d7_10 rfl ?_
  refine r_icmp_ge 32 14 d7_11 (by decide) rfl rfl (fun c153 => ?_) (fun c153 => ?_)
  rotate_left
  · exact absurd c153 (by decide)
  refine r_aloadN 33 rfl d7_32 rfl rfl ?_
  refine r_aret (t := (.array .byte)) rfl rfl rfl d7_33 (by decide) (by decide) [] (fun _ q => nomatch q) ?_
  exact ⟨_, _, rfl, Keep.ext0 (Keep.ext0 (E0) K1 (fun w hw' => by cases List.mem_singleton.mp hw'; exact leA (by omega))) K2 (fun w hw' => by cases List.mem_singleton.mp hw'; exact leA (by omega)), gu, D2⟩
abbrev b_c52 : Bx := (⟨"java/lang/StringUTF16", "compress", "([CI[BII)I"⟩, jdk_52_method_21_code, 7, some .int, { frames := 0, cells := 0, slots := 0, locals := 0 })
theorem c_c52 (V : Vw) (hw : ∀ d ∈ tables_1, d.before V.a0 V.Z = true) (c0 c1 : Int32) (hwd : ∃ c ∈ ([c0, c1] : List Int32), 255 < c) (h : Heap) (ps : List Addr) (b : Nat) (kC : ClassId) (A : Arv V.Z h b kC .char (2 : Int32) [.int c0, .int c1] (.int 0)) (t : Nat) (kt : ClassId) (D : Arv V.Z h t kt .byte (2 : Int32) [.int 0, .int 0] (.int 0)) (zt : V.Z.heap.size ≤ t) (mt : t ∈ ps) (nbt : b ≠ t) : Con V b_c52 #[.ref b, .int 0, .ref t, .int 0, .int (2 : Int32)] h ps (Qc5 t 2 ([c0, c1] : List Int32) h) := Con.of (plainFor_of_name pn_1) (L := [.val (.ref b), .val (.int (0 : Int32)), .val (.ref t), .val (.int (0 : Int32)), .val (.int (2 : Int32)), .unset, .unset]) rfl fun K => by
  have nb := neN nbt
  refine r_iconst (0 : Int32) 1 rfl d8_0 rfl ?_
  refine r_istore [.val (.ref b), .val (.int (0 : Int32)), .val (.ref t), .val (.int (0 : Int32)), .val (.int (2 : Int32)), .val (.int (0 : Int32)), .unset] 3 rfl d8_1 rfl ?_
  refine r_iload 5 rfl d8_3 rfl ?_
  refine r_iload 7 rfl d8_5 rfl ?_
  refine r_icmp_ge 44 10 d8_7 (by decide) rfl rfl (fun c154 => ?_) (fun c154 => ?_)
  · exact absurd c154 (by decide)
  refine r_aloadN 11 rfl d8_10 rfl rfl ?_
  refine r_iloadN 12 rfl d8_11 rfl ?_
  refine r_caload (v := .int c0) 13 rfl d8_12 A (by decide) rfl ?_
  refine r_istore [.val (.ref b), .val (.int (0 : Int32)), .val (.ref t), .val (.int (0 : Int32)), .val (.int (2 : Int32)), .val (.int (0 : Int32)), .val (.int c0)] 15 rfl d8_13 rfl ?_
  refine r_iload 17 rfl d8_15 rfl ?_
  refine r_sipush (255 : Int32) 20 rfl d8_17 rfl ?_
  refine r_icmp_le 26 23 d8_20 (by decide) rfl rfl (fun c155 => ?_) (fun c155 => ?_)
  rotate_left
  · refine r_iload 25 rfl d8_23 rfl ?_
    refine r_iret rfl d8_25 (by decide) (by decide) [] (fun _ q => nomatch q) ?_
    exact ⟨0, rfl, by decide, c155, Keep.refl _ _⟩
  refine r_aloadN 27 rfl d8_26 rfl rfl ?_
  refine r_iloadN 28 rfl d8_27 rfl ?_
  refine r_iload 30 rfl d8_28 rfl ?_
  refine r_i2b 31 rfl d8_30 ?_
  refine r_bastore 0 32 rfl d8_31 D (by decide) rfl (Nat.le_of_ble_eq_true rfl) zt (by simp [mt]) c0.toInt8.toInt32 (by simp) fun h156 Wh156 f157 => ?_
  have f158 := Arv.other A Wh156 (neA (by omega))
  replace f157 : Arv V.Z h156 t kt .byte (2 : Int32) [.int c0.toInt8.toInt32, .int 0] (.int 0) := f157
  refine r_iinc (1) [.val (.ref b), .val (.int ((0 : Int32) + (1 : Int32))), .val (.ref t), .val (.int (0 : Int32)), .val (.int (2 : Int32)), .val (.int (0 : Int32)), .val (.int c0)] 35 rfl d8_32 rfl rfl rfl ?_
  rw [show (0 : Int32) + 1 = 1 from by decide]
  refine r_iinc (1) [.val (.ref b), .val (.int (1 : Int32)), .val (.ref t), .val (.int ((0 : Int32) + (1 : Int32))), .val (.int (2 : Int32)), .val (.int (0 : Int32)), .val (.int c0)] 38 rfl d8_35 rfl rfl rfl ?_
  rw [show (0 : Int32) + 1 = 1 from by decide]
  refine r_iinc (1) [.val (.ref b), .val (.int (1 : Int32)), .val (.ref t), .val (.int (1 : Int32)), .val (.int (2 : Int32)), .val (.int ((0 : Int32) + (1 : Int32))), .val (.int c0)] 41 rfl d8_38 rfl rfl rfl ?_
  rw [show (0 : Int32) + 1 = 1 from by decide]
  refine r_goto 3 d8_41 (by decide) rfl ?_
  refine r_iload 5 rfl d8_3 rfl ?_
  refine r_iload 7 rfl d8_5 rfl ?_
  refine r_icmp_ge 44 10 d8_7 (by decide) rfl rfl (fun c159 => ?_) (fun c159 => ?_)
  · exact absurd c159 (by decide)
  refine r_aloadN 11 rfl d8_10 rfl rfl ?_
  refine r_iloadN 12 rfl d8_11 rfl ?_
  refine r_caload (v := .int c1) 13 rfl d8_12 f158 (by decide) rfl ?_
  refine r_istore [.val (.ref b), .val (.int (1 : Int32)), .val (.ref t), .val (.int (1 : Int32)), .val (.int (2 : Int32)), .val (.int (1 : Int32)), .val (.int c1)] 15 rfl d8_13 rfl ?_
  refine r_iload 17 rfl d8_15 rfl ?_
  refine r_sipush (255 : Int32) 20 rfl d8_17 rfl ?_
  refine r_icmp_le 26 23 d8_20 (by decide) rfl rfl (fun c160 => ?_) (fun c160 => ?_)
  rotate_left
  · refine r_iload 25 rfl d8_23 rfl ?_
    refine r_iret rfl d8_25 (by decide) (by decide) [] (fun _ q => nomatch q) ?_
    exact ⟨1, rfl, by decide, c160, (Keep.refl _ _).wr Wh156 (Or.inl (by simp))⟩
  refine r_aloadN 27 rfl d8_26 rfl rfl ?_
  refine r_iloadN 28 rfl d8_27 rfl ?_
  refine r_iload 30 rfl d8_28 rfl ?_
  refine r_i2b 31 rfl d8_30 ?_
  refine r_bastore 1 32 rfl d8_31 f157 (by decide) rfl (Nat.le_of_ble_eq_true rfl) zt (by simp [mt]) c1.toInt8.toInt32 (by simp) fun h161 Wh161 f162 => ?_
  have f163 := Arv.other f158 Wh161 (neA (by omega))
  replace f162 : Arv V.Z h161 t kt .byte (2 : Int32) [.int c0.toInt8.toInt32, .int c1.toInt8.toInt32] (.int 0) := f162
  refine r_iinc (1) [.val (.ref b), .val (.int ((1 : Int32) + (1 : Int32))), .val (.ref t), .val (.int (1 : Int32)), .val (.int (2 : Int32)), .val (.int (1 : Int32)), .val (.int c1)] 35 rfl d8_32 rfl rfl rfl ?_
  rw [show (1 : Int32) + 1 = 2 from by decide]
  refine r_iinc (1) [.val (.ref b), .val (.int (2 : Int32)), .val (.ref t), .val (.int ((1 : Int32) + (1 : Int32))), .val (.int (2 : Int32)), .val (.int (1 : Int32)), .val (.int c1)] 38 rfl d8_35 rfl rfl rfl ?_
  rw [show (1 : Int32) + 1 = 2 from by decide]
  refine r_iinc (1) [.val (.ref b), .val (.int (2 : Int32)), .val (.ref t), .val (.int (2 : Int32)), .val (.int (2 : Int32)), .val (.int ((1 : Int32) + (1 : Int32))), .val (.int c1)] 41 rfl d8_38 rfl rfl rfl ?_
  rw [show (1 : Int32) + 1 = 2 from by decide]
  refine r_goto 3 d8_41 (by decide) rfl ?_
  refine absurd hwd ?_
  rintro ⟨c, hc, q⟩
  simp only [List.mem_cons, List.not_mem_nil, or_false] at hc
  rcases hc with rfl | rfl
  · exact c155 q
  · exact c160 q
abbrev b_c32 : Bx := (⟨"java/lang/StringUTF16", "compress", "([CII)[B"⟩, jdk_52_method_16_code, 6, some (.array .byte), { frames := 3, cells := 2, slots := 12, locals := 60 })
theorem c_c32 (V : Vw) (hw : ∀ d ∈ tables_1, d.before V.a0 V.Z = true) (hAD : Sta V.Z V.Z.heap "java/lang/StringUTF16" "$assertionsDisabled" "Z" (.int 1)) (hHI : Sta V.Z V.Z.heap "java/lang/StringUTF16" "HI_BYTE_SHIFT" "I" (.int 0)) (hLO : Sta V.Z V.Z.heap "java/lang/StringUTF16" "LO_BYTE_SHIFT" "I" (.int 8)) (c0 c1 : Int32) (hc0 : U6 c0) (hc1 : U6 c1) (hwd : ∃ c ∈ ([c0, c1] : List Int32), 255 < c) (h : Heap) (ps : List Addr) (b : Nat) (kC : ClassId) (A : Arv V.Z h b kC .char (2 : Int32) [.int c0, .int c1] (.int 0)) : Con V b_c32 #[.ref b, .int 0, .int (2 : Int32)] h ps (Qtb V 2 ([c0, c1] : List Int32) h) := Con.of (plainFor_of_name pn_1) (L := [.val (.ref b), .val (.int (0 : Int32)), .val (.int (2 : Int32)), .unset, .unset, .unset]) rfl fun K => by
  have lb := ltN A.lt
  refine r_iloadN 1 rfl d9_0 rfl ?_
  refine r_newarray 2 3 rfl d9_1 (wd hw 25 rfl) (by decide) (by decide) (by decide) (by decide) (by decide) fun a164 h165 k166 ga164 za164 Eh165 Aa164 => ?_
  have f167 := A.ext Eh165
  have sh165 := Eh165.1
  have la164 := ltN Aa164.lt
  have f168 : Arv V.Z h165 a164 k166 .byte (2 : Int32) [.int 0, .int 0] (.int 0) := Arv.pad Aa164 (pad_rep [] (.int 0) 2)
  refine r_astoreN [.val (.ref b), .val (.int (0 : Int32)), .val (.int (2 : Int32)), .val (.ref a164), .unset, .unset] 4 rfl d9_3 rfl rfl ?_
  refine r_aloadN 5 rfl d9_4 rfl rfl ?_
  refine r_iloadN 6 rfl d9_5 rfl ?_
  refine r_aloadN 7 rfl d9_6 rfl rfl ?_
  refine r_iconst (0 : Int32) 8 rfl d9_7 rfl ?_
  refine r_iloadN 9 rfl d9_8 rfl ?_
  refine r_static 12 rfl d9_9 (wd hw 51 rfl) (wd hw 52 rfl) (wd hw 49 rfl) (wd hw 53 rfl) (by decide) (Pays.con (K := K) (B := b_c32) (c_c52 V hw c0 c1 hwd h165 _ b kC f167 a164 _ f168 za164 (by simp) (neA (by omega))) (wd hw 53 rfl) (wd hw 49 rfl) (by decide) (by decide)) (W := 0) (argsL := [.ref b, .int (0 : Int32), .ref a164, .int (0 : Int32), .int (2 : Int32)]) (lenOf pd_8 rfl) rfl rfl rfl (Nat.le_of_eq rfl) (Nat.le_of_ble_eq_true rfl) (Nat.le_of_ble_eq_true rfl) fun v172 h173 ps169 q171 z170 => ?_
  obtain ⟨j, rfl, hj, hjc, K1⟩ := q171
  have f174 := Arv.keep f167 K1 (ninS (neA (by omega)) nin0)
  show Own.Run V K b_c32 _ h173 _ 1 2 12 [.val (.ref b), .val (.int (0 : Int32)), .val (.int (2 : Int32)), .val (.ref a164), .unset, .unset] [.int (Int32.ofNat j)]
  have sh173 := K1.1
  refine r_istore [.val (.ref b), .val (.int (0 : Int32)), .val (.int (2 : Int32)), .val (.ref a164), .val (.int (Int32.ofNat j)), .unset] 14 rfl d9_12 rfl ?_
  refine r_iload 16 rfl d9_14 rfl ?_
  refine r_iloadN 17 rfl d9_16 rfl ?_
  refine r_icmp_eq 57 20 d9_17 (by decide) rfl rfl (fun c175 => ?_) (fun c175 => ?_)
  · exact absurd (ofN_inj (k := 2) (by omega) (by decide) c175) (by omega)
  refine r_aloadN 21 rfl d9_20 rfl rfl ?_
  refine r_iloadN 22 rfl d9_21 rfl ?_
  refine r_iloadN 23 rfl d9_22 rfl ?_
  refine r_static 26 rfl d9_23 (wd hw 89 rfl) (wd hw 90 rfl) (wd hw 49 rfl) (wd hw 91 rfl) (by decide) (Pays.con (K := K) (B := b_c32) (c_tb2 V hw hAD hHI hLO c0 c1 h173 _ b kC f174) (wd hw 91 rfl) (wd hw 49 rfl) (by decide) (by decide)) (W := 0) (argsL := [.ref b, .int (0 : Int32), .int (2 : Int32)]) (lenOf pd_7 rfl) rfl rfl rfl (Nat.le_of_eq rfl) (Nat.le_of_ble_eq_true rfl) (Nat.le_of_ble_eq_true rfl) fun v179 h180 ps176 q178 z177 => ?_
  obtain ⟨u, ku, rfl, E2, gu, A2⟩ := q178
  have f181 := f174.ext E2
  have sh180 := E2.1
  show Own.Run V K b_c32 _ h180 _ 2 10 26 [.val (.ref b), .val (.int (0 : Int32)), .val (.int (2 : Int32)), .val (.ref a164), .val (.int (Int32.ofNat j)), .unset] [.ref u]
  refine r_astore [.val (.ref b), .val (.int (0 : Int32)), .val (.int (2 : Int32)), .val (.ref a164), .val (.int (Int32.ofNat j)), .val (.ref u)] 28 rfl d9_26 rfl rfl ?_
  refine r_aload 30 rfl d9_28 rfl rfl ?_
  refine r_iload 32 rfl d9_30 rfl ?_
  refine r_static 35 rfl d9_32 (wd hw 105 rfl) (wd hw 106 rfl) (wd hw 49 rfl) (wd hw 107 rfl) (by decide) (Pays.con (K := K) (B := b_c32) (c_gc V hw hAD hHI hLO u ku ([c0, c1] : List Int32) j hj (uS hc0 (uS hc1 u0)) (Nat.le_of_ble_eq_true rfl) h180 _ A2) (wd hw 107 rfl) (wd hw 49 rfl) (by decide) (by decide)) (W := 0) (argsL := [.ref u, .int (Int32.ofNat j)]) (lenOf pd_3 rfl) rfl rfl rfl (Nat.le_of_eq rfl) (Nat.le_of_ble_eq_true rfl) (Nat.le_of_ble_eq_true rfl) fun v185 h186 ps182 q184 z183 => ?_
  obtain ⟨rfl, es187⟩ := q184
  subst h186
  show Own.Run V K b_c32 _ h180 _ 2 10 35 [.val (.ref b), .val (.int (0 : Int32)), .val (.int (2 : Int32)), .val (.ref a164), .val (.int (Int32.ofNat j)), .val (.ref u)] [.int (([c0, c1] : List Int32).getD j 0)]
  refine r_sipush (255 : Int32) 38 rfl d9_35 rfl ?_
  refine r_icmp_gt 54 41 d9_38 (by decide) rfl rfl (fun c188 => ?_) (fun c188 => ?_)
  rotate_left
  · exact absurd hjc c188
  refine r_aload 56 rfl d9_54 rfl rfl ?_
  refine r_aret (t := (.array .byte)) rfl rfl rfl d9_56 (by decide) (by decide) [] (fun _ q => nomatch q) ?_
  exact ⟨u, ku, rfl, Ext.trans' (Keep.ext0 Eh165 K1 (fun w hw' => by cases List.mem_singleton.mp hw'; exact leA (by omega))) E2, by omega, A2⟩
abbrev b_cl2 : Bx := (⟨"java/lang/StringUTF16", "coderFromArrayLen", "([BI)B"⟩, jdk_52_method_15_code, 2, some .byte, { frames := 0, cells := 0, slots := 0, locals := 0 })
theorem c_cl2 (V : Vw) (hw : ∀ d ∈ tables_1, d.before V.a0 V.Z = true) (u : Nat) (k : ClassId) (vs : List Value) (h : Heap) (ps : List Addr) (A : Arv V.Z h u k .byte (Int32.ofNat (2 * 2)) vs (.int 0)) : Con V b_cl2 #[.ref u, .int (2 : Int32)] h ps (Qi 1 h) := Con.of (plainFor_of_name pn_1) (L := [.val (.ref u), .val (.int (2 : Int32))]) rfl fun K => by
  refine r_iloadN 1 rfl d10_0 rfl ?_
  refine r_aloadN 2 rfl d10_1 rfl rfl ?_
  refine r_arraylength 3 rfl d10_2 A ?_
  refine r_isub 4 rfl d10_3 ?_
  refine r_bipush (31 : Int32) 6 rfl d10_4 rfl ?_
  refine r_iushr 7 rfl d10_6 ?_
  refine r_i2b 8 rfl d10_7 ?_
  rw [show (ushr ((2 : Int32) - (Int32.ofNat (2 * 2))) (31 : Int32)).toInt8.toInt32 = 1 from by decide]
  refine r_nret (t := .byte) (1 : Int32) rfl (by simp) rfl d10_8 (by decide) (by decide) [] (fun _ q => nomatch q) ?_
  exact ⟨rfl, rfl⟩
abbrev b_n42 : Bx := (⟨"java/lang/String", "<init>", "([CIILjava/lang/Void;)V"⟩, jdk_42_method_149_code, 6, none, { frames := 4, cells := 2, slots := 12, locals := 80 })
theorem c_n42 (V : Vw) (hw : ∀ d ∈ tables_1, d.before V.a0 V.Z = true) (cz : Int32) (hCS : Sta V.Z V.Z.heap "java/lang/String" "COMPACT_STRINGS" "Z" (.int cz)) (hcz : ¬ cz = 0) (hAD : Sta V.Z V.Z.heap "java/lang/StringUTF16" "$assertionsDisabled" "Z" (.int 1)) (hHI : Sta V.Z V.Z.heap "java/lang/StringUTF16" "HI_BYTE_SHIFT" "I" (.int 0)) (hLO : Sta V.Z V.Z.heap "java/lang/StringUTF16" "LO_BYTE_SHIFT" "I" (.int 8)) (c0 c1 : Int32) (hc0 : U6 c0) (hc1 : U6 c1) (hwd : ∃ c ∈ ([c0, c1] : List Int32), 255 < c) (h : Heap) (ps : List Addr) (b : Nat) (kC : ClassId) (A : Arv V.Z h b kC .char (2 : Int32) [.int c0, .int c1] (.int 0)) (x : Nat) (zx : V.Z.heap.size ≤ x) (hxp : x ∈ ps) (E : Exa V.Z h x "java/lang/String") (Gv : Fld V.Z h x "java/lang/String" "value" "[B" .null) (Gc : Fld V.Z h x "java/lang/String" "coder" "B" (.int 0)) : Con V b_n42 #[.ref x, .ref b, .int 0, .int (2 : Int32), .null] h ps (Qn V x ([c0, c1] : List Int32) h) := Con.of (plainFor_of_name pn_0) (L := [.val (.ref x), .val (.ref b), .val (.int (0 : Int32)), .val (.int (2 : Int32)), .val (.null), .unset]) rfl fun K => by
  have lx := ltN E.lt
  refine r_aloadN 1 rfl d0_0 rfl rfl ?_
  refine r_initO 0 4 rfl d0_1 (wd hw 21 rfl) (wd hw 22 rfl) (wd hw 23 rfl) rfl (by decide) (Nat.le_of_eq rfl) (by decide) ?_
  refine r_iloadN 5 rfl d0_4 rfl ?_
  refine r_if_ne 27 8 d0_5 (by decide) rfl rfl (fun c189 => ?_) (fun c189 => ?_)
  rotate_left
  · exact absurd c189 (by decide)
  refine r_getstatic 30 rfl d0_27 (wd hw 46 rfl) hCS ?_
  refine r_if_eq 58 33 d0_30 (by decide) rfl rfl (fun c190 => ?_) (fun c190 => ?_)
  · exact absurd c190 hcz
  refine r_aloadN 34 rfl d0_33 rfl rfl ?_
  refine r_iloadN 35 rfl d0_34 rfl ?_
  refine r_iloadN 36 rfl d0_35 rfl ?_
  refine r_static 39 rfl d0_36 (wd hw 47 rfl) (wd hw 48 rfl) (wd hw 49 rfl) (wd hw 50 rfl) (by decide) (Pays.con (K := K) (B := b_n42) (c_c32 V hw hAD hHI hLO c0 c1 hc0 hc1 hwd h _ b kC A) (wd hw 50 rfl) (wd hw 49 rfl) (by decide) (by decide)) (W := 0) (argsL := [.ref b, .int (0 : Int32), .int (2 : Int32)]) (lenOf pd_7 rfl) rfl rfl rfl (Nat.le_of_eq rfl) (Nat.le_of_ble_eq_true rfl) (Nat.le_of_ble_eq_true rfl) fun v194 h195 ps191 q193 z192 => ?_
  obtain ⟨u, ku, rfl, E2, gu, A2⟩ := q193
  have f196 := Exa.ext E2 E
  have f197 := Fld.ext E2 Gv
  have f198 := Fld.ext E2 Gc
  have sh195 := E2.1
  show Own.Run V K b_n42 _ h195 _ 2 12 39 [.val (.ref x), .val (.ref b), .val (.int (0 : Int32)), .val (.int (2 : Int32)), .val (.null), .unset] [.ref u]
  have lu := ltN A2.lt
  refine r_astore [.val (.ref x), .val (.ref b), .val (.int (0 : Int32)), .val (.int (2 : Int32)), .val (.null), .val (.ref u)] 41 rfl d0_39 rfl rfl ?_
  refine r_aloadN 42 rfl d0_41 rfl rfl ?_
  refine r_aload 44 rfl d0_42 rfl rfl ?_
  refine r_iloadN 45 rfl d0_44 rfl ?_
  refine r_static 48 rfl d0_45 (wd hw 54 rfl) (wd hw 55 rfl) (wd hw 49 rfl) (wd hw 56 rfl) (by decide) (Pays.con (K := K) (B := b_n42) (c_cl2 V hw u ku _ h195 _ A2) (wd hw 56 rfl) (wd hw 49 rfl) (by decide) (by decide)) (W := 1) (argsL := [.ref u, .int (2 : Int32)]) (lenOf pd_9 rfl) rfl rfl rfl (Nat.le_of_eq rfl) (Nat.le_of_ble_eq_true rfl) (Nat.le_of_ble_eq_true rfl) fun v202 h203 ps199 q201 z200 => ?_
  obtain ⟨rfl, es204⟩ := q201
  subst h203
  show Own.Run V K b_n42 _ h195 _ 2 12 48 [.val (.ref x), .val (.ref b), .val (.int (0 : Int32)), .val (.int (2 : Int32)), .val (.null), .val (.ref u)] [.int (1 : Int32), .ref x]
  refine r_putfield 51 rfl d0_48 (wd hw 31 rfl) f198 f196 (Or.inr ⟨wd hw 27 rfl, rfl, rfl⟩) (wd hw 11 rfl) (ty := .byte) (by decide) (by decide) (by decide) zx (Or.inr (by simp [hxp])) fun h205 Wh205 => ?_
  have sh205 := Wh205.size
  have f206 := Exa.wr Wh205 f196
  have f207 := Fld.other Wh205 f197 (Or.inr (slot_ne (C := "java/lang/String") (Or.inr (wd hw 26 rfl)) (Or.inr (wd hw 27 rfl)) (by decide) (t := (.array .byte)) (by decide) (t' := .byte) (by decide)))
  have f208 := Fld.same Wh205 f198
  have f209 := Arv.other A2 Wh205 (neA (by omega))
  refine r_aloadN 52 rfl d0_51 rfl rfl ?_
  refine r_aload 54 rfl d0_52 rfl rfl ?_
  refine r_putfield 57 rfl d0_54 (wd hw 30 rfl) f207 f206 (Or.inr ⟨wd hw 26 rfl, rfl, rfl⟩) (wd hw 11 rfl) (ty := (.array .byte)) (by decide) rfl rfl zx (Or.inr (by simp [hxp])) fun h210 Wh210 => ?_
  have sh210 := Wh210.size
  have f211 := Exa.wr Wh210 f206
  have f212 := Fld.same Wh210 f207
  have f213 := Fld.other Wh210 f208 (Or.inr (slot_ne (C := "java/lang/String") (Or.inr (wd hw 27 rfl)) (Or.inr (wd hw 26 rfl)) (by decide) (t := .byte) (by decide) (t' := (.array .byte)) (by decide)))
  have f214 := Arv.other f209 Wh210 (neA (by omega))
  refine r_ret rfl d0_57 (by decide) (by decide) [] (fun _ q => nomatch q) ?_
  exact ⟨rfl, (((Keep.refl _ _).ext E2).wr Wh205 (Or.inl (by simp))).wr Wh210 (Or.inl (by simp)), u, ku, 1, _, _, f211.lt, f214.lt, Nat.le_refl _, f211, f212, f213, f214, Or.inr ⟨rfl, rfl, rfl, hwd⟩, (fun c hc => (uS hc0 (uS hc1 u0)) c hc), Nat.le_of_ble_eq_true rfl⟩
abbrev b_n12 : Bx := (⟨"java/lang/String", "<init>", "([C)V"⟩, jdk_42_method_3_code, 2, none, { frames := 5, cells := 2, slots := 12, locals := 100 })
theorem c_n12 (V : Vw) (hw : ∀ d ∈ tables_1, d.before V.a0 V.Z = true) (cz : Int32) (hCS : Sta V.Z V.Z.heap "java/lang/String" "COMPACT_STRINGS" "Z" (.int cz)) (hcz : ¬ cz = 0) (hAD : Sta V.Z V.Z.heap "java/lang/StringUTF16" "$assertionsDisabled" "Z" (.int 1)) (hHI : Sta V.Z V.Z.heap "java/lang/StringUTF16" "HI_BYTE_SHIFT" "I" (.int 0)) (hLO : Sta V.Z V.Z.heap "java/lang/StringUTF16" "LO_BYTE_SHIFT" "I" (.int 8)) (c0 c1 : Int32) (hc0 : U6 c0) (hc1 : U6 c1) (hwd : ∃ c ∈ ([c0, c1] : List Int32), 255 < c) (h : Heap) (ps : List Addr) (b : Nat) (kC : ClassId) (A : Arv V.Z h b kC .char (2 : Int32) [.int c0, .int c1] (.int 0)) (x : Nat) (zx : V.Z.heap.size ≤ x) (hxp : x ∈ ps) (E : Exa V.Z h x "java/lang/String") (Gv : Fld V.Z h x "java/lang/String" "value" "[B" .null) (Gc : Fld V.Z h x "java/lang/String" "coder" "B" (.int 0)) : Con V b_n12 #[.ref x, .ref b] h ps (Qn V x ([c0, c1] : List Int32) h) := Con.of (plainFor_of_name pn_0) (L := [.val (.ref x), .val (.ref b)]) rfl fun K => by
  refine r_aloadN 1 rfl d1_0 rfl rfl ?_
  refine r_aloadN 2 rfl d1_1 rfl rfl ?_
  refine r_iconst (0 : Int32) 3 rfl d1_2 rfl ?_
  refine r_aloadN 4 rfl d1_3 rfl rfl ?_
  refine r_arraylength 5 rfl d1_4 A ?_
  refine r_null 6 rfl d1_5 ?_
  refine r_special 9 rfl d1_6 rfl (wd hw 17 rfl) (wd hw 18 rfl) (wd hw 20 rfl) (by decide) (Pays.con (K := K) (B := b_n12) (c_n42 V hw cz hCS hcz hAD hHI hLO c0 c1 hc0 hc1 hwd h _ b kC A x zx (by simp [hxp]) E Gv Gc) (wd hw 20 rfl) (wd hw 12 rfl) (by decide) (by decide)) (W := 0) (argsL := [.ref b, .int (0 : Int32), .int (2 : Int32), .null]) (lenOf pd_0 rfl) rfl rfl rfl (Nat.le_of_eq rfl) (Nat.le_of_ble_eq_true rfl) (Nat.le_of_ble_eq_true rfl) fun v218 h219 ps215 q217 z216 => ?_
  obtain ⟨rfl, K1, S1⟩ := q217
  show Own.Run V K b_n12 _ h219 _ 2 12 9 [.val (.ref x), .val (.ref b)] []
  refine r_ret rfl d1_9 (by decide) (by decide) [] (fun _ q => nomatch q) ?_
  exact ⟨rfl, K1, S1⟩
abbrev b_tb3 : Bx := (⟨"java/lang/StringUTF16", "toBytes", "([CII)[B"⟩, jdk_52_method_14_code, 5, some (.array .byte), { frames := 2, cells := 1, slots := 8, locals := 34 })
theorem c_tb3 (V : Vw) (hw : ∀ d ∈ tables_1, d.before V.a0 V.Z = true) (hAD : Sta V.Z V.Z.heap "java/lang/StringUTF16" "$assertionsDisabled" "Z" (.int 1)) (hHI : Sta V.Z V.Z.heap "java/lang/StringUTF16" "HI_BYTE_SHIFT" "I" (.int 0)) (hLO : Sta V.Z V.Z.heap "java/lang/StringUTF16" "LO_BYTE_SHIFT" "I" (.int 8)) (c0 c1 c2 : Int32) (h : Heap) (ps : List Addr) (b : Nat) (kC : ClassId) (A : Arv V.Z h b kC .char (3 : Int32) [.int c0, .int c1, .int c2] (.int 0)) : Con V b_tb3 #[.ref b, .int 0, .int (3 : Int32)] h ps (Qtb V 3 ([c0, c1, c2] : List Int32) h) := Con.of (plainFor_of_name pn_1) (L := [.val (.ref b), .val (.int (0 : Int32)), .val (.int (3 : Int32)), .unset, .unset]) rfl fun K => by
  have lb := ltN A.lt
  refine r_iloadN 1 rfl d7_0 rfl ?_
  refine r_static 4 rfl d7_1 (wd hw 92 rfl) (wd hw 93 rfl) (wd hw 49 rfl) (wd hw 94 rfl) (by decide) (Pays.con (K := K) (B := b_tb3) (c_nbf V hw 3 (by decide) h _) (wd hw 94 rfl) (wd hw 49 rfl) (by decide) (by decide)) (W := 0) (argsL := [.int (3 : Int32)]) (lenOf pd_6 rfl) rfl rfl rfl (Nat.le_of_eq rfl) (Nat.le_of_ble_eq_true rfl) (Nat.le_of_ble_eq_true rfl) fun v222 h223 psu q221 z220 => ?_
  obtain ⟨u, ku, rfl, E0, gu, zu, mu, A0⟩ := q221
  have f224 := A.ext E0
  have sh223 := E0.1
  show Own.Run V K b_tb3 _ h223 _ 1 8 4 [.val (.ref b), .val (.int (0 : Int32)), .val (.int (3 : Int32)), .unset, .unset] [.ref u]
  have D0 : Arv V.Z h223 u ku .byte (Int32.ofNat (2 * 3)) [.int 0, .int 0, .int 0, .int 0, .int 0, .int 0] (.int 0) := Arv.pad A0 (pad_rep [] (.int 0) 6)
  refine r_astoreN [.val (.ref b), .val (.int (0 : Int32)), .val (.int (3 : Int32)), .val (.ref u), .unset] 5 rfl d7_4 rfl rfl ?_
  refine r_iconst (0 : Int32) 6 rfl d7_5 rfl ?_
  refine r_istore [.val (.ref b), .val (.int (0 : Int32)), .val (.int (3 : Int32)), .val (.ref u), .val (.int (0 : Int32))] 8 rfl d7_6 rfl ?_
  refine r_iload 10 rfl d7_8 rfl ?_
  refine r_iloadN 11 rfl d7_10 rfl ?_
  refine r_icmp_ge 32 14 d7_11 (by decide) rfl rfl (fun c225 => ?_) (fun c225 => ?_)
  · exact absurd c225 (by decide)
  refine r_aloadN 15 rfl d7_14 rfl rfl ?_
  refine r_iload 17 rfl d7_15 rfl ?_
  refine r_aloadN 18 rfl d7_17 rfl rfl ?_
  refine r_iloadN 19 rfl d7_18 rfl ?_
  refine r_caload (v := .int c0) 20 rfl d7_19 f224 (by decide) rfl ?_
  refine r_static 23 rfl d7_20 (wd hw 99 rfl) (wd hw 100 rfl) (wd hw 49 rfl) (wd hw 101 rfl) (by decide) (Pays.con (K := K) (B := b_tb3) (c_pc V hw hAD hHI hLO u ku (2 * 3) [.int 0, .int 0, .int 0, .int 0, .int 0, .int 0] 0 c0 h223 _ D0 (Nat.le_of_ble_eq_true rfl) (Nat.le_of_ble_eq_true rfl) (by decide) zu (by simp [mu])) (wd hw 101 rfl) (wd hw 49 rfl) (by decide) (by decide)) (W := 0) (argsL := [.ref u, .int (0 : Int32), .int c0]) (lenOf pd_4 rfl) rfl rfl rfl (Nat.le_of_eq rfl) (Nat.le_of_ble_eq_true rfl) (Nat.le_of_ble_eq_true rfl) fun v229 h230 ps226 q228 z227 => ?_
  obtain ⟨rfl, K1, D1⟩ := q228
  have f231 := Arv.keep f224 K1 (ninS (neA (by omega)) nin0)
  show Own.Run V K b_tb3 _ h230 _ 1 8 23 [.val (.ref b), .val (.int (0 : Int32)), .val (.int (3 : Int32)), .val (.ref u), .val (.int (0 : Int32))] []
  replace D1 : Arv V.Z h230 u ku .byte (Int32.ofNat (2 * 3)) [.int (StrChars.lo8 c0), .int (StrChars.hi8 c0), .int 0, .int 0, .int 0, .int 0] (.int 0) := D1
  have sh230 := K1.1
  refine r_iinc (1) [.val (.ref b), .val (.int ((0 : Int32) + (1 : Int32))), .val (.int (3 : Int32)), .val (.ref u), .val (.int (0 : Int32))] 26 rfl d7_23 rfl rfl rfl ?_
  rw [show (0 : Int32) + 1 = 1 from by decide]
  refine r_iinc (1) [.val (.ref b), .val (.int (1 : Int32)), .val (.int (3 : Int32)), .val (.ref u), .val (.int ((0 : Int32) + (1 : Int32)))] 29 rfl d7_26 rfl rfl rfl ?_
  rw [show (0 : Int32) + 1 = 1 from by decide]
  refine r_goto 8 d7_29 (by decide) rfl ?_
  refine r_iload 10 rfl d7_8 rfl ?_
  refine r_iloadN 11 rfl d7_10 rfl ?_
  refine r_icmp_ge 32 14 d7_11 (by decide) rfl rfl (fun c232 => ?_) (fun c232 => ?_)
  · exact absurd c232 (by decide)
  refine r_aloadN 15 rfl d7_14 rfl rfl ?_
  refine r_iload 17 rfl d7_15 rfl ?_
  refine r_aloadN 18 rfl d7_17 rfl rfl ?_
  refine r_iloadN 19 rfl d7_18 rfl ?_
  refine r_caload (v := .int c1) 20 rfl d7_19 f231 (by decide) rfl ?_
  refine r_static 23 rfl d7_20 (wd hw 99 rfl) (wd hw 100 rfl) (wd hw 49 rfl) (wd hw 101 rfl) (by decide) (Pays.con (K := K) (B := b_tb3) (c_pc V hw hAD hHI hLO u ku (2 * 3) [.int (StrChars.lo8 c0), .int (StrChars.hi8 c0), .int 0, .int 0, .int 0, .int 0] 1 c1 h230 _ D1 (Nat.le_of_ble_eq_true rfl) (Nat.le_of_ble_eq_true rfl) (by decide) zu (by simp [mu])) (wd hw 101 rfl) (wd hw 49 rfl) (by decide) (by decide)) (W := 0) (argsL := [.ref u, .int (1 : Int32), .int c1]) (lenOf pd_4 rfl) rfl rfl rfl (Nat.le_of_eq rfl) (Nat.le_of_ble_eq_true rfl) (Nat.le_of_ble_eq_true rfl) fun v236 h237 ps233 q235 z234 => ?_
  obtain ⟨rfl, K2, D2⟩ := q235
  have f238 := Arv.keep f231 K2 (ninS (neA (by omega)) nin0)
  show Own.Run V K b_tb3 _ h237 _ 1 8 23 [.val (.ref b), .val (.int (1 : Int32)), .val (.int (3 : Int32)), .val (.ref u), .val (.int (1 : Int32))] []
  replace D2 : Arv V.Z h237 u ku .byte (Int32.ofNat (2 * 3)) [.int (StrChars.lo8 c0), .int (StrChars.hi8 c0), .int (StrChars.lo8 c1), .int (StrChars.hi8 c1), .int 0, .int 0] (.int 0) := D2
  have sh237 := K2.1
  refine r_iinc (1) [.val (.ref b), .val (.int ((1 : Int32) + (1 : Int32))), .val (.int (3 : Int32)), .val (.ref u), .val (.int (1 : Int32))] 26 rfl d7_23 rfl rfl rfl ?_
  rw [show (1 : Int32) + 1 = 2 from by decide]
  refine r_iinc (1) [.val (.ref b), .val (.int (2 : Int32)), .val (.int (3 : Int32)), .val (.ref u), .val (.int ((1 : Int32) + (1 : Int32)))] 29 rfl d7_26 rfl rfl rfl ?_
  rw [show (1 : Int32) + 1 = 2 from by decide]
  refine r_goto 8 d7_29 (by decide) rfl ?_
  refine r_iload 10 rfl d7_8 rfl ?_
  refine r_iloadN 11 rfl d7_10 rfl ?_
  refine r_icmp_ge 32 14 d7_11 (by decide) rfl rfl (fun c239 => ?_) (fun c239 => ?_)
  · exact absurd c239 (by decide)
  refine r_aloadN 15 rfl d7_14 rfl rfl ?_
  refine r_iload 17 rfl d7_15 rfl ?_
  refine r_aloadN 18 rfl d7_17 rfl rfl ?_
  refine r_iloadN 19 rfl d7_18 rfl ?_
  refine r_caload (v := .int c2) 20 rfl d7_19 f238 (by decide) rfl ?_
  refine r_static 23 rfl d7_20 (wd hw 99 rfl) (wd hw 100 rfl) (wd hw 49 rfl) (wd hw 101 rfl) (by decide) (Pays.con (K := K) (B := b_tb3) (c_pc V hw hAD hHI hLO u ku (2 * 3) [.int (StrChars.lo8 c0), .int (StrChars.hi8 c0), .int (StrChars.lo8 c1), .int (StrChars.hi8 c1), .int 0, .int 0] 2 c2 h237 _ D2 (Nat.le_of_ble_eq_true rfl) (Nat.le_of_ble_eq_true rfl) (by decide) zu (by simp [mu])) (wd hw 101 rfl) (wd hw 49 rfl) (by decide) (by decide)) (W := 0) (argsL := [.ref u, .int (2 : Int32), .int c2]) (lenOf pd_4 rfl) rfl rfl rfl (Nat.le_of_eq rfl) (Nat.le_of_ble_eq_true rfl) (Nat.le_of_ble_eq_true rfl) fun v243 h244 ps240 q242 z241 => ?_
  obtain ⟨rfl, K3, D3⟩ := q242
  have f245 := Arv.keep f238 K3 (ninS (neA (by omega)) nin0)
  show Own.Run V K b_tb3 _ h244 _ 1 8 23 [.val (.ref b), .val (.int (2 : Int32)), .val (.int (3 : Int32)), .val (.ref u), .val (.int (2 : Int32))] []
  replace D3 : Arv V.Z h244 u ku .byte (Int32.ofNat (2 * 3)) [.int (StrChars.lo8 c0), .int (StrChars.hi8 c0), .int (StrChars.lo8 c1), .int (StrChars.hi8 c1), .int (StrChars.lo8 c2), .int (StrChars.hi8 c2)] (.int 0) := D3
  have sh244 := K3.1
  refine r_iinc (1) [.val (.ref b), .val (.int ((2 : Int32) + (1 : Int32))), .val (.int (3 : Int32)), .val (.ref u), .val (.int (2 : Int32))] 26 rfl d7_23 rfl rfl rfl ?_
  rw [show (2 : Int32) + 1 = 3 from by decide]
  refine r_iinc (1) [.val (.ref b), .val (.int (3 : Int32)), .val (.int (3 : Int32)), .val (.ref u), .val (.int ((2 : Int32) + (1 : Int32)))] 29 rfl d7_26 rfl rfl rfl ?_
  rw [show (2 : Int32) + 1 = 3 from by decide]
  refine r_goto 8 d7_29 (by decide) rfl ?_
  refine r_iload 10 rfl d7_8 rfl ?_
  refine r_iloadN 11 rfl d7_10 rfl ?_
  refine r_icmp_ge 32 14 d7_11 (by decide) rfl rfl (fun c246 => ?_) (fun c246 => ?_)
  rotate_left
  · exact absurd c246 (by decide)
  refine r_aloadN 33 rfl d7_32 rfl rfl ?_
  refine r_aret (t := (.array .byte)) rfl rfl rfl d7_33 (by decide) (by decide) [] (fun _ q => nomatch q) ?_
  exact ⟨_, _, rfl, Keep.ext0 (Keep.ext0 (Keep.ext0 (E0) K1 (fun w hw' => by cases List.mem_singleton.mp hw'; exact leA (by omega))) K2 (fun w hw' => by cases List.mem_singleton.mp hw'; exact leA (by omega))) K3 (fun w hw' => by cases List.mem_singleton.mp hw'; exact leA (by omega)), gu, D3⟩
abbrev b_c53 : Bx := (⟨"java/lang/StringUTF16", "compress", "([CI[BII)I"⟩, jdk_52_method_21_code, 7, some .int, { frames := 0, cells := 0, slots := 0, locals := 0 })
theorem c_c53 (V : Vw) (hw : ∀ d ∈ tables_1, d.before V.a0 V.Z = true) (c0 c1 c2 : Int32) (hwd : ∃ c ∈ ([c0, c1, c2] : List Int32), 255 < c) (h : Heap) (ps : List Addr) (b : Nat) (kC : ClassId) (A : Arv V.Z h b kC .char (3 : Int32) [.int c0, .int c1, .int c2] (.int 0)) (t : Nat) (kt : ClassId) (D : Arv V.Z h t kt .byte (3 : Int32) [.int 0, .int 0, .int 0] (.int 0)) (zt : V.Z.heap.size ≤ t) (mt : t ∈ ps) (nbt : b ≠ t) : Con V b_c53 #[.ref b, .int 0, .ref t, .int 0, .int (3 : Int32)] h ps (Qc5 t 3 ([c0, c1, c2] : List Int32) h) := Con.of (plainFor_of_name pn_1) (L := [.val (.ref b), .val (.int (0 : Int32)), .val (.ref t), .val (.int (0 : Int32)), .val (.int (3 : Int32)), .unset, .unset]) rfl fun K => by
  have nb := neN nbt
  refine r_iconst (0 : Int32) 1 rfl d8_0 rfl ?_
  refine r_istore [.val (.ref b), .val (.int (0 : Int32)), .val (.ref t), .val (.int (0 : Int32)), .val (.int (3 : Int32)), .val (.int (0 : Int32)), .unset] 3 rfl d8_1 rfl ?_
  refine r_iload 5 rfl d8_3 rfl ?_
  refine r_iload 7 rfl d8_5 rfl ?_
  refine r_icmp_ge 44 10 d8_7 (by decide) rfl rfl (fun c247 => ?_) (fun c247 => ?_)
  · exact absurd c247 (by decide)
  refine r_aloadN 11 rfl d8_10 rfl rfl ?_
  refine r_iloadN 12 rfl d8_11 rfl ?_
  refine r_caload (v := .int c0) 13 rfl d8_12 A (by decide) rfl ?_
  refine r_istore [.val (.ref b), .val (.int (0 : Int32)), .val (.ref t), .val (.int (0 : Int32)), .val (.int (3 : Int32)), .val (.int (0 : Int32)), .val (.int c0)] 15 rfl d8_13 rfl ?_
  refine r_iload 17 rfl d8_15 rfl ?_
  refine r_sipush (255 : Int32) 20 rfl d8_17 rfl ?_
  refine r_icmp_le 26 23 d8_20 (by decide) rfl rfl (fun c248 => ?_) (fun c248 => ?_)
  rotate_left
  · refine r_iload 25 rfl d8_23 rfl ?_
    refine r_iret rfl d8_25 (by decide) (by decide) [] (fun _ q => nomatch q) ?_
    exact ⟨0, rfl, by decide, c248, Keep.refl _ _⟩
  refine r_aloadN 27 rfl d8_26 rfl rfl ?_
  refine r_iloadN 28 rfl d8_27 rfl ?_
  refine r_iload 30 rfl d8_28 rfl ?_
  refine r_i2b 31 rfl d8_30 ?_
  refine r_bastore 0 32 rfl d8_31 D (by decide) rfl (Nat.le_of_ble_eq_true rfl) zt (by simp [mt]) c0.toInt8.toInt32 (by simp) fun h249 Wh249 f250 => ?_
  have f251 := Arv.other A Wh249 (neA (by omega))
  replace f250 : Arv V.Z h249 t kt .byte (3 : Int32) [.int c0.toInt8.toInt32, .int 0, .int 0] (.int 0) := f250
  refine r_iinc (1) [.val (.ref b), .val (.int ((0 : Int32) + (1 : Int32))), .val (.ref t), .val (.int (0 : Int32)), .val (.int (3 : Int32)), .val (.int (0 : Int32)), .val (.int c0)] 35 rfl d8_32 rfl rfl rfl ?_
  rw [show (0 : Int32) + 1 = 1 from by decide]
  refine r_iinc (1) [.val (.ref b), .val (.int (1 : Int32)), .val (.ref t), .val (.int ((0 : Int32) + (1 : Int32))), .val (.int (3 : Int32)), .val (.int (0 : Int32)), .val (.int c0)] 38 rfl d8_35 rfl rfl rfl ?_
  rw [show (0 : Int32) + 1 = 1 from by decide]
  refine r_iinc (1) [.val (.ref b), .val (.int (1 : Int32)), .val (.ref t), .val (.int (1 : Int32)), .val (.int (3 : Int32)), .val (.int ((0 : Int32) + (1 : Int32))), .val (.int c0)] 41 rfl d8_38 rfl rfl rfl ?_
  rw [show (0 : Int32) + 1 = 1 from by decide]
  refine r_goto 3 d8_41 (by decide) rfl ?_
  refine r_iload 5 rfl d8_3 rfl ?_
  refine r_iload 7 rfl d8_5 rfl ?_
  refine r_icmp_ge 44 10 d8_7 (by decide) rfl rfl (fun c252 => ?_) (fun c252 => ?_)
  · exact absurd c252 (by decide)
  refine r_aloadN 11 rfl d8_10 rfl rfl ?_
  refine r_iloadN 12 rfl d8_11 rfl ?_
  refine r_caload (v := .int c1) 13 rfl d8_12 f251 (by decide) rfl ?_
  refine r_istore [.val (.ref b), .val (.int (1 : Int32)), .val (.ref t), .val (.int (1 : Int32)), .val (.int (3 : Int32)), .val (.int (1 : Int32)), .val (.int c1)] 15 rfl d8_13 rfl ?_
  refine r_iload 17 rfl d8_15 rfl ?_
  refine r_sipush (255 : Int32) 20 rfl d8_17 rfl ?_
  refine r_icmp_le 26 23 d8_20 (by decide) rfl rfl (fun c253 => ?_) (fun c253 => ?_)
  rotate_left
  · refine r_iload 25 rfl d8_23 rfl ?_
    refine r_iret rfl d8_25 (by decide) (by decide) [] (fun _ q => nomatch q) ?_
    exact ⟨1, rfl, by decide, c253, (Keep.refl _ _).wr Wh249 (Or.inl (by simp))⟩
  refine r_aloadN 27 rfl d8_26 rfl rfl ?_
  refine r_iloadN 28 rfl d8_27 rfl ?_
  refine r_iload 30 rfl d8_28 rfl ?_
  refine r_i2b 31 rfl d8_30 ?_
  refine r_bastore 1 32 rfl d8_31 f250 (by decide) rfl (Nat.le_of_ble_eq_true rfl) zt (by simp [mt]) c1.toInt8.toInt32 (by simp) fun h254 Wh254 f255 => ?_
  have f256 := Arv.other f251 Wh254 (neA (by omega))
  replace f255 : Arv V.Z h254 t kt .byte (3 : Int32) [.int c0.toInt8.toInt32, .int c1.toInt8.toInt32, .int 0] (.int 0) := f255
  refine r_iinc (1) [.val (.ref b), .val (.int ((1 : Int32) + (1 : Int32))), .val (.ref t), .val (.int (1 : Int32)), .val (.int (3 : Int32)), .val (.int (1 : Int32)), .val (.int c1)] 35 rfl d8_32 rfl rfl rfl ?_
  rw [show (1 : Int32) + 1 = 2 from by decide]
  refine r_iinc (1) [.val (.ref b), .val (.int (2 : Int32)), .val (.ref t), .val (.int ((1 : Int32) + (1 : Int32))), .val (.int (3 : Int32)), .val (.int (1 : Int32)), .val (.int c1)] 38 rfl d8_35 rfl rfl rfl ?_
  rw [show (1 : Int32) + 1 = 2 from by decide]
  refine r_iinc (1) [.val (.ref b), .val (.int (2 : Int32)), .val (.ref t), .val (.int (2 : Int32)), .val (.int (3 : Int32)), .val (.int ((1 : Int32) + (1 : Int32))), .val (.int c1)] 41 rfl d8_38 rfl rfl rfl ?_
  rw [show (1 : Int32) + 1 = 2 from by decide]
  refine r_goto 3 d8_41 (by decide) rfl ?_
  refine r_iload 5 rfl d8_3 rfl ?_
  refine r_iload 7 rfl d8_5 rfl ?_
  refine r_icmp_ge 44 10 d8_7 (by decide) rfl rfl (fun c257 => ?_) (fun c257 => ?_)
  · exact absurd c257 (by decide)
  refine r_aloadN 11 rfl d8_10 rfl rfl ?_
  refine r_iloadN 12 rfl d8_11 rfl ?_
  refine r_caload (v := .int c2) 13 rfl d8_12 f256 (by decide) rfl ?_
  refine r_istore [.val (.ref b), .val (.int (2 : Int32)), .val (.ref t), .val (.int (2 : Int32)), .val (.int (3 : Int32)), .val (.int (2 : Int32)), .val (.int c2)] 15 rfl d8_13 rfl ?_
  refine r_iload 17 rfl d8_15 rfl ?_
  refine r_sipush (255 : Int32) 20 rfl d8_17 rfl ?_
  refine r_icmp_le 26 23 d8_20 (by decide) rfl rfl (fun c258 => ?_) (fun c258 => ?_)
  rotate_left
  · refine r_iload 25 rfl d8_23 rfl ?_
    refine r_iret rfl d8_25 (by decide) (by decide) [] (fun _ q => nomatch q) ?_
    exact ⟨2, rfl, by decide, c258, ((Keep.refl _ _).wr Wh249 (Or.inl (by simp))).wr Wh254 (Or.inl (by simp))⟩
  refine r_aloadN 27 rfl d8_26 rfl rfl ?_
  refine r_iloadN 28 rfl d8_27 rfl ?_
  refine r_iload 30 rfl d8_28 rfl ?_
  refine r_i2b 31 rfl d8_30 ?_
  refine r_bastore 2 32 rfl d8_31 f255 (by decide) rfl (Nat.le_of_ble_eq_true rfl) zt (by simp [mt]) c2.toInt8.toInt32 (by simp) fun h259 Wh259 f260 => ?_
  have f261 := Arv.other f256 Wh259 (neA (by omega))
  replace f260 : Arv V.Z h259 t kt .byte (3 : Int32) [.int c0.toInt8.toInt32, .int c1.toInt8.toInt32, .int c2.toInt8.toInt32] (.int 0) := f260
  refine r_iinc (1) [.val (.ref b), .val (.int ((2 : Int32) + (1 : Int32))), .val (.ref t), .val (.int (2 : Int32)), .val (.int (3 : Int32)), .val (.int (2 : Int32)), .val (.int c2)] 35 rfl d8_32 rfl rfl rfl ?_
  rw [show (2 : Int32) + 1 = 3 from by decide]
  refine r_iinc (1) [.val (.ref b), .val (.int (3 : Int32)), .val (.ref t), .val (.int ((2 : Int32) + (1 : Int32))), .val (.int (3 : Int32)), .val (.int (2 : Int32)), .val (.int c2)] 38 rfl d8_35 rfl rfl rfl ?_
  rw [show (2 : Int32) + 1 = 3 from by decide]
  refine r_iinc (1) [.val (.ref b), .val (.int (3 : Int32)), .val (.ref t), .val (.int (3 : Int32)), .val (.int (3 : Int32)), .val (.int ((2 : Int32) + (1 : Int32))), .val (.int c2)] 41 rfl d8_38 rfl rfl rfl ?_
  rw [show (2 : Int32) + 1 = 3 from by decide]
  refine r_goto 3 d8_41 (by decide) rfl ?_
  refine absurd hwd ?_
  rintro ⟨c, hc, q⟩
  simp only [List.mem_cons, List.not_mem_nil, or_false] at hc
  rcases hc with rfl | rfl | rfl
  · exact c248 q
  · exact c253 q
  · exact c258 q
abbrev b_c33 : Bx := (⟨"java/lang/StringUTF16", "compress", "([CII)[B"⟩, jdk_52_method_16_code, 6, some (.array .byte), { frames := 3, cells := 2, slots := 12, locals := 60 })
theorem c_c33 (V : Vw) (hw : ∀ d ∈ tables_1, d.before V.a0 V.Z = true) (hAD : Sta V.Z V.Z.heap "java/lang/StringUTF16" "$assertionsDisabled" "Z" (.int 1)) (hHI : Sta V.Z V.Z.heap "java/lang/StringUTF16" "HI_BYTE_SHIFT" "I" (.int 0)) (hLO : Sta V.Z V.Z.heap "java/lang/StringUTF16" "LO_BYTE_SHIFT" "I" (.int 8)) (c0 c1 c2 : Int32) (hc0 : U6 c0) (hc1 : U6 c1) (hc2 : U6 c2) (hwd : ∃ c ∈ ([c0, c1, c2] : List Int32), 255 < c) (h : Heap) (ps : List Addr) (b : Nat) (kC : ClassId) (A : Arv V.Z h b kC .char (3 : Int32) [.int c0, .int c1, .int c2] (.int 0)) : Con V b_c33 #[.ref b, .int 0, .int (3 : Int32)] h ps (Qtb V 3 ([c0, c1, c2] : List Int32) h) := Con.of (plainFor_of_name pn_1) (L := [.val (.ref b), .val (.int (0 : Int32)), .val (.int (3 : Int32)), .unset, .unset, .unset]) rfl fun K => by
  have lb := ltN A.lt
  refine r_iloadN 1 rfl d9_0 rfl ?_
  refine r_newarray 3 3 rfl d9_1 (wd hw 25 rfl) (by decide) (by decide) (by decide) (by decide) (by decide) fun a262 h263 k264 ga262 za262 Eh263 Aa262 => ?_
  have f265 := A.ext Eh263
  have sh263 := Eh263.1
  have la262 := ltN Aa262.lt
  have f266 : Arv V.Z h263 a262 k264 .byte (3 : Int32) [.int 0, .int 0, .int 0] (.int 0) := Arv.pad Aa262 (pad_rep [] (.int 0) 3)
  refine r_astoreN [.val (.ref b), .val (.int (0 : Int32)), .val (.int (3 : Int32)), .val (.ref a262), .unset, .unset] 4 rfl d9_3 rfl rfl ?_
  refine r_aloadN 5 rfl d9_4 rfl rfl ?_
  refine r_iloadN 6 rfl d9_5 rfl ?_
  refine r_aloadN 7 rfl d9_6 rfl rfl ?_
  refine r_iconst (0 : Int32) 8 rfl d9_7 rfl ?_
  refine r_iloadN 9 rfl d9_8 rfl ?_
  refine r_static 12 rfl d9_9 (wd hw 51 rfl) (wd hw 52 rfl) (wd hw 49 rfl) (wd hw 53 rfl) (by decide) (Pays.con (K := K) (B := b_c33) (c_c53 V hw c0 c1 c2 hwd h263 _ b kC f265 a262 _ f266 za262 (by simp) (neA (by omega))) (wd hw 53 rfl) (wd hw 49 rfl) (by decide) (by decide)) (W := 0) (argsL := [.ref b, .int (0 : Int32), .ref a262, .int (0 : Int32), .int (3 : Int32)]) (lenOf pd_8 rfl) rfl rfl rfl (Nat.le_of_eq rfl) (Nat.le_of_ble_eq_true rfl) (Nat.le_of_ble_eq_true rfl) fun v270 h271 ps267 q269 z268 => ?_
  obtain ⟨j, rfl, hj, hjc, K1⟩ := q269
  have f272 := Arv.keep f265 K1 (ninS (neA (by omega)) nin0)
  show Own.Run V K b_c33 _ h271 _ 1 3 12 [.val (.ref b), .val (.int (0 : Int32)), .val (.int (3 : Int32)), .val (.ref a262), .unset, .unset] [.int (Int32.ofNat j)]
  have sh271 := K1.1
  refine r_istore [.val (.ref b), .val (.int (0 : Int32)), .val (.int (3 : Int32)), .val (.ref a262), .val (.int (Int32.ofNat j)), .unset] 14 rfl d9_12 rfl ?_
  refine r_iload 16 rfl d9_14 rfl ?_
  refine r_iloadN 17 rfl d9_16 rfl ?_
  refine r_icmp_eq 57 20 d9_17 (by decide) rfl rfl (fun c273 => ?_) (fun c273 => ?_)
  · exact absurd (ofN_inj (k := 3) (by omega) (by decide) c273) (by omega)
  refine r_aloadN 21 rfl d9_20 rfl rfl ?_
  refine r_iloadN 22 rfl d9_21 rfl ?_
  refine r_iloadN 23 rfl d9_22 rfl ?_
  refine r_static 26 rfl d9_23 (wd hw 89 rfl) (wd hw 90 rfl) (wd hw 49 rfl) (wd hw 91 rfl) (by decide) (Pays.con (K := K) (B := b_c33) (c_tb3 V hw hAD hHI hLO c0 c1 c2 h271 _ b kC f272) (wd hw 91 rfl) (wd hw 49 rfl) (by decide) (by decide)) (W := 0) (argsL := [.ref b, .int (0 : Int32), .int (3 : Int32)]) (lenOf pd_7 rfl) rfl rfl rfl (Nat.le_of_eq rfl) (Nat.le_of_ble_eq_true rfl) (Nat.le_of_ble_eq_true rfl) fun v277 h278 ps274 q276 z275 => ?_
  obtain ⟨u, ku, rfl, E2, gu, A2⟩ := q276
  have f279 := f272.ext E2
  have sh278 := E2.1
  show Own.Run V K b_c33 _ h278 _ 2 11 26 [.val (.ref b), .val (.int (0 : Int32)), .val (.int (3 : Int32)), .val (.ref a262), .val (.int (Int32.ofNat j)), .unset] [.ref u]
  refine r_astore [.val (.ref b), .val (.int (0 : Int32)), .val (.int (3 : Int32)), .val (.ref a262), .val (.int (Int32.ofNat j)), .val (.ref u)] 28 rfl d9_26 rfl rfl ?_
  refine r_aload 30 rfl d9_28 rfl rfl ?_
  refine r_iload 32 rfl d9_30 rfl ?_
  refine r_static 35 rfl d9_32 (wd hw 105 rfl) (wd hw 106 rfl) (wd hw 49 rfl) (wd hw 107 rfl) (by decide) (Pays.con (K := K) (B := b_c33) (c_gc V hw hAD hHI hLO u ku ([c0, c1, c2] : List Int32) j hj (uS hc0 (uS hc1 (uS hc2 u0))) (Nat.le_of_ble_eq_true rfl) h278 _ A2) (wd hw 107 rfl) (wd hw 49 rfl) (by decide) (by decide)) (W := 0) (argsL := [.ref u, .int (Int32.ofNat j)]) (lenOf pd_3 rfl) rfl rfl rfl (Nat.le_of_eq rfl) (Nat.le_of_ble_eq_true rfl) (Nat.le_of_ble_eq_true rfl) fun v283 h284 ps280 q282 z281 => ?_
  obtain ⟨rfl, es285⟩ := q282
  subst h284
  show Own.Run V K b_c33 _ h278 _ 2 11 35 [.val (.ref b), .val (.int (0 : Int32)), .val (.int (3 : Int32)), .val (.ref a262), .val (.int (Int32.ofNat j)), .val (.ref u)] [.int (([c0, c1, c2] : List Int32).getD j 0)]
  refine r_sipush (255 : Int32) 38 rfl d9_35 rfl ?_
  refine r_icmp_gt 54 41 d9_38 (by decide) rfl rfl (fun c286 => ?_) (fun c286 => ?_)
  rotate_left
  · exact absurd hjc c286
  refine r_aload 56 rfl d9_54 rfl rfl ?_
  refine r_aret (t := (.array .byte)) rfl rfl rfl d9_56 (by decide) (by decide) [] (fun _ q => nomatch q) ?_
  exact ⟨u, ku, rfl, Ext.trans' (Keep.ext0 Eh263 K1 (fun w hw' => by cases List.mem_singleton.mp hw'; exact leA (by omega))) E2, by omega, A2⟩
abbrev b_cl3 : Bx := (⟨"java/lang/StringUTF16", "coderFromArrayLen", "([BI)B"⟩, jdk_52_method_15_code, 2, some .byte, { frames := 0, cells := 0, slots := 0, locals := 0 })
theorem c_cl3 (V : Vw) (hw : ∀ d ∈ tables_1, d.before V.a0 V.Z = true) (u : Nat) (k : ClassId) (vs : List Value) (h : Heap) (ps : List Addr) (A : Arv V.Z h u k .byte (Int32.ofNat (2 * 3)) vs (.int 0)) : Con V b_cl3 #[.ref u, .int (3 : Int32)] h ps (Qi 1 h) := Con.of (plainFor_of_name pn_1) (L := [.val (.ref u), .val (.int (3 : Int32))]) rfl fun K => by
  refine r_iloadN 1 rfl d10_0 rfl ?_
  refine r_aloadN 2 rfl d10_1 rfl rfl ?_
  refine r_arraylength 3 rfl d10_2 A ?_
  refine r_isub 4 rfl d10_3 ?_
  refine r_bipush (31 : Int32) 6 rfl d10_4 rfl ?_
  refine r_iushr 7 rfl d10_6 ?_
  refine r_i2b 8 rfl d10_7 ?_
  rw [show (ushr ((3 : Int32) - (Int32.ofNat (2 * 3))) (31 : Int32)).toInt8.toInt32 = 1 from by decide]
  refine r_nret (t := .byte) (1 : Int32) rfl (by simp) rfl d10_8 (by decide) (by decide) [] (fun _ q => nomatch q) ?_
  exact ⟨rfl, rfl⟩
abbrev b_n43 : Bx := (⟨"java/lang/String", "<init>", "([CIILjava/lang/Void;)V"⟩, jdk_42_method_149_code, 6, none, { frames := 4, cells := 2, slots := 12, locals := 80 })
theorem c_n43 (V : Vw) (hw : ∀ d ∈ tables_1, d.before V.a0 V.Z = true) (cz : Int32) (hCS : Sta V.Z V.Z.heap "java/lang/String" "COMPACT_STRINGS" "Z" (.int cz)) (hcz : ¬ cz = 0) (hAD : Sta V.Z V.Z.heap "java/lang/StringUTF16" "$assertionsDisabled" "Z" (.int 1)) (hHI : Sta V.Z V.Z.heap "java/lang/StringUTF16" "HI_BYTE_SHIFT" "I" (.int 0)) (hLO : Sta V.Z V.Z.heap "java/lang/StringUTF16" "LO_BYTE_SHIFT" "I" (.int 8)) (c0 c1 c2 : Int32) (hc0 : U6 c0) (hc1 : U6 c1) (hc2 : U6 c2) (hwd : ∃ c ∈ ([c0, c1, c2] : List Int32), 255 < c) (h : Heap) (ps : List Addr) (b : Nat) (kC : ClassId) (A : Arv V.Z h b kC .char (3 : Int32) [.int c0, .int c1, .int c2] (.int 0)) (x : Nat) (zx : V.Z.heap.size ≤ x) (hxp : x ∈ ps) (E : Exa V.Z h x "java/lang/String") (Gv : Fld V.Z h x "java/lang/String" "value" "[B" .null) (Gc : Fld V.Z h x "java/lang/String" "coder" "B" (.int 0)) : Con V b_n43 #[.ref x, .ref b, .int 0, .int (3 : Int32), .null] h ps (Qn V x ([c0, c1, c2] : List Int32) h) := Con.of (plainFor_of_name pn_0) (L := [.val (.ref x), .val (.ref b), .val (.int (0 : Int32)), .val (.int (3 : Int32)), .val (.null), .unset]) rfl fun K => by
  have lx := ltN E.lt
  refine r_aloadN 1 rfl d0_0 rfl rfl ?_
  refine r_initO 0 4 rfl d0_1 (wd hw 21 rfl) (wd hw 22 rfl) (wd hw 23 rfl) rfl (by decide) (Nat.le_of_eq rfl) (by decide) ?_
  refine r_iloadN 5 rfl d0_4 rfl ?_
  refine r_if_ne 27 8 d0_5 (by decide) rfl rfl (fun c287 => ?_) (fun c287 => ?_)
  rotate_left
  · exact absurd c287 (by decide)
  refine r_getstatic 30 rfl d0_27 (wd hw 46 rfl) hCS ?_
  refine r_if_eq 58 33 d0_30 (by decide) rfl rfl (fun c288 => ?_) (fun c288 => ?_)
  · exact absurd c288 hcz
  refine r_aloadN 34 rfl d0_33 rfl rfl ?_
  refine r_iloadN 35 rfl d0_34 rfl ?_
  refine r_iloadN 36 rfl d0_35 rfl ?_
  refine r_static 39 rfl d0_36 (wd hw 47 rfl) (wd hw 48 rfl) (wd hw 49 rfl) (wd hw 50 rfl) (by decide) (Pays.con (K := K) (B := b_n43) (c_c33 V hw hAD hHI hLO c0 c1 c2 hc0 hc1 hc2 hwd h _ b kC A) (wd hw 50 rfl) (wd hw 49 rfl) (by decide) (by decide)) (W := 0) (argsL := [.ref b, .int (0 : Int32), .int (3 : Int32)]) (lenOf pd_7 rfl) rfl rfl rfl (Nat.le_of_eq rfl) (Nat.le_of_ble_eq_true rfl) (Nat.le_of_ble_eq_true rfl) fun v292 h293 ps289 q291 z290 => ?_
  obtain ⟨u, ku, rfl, E2, gu, A2⟩ := q291
  have f294 := Exa.ext E2 E
  have f295 := Fld.ext E2 Gv
  have f296 := Fld.ext E2 Gc
  have sh293 := E2.1
  show Own.Run V K b_n43 _ h293 _ 2 12 39 [.val (.ref x), .val (.ref b), .val (.int (0 : Int32)), .val (.int (3 : Int32)), .val (.null), .unset] [.ref u]
  have lu := ltN A2.lt
  refine r_astore [.val (.ref x), .val (.ref b), .val (.int (0 : Int32)), .val (.int (3 : Int32)), .val (.null), .val (.ref u)] 41 rfl d0_39 rfl rfl ?_
  refine r_aloadN 42 rfl d0_41 rfl rfl ?_
  refine r_aload 44 rfl d0_42 rfl rfl ?_
  refine r_iloadN 45 rfl d0_44 rfl ?_
  refine r_static 48 rfl d0_45 (wd hw 54 rfl) (wd hw 55 rfl) (wd hw 49 rfl) (wd hw 56 rfl) (by decide) (Pays.con (K := K) (B := b_n43) (c_cl3 V hw u ku _ h293 _ A2) (wd hw 56 rfl) (wd hw 49 rfl) (by decide) (by decide)) (W := 1) (argsL := [.ref u, .int (3 : Int32)]) (lenOf pd_9 rfl) rfl rfl rfl (Nat.le_of_eq rfl) (Nat.le_of_ble_eq_true rfl) (Nat.le_of_ble_eq_true rfl) fun v300 h301 ps297 q299 z298 => ?_
  obtain ⟨rfl, es302⟩ := q299
  subst h301
  show Own.Run V K b_n43 _ h293 _ 2 12 48 [.val (.ref x), .val (.ref b), .val (.int (0 : Int32)), .val (.int (3 : Int32)), .val (.null), .val (.ref u)] [.int (1 : Int32), .ref x]
  refine r_putfield 51 rfl d0_48 (wd hw 31 rfl) f296 f294 (Or.inr ⟨wd hw 27 rfl, rfl, rfl⟩) (wd hw 11 rfl) (ty := .byte) (by decide) (by decide) (by decide) zx (Or.inr (by simp [hxp])) fun h303 Wh303 => ?_
  have sh303 := Wh303.size
  have f304 := Exa.wr Wh303 f294
  have f305 := Fld.other Wh303 f295 (Or.inr (slot_ne (C := "java/lang/String") (Or.inr (wd hw 26 rfl)) (Or.inr (wd hw 27 rfl)) (by decide) (t := (.array .byte)) (by decide) (t' := .byte) (by decide)))
  have f306 := Fld.same Wh303 f296
  have f307 := Arv.other A2 Wh303 (neA (by omega))
  refine r_aloadN 52 rfl d0_51 rfl rfl ?_
  refine r_aload 54 rfl d0_52 rfl rfl ?_
  refine r_putfield 57 rfl d0_54 (wd hw 30 rfl) f305 f304 (Or.inr ⟨wd hw 26 rfl, rfl, rfl⟩) (wd hw 11 rfl) (ty := (.array .byte)) (by decide) rfl rfl zx (Or.inr (by simp [hxp])) fun h308 Wh308 => ?_
  have sh308 := Wh308.size
  have f309 := Exa.wr Wh308 f304
  have f310 := Fld.same Wh308 f305
  have f311 := Fld.other Wh308 f306 (Or.inr (slot_ne (C := "java/lang/String") (Or.inr (wd hw 27 rfl)) (Or.inr (wd hw 26 rfl)) (by decide) (t := .byte) (by decide) (t' := (.array .byte)) (by decide)))
  have f312 := Arv.other f307 Wh308 (neA (by omega))
  refine r_ret rfl d0_57 (by decide) (by decide) [] (fun _ q => nomatch q) ?_
  exact ⟨rfl, (((Keep.refl _ _).ext E2).wr Wh303 (Or.inl (by simp))).wr Wh308 (Or.inl (by simp)), u, ku, 1, _, _, f309.lt, f312.lt, Nat.le_refl _, f309, f310, f311, f312, Or.inr ⟨rfl, rfl, rfl, hwd⟩, (fun c hc => (uS hc0 (uS hc1 (uS hc2 u0))) c hc), Nat.le_of_ble_eq_true rfl⟩
abbrev b_n13 : Bx := (⟨"java/lang/String", "<init>", "([C)V"⟩, jdk_42_method_3_code, 2, none, { frames := 5, cells := 2, slots := 12, locals := 100 })
theorem c_n13 (V : Vw) (hw : ∀ d ∈ tables_1, d.before V.a0 V.Z = true) (cz : Int32) (hCS : Sta V.Z V.Z.heap "java/lang/String" "COMPACT_STRINGS" "Z" (.int cz)) (hcz : ¬ cz = 0) (hAD : Sta V.Z V.Z.heap "java/lang/StringUTF16" "$assertionsDisabled" "Z" (.int 1)) (hHI : Sta V.Z V.Z.heap "java/lang/StringUTF16" "HI_BYTE_SHIFT" "I" (.int 0)) (hLO : Sta V.Z V.Z.heap "java/lang/StringUTF16" "LO_BYTE_SHIFT" "I" (.int 8)) (c0 c1 c2 : Int32) (hc0 : U6 c0) (hc1 : U6 c1) (hc2 : U6 c2) (hwd : ∃ c ∈ ([c0, c1, c2] : List Int32), 255 < c) (h : Heap) (ps : List Addr) (b : Nat) (kC : ClassId) (A : Arv V.Z h b kC .char (3 : Int32) [.int c0, .int c1, .int c2] (.int 0)) (x : Nat) (zx : V.Z.heap.size ≤ x) (hxp : x ∈ ps) (E : Exa V.Z h x "java/lang/String") (Gv : Fld V.Z h x "java/lang/String" "value" "[B" .null) (Gc : Fld V.Z h x "java/lang/String" "coder" "B" (.int 0)) : Con V b_n13 #[.ref x, .ref b] h ps (Qn V x ([c0, c1, c2] : List Int32) h) := Con.of (plainFor_of_name pn_0) (L := [.val (.ref x), .val (.ref b)]) rfl fun K => by
  refine r_aloadN 1 rfl d1_0 rfl rfl ?_
  refine r_aloadN 2 rfl d1_1 rfl rfl ?_
  refine r_iconst (0 : Int32) 3 rfl d1_2 rfl ?_
  refine r_aloadN 4 rfl d1_3 rfl rfl ?_
  refine r_arraylength 5 rfl d1_4 A ?_
  refine r_null 6 rfl d1_5 ?_
  refine r_special 9 rfl d1_6 rfl (wd hw 17 rfl) (wd hw 18 rfl) (wd hw 20 rfl) (by decide) (Pays.con (K := K) (B := b_n13) (c_n43 V hw cz hCS hcz hAD hHI hLO c0 c1 c2 hc0 hc1 hc2 hwd h _ b kC A x zx (by simp [hxp]) E Gv Gc) (wd hw 20 rfl) (wd hw 12 rfl) (by decide) (by decide)) (W := 0) (argsL := [.ref b, .int (0 : Int32), .int (3 : Int32), .null]) (lenOf pd_0 rfl) rfl rfl rfl (Nat.le_of_eq rfl) (Nat.le_of_ble_eq_true rfl) (Nat.le_of_ble_eq_true rfl) fun v316 h317 ps313 q315 z314 => ?_
  obtain ⟨rfl, K1, S1⟩ := q315
  show Own.Run V K b_n13 _ h317 _ 2 12 9 [.val (.ref x), .val (.ref b)] []
  refine r_ret rfl d1_9 (by decide) (by decide) [] (fun _ q => nomatch q) ?_
  exact ⟨rfl, K1, S1⟩
abbrev b_tb4 : Bx := (⟨"java/lang/StringUTF16", "toBytes", "([CII)[B"⟩, jdk_52_method_14_code, 5, some (.array .byte), { frames := 2, cells := 1, slots := 8, locals := 34 })
theorem c_tb4 (V : Vw) (hw : ∀ d ∈ tables_1, d.before V.a0 V.Z = true) (hAD : Sta V.Z V.Z.heap "java/lang/StringUTF16" "$assertionsDisabled" "Z" (.int 1)) (hHI : Sta V.Z V.Z.heap "java/lang/StringUTF16" "HI_BYTE_SHIFT" "I" (.int 0)) (hLO : Sta V.Z V.Z.heap "java/lang/StringUTF16" "LO_BYTE_SHIFT" "I" (.int 8)) (c0 c1 c2 c3 : Int32) (h : Heap) (ps : List Addr) (b : Nat) (kC : ClassId) (A : Arv V.Z h b kC .char (4 : Int32) [.int c0, .int c1, .int c2, .int c3] (.int 0)) : Con V b_tb4 #[.ref b, .int 0, .int (4 : Int32)] h ps (Qtb V 4 ([c0, c1, c2, c3] : List Int32) h) := Con.of (plainFor_of_name pn_1) (L := [.val (.ref b), .val (.int (0 : Int32)), .val (.int (4 : Int32)), .unset, .unset]) rfl fun K => by
  have lb := ltN A.lt
  refine r_iloadN 1 rfl d7_0 rfl ?_
  refine r_static 4 rfl d7_1 (wd hw 92 rfl) (wd hw 93 rfl) (wd hw 49 rfl) (wd hw 94 rfl) (by decide) (Pays.con (K := K) (B := b_tb4) (c_nbf V hw 4 (by decide) h _) (wd hw 94 rfl) (wd hw 49 rfl) (by decide) (by decide)) (W := 0) (argsL := [.int (4 : Int32)]) (lenOf pd_6 rfl) rfl rfl rfl (Nat.le_of_eq rfl) (Nat.le_of_ble_eq_true rfl) (Nat.le_of_ble_eq_true rfl) fun v320 h321 psu q319 z318 => ?_
  obtain ⟨u, ku, rfl, E0, gu, zu, mu, A0⟩ := q319
  have f322 := A.ext E0
  have sh321 := E0.1
  show Own.Run V K b_tb4 _ h321 _ 1 8 4 [.val (.ref b), .val (.int (0 : Int32)), .val (.int (4 : Int32)), .unset, .unset] [.ref u]
  have D0 : Arv V.Z h321 u ku .byte (Int32.ofNat (2 * 4)) [.int 0, .int 0, .int 0, .int 0, .int 0, .int 0, .int 0, .int 0] (.int 0) := Arv.pad A0 (pad_rep [] (.int 0) 8)
  refine r_astoreN [.val (.ref b), .val (.int (0 : Int32)), .val (.int (4 : Int32)), .val (.ref u), .unset] 5 rfl d7_4 rfl rfl ?_
  refine r_iconst (0 : Int32) 6 rfl d7_5 rfl ?_
  refine r_istore [.val (.ref b), .val (.int (0 : Int32)), .val (.int (4 : Int32)), .val (.ref u), .val (.int (0 : Int32))] 8 rfl d7_6 rfl ?_
  refine r_iload 10 rfl d7_8 rfl ?_
  refine r_iloadN 11 rfl d7_10 rfl ?_
  refine r_icmp_ge 32 14 d7_11 (by decide) rfl rfl (fun c323 => ?_) (fun c323 => ?_)
  · exact absurd c323 (by decide)
  refine r_aloadN 15 rfl d7_14 rfl rfl ?_
  refine r_iload 17 rfl d7_15 rfl ?_
  refine r_aloadN 18 rfl d7_17 rfl rfl ?_
  refine r_iloadN 19 rfl d7_18 rfl ?_
  refine r_caload (v := .int c0) 20 rfl d7_19 f322 (by decide) rfl ?_
  refine r_static 23 rfl d7_20 (wd hw 99 rfl) (wd hw 100 rfl) (wd hw 49 rfl) (wd hw 101 rfl) (by decide) (Pays.con (K := K) (B := b_tb4) (c_pc V hw hAD hHI hLO u ku (2 * 4) [.int 0, .int 0, .int 0, .int 0, .int 0, .int 0, .int 0, .int 0] 0 c0 h321 _ D0 (Nat.le_of_ble_eq_true rfl) (Nat.le_of_ble_eq_true rfl) (by decide) zu (by simp [mu])) (wd hw 101 rfl) (wd hw 49 rfl) (by decide) (by decide)) (W := 0) (argsL := [.ref u, .int (0 : Int32), .int c0]) (lenOf pd_4 rfl) rfl rfl rfl (Nat.le_of_eq rfl) (Nat.le_of_ble_eq_true rfl) (Nat.le_of_ble_eq_true rfl) fun v327 h328 ps324 q326 z325 => ?_
  obtain ⟨rfl, K1, D1⟩ := q326
  have f329 := Arv.keep f322 K1 (ninS (neA (by omega)) nin0)
  show Own.Run V K b_tb4 _ h328 _ 1 8 23 [.val (.ref b), .val (.int (0 : Int32)), .val (.int (4 : Int32)), .val (.ref u), .val (.int (0 : Int32))] []
  replace D1 : Arv V.Z h328 u ku .byte (Int32.ofNat (2 * 4)) [.int (StrChars.lo8 c0), .int (StrChars.hi8 c0), .int 0, .int 0, .int 0, .int 0, .int 0, .int 0] (.int 0) := D1
  have sh328 := K1.1
  refine r_iinc (1) [.val (.ref b), .val (.int ((0 : Int32) + (1 : Int32))), .val (.int (4 : Int32)), .val (.ref u), .val (.int (0 : Int32))] 26 rfl d7_23 rfl rfl rfl ?_
  rw [show (0 : Int32) + 1 = 1 from by decide]
  refine r_iinc (1) [.val (.ref b), .val (.int (1 : Int32)), .val (.int (4 : Int32)), .val (.ref u), .val (.int ((0 : Int32) + (1 : Int32)))] 29 rfl d7_26 rfl rfl rfl ?_
  rw [show (0 : Int32) + 1 = 1 from by decide]
  refine r_goto 8 d7_29 (by decide) rfl ?_
  refine r_iload 10 rfl d7_8 rfl ?_
  refine r_iloadN 11 rfl d7_10 rfl ?_
  refine r_icmp_ge 32 14 d7_11 (by decide) rfl rfl (fun c330 => ?_) (fun c330 => ?_)
  · exact absurd c330 (by decide)
  refine r_aloadN 15 rfl d7_14 rfl rfl ?_
  refine r_iload 17 rfl d7_15 rfl ?_
  refine r_aloadN 18 rfl d7_17 rfl rfl ?_
  refine r_iloadN 19 rfl d7_18 rfl ?_
  refine r_caload (v := .int c1) 20 rfl d7_19 f329 (by decide) rfl ?_
  refine r_static 23 rfl d7_20 (wd hw 99 rfl) (wd hw 100 rfl) (wd hw 49 rfl) (wd hw 101 rfl) (by decide) (Pays.con (K := K) (B := b_tb4) (c_pc V hw hAD hHI hLO u ku (2 * 4) [.int (StrChars.lo8 c0), .int (StrChars.hi8 c0), .int 0, .int 0, .int 0, .int 0, .int 0, .int 0] 1 c1 h328 _ D1 (Nat.le_of_ble_eq_true rfl) (Nat.le_of_ble_eq_true rfl) (by decide) zu (by simp [mu])) (wd hw 101 rfl) (wd hw 49 rfl) (by decide) (by decide)) (W := 0) (argsL := [.ref u, .int (1 : Int32), .int c1]) (lenOf pd_4 rfl) rfl rfl rfl (Nat.le_of_eq rfl) (Nat.le_of_ble_eq_true rfl) (Nat.le_of_ble_eq_true rfl) fun v334 h335 ps331 q333 z332 => ?_
  obtain ⟨rfl, K2, D2⟩ := q333
  have f336 := Arv.keep f329 K2 (ninS (neA (by omega)) nin0)
  show Own.Run V K b_tb4 _ h335 _ 1 8 23 [.val (.ref b), .val (.int (1 : Int32)), .val (.int (4 : Int32)), .val (.ref u), .val (.int (1 : Int32))] []
  replace D2 : Arv V.Z h335 u ku .byte (Int32.ofNat (2 * 4)) [.int (StrChars.lo8 c0), .int (StrChars.hi8 c0), .int (StrChars.lo8 c1), .int (StrChars.hi8 c1), .int 0, .int 0, .int 0, .int 0] (.int 0) := D2
  have sh335 := K2.1
  refine r_iinc (1) [.val (.ref b), .val (.int ((1 : Int32) + (1 : Int32))), .val (.int (4 : Int32)), .val (.ref u), .val (.int (1 : Int32))] 26 rfl d7_23 rfl rfl rfl ?_
  rw [show (1 : Int32) + 1 = 2 from by decide]
  refine r_iinc (1) [.val (.ref b), .val (.int (2 : Int32)), .val (.int (4 : Int32)), .val (.ref u), .val (.int ((1 : Int32) + (1 : Int32)))] 29 rfl d7_26 rfl rfl rfl ?_
  rw [show (1 : Int32) + 1 = 2 from by decide]
  refine r_goto 8 d7_29 (by decide) rfl ?_
  refine r_iload 10 rfl d7_8 rfl ?_
  refine r_iloadN 11 rfl d7_10 rfl ?_
  refine r_icmp_ge 32 14 d7_11 (by decide) rfl rfl (fun c337 => ?_) (fun c337 => ?_)
  · exact absurd c337 (by decide)
  refine r_aloadN 15 rfl d7_14 rfl rfl ?_
  refine r_iload 17 rfl d7_15 rfl ?_
  refine r_aloadN 18 rfl d7_17 rfl rfl ?_
  refine r_iloadN 19 rfl d7_18 rfl ?_
  refine r_caload (v := .int c2) 20 rfl d7_19 f336 (by decide) rfl ?_
  refine r_static 23 rfl d7_20 (wd hw 99 rfl) (wd hw 100 rfl) (wd hw 49 rfl) (wd hw 101 rfl) (by decide) (Pays.con (K := K) (B := b_tb4) (c_pc V hw hAD hHI hLO u ku (2 * 4) [.int (StrChars.lo8 c0), .int (StrChars.hi8 c0), .int (StrChars.lo8 c1), .int (StrChars.hi8 c1), .int 0, .int 0, .int 0, .int 0] 2 c2 h335 _ D2 (Nat.le_of_ble_eq_true rfl) (Nat.le_of_ble_eq_true rfl) (by decide) zu (by simp [mu])) (wd hw 101 rfl) (wd hw 49 rfl) (by decide) (by decide)) (W := 0) (argsL := [.ref u, .int (2 : Int32), .int c2]) (lenOf pd_4 rfl) rfl rfl rfl (Nat.le_of_eq rfl) (Nat.le_of_ble_eq_true rfl) (Nat.le_of_ble_eq_true rfl) fun v341 h342 ps338 q340 z339 => ?_
  obtain ⟨rfl, K3, D3⟩ := q340
  have f343 := Arv.keep f336 K3 (ninS (neA (by omega)) nin0)
  show Own.Run V K b_tb4 _ h342 _ 1 8 23 [.val (.ref b), .val (.int (2 : Int32)), .val (.int (4 : Int32)), .val (.ref u), .val (.int (2 : Int32))] []
  replace D3 : Arv V.Z h342 u ku .byte (Int32.ofNat (2 * 4)) [.int (StrChars.lo8 c0), .int (StrChars.hi8 c0), .int (StrChars.lo8 c1), .int (StrChars.hi8 c1), .int (StrChars.lo8 c2), .int (StrChars.hi8 c2), .int 0, .int 0] (.int 0) := D3
  have sh342 := K3.1
  refine r_iinc (1) [.val (.ref b), .val (.int ((2 : Int32) + (1 : Int32))), .val (.int (4 : Int32)), .val (.ref u), .val (.int (2 : Int32))] 26 rfl d7_23 rfl rfl rfl ?_
  rw [show (2 : Int32) + 1 = 3 from by decide]
  refine r_iinc (1) [.val (.ref b), .val (.int (3 : Int32)), .val (.int (4 : Int32)), .val (.ref u), .val (.int ((2 : Int32) + (1 : Int32)))] 29 rfl d7_26 rfl rfl rfl ?_
  rw [show (2 : Int32) + 1 = 3 from by decide]
  refine r_goto 8 d7_29 (by decide) rfl ?_
  refine r_iload 10 rfl d7_8 rfl ?_
  refine r_iloadN 11 rfl d7_10 rfl ?_
  refine r_icmp_ge 32 14 d7_11 (by decide) rfl rfl (fun c344 => ?_) (fun c344 => ?_)
  · exact absurd c344 (by decide)
  refine r_aloadN 15 rfl d7_14 rfl rfl ?_
  refine r_iload 17 rfl d7_15 rfl ?_
  refine r_aloadN 18 rfl d7_17 rfl rfl ?_
  refine r_iloadN 19 rfl d7_18 rfl ?_
  refine r_caload (v := .int c3) 20 rfl d7_19 f343 (by decide) rfl ?_
  refine r_static 23 rfl d7_20 (wd hw 99 rfl) (wd hw 100 rfl) (wd hw 49 rfl) (wd hw 101 rfl) (by decide) (Pays.con (K := K) (B := b_tb4) (c_pc V hw hAD hHI hLO u ku (2 * 4) [.int (StrChars.lo8 c0), .int (StrChars.hi8 c0), .int (StrChars.lo8 c1), .int (StrChars.hi8 c1), .int (StrChars.lo8 c2), .int (StrChars.hi8 c2), .int 0, .int 0] 3 c3 h342 _ D3 (Nat.le_of_ble_eq_true rfl) (Nat.le_of_ble_eq_true rfl) (by decide) zu (by simp [mu])) (wd hw 101 rfl) (wd hw 49 rfl) (by decide) (by decide)) (W := 0) (argsL := [.ref u, .int (3 : Int32), .int c3]) (lenOf pd_4 rfl) rfl rfl rfl (Nat.le_of_eq rfl) (Nat.le_of_ble_eq_true rfl) (Nat.le_of_ble_eq_true rfl) fun v348 h349 ps345 q347 z346 => ?_
  obtain ⟨rfl, K4, D4⟩ := q347
  have f350 := Arv.keep f343 K4 (ninS (neA (by omega)) nin0)
  show Own.Run V K b_tb4 _ h349 _ 1 8 23 [.val (.ref b), .val (.int (3 : Int32)), .val (.int (4 : Int32)), .val (.ref u), .val (.int (3 : Int32))] []
  replace D4 : Arv V.Z h349 u ku .byte (Int32.ofNat (2 * 4)) [.int (StrChars.lo8 c0), .int (StrChars.hi8 c0), .int (StrChars.lo8 c1), .int (StrChars.hi8 c1), .int (StrChars.lo8 c2), .int (StrChars.hi8 c2), .int (StrChars.lo8 c3), .int (StrChars.hi8 c3)] (.int 0) := D4
  have sh349 := K4.1
  refine r_iinc (1) [.val (.ref b), .val (.int ((3 : Int32) + (1 : Int32))), .val (.int (4 : Int32)), .val (.ref u), .val (.int (3 : Int32))] 26 rfl d7_23 rfl rfl rfl ?_
  rw [show (3 : Int32) + 1 = 4 from by decide]
  refine r_iinc (1) [.val (.ref b), .val (.int (4 : Int32)), .val (.int (4 : Int32)), .val (.ref u), .val (.int ((3 : Int32) + (1 : Int32)))] 29 rfl d7_26 rfl rfl rfl ?_
  rw [show (3 : Int32) + 1 = 4 from by decide]
  refine r_goto 8 d7_29 (by decide) rfl ?_
  refine r_iload 10 rfl d7_8 rfl ?_
  refine r_iloadN 11 rfl d7_10 rfl ?_
  refine r_icmp_ge 32 14 d7_11 (by decide) rfl rfl (fun c351 => ?_) (fun c351 => ?_)
  rotate_left
  · exact absurd c351 (by decide)
  refine r_aloadN 33 rfl d7_32 rfl rfl ?_
  refine r_aret (t := (.array .byte)) rfl rfl rfl d7_33 (by decide) (by decide) [] (fun _ q => nomatch q) ?_
  exact ⟨_, _, rfl, Keep.ext0 (Keep.ext0 (Keep.ext0 (Keep.ext0 (E0) K1 (fun w hw' => by cases List.mem_singleton.mp hw'; exact leA (by omega))) K2 (fun w hw' => by cases List.mem_singleton.mp hw'; exact leA (by omega))) K3 (fun w hw' => by cases List.mem_singleton.mp hw'; exact leA (by omega))) K4 (fun w hw' => by cases List.mem_singleton.mp hw'; exact leA (by omega)), gu, D4⟩
abbrev b_c54 : Bx := (⟨"java/lang/StringUTF16", "compress", "([CI[BII)I"⟩, jdk_52_method_21_code, 7, some .int, { frames := 0, cells := 0, slots := 0, locals := 0 })
theorem c_c54 (V : Vw) (hw : ∀ d ∈ tables_1, d.before V.a0 V.Z = true) (c0 c1 c2 c3 : Int32) (hwd : ∃ c ∈ ([c0, c1, c2, c3] : List Int32), 255 < c) (h : Heap) (ps : List Addr) (b : Nat) (kC : ClassId) (A : Arv V.Z h b kC .char (4 : Int32) [.int c0, .int c1, .int c2, .int c3] (.int 0)) (t : Nat) (kt : ClassId) (D : Arv V.Z h t kt .byte (4 : Int32) [.int 0, .int 0, .int 0, .int 0] (.int 0)) (zt : V.Z.heap.size ≤ t) (mt : t ∈ ps) (nbt : b ≠ t) : Con V b_c54 #[.ref b, .int 0, .ref t, .int 0, .int (4 : Int32)] h ps (Qc5 t 4 ([c0, c1, c2, c3] : List Int32) h) := Con.of (plainFor_of_name pn_1) (L := [.val (.ref b), .val (.int (0 : Int32)), .val (.ref t), .val (.int (0 : Int32)), .val (.int (4 : Int32)), .unset, .unset]) rfl fun K => by
  have nb := neN nbt
  refine r_iconst (0 : Int32) 1 rfl d8_0 rfl ?_
  refine r_istore [.val (.ref b), .val (.int (0 : Int32)), .val (.ref t), .val (.int (0 : Int32)), .val (.int (4 : Int32)), .val (.int (0 : Int32)), .unset] 3 rfl d8_1 rfl ?_
  refine r_iload 5 rfl d8_3 rfl ?_
  refine r_iload 7 rfl d8_5 rfl ?_
  refine r_icmp_ge 44 10 d8_7 (by decide) rfl rfl (fun c352 => ?_) (fun c352 => ?_)
  · exact absurd c352 (by decide)
  refine r_aloadN 11 rfl d8_10 rfl rfl ?_
  refine r_iloadN 12 rfl d8_11 rfl ?_
  refine r_caload (v := .int c0) 13 rfl d8_12 A (by decide) rfl ?_
  refine r_istore [.val (.ref b), .val (.int (0 : Int32)), .val (.ref t), .val (.int (0 : Int32)), .val (.int (4 : Int32)), .val (.int (0 : Int32)), .val (.int c0)] 15 rfl d8_13 rfl ?_
  refine r_iload 17 rfl d8_15 rfl ?_
  refine r_sipush (255 : Int32) 20 rfl d8_17 rfl ?_
  refine r_icmp_le 26 23 d8_20 (by decide) rfl rfl (fun c353 => ?_) (fun c353 => ?_)
  rotate_left
  · refine r_iload 25 rfl d8_23 rfl ?_
    refine r_iret rfl d8_25 (by decide) (by decide) [] (fun _ q => nomatch q) ?_
    exact ⟨0, rfl, by decide, c353, Keep.refl _ _⟩
  refine r_aloadN 27 rfl d8_26 rfl rfl ?_
  refine r_iloadN 28 rfl d8_27 rfl ?_
  refine r_iload 30 rfl d8_28 rfl ?_
  refine r_i2b 31 rfl d8_30 ?_
  refine r_bastore 0 32 rfl d8_31 D (by decide) rfl (Nat.le_of_ble_eq_true rfl) zt (by simp [mt]) c0.toInt8.toInt32 (by simp) fun h354 Wh354 f355 => ?_
  have f356 := Arv.other A Wh354 (neA (by omega))
  replace f355 : Arv V.Z h354 t kt .byte (4 : Int32) [.int c0.toInt8.toInt32, .int 0, .int 0, .int 0] (.int 0) := f355
  refine r_iinc (1) [.val (.ref b), .val (.int ((0 : Int32) + (1 : Int32))), .val (.ref t), .val (.int (0 : Int32)), .val (.int (4 : Int32)), .val (.int (0 : Int32)), .val (.int c0)] 35 rfl d8_32 rfl rfl rfl ?_
  rw [show (0 : Int32) + 1 = 1 from by decide]
  refine r_iinc (1) [.val (.ref b), .val (.int (1 : Int32)), .val (.ref t), .val (.int ((0 : Int32) + (1 : Int32))), .val (.int (4 : Int32)), .val (.int (0 : Int32)), .val (.int c0)] 38 rfl d8_35 rfl rfl rfl ?_
  rw [show (0 : Int32) + 1 = 1 from by decide]
  refine r_iinc (1) [.val (.ref b), .val (.int (1 : Int32)), .val (.ref t), .val (.int (1 : Int32)), .val (.int (4 : Int32)), .val (.int ((0 : Int32) + (1 : Int32))), .val (.int c0)] 41 rfl d8_38 rfl rfl rfl ?_
  rw [show (0 : Int32) + 1 = 1 from by decide]
  refine r_goto 3 d8_41 (by decide) rfl ?_
  refine r_iload 5 rfl d8_3 rfl ?_
  refine r_iload 7 rfl d8_5 rfl ?_
  refine r_icmp_ge 44 10 d8_7 (by decide) rfl rfl (fun c357 => ?_) (fun c357 => ?_)
  · exact absurd c357 (by decide)
  refine r_aloadN 11 rfl d8_10 rfl rfl ?_
  refine r_iloadN 12 rfl d8_11 rfl ?_
  refine r_caload (v := .int c1) 13 rfl d8_12 f356 (by decide) rfl ?_
  refine r_istore [.val (.ref b), .val (.int (1 : Int32)), .val (.ref t), .val (.int (1 : Int32)), .val (.int (4 : Int32)), .val (.int (1 : Int32)), .val (.int c1)] 15 rfl d8_13 rfl ?_
  refine r_iload 17 rfl d8_15 rfl ?_
  refine r_sipush (255 : Int32) 20 rfl d8_17 rfl ?_
  refine r_icmp_le 26 23 d8_20 (by decide) rfl rfl (fun c358 => ?_) (fun c358 => ?_)
  rotate_left
  · refine r_iload 25 rfl d8_23 rfl ?_
    refine r_iret rfl d8_25 (by decide) (by decide) [] (fun _ q => nomatch q) ?_
    exact ⟨1, rfl, by decide, c358, (Keep.refl _ _).wr Wh354 (Or.inl (by simp))⟩
  refine r_aloadN 27 rfl d8_26 rfl rfl ?_
  refine r_iloadN 28 rfl d8_27 rfl ?_
  refine r_iload 30 rfl d8_28 rfl ?_
  refine r_i2b 31 rfl d8_30 ?_
  refine r_bastore 1 32 rfl d8_31 f355 (by decide) rfl (Nat.le_of_ble_eq_true rfl) zt (by simp [mt]) c1.toInt8.toInt32 (by simp) fun h359 Wh359 f360 => ?_
  have f361 := Arv.other f356 Wh359 (neA (by omega))
  replace f360 : Arv V.Z h359 t kt .byte (4 : Int32) [.int c0.toInt8.toInt32, .int c1.toInt8.toInt32, .int 0, .int 0] (.int 0) := f360
  refine r_iinc (1) [.val (.ref b), .val (.int ((1 : Int32) + (1 : Int32))), .val (.ref t), .val (.int (1 : Int32)), .val (.int (4 : Int32)), .val (.int (1 : Int32)), .val (.int c1)] 35 rfl d8_32 rfl rfl rfl ?_
  rw [show (1 : Int32) + 1 = 2 from by decide]
  refine r_iinc (1) [.val (.ref b), .val (.int (2 : Int32)), .val (.ref t), .val (.int ((1 : Int32) + (1 : Int32))), .val (.int (4 : Int32)), .val (.int (1 : Int32)), .val (.int c1)] 38 rfl d8_35 rfl rfl rfl ?_
  rw [show (1 : Int32) + 1 = 2 from by decide]
  refine r_iinc (1) [.val (.ref b), .val (.int (2 : Int32)), .val (.ref t), .val (.int (2 : Int32)), .val (.int (4 : Int32)), .val (.int ((1 : Int32) + (1 : Int32))), .val (.int c1)] 41 rfl d8_38 rfl rfl rfl ?_
  rw [show (1 : Int32) + 1 = 2 from by decide]
  refine r_goto 3 d8_41 (by decide) rfl ?_
  refine r_iload 5 rfl d8_3 rfl ?_
  refine r_iload 7 rfl d8_5 rfl ?_
  refine r_icmp_ge 44 10 d8_7 (by decide) rfl rfl (fun c362 => ?_) (fun c362 => ?_)
  · exact absurd c362 (by decide)
  refine r_aloadN 11 rfl d8_10 rfl rfl ?_
  refine r_iloadN 12 rfl d8_11 rfl ?_
  refine r_caload (v := .int c2) 13 rfl d8_12 f361 (by decide) rfl ?_
  refine r_istore [.val (.ref b), .val (.int (2 : Int32)), .val (.ref t), .val (.int (2 : Int32)), .val (.int (4 : Int32)), .val (.int (2 : Int32)), .val (.int c2)] 15 rfl d8_13 rfl ?_
  refine r_iload 17 rfl d8_15 rfl ?_
  refine r_sipush (255 : Int32) 20 rfl d8_17 rfl ?_
  refine r_icmp_le 26 23 d8_20 (by decide) rfl rfl (fun c363 => ?_) (fun c363 => ?_)
  rotate_left
  · refine r_iload 25 rfl d8_23 rfl ?_
    refine r_iret rfl d8_25 (by decide) (by decide) [] (fun _ q => nomatch q) ?_
    exact ⟨2, rfl, by decide, c363, ((Keep.refl _ _).wr Wh354 (Or.inl (by simp))).wr Wh359 (Or.inl (by simp))⟩
  refine r_aloadN 27 rfl d8_26 rfl rfl ?_
  refine r_iloadN 28 rfl d8_27 rfl ?_
  refine r_iload 30 rfl d8_28 rfl ?_
  refine r_i2b 31 rfl d8_30 ?_
  refine r_bastore 2 32 rfl d8_31 f360 (by decide) rfl (Nat.le_of_ble_eq_true rfl) zt (by simp [mt]) c2.toInt8.toInt32 (by simp) fun h364 Wh364 f365 => ?_
  have f366 := Arv.other f361 Wh364 (neA (by omega))
  replace f365 : Arv V.Z h364 t kt .byte (4 : Int32) [.int c0.toInt8.toInt32, .int c1.toInt8.toInt32, .int c2.toInt8.toInt32, .int 0] (.int 0) := f365
  refine r_iinc (1) [.val (.ref b), .val (.int ((2 : Int32) + (1 : Int32))), .val (.ref t), .val (.int (2 : Int32)), .val (.int (4 : Int32)), .val (.int (2 : Int32)), .val (.int c2)] 35 rfl d8_32 rfl rfl rfl ?_
  rw [show (2 : Int32) + 1 = 3 from by decide]
  refine r_iinc (1) [.val (.ref b), .val (.int (3 : Int32)), .val (.ref t), .val (.int ((2 : Int32) + (1 : Int32))), .val (.int (4 : Int32)), .val (.int (2 : Int32)), .val (.int c2)] 38 rfl d8_35 rfl rfl rfl ?_
  rw [show (2 : Int32) + 1 = 3 from by decide]
  refine r_iinc (1) [.val (.ref b), .val (.int (3 : Int32)), .val (.ref t), .val (.int (3 : Int32)), .val (.int (4 : Int32)), .val (.int ((2 : Int32) + (1 : Int32))), .val (.int c2)] 41 rfl d8_38 rfl rfl rfl ?_
  rw [show (2 : Int32) + 1 = 3 from by decide]
  refine r_goto 3 d8_41 (by decide) rfl ?_
  refine r_iload 5 rfl d8_3 rfl ?_
  refine r_iload 7 rfl d8_5 rfl ?_
  refine r_icmp_ge 44 10 d8_7 (by decide) rfl rfl (fun c367 => ?_) (fun c367 => ?_)
  · exact absurd c367 (by decide)
  refine r_aloadN 11 rfl d8_10 rfl rfl ?_
  refine r_iloadN 12 rfl d8_11 rfl ?_
  refine r_caload (v := .int c3) 13 rfl d8_12 f366 (by decide) rfl ?_
  refine r_istore [.val (.ref b), .val (.int (3 : Int32)), .val (.ref t), .val (.int (3 : Int32)), .val (.int (4 : Int32)), .val (.int (3 : Int32)), .val (.int c3)] 15 rfl d8_13 rfl ?_
  refine r_iload 17 rfl d8_15 rfl ?_
  refine r_sipush (255 : Int32) 20 rfl d8_17 rfl ?_
  refine r_icmp_le 26 23 d8_20 (by decide) rfl rfl (fun c368 => ?_) (fun c368 => ?_)
  rotate_left
  · refine r_iload 25 rfl d8_23 rfl ?_
    refine r_iret rfl d8_25 (by decide) (by decide) [] (fun _ q => nomatch q) ?_
    exact ⟨3, rfl, by decide, c368, (((Keep.refl _ _).wr Wh354 (Or.inl (by simp))).wr Wh359 (Or.inl (by simp))).wr Wh364 (Or.inl (by simp))⟩
  refine r_aloadN 27 rfl d8_26 rfl rfl ?_
  refine r_iloadN 28 rfl d8_27 rfl ?_
  refine r_iload 30 rfl d8_28 rfl ?_
  refine r_i2b 31 rfl d8_30 ?_
  refine r_bastore 3 32 rfl d8_31 f365 (by decide) rfl (Nat.le_of_ble_eq_true rfl) zt (by simp [mt]) c3.toInt8.toInt32 (by simp) fun h369 Wh369 f370 => ?_
  have f371 := Arv.other f366 Wh369 (neA (by omega))
  replace f370 : Arv V.Z h369 t kt .byte (4 : Int32) [.int c0.toInt8.toInt32, .int c1.toInt8.toInt32, .int c2.toInt8.toInt32, .int c3.toInt8.toInt32] (.int 0) := f370
  refine r_iinc (1) [.val (.ref b), .val (.int ((3 : Int32) + (1 : Int32))), .val (.ref t), .val (.int (3 : Int32)), .val (.int (4 : Int32)), .val (.int (3 : Int32)), .val (.int c3)] 35 rfl d8_32 rfl rfl rfl ?_
  rw [show (3 : Int32) + 1 = 4 from by decide]
  refine r_iinc (1) [.val (.ref b), .val (.int (4 : Int32)), .val (.ref t), .val (.int ((3 : Int32) + (1 : Int32))), .val (.int (4 : Int32)), .val (.int (3 : Int32)), .val (.int c3)] 38 rfl d8_35 rfl rfl rfl ?_
  rw [show (3 : Int32) + 1 = 4 from by decide]
  refine r_iinc (1) [.val (.ref b), .val (.int (4 : Int32)), .val (.ref t), .val (.int (4 : Int32)), .val (.int (4 : Int32)), .val (.int ((3 : Int32) + (1 : Int32))), .val (.int c3)] 41 rfl d8_38 rfl rfl rfl ?_
  rw [show (3 : Int32) + 1 = 4 from by decide]
  refine r_goto 3 d8_41 (by decide) rfl ?_
  refine absurd hwd ?_
  rintro ⟨c, hc, q⟩
  simp only [List.mem_cons, List.not_mem_nil, or_false] at hc
  rcases hc with rfl | rfl | rfl | rfl
  · exact c353 q
  · exact c358 q
  · exact c363 q
  · exact c368 q
abbrev b_c34 : Bx := (⟨"java/lang/StringUTF16", "compress", "([CII)[B"⟩, jdk_52_method_16_code, 6, some (.array .byte), { frames := 3, cells := 2, slots := 12, locals := 60 })
theorem c_c34 (V : Vw) (hw : ∀ d ∈ tables_1, d.before V.a0 V.Z = true) (hAD : Sta V.Z V.Z.heap "java/lang/StringUTF16" "$assertionsDisabled" "Z" (.int 1)) (hHI : Sta V.Z V.Z.heap "java/lang/StringUTF16" "HI_BYTE_SHIFT" "I" (.int 0)) (hLO : Sta V.Z V.Z.heap "java/lang/StringUTF16" "LO_BYTE_SHIFT" "I" (.int 8)) (c0 c1 c2 c3 : Int32) (hc0 : U6 c0) (hc1 : U6 c1) (hc2 : U6 c2) (hc3 : U6 c3) (hwd : ∃ c ∈ ([c0, c1, c2, c3] : List Int32), 255 < c) (h : Heap) (ps : List Addr) (b : Nat) (kC : ClassId) (A : Arv V.Z h b kC .char (4 : Int32) [.int c0, .int c1, .int c2, .int c3] (.int 0)) : Con V b_c34 #[.ref b, .int 0, .int (4 : Int32)] h ps (Qtb V 4 ([c0, c1, c2, c3] : List Int32) h) := Con.of (plainFor_of_name pn_1) (L := [.val (.ref b), .val (.int (0 : Int32)), .val (.int (4 : Int32)), .unset, .unset, .unset]) rfl fun K => by
  have lb := ltN A.lt
  refine r_iloadN 1 rfl d9_0 rfl ?_
  refine r_newarray 4 3 rfl d9_1 (wd hw 25 rfl) (by decide) (by decide) (by decide) (by decide) (by decide) fun a372 h373 k374 ga372 za372 Eh373 Aa372 => ?_
  have f375 := A.ext Eh373
  have sh373 := Eh373.1
  have la372 := ltN Aa372.lt
  have f376 : Arv V.Z h373 a372 k374 .byte (4 : Int32) [.int 0, .int 0, .int 0, .int 0] (.int 0) := Arv.pad Aa372 (pad_rep [] (.int 0) 4)
  refine r_astoreN [.val (.ref b), .val (.int (0 : Int32)), .val (.int (4 : Int32)), .val (.ref a372), .unset, .unset] 4 rfl d9_3 rfl rfl ?_
  refine r_aloadN 5 rfl d9_4 rfl rfl ?_
  refine r_iloadN 6 rfl d9_5 rfl ?_
  refine r_aloadN 7 rfl d9_6 rfl rfl ?_
  refine r_iconst (0 : Int32) 8 rfl d9_7 rfl ?_
  refine r_iloadN 9 rfl d9_8 rfl ?_
  refine r_static 12 rfl d9_9 (wd hw 51 rfl) (wd hw 52 rfl) (wd hw 49 rfl) (wd hw 53 rfl) (by decide) (Pays.con (K := K) (B := b_c34) (c_c54 V hw c0 c1 c2 c3 hwd h373 _ b kC f375 a372 _ f376 za372 (by simp) (neA (by omega))) (wd hw 53 rfl) (wd hw 49 rfl) (by decide) (by decide)) (W := 0) (argsL := [.ref b, .int (0 : Int32), .ref a372, .int (0 : Int32), .int (4 : Int32)]) (lenOf pd_8 rfl) rfl rfl rfl (Nat.le_of_eq rfl) (Nat.le_of_ble_eq_true rfl) (Nat.le_of_ble_eq_true rfl) fun v380 h381 ps377 q379 z378 => ?_
  obtain ⟨j, rfl, hj, hjc, K1⟩ := q379
  have f382 := Arv.keep f375 K1 (ninS (neA (by omega)) nin0)
  show Own.Run V K b_c34 _ h381 _ 1 4 12 [.val (.ref b), .val (.int (0 : Int32)), .val (.int (4 : Int32)), .val (.ref a372), .unset, .unset] [.int (Int32.ofNat j)]
  have sh381 := K1.1
  refine r_istore [.val (.ref b), .val (.int (0 : Int32)), .val (.int (4 : Int32)), .val (.ref a372), .val (.int (Int32.ofNat j)), .unset] 14 rfl d9_12 rfl ?_
  refine r_iload 16 rfl d9_14 rfl ?_
  refine r_iloadN 17 rfl d9_16 rfl ?_
  refine r_icmp_eq 57 20 d9_17 (by decide) rfl rfl (fun c383 => ?_) (fun c383 => ?_)
  · exact absurd (ofN_inj (k := 4) (by omega) (by decide) c383) (by omega)
  refine r_aloadN 21 rfl d9_20 rfl rfl ?_
  refine r_iloadN 22 rfl d9_21 rfl ?_
  refine r_iloadN 23 rfl d9_22 rfl ?_
  refine r_static 26 rfl d9_23 (wd hw 89 rfl) (wd hw 90 rfl) (wd hw 49 rfl) (wd hw 91 rfl) (by decide) (Pays.con (K := K) (B := b_c34) (c_tb4 V hw hAD hHI hLO c0 c1 c2 c3 h381 _ b kC f382) (wd hw 91 rfl) (wd hw 49 rfl) (by decide) (by decide)) (W := 0) (argsL := [.ref b, .int (0 : Int32), .int (4 : Int32)]) (lenOf pd_7 rfl) rfl rfl rfl (Nat.le_of_eq rfl) (Nat.le_of_ble_eq_true rfl) (Nat.le_of_ble_eq_true rfl) fun v387 h388 ps384 q386 z385 => ?_
  obtain ⟨u, ku, rfl, E2, gu, A2⟩ := q386
  have f389 := f382.ext E2
  have sh388 := E2.1
  show Own.Run V K b_c34 _ h388 _ 2 12 26 [.val (.ref b), .val (.int (0 : Int32)), .val (.int (4 : Int32)), .val (.ref a372), .val (.int (Int32.ofNat j)), .unset] [.ref u]
  refine r_astore [.val (.ref b), .val (.int (0 : Int32)), .val (.int (4 : Int32)), .val (.ref a372), .val (.int (Int32.ofNat j)), .val (.ref u)] 28 rfl d9_26 rfl rfl ?_
  refine r_aload 30 rfl d9_28 rfl rfl ?_
  refine r_iload 32 rfl d9_30 rfl ?_
  refine r_static 35 rfl d9_32 (wd hw 105 rfl) (wd hw 106 rfl) (wd hw 49 rfl) (wd hw 107 rfl) (by decide) (Pays.con (K := K) (B := b_c34) (c_gc V hw hAD hHI hLO u ku ([c0, c1, c2, c3] : List Int32) j hj (uS hc0 (uS hc1 (uS hc2 (uS hc3 u0)))) (Nat.le_of_ble_eq_true rfl) h388 _ A2) (wd hw 107 rfl) (wd hw 49 rfl) (by decide) (by decide)) (W := 0) (argsL := [.ref u, .int (Int32.ofNat j)]) (lenOf pd_3 rfl) rfl rfl rfl (Nat.le_of_eq rfl) (Nat.le_of_ble_eq_true rfl) (Nat.le_of_ble_eq_true rfl) fun v393 h394 ps390 q392 z391 => ?_
  obtain ⟨rfl, es395⟩ := q392
  subst h394
  show Own.Run V K b_c34 _ h388 _ 2 12 35 [.val (.ref b), .val (.int (0 : Int32)), .val (.int (4 : Int32)), .val (.ref a372), .val (.int (Int32.ofNat j)), .val (.ref u)] [.int (([c0, c1, c2, c3] : List Int32).getD j 0)]
  refine r_sipush (255 : Int32) 38 rfl d9_35 rfl ?_
  refine r_icmp_gt 54 41 d9_38 (by decide) rfl rfl (fun c396 => ?_) (fun c396 => ?_)
  rotate_left
  · exact absurd hjc c396
  refine r_aload 56 rfl d9_54 rfl rfl ?_
  refine r_aret (t := (.array .byte)) rfl rfl rfl d9_56 (by decide) (by decide) [] (fun _ q => nomatch q) ?_
  exact ⟨u, ku, rfl, Ext.trans' (Keep.ext0 Eh373 K1 (fun w hw' => by cases List.mem_singleton.mp hw'; exact leA (by omega))) E2, by omega, A2⟩
abbrev b_cl4 : Bx := (⟨"java/lang/StringUTF16", "coderFromArrayLen", "([BI)B"⟩, jdk_52_method_15_code, 2, some .byte, { frames := 0, cells := 0, slots := 0, locals := 0 })
theorem c_cl4 (V : Vw) (hw : ∀ d ∈ tables_1, d.before V.a0 V.Z = true) (u : Nat) (k : ClassId) (vs : List Value) (h : Heap) (ps : List Addr) (A : Arv V.Z h u k .byte (Int32.ofNat (2 * 4)) vs (.int 0)) : Con V b_cl4 #[.ref u, .int (4 : Int32)] h ps (Qi 1 h) := Con.of (plainFor_of_name pn_1) (L := [.val (.ref u), .val (.int (4 : Int32))]) rfl fun K => by
  refine r_iloadN 1 rfl d10_0 rfl ?_
  refine r_aloadN 2 rfl d10_1 rfl rfl ?_
  refine r_arraylength 3 rfl d10_2 A ?_
  refine r_isub 4 rfl d10_3 ?_
  refine r_bipush (31 : Int32) 6 rfl d10_4 rfl ?_
  refine r_iushr 7 rfl d10_6 ?_
  refine r_i2b 8 rfl d10_7 ?_
  rw [show (ushr ((4 : Int32) - (Int32.ofNat (2 * 4))) (31 : Int32)).toInt8.toInt32 = 1 from by decide]
  refine r_nret (t := .byte) (1 : Int32) rfl (by simp) rfl d10_8 (by decide) (by decide) [] (fun _ q => nomatch q) ?_
  exact ⟨rfl, rfl⟩
abbrev b_n44 : Bx := (⟨"java/lang/String", "<init>", "([CIILjava/lang/Void;)V"⟩, jdk_42_method_149_code, 6, none, { frames := 4, cells := 2, slots := 12, locals := 80 })
theorem c_n44 (V : Vw) (hw : ∀ d ∈ tables_1, d.before V.a0 V.Z = true) (cz : Int32) (hCS : Sta V.Z V.Z.heap "java/lang/String" "COMPACT_STRINGS" "Z" (.int cz)) (hcz : ¬ cz = 0) (hAD : Sta V.Z V.Z.heap "java/lang/StringUTF16" "$assertionsDisabled" "Z" (.int 1)) (hHI : Sta V.Z V.Z.heap "java/lang/StringUTF16" "HI_BYTE_SHIFT" "I" (.int 0)) (hLO : Sta V.Z V.Z.heap "java/lang/StringUTF16" "LO_BYTE_SHIFT" "I" (.int 8)) (c0 c1 c2 c3 : Int32) (hc0 : U6 c0) (hc1 : U6 c1) (hc2 : U6 c2) (hc3 : U6 c3) (hwd : ∃ c ∈ ([c0, c1, c2, c3] : List Int32), 255 < c) (h : Heap) (ps : List Addr) (b : Nat) (kC : ClassId) (A : Arv V.Z h b kC .char (4 : Int32) [.int c0, .int c1, .int c2, .int c3] (.int 0)) (x : Nat) (zx : V.Z.heap.size ≤ x) (hxp : x ∈ ps) (E : Exa V.Z h x "java/lang/String") (Gv : Fld V.Z h x "java/lang/String" "value" "[B" .null) (Gc : Fld V.Z h x "java/lang/String" "coder" "B" (.int 0)) : Con V b_n44 #[.ref x, .ref b, .int 0, .int (4 : Int32), .null] h ps (Qn V x ([c0, c1, c2, c3] : List Int32) h) := Con.of (plainFor_of_name pn_0) (L := [.val (.ref x), .val (.ref b), .val (.int (0 : Int32)), .val (.int (4 : Int32)), .val (.null), .unset]) rfl fun K => by
  have lx := ltN E.lt
  refine r_aloadN 1 rfl d0_0 rfl rfl ?_
  refine r_initO 0 4 rfl d0_1 (wd hw 21 rfl) (wd hw 22 rfl) (wd hw 23 rfl) rfl (by decide) (Nat.le_of_eq rfl) (by decide) ?_
  refine r_iloadN 5 rfl d0_4 rfl ?_
  refine r_if_ne 27 8 d0_5 (by decide) rfl rfl (fun c397 => ?_) (fun c397 => ?_)
  rotate_left
  · exact absurd c397 (by decide)
  refine r_getstatic 30 rfl d0_27 (wd hw 46 rfl) hCS ?_
  refine r_if_eq 58 33 d0_30 (by decide) rfl rfl (fun c398 => ?_) (fun c398 => ?_)
  · exact absurd c398 hcz
  refine r_aloadN 34 rfl d0_33 rfl rfl ?_
  refine r_iloadN 35 rfl d0_34 rfl ?_
  refine r_iloadN 36 rfl d0_35 rfl ?_
  refine r_static 39 rfl d0_36 (wd hw 47 rfl) (wd hw 48 rfl) (wd hw 49 rfl) (wd hw 50 rfl) (by decide) (Pays.con (K := K) (B := b_n44) (c_c34 V hw hAD hHI hLO c0 c1 c2 c3 hc0 hc1 hc2 hc3 hwd h _ b kC A) (wd hw 50 rfl) (wd hw 49 rfl) (by decide) (by decide)) (W := 0) (argsL := [.ref b, .int (0 : Int32), .int (4 : Int32)]) (lenOf pd_7 rfl) rfl rfl rfl (Nat.le_of_eq rfl) (Nat.le_of_ble_eq_true rfl) (Nat.le_of_ble_eq_true rfl) fun v402 h403 ps399 q401 z400 => ?_
  obtain ⟨u, ku, rfl, E2, gu, A2⟩ := q401
  have f404 := Exa.ext E2 E
  have f405 := Fld.ext E2 Gv
  have f406 := Fld.ext E2 Gc
  have sh403 := E2.1
  show Own.Run V K b_n44 _ h403 _ 2 12 39 [.val (.ref x), .val (.ref b), .val (.int (0 : Int32)), .val (.int (4 : Int32)), .val (.null), .unset] [.ref u]
  have lu := ltN A2.lt
  refine r_astore [.val (.ref x), .val (.ref b), .val (.int (0 : Int32)), .val (.int (4 : Int32)), .val (.null), .val (.ref u)] 41 rfl d0_39 rfl rfl ?_
  refine r_aloadN 42 rfl d0_41 rfl rfl ?_
  refine r_aload 44 rfl d0_42 rfl rfl ?_
  refine r_iloadN 45 rfl d0_44 rfl ?_
  refine r_static 48 rfl d0_45 (wd hw 54 rfl) (wd hw 55 rfl) (wd hw 49 rfl) (wd hw 56 rfl) (by decide) (Pays.con (K := K) (B := b_n44) (c_cl4 V hw u ku _ h403 _ A2) (wd hw 56 rfl) (wd hw 49 rfl) (by decide) (by decide)) (W := 1) (argsL := [.ref u, .int (4 : Int32)]) (lenOf pd_9 rfl) rfl rfl rfl (Nat.le_of_eq rfl) (Nat.le_of_ble_eq_true rfl) (Nat.le_of_ble_eq_true rfl) fun v410 h411 ps407 q409 z408 => ?_
  obtain ⟨rfl, es412⟩ := q409
  subst h411
  show Own.Run V K b_n44 _ h403 _ 2 12 48 [.val (.ref x), .val (.ref b), .val (.int (0 : Int32)), .val (.int (4 : Int32)), .val (.null), .val (.ref u)] [.int (1 : Int32), .ref x]
  refine r_putfield 51 rfl d0_48 (wd hw 31 rfl) f406 f404 (Or.inr ⟨wd hw 27 rfl, rfl, rfl⟩) (wd hw 11 rfl) (ty := .byte) (by decide) (by decide) (by decide) zx (Or.inr (by simp [hxp])) fun h413 Wh413 => ?_
  have sh413 := Wh413.size
  have f414 := Exa.wr Wh413 f404
  have f415 := Fld.other Wh413 f405 (Or.inr (slot_ne (C := "java/lang/String") (Or.inr (wd hw 26 rfl)) (Or.inr (wd hw 27 rfl)) (by decide) (t := (.array .byte)) (by decide) (t' := .byte) (by decide)))
  have f416 := Fld.same Wh413 f406
  have f417 := Arv.other A2 Wh413 (neA (by omega))
  refine r_aloadN 52 rfl d0_51 rfl rfl ?_
  refine r_aload 54 rfl d0_52 rfl rfl ?_
  refine r_putfield 57 rfl d0_54 (wd hw 30 rfl) f415 f414 (Or.inr ⟨wd hw 26 rfl, rfl, rfl⟩) (wd hw 11 rfl) (ty := (.array .byte)) (by decide) rfl rfl zx (Or.inr (by simp [hxp])) fun h418 Wh418 => ?_
  have sh418 := Wh418.size
  have f419 := Exa.wr Wh418 f414
  have f420 := Fld.same Wh418 f415
  have f421 := Fld.other Wh418 f416 (Or.inr (slot_ne (C := "java/lang/String") (Or.inr (wd hw 27 rfl)) (Or.inr (wd hw 26 rfl)) (by decide) (t := .byte) (by decide) (t' := (.array .byte)) (by decide)))
  have f422 := Arv.other f417 Wh418 (neA (by omega))
  refine r_ret rfl d0_57 (by decide) (by decide) [] (fun _ q => nomatch q) ?_
  exact ⟨rfl, (((Keep.refl _ _).ext E2).wr Wh413 (Or.inl (by simp))).wr Wh418 (Or.inl (by simp)), u, ku, 1, _, _, f419.lt, f422.lt, Nat.le_refl _, f419, f420, f421, f422, Or.inr ⟨rfl, rfl, rfl, hwd⟩, (fun c hc => (uS hc0 (uS hc1 (uS hc2 (uS hc3 u0)))) c hc), Nat.le_of_ble_eq_true rfl⟩
abbrev b_n14 : Bx := (⟨"java/lang/String", "<init>", "([C)V"⟩, jdk_42_method_3_code, 2, none, { frames := 5, cells := 2, slots := 12, locals := 100 })
theorem c_n14 (V : Vw) (hw : ∀ d ∈ tables_1, d.before V.a0 V.Z = true) (cz : Int32) (hCS : Sta V.Z V.Z.heap "java/lang/String" "COMPACT_STRINGS" "Z" (.int cz)) (hcz : ¬ cz = 0) (hAD : Sta V.Z V.Z.heap "java/lang/StringUTF16" "$assertionsDisabled" "Z" (.int 1)) (hHI : Sta V.Z V.Z.heap "java/lang/StringUTF16" "HI_BYTE_SHIFT" "I" (.int 0)) (hLO : Sta V.Z V.Z.heap "java/lang/StringUTF16" "LO_BYTE_SHIFT" "I" (.int 8)) (c0 c1 c2 c3 : Int32) (hc0 : U6 c0) (hc1 : U6 c1) (hc2 : U6 c2) (hc3 : U6 c3) (hwd : ∃ c ∈ ([c0, c1, c2, c3] : List Int32), 255 < c) (h : Heap) (ps : List Addr) (b : Nat) (kC : ClassId) (A : Arv V.Z h b kC .char (4 : Int32) [.int c0, .int c1, .int c2, .int c3] (.int 0)) (x : Nat) (zx : V.Z.heap.size ≤ x) (hxp : x ∈ ps) (E : Exa V.Z h x "java/lang/String") (Gv : Fld V.Z h x "java/lang/String" "value" "[B" .null) (Gc : Fld V.Z h x "java/lang/String" "coder" "B" (.int 0)) : Con V b_n14 #[.ref x, .ref b] h ps (Qn V x ([c0, c1, c2, c3] : List Int32) h) := Con.of (plainFor_of_name pn_0) (L := [.val (.ref x), .val (.ref b)]) rfl fun K => by
  refine r_aloadN 1 rfl d1_0 rfl rfl ?_
  refine r_aloadN 2 rfl d1_1 rfl rfl ?_
  refine r_iconst (0 : Int32) 3 rfl d1_2 rfl ?_
  refine r_aloadN 4 rfl d1_3 rfl rfl ?_
  refine r_arraylength 5 rfl d1_4 A ?_
  refine r_null 6 rfl d1_5 ?_
  refine r_special 9 rfl d1_6 rfl (wd hw 17 rfl) (wd hw 18 rfl) (wd hw 20 rfl) (by decide) (Pays.con (K := K) (B := b_n14) (c_n44 V hw cz hCS hcz hAD hHI hLO c0 c1 c2 c3 hc0 hc1 hc2 hc3 hwd h _ b kC A x zx (by simp [hxp]) E Gv Gc) (wd hw 20 rfl) (wd hw 12 rfl) (by decide) (by decide)) (W := 0) (argsL := [.ref b, .int (0 : Int32), .int (4 : Int32), .null]) (lenOf pd_0 rfl) rfl rfl rfl (Nat.le_of_eq rfl) (Nat.le_of_ble_eq_true rfl) (Nat.le_of_ble_eq_true rfl) fun v426 h427 ps423 q425 z424 => ?_
  obtain ⟨rfl, K1, S1⟩ := q425
  show Own.Run V K b_n14 _ h427 _ 2 12 9 [.val (.ref x), .val (.ref b)] []
  refine r_ret rfl d1_9 (by decide) (by decide) [] (fun _ q => nomatch q) ?_
  exact ⟨rfl, K1, S1⟩
theorem d11_0 : decode jdk_41_method_11_code 0 = .ok (.iload_n 0, 1) := by decide +kernel
theorem d11_1 : decode jdk_41_method_11_code 1 = .ok (.ifCond .lt 8, 3) := by decide +kernel
theorem d11_4 : decode jdk_41_method_11_code 4 = .ok (.iload_n 0, 1) := by decide +kernel
theorem d11_5 : decode jdk_41_method_11_code 5 = .ok (.iload_n 1, 1) := by decide +kernel
theorem d11_6 : decode jdk_41_method_11_code 6 = .ok (.if_icmp .lt 10, 3) := by decide +kernel
theorem d11_9 : decode jdk_41_method_11_code 9 = .ok (.aload_n 2, 1) := by decide +kernel
theorem d11_10 : decode jdk_41_method_11_code 10 = .ok (.iload_n 0, 1) := by decide +kernel
theorem d11_11 : decode jdk_41_method_11_code 11 = .ok (.iload_n 1, 1) := by decide +kernel
theorem d11_12 : decode jdk_41_method_11_code 12 = .ok (.invokestatic 95, 3) := by decide +kernel
theorem d11_15 : decode jdk_41_method_11_code 15 = .ok (.athrow, 1) := by decide +kernel
theorem d11_16 : decode jdk_41_method_11_code 16 = .ok (.iload_n 0, 1) := by decide +kernel
theorem d11_17 : decode jdk_41_method_11_code 17 = .ok (.ireturn, 1) := by decide +kernel
abbrev b_pci : Bx := (⟨"jdk/internal/util/Preconditions", "checkIndex", "(IILjava/util/function/BiFunction;)I"⟩, jdk_41_method_11_code, 3, some .int, { frames := 0, cells := 0, slots := 0, locals := 0 })
theorem c_pci (V : Vw) (hw : ∀ d ∈ tables_1, d.before V.a0 V.Z = true) (fm : Value) (rf : fm.isRef = true) (j n : Nat) (hj : j < n) (hn : n ≤ 4000) (h : Heap) (ps : List Addr) : Con V b_pci #[.int (Int32.ofNat j), .int (Int32.ofNat n), fm] h ps (Qi (Int32.ofNat j) h) := Con.of (plainFor_of_name pn_2) (L := [.val (.int (Int32.ofNat j)), .val (.int (Int32.ofNat n)), .val (fm)]) (by rcases ref_cases rf with rfl | ⟨q, rfl⟩ <;> rfl) fun K => by
  refine r_iloadN 1 rfl d11_0 rfl ?_
  refine r_if_lt 9 4 d11_1 (by decide) rfl rfl (fun c428 => ?_) (fun c428 => ?_)
  · exact absurd c428 (ofN_nn (by omega))
  refine r_iloadN 5 rfl d11_4 rfl ?_
  refine r_iloadN 6 rfl d11_5 rfl ?_
  refine r_icmp_lt 16 9 d11_6 (by decide) rfl rfl (fun c429 => ?_) (fun c429 => ?_)
  rotate_left
  · exact absurd ((ofN_lt (by omega) (by omega)).mpr hj) c429
  refine r_iloadN 17 rfl d11_16 rfl ?_
  refine r_iret rfl d11_17 (by decide) (by decide) [] (fun _ q => nomatch q) ?_
  exact ⟨rfl, rfl⟩
theorem d12_0 : decode jdk_42_method_155_code 0 = .ok (.iload_n 0, 1) := by decide +kernel
theorem d12_1 : decode jdk_42_method_155_code 1 = .ok (.iload_n 1, 1) := by decide +kernel
theorem d12_2 : decode jdk_42_method_155_code 2 = .ok (.getstatic 1053, 3) := by decide +kernel
theorem d12_5 : decode jdk_42_method_155_code 5 = .ok (.invokestatic 1059, 3) := by decide +kernel
theorem d12_8 : decode jdk_42_method_155_code 8 = .ok (.pop, 1) := by decide +kernel
theorem d12_9 : decode jdk_42_method_155_code 9 = .ok (.return_, 1) := by decide +kernel
abbrev b_sci : Bx := (⟨"java/lang/String", "checkIndex", "(II)V"⟩, jdk_42_method_155_code, 2, none, { frames := 1, cells := 0, slots := 0, locals := 18 })
theorem c_sci (V : Vw) (hw : ∀ d ∈ tables_1, d.before V.a0 V.Z = true) (fm : Value) (hFM : Sta V.Z V.Z.heap "jdk/internal/util/Preconditions" "SIOOBE_FORMATTER" "Ljava/util/function/BiFunction;" fm) (rf : fm.isRef = true) (j n : Nat) (hj : j < n) (hn : n ≤ 4000) (h : Heap) (ps : List Addr) : Con V b_sci #[.int (Int32.ofNat j), .int (Int32.ofNat n)] h ps (Qu h) := Con.of (plainFor_of_name pn_0) (L := [.val (.int (Int32.ofNat j)), .val (.int (Int32.ofNat n))]) rfl fun K => by
  refine r_iloadN 1 rfl d12_0 rfl ?_
  refine r_iloadN 2 rfl d12_1 rfl ?_
  refine r_getstatic 5 rfl d12_2 (wd hw 77 rfl) hFM ?_
  refine r_static 8 rfl d12_5 (wd hw 79 rfl) (wd hw 80 rfl) (wd hw 78 rfl) (wd hw 81 rfl) (by decide) (Pays.con (K := K) (B := b_sci) (c_pci V hw fm rf j n hj hn h _) (wd hw 81 rfl) (wd hw 78 rfl) (by decide) (by decide)) (W := 0) (argsL := [.int (Int32.ofNat j), .int (Int32.ofNat n), fm]) (lenOf pd_10 rfl) rfl rfl rfl (Nat.le_of_eq rfl) (Nat.le_of_ble_eq_true rfl) (Nat.le_of_ble_eq_true rfl) fun v433 h434 ps430 q432 z431 => ?_
  obtain ⟨rfl, es435⟩ := q432
  subst h434
  show Own.Run V K b_sci _ h _ 0 0 8 [.val (.int (Int32.ofNat j)), .val (.int (Int32.ofNat n))] [.int (Int32.ofNat j)]
  refine r_pop 9 rfl d12_8 rfl ?_
  refine r_ret rfl d12_9 (by decide) (by decide) [] (fun _ q => nomatch q) ?_
  exact ⟨rfl, rfl⟩
theorem d13_0 : decode jdk_52_method_91_code 0 = .ok (.iload_n 0, 1) := by decide +kernel
theorem d13_1 : decode jdk_52_method_91_code 1 = .ok (.aload_n 1, 1) := by decide +kernel
theorem d13_2 : decode jdk_52_method_91_code 2 = .ok (.invokestatic 48, 3) := by decide +kernel
theorem d13_5 : decode jdk_52_method_91_code 5 = .ok (.invokestatic 414, 3) := by decide +kernel
theorem d13_8 : decode jdk_52_method_91_code 8 = .ok (.return_, 1) := by decide +kernel
abbrev b_uci : Bx := (⟨"java/lang/StringUTF16", "checkIndex", "(I[B)V"⟩, jdk_52_method_91_code, 2, none, { frames := 2, cells := 0, slots := 0, locals := 36 })
theorem c_uci (V : Vw) (hw : ∀ d ∈ tables_1, d.before V.a0 V.Z = true) (fm : Value) (hFM : Sta V.Z V.Z.heap "jdk/internal/util/Preconditions" "SIOOBE_FORMATTER" "Ljava/util/function/BiFunction;" fm) (rf : fm.isRef = true) (u : Nat) (k : ClassId) (cs : List Int32) (j : Nat) (hj : j < cs.length) (hU : ∀ c ∈ cs, U6 c) (hl : cs.length ≤ 1000) (h : Heap) (ps : List Addr) (A : Arv V.Z h u k .byte (Int32.ofNat (2 * cs.length)) (StrChars.Road.wideBytes cs) (.int 0)) : Con V b_uci #[.int (Int32.ofNat j), .ref u] h ps (Qu h) := Con.of (plainFor_of_name pn_1) (L := [.val (.int (Int32.ofNat j)), .val (.ref u)]) rfl fun K => by
  refine r_iloadN 1 rfl d13_0 rfl ?_
  refine r_aloadN 2 rfl d13_1 rfl rfl ?_
  refine r_static 5 rfl d13_2 (wd hw 114 rfl) (wd hw 115 rfl) (wd hw 49 rfl) (wd hw 116 rfl) (by decide) (Pays.con (K := K) (B := b_uci) (c_ul V hw u cs.length k _ h _ A (by omega)) (wd hw 116 rfl) (wd hw 49 rfl) (by decide) (by decide)) (W := 1) (argsL := [.ref u]) (lenOf pd_2 rfl) rfl rfl rfl (Nat.le_of_eq rfl) (Nat.le_of_ble_eq_true rfl) (Nat.le_of_ble_eq_true rfl) fun v439 h440 ps436 q438 z437 => ?_
  obtain ⟨rfl, es441⟩ := q438
  subst h440
  show Own.Run V K b_uci _ h _ 0 0 5 [.val (.int (Int32.ofNat j)), .val (.ref u)] [.int (Int32.ofNat cs.length), .int (Int32.ofNat j)]
  refine r_static 8 rfl d13_5 (wd hw 117 rfl) (wd hw 75 rfl) (wd hw 12 rfl) (wd hw 76 rfl) (by decide) (Pays.con (K := K) (B := b_uci) (c_sci V hw fm hFM rf j cs.length hj (by omega) h _) (wd hw 76 rfl) (wd hw 12 rfl) (by decide) (by decide)) (W := 0) (argsL := [.int (Int32.ofNat j), .int (Int32.ofNat cs.length)]) (lenOf pd_11 rfl) rfl rfl rfl (Nat.le_of_eq rfl) (Nat.le_of_ble_eq_true rfl) (Nat.le_of_ble_eq_true rfl) fun v445 h446 ps442 q444 z443 => ?_
  obtain ⟨rfl, es447⟩ := q444
  subst h446
  show Own.Run V K b_uci _ h _ 0 0 8 [.val (.int (Int32.ofNat j)), .val (.ref u)] []
  refine r_ret rfl d13_8 (by decide) (by decide) [] (fun _ q => nomatch q) ?_
  exact ⟨rfl, rfl⟩
theorem d14_0 : decode jdk_52_method_83_code 0 = .ok (.iload_n 1, 1) := by decide +kernel
theorem d14_1 : decode jdk_52_method_83_code 1 = .ok (.aload_n 0, 1) := by decide +kernel
theorem d14_2 : decode jdk_52_method_83_code 2 = .ok (.invokestatic 67, 3) := by decide +kernel
theorem d14_5 : decode jdk_52_method_83_code 5 = .ok (.aload_n 0, 1) := by decide +kernel
theorem d14_6 : decode jdk_52_method_83_code 6 = .ok (.iload_n 1, 1) := by decide +kernel
theorem d14_7 : decode jdk_52_method_83_code 7 = .ok (.invokestatic 71, 3) := by decide +kernel
theorem d14_10 : decode jdk_52_method_83_code 10 = .ok (.ireturn, 1) := by decide +kernel
abbrev b_uch : Bx := (⟨"java/lang/StringUTF16", "charAt", "([BI)C"⟩, jdk_52_method_83_code, 2, some .char, { frames := 3, cells := 0, slots := 0, locals := 52 })
theorem c_uch (V : Vw) (hw : ∀ d ∈ tables_1, d.before V.a0 V.Z = true) (fm : Value) (hFM : Sta V.Z V.Z.heap "jdk/internal/util/Preconditions" "SIOOBE_FORMATTER" "Ljava/util/function/BiFunction;" fm) (rf : fm.isRef = true) (hAD : Sta V.Z V.Z.heap "java/lang/StringUTF16" "$assertionsDisabled" "Z" (.int 1)) (hHI : Sta V.Z V.Z.heap "java/lang/StringUTF16" "HI_BYTE_SHIFT" "I" (.int 0)) (hLO : Sta V.Z V.Z.heap "java/lang/StringUTF16" "LO_BYTE_SHIFT" "I" (.int 8)) (u : Nat) (k : ClassId) (cs : List Int32) (j : Nat) (hj : j < cs.length) (hU : ∀ c ∈ cs, U6 c) (hl : cs.length ≤ 1000) (h : Heap) (ps : List Addr) (A : Arv V.Z h u k .byte (Int32.ofNat (2 * cs.length)) (StrChars.Road.wideBytes cs) (.int 0)) : Con V b_uch #[.ref u, .int (Int32.ofNat j)] h ps (Qi (cs.getD j 0) h) := Con.of (plainFor_of_name pn_1) (L := [.val (.ref u), .val (.int (Int32.ofNat j))]) rfl fun K => by
  refine r_iloadN 1 rfl d14_0 rfl ?_
  refine r_aloadN 2 rfl d14_1 rfl rfl ?_
  refine r_static 5 rfl d14_2 (wd hw 111 rfl) (wd hw 112 rfl) (wd hw 49 rfl) (wd hw 113 rfl) (by decide) (Pays.con (K := K) (B := b_uch) (c_uci V hw fm hFM rf u k cs j hj hU hl h _ A) (wd hw 113 rfl) (wd hw 49 rfl) (by decide) (by decide)) (W := 0) (argsL := [.int (Int32.ofNat j), .ref u]) (lenOf pd_12 rfl) rfl rfl rfl (Nat.le_of_eq rfl) (Nat.le_of_ble_eq_true rfl) (Nat.le_of_ble_eq_true rfl) fun v451 h452 ps448 q450 z449 => ?_
  obtain ⟨rfl, es453⟩ := q450
  subst h452
  show Own.Run V K b_uch _ h _ 0 0 5 [.val (.ref u), .val (.int (Int32.ofNat j))] []
  refine r_aloadN 6 rfl d14_5 rfl rfl ?_
  refine r_iloadN 7 rfl d14_6 rfl ?_
  refine r_static 10 rfl d14_7 (wd hw 105 rfl) (wd hw 106 rfl) (wd hw 49 rfl) (wd hw 107 rfl) (by decide) (Pays.con (K := K) (B := b_uch) (c_gc V hw hAD hHI hLO u k cs j hj hU hl h _ A) (wd hw 107 rfl) (wd hw 49 rfl) (by decide) (by decide)) (W := 0) (argsL := [.ref u, .int (Int32.ofNat j)]) (lenOf pd_3 rfl) rfl rfl rfl (Nat.le_of_eq rfl) (Nat.le_of_ble_eq_true rfl) (Nat.le_of_ble_eq_true rfl) fun v457 h458 ps454 q456 z455 => ?_
  obtain ⟨rfl, es459⟩ := q456
  subst h458
  show Own.Run V K b_uch _ h _ 0 0 10 [.val (.ref u), .val (.int (Int32.ofNat j))] [.int (cs.getD j 0)]
  refine r_nret (t := .char) (cs.getD j 0) rfl (by simp) (nu6 (u6_get hU hj)) d14_10 (by decide) (by decide) [] (fun _ q => nomatch q) ?_
  exact ⟨rfl, rfl⟩
theorem d15_0 : decode jdk_42_method_154_code 0 = .ok (.getstatic 38, 3) := by decide +kernel
theorem d15_3 : decode jdk_42_method_154_code 3 = .ok (.ifCond .eq 14, 3) := by decide +kernel
theorem d15_6 : decode jdk_42_method_154_code 6 = .ok (.aload_n 0, 1) := by decide +kernel
theorem d15_7 : decode jdk_42_method_154_code 7 = .ok (.getfield 15, 3) := by decide +kernel
theorem d15_10 : decode jdk_42_method_154_code 10 = .ok (.ifCond .ne 7, 3) := by decide +kernel
theorem d15_13 : decode jdk_42_method_154_code 13 = .ok (.iconst 1, 1) := by decide +kernel
theorem d15_14 : decode jdk_42_method_154_code 14 = .ok (.goto 4, 3) := by decide +kernel
theorem d15_17 : decode jdk_42_method_154_code 17 = .ok (.iconst 0, 1) := by decide +kernel
theorem d15_18 : decode jdk_42_method_154_code 18 = .ok (.ireturn, 1) := by decide +kernel
abbrev b_isL0 : Bx := (⟨"java/lang/String", "isLatin1", "()Z"⟩, jdk_42_method_154_code, 1, some .boolean, { frames := 0, cells := 0, slots := 0, locals := 0 })
theorem c_isL0 (V : Vw) (hw : ∀ d ∈ tables_1, d.before V.a0 V.Z = true) (cz : Int32) (hCS : Sta V.Z V.Z.heap "java/lang/String" "COMPACT_STRINGS" "Z" (.int cz)) (hcz : ¬ cz = 0) (x : Nat) (h : Heap) (ps : List Addr) (F : Fld V.Z h x "java/lang/String" "coder" "B" (.int 1)) : Con V b_isL0 #[.ref x] h ps (Qi 0 h) := Con.of (plainFor_of_name pn_0) (L := [.val (.ref x)]) rfl fun K => by
  refine r_getstatic 3 rfl d15_0 (wd hw 46 rfl) hCS ?_
  refine r_if_eq 17 6 d15_3 (by decide) rfl rfl (fun c460 => ?_) (fun c460 => ?_)
  · exact absurd c460 hcz
  refine r_aloadN 7 rfl d15_6 rfl rfl ?_
  refine r_getfield 10 rfl d15_7 (wd hw 31 rfl) F ?_
  refine r_if_ne 17 13 d15_10 (by decide) rfl rfl (fun c461 => ?_) (fun c461 => ?_)
  rotate_left
  · exact absurd c461 (by decide)
  refine r_iconst (0 : Int32) 18 rfl d15_17 rfl ?_
  refine r_nret (t := .boolean) (0 : Int32) rfl (by simp) rfl d15_18 (by decide) (by decide) [] (fun _ q => nomatch q) ?_
  exact ⟨rfl, rfl⟩
theorem d16_0 : decode jdk_42_method_56_code 0 = .ok (.aload_n 0, 1) := by decide +kernel
theorem d16_1 : decode jdk_42_method_56_code 1 = .ok (.invokevirtual 492, 3) := by decide +kernel
theorem d16_4 : decode jdk_42_method_56_code 4 = .ok (.ifCond .eq 12, 3) := by decide +kernel
theorem d16_7 : decode jdk_42_method_56_code 7 = .ok (.aload_n 0, 1) := by decide +kernel
theorem d16_8 : decode jdk_42_method_56_code 8 = .ok (.getfield 9, 3) := by decide +kernel
theorem d16_11 : decode jdk_42_method_56_code 11 = .ok (.iload_n 1, 1) := by decide +kernel
theorem d16_12 : decode jdk_42_method_56_code 12 = .ok (.invokestatic 495, 3) := by decide +kernel
theorem d16_15 : decode jdk_42_method_56_code 15 = .ok (.ireturn, 1) := by decide +kernel
theorem d16_16 : decode jdk_42_method_56_code 16 = .ok (.aload_n 0, 1) := by decide +kernel
theorem d16_17 : decode jdk_42_method_56_code 17 = .ok (.getfield 9, 3) := by decide +kernel
theorem d16_20 : decode jdk_42_method_56_code 20 = .ok (.iload_n 1, 1) := by decide +kernel
theorem d16_21 : decode jdk_42_method_56_code 21 = .ok (.invokestatic 498, 3) := by decide +kernel
theorem d16_24 : decode jdk_42_method_56_code 24 = .ok (.ireturn, 1) := by decide +kernel
abbrev b_sch : Bx := (⟨"java/lang/String", "charAt", "(I)C"⟩, jdk_42_method_56_code, 2, some .char, { frames := 4, cells := 0, slots := 0, locals := 70 })
theorem c_sch (V : Vw) (hw : ∀ d ∈ tables_1, d.before V.a0 V.Z = true) (cz : Int32) (hCS : Sta V.Z V.Z.heap "java/lang/String" "COMPACT_STRINGS" "Z" (.int cz)) (hcz : ¬ cz = 0) (fm : Value) (hFM : Sta V.Z V.Z.heap "jdk/internal/util/Preconditions" "SIOOBE_FORMATTER" "Ljava/util/function/BiFunction;" fm) (rf : fm.isRef = true) (hAD : Sta V.Z V.Z.heap "java/lang/StringUTF16" "$assertionsDisabled" "Z" (.int 1)) (hHI : Sta V.Z V.Z.heap "java/lang/StringUTF16" "HI_BYTE_SHIFT" "I" (.int 0)) (hLO : Sta V.Z V.Z.heap "java/lang/StringUTF16" "LO_BYTE_SHIFT" "I" (.int 8)) (u : Nat) (k : ClassId) (cs : List Int32) (j : Nat) (hj : j < cs.length) (hU : ∀ c ∈ cs, U6 c) (hl : cs.length ≤ 1000) (h : Heap) (ps : List Addr) (A : Arv V.Z h u k .byte (Int32.ofNat (2 * cs.length)) (StrChars.Road.wideBytes cs) (.int 0)) (x : Nat) (E : Exa V.Z h x "java/lang/String") (Gv : Fld V.Z h x "java/lang/String" "value" "[B" (.ref u)) (Gc : Fld V.Z h x "java/lang/String" "coder" "B" (.int 1)) : Con V b_sch #[.ref x, .int (Int32.ofNat j)] h ps (Qi (cs.getD j 0) h) := Con.of (plainFor_of_name pn_0) (L := [.val (.ref x), .val (.int (Int32.ofNat j))]) rfl fun K => by
  refine r_aloadN 1 rfl d16_0 rfl rfl ?_
  refine r_virtual 4 rfl d16_1 (wd hw 65 rfl) (wd hw 66 rfl) (wd hw 68 rfl) (wd hw 67 rfl) (nfS (wd hw 68 rfl)) (by decide) E (Pays.con (K := K) (B := b_sch) (c_isL0 V hw cz hCS hcz x h _ Gc) (wd hw 69 rfl) (wd hw 12 rfl) (by decide) (by decide)) (W := 0) (argsL := []) (lenOf pd_13 rfl) rfl rfl rfl (Nat.le_of_eq rfl) (Nat.le_of_ble_eq_true rfl) (Nat.le_of_ble_eq_true rfl) fun v465 h466 ps462 q464 z463 => ?_
  obtain ⟨rfl, es467⟩ := q464
  subst h466
  show Own.Run V K b_sch _ h _ 0 0 4 [.val (.ref x), .val (.int (Int32.ofNat j))] [.int (0 : Int32)]
  refine r_if_eq 16 7 d16_4 (by decide) rfl rfl (fun c468 => ?_) (fun c468 => ?_)
  rotate_left
  · exact absurd rfl c468
  refine r_aloadN 17 rfl d16_16 rfl rfl ?_
  refine r_getfield 20 rfl d16_17 (wd hw 30 rfl) Gv ?_
  refine r_iloadN 21 rfl d16_20 rfl ?_
  refine r_static 24 rfl d16_21 (wd hw 108 rfl) (wd hw 109 rfl) (wd hw 49 rfl) (wd hw 110 rfl) (by decide) (Pays.con (K := K) (B := b_sch) (c_uch V hw fm hFM rf hAD hHI hLO u k cs j hj hU hl h _ A) (wd hw 110 rfl) (wd hw 49 rfl) (by decide) (by decide)) (W := 0) (argsL := [.ref u, .int (Int32.ofNat j)]) (lenOf pd_3 rfl) rfl rfl rfl (Nat.le_of_eq rfl) (Nat.le_of_ble_eq_true rfl) (Nat.le_of_ble_eq_true rfl) fun v472 h473 ps469 q471 z470 => ?_
  obtain ⟨rfl, es474⟩ := q471
  subst h473
  show Own.Run V K b_sch _ h _ 0 0 24 [.val (.ref x), .val (.int (Int32.ofNat j))] [.int (cs.getD j 0)]
  refine r_nret (t := .char) (cs.getD j 0) rfl (by simp) (nu6 (u6_get hU hj)) d16_24 (by decide) (by decide) [] (fun _ q => nomatch q) ?_
  exact ⟨rfl, rfl⟩
theorem pay_chA (V : Vw) (hw : ∀ d ∈ tables_1, d.before V.a0 V.Z = true) (K : Cx) (B : Bx) (W : Nat) (cz : Int32) (hCS : Sta V.Z V.Z.heap "java/lang/String" "COMPACT_STRINGS" "Z" (.int cz)) (hcz : ¬ cz = 0) (fm : Value) (hFM : Sta V.Z V.Z.heap "jdk/internal/util/Preconditions" "SIOOBE_FORMATTER" "Ljava/util/function/BiFunction;" fm) (rf : fm.isRef = true) (hAD : Sta V.Z V.Z.heap "java/lang/StringUTF16" "$assertionsDisabled" "Z" (.int 1)) (hHI : Sta V.Z V.Z.heap "java/lang/StringUTF16" "HI_BYTE_SHIFT" "I" (.int 0)) (hLO : Sta V.Z V.Z.heap "java/lang/StringUTF16" "LO_BYTE_SHIFT" "I" (.int 8)) (x m j : Nat) (cs : List Int32) (h : Heap) (ps : List Addr) (S : Str V h m x cs) (hl : cs.length ≤ 1000) (hj : j < cs.length) (O : Ext V.Z.heap h) (hfr : 5 ≤ B.R.frames) (hlo : W + 90 ≤ B.R.locals) : Pays V K B (⟨"java/lang/String", "charAt", "(I)C"⟩ : MethodName) 3 W #[.ref x, .int (Int32.ofNat j)] h ps 0 0 (Qi (cs.getD j 0) h) := by
  obtain ⟨t, kb, cd, N2, vs, a1, a2, a3, a4, a5, a6, a7, a8, a9, a10⟩ := id S
  rcases a8 with q | ⟨rfl, e2, e3, q⟩
  · exact pay_ch V hw K B W x m j _ cs h ps S q.2.2.2 O cz hCS hcz fm hFM rf hj rfl (by omega) (by omega)
  · subst e3
    exact Pays.con (B' := b_sch) (c_sch V hw cz hCS hcz fm hFM rf hAD hHI hLO t kb cs j hj a9 hl h ps (by rw [← e2]; exact a7) x a4 a5 a6) (wd hw 64 rfl) (wd hw 12 rfl) hfr (by show W + (2 + 11) + 70 ≤ _; omega)
def ctl (c : Int32) : Prop := c.toInt ≤ 31 ∨ 127 ≤ c.toInt ∧ c.toInt ≤ 159
theorem u6_int {c : Int32} (h : U6 c) : 0 ≤ c.toInt ∧ c.toInt ≤ 65535 := by
  obtain ⟨a, b⟩ := h
  rw [Int32.lt_iff_toInt_lt] at a b
  have e0 : (0 : Int32).toInt = 0 := rfl
  have e1 : (65535 : Int32).toInt = 65535 := rfl
  omega
theorem i2cU (x : Int32) : U6 x.toUInt32.toUInt16.toUInt32.toInt32 := by
  have f := c_i2c x
  refine ⟨fun q => ?_, fun q => ?_⟩
  · rw [Int32.lt_iff_toInt_lt] at q; have : (0 : Int32).toInt = 0 := rfl; omega
  · rw [Int32.lt_iff_toInt_lt] at q; have : (65535 : Int32).toInt = 65535 := rfl; omega
theorem ush5 {c : Int32} (h : U6 c) : ushr c 5 = 0 ↔ c.toInt ≤ 31 := by
  have a := u6_int h
  have e : (ushr c 5).toInt = (c.toInt % 4294967296) / (2 ^ 5 : Nat) := c_iushr c 5 5 (by decide) (by decide)
  rw [← Int32.toInt_inj]
  have e0 : (0 : Int32).toInt = 0 := rfl
  omega
theorem mod5 {z x : Int32} (e : z = (x &&& 2147483647) % 5) : z = 0 ∨ z = 1 ∨ z = 2 ∨ z = 3 ∨ z = 4 := by
  have h := c_and x 2147483647 (by decide)
  have q := (c_irem (x &&& 2147483647) 5 5 (by decide)).1 h.1
  rw [← e] at q
  simp only [← Int32.toInt_inj]
  have e0 : (0 : Int32).toInt = 0 := rfl
  have e1 : (1 : Int32).toInt = 1 := rfl
  have e2 : (2 : Int32).toInt = 2 := rfl
  have e3 : (3 : Int32).toInt = 3 := rfl
  have e4 : (4 : Int32).toInt = 4 := rfl
  omega
def Qu6 (h0 : Heap) : Qt := fun v h _ => ∃ z : Int32, v = some (.int z) ∧ U6 z ∧ h = h0
theorem d17_0 : decode method_3_code 0 = .ok (.iload_n 0, 1) := by decide +kernel
theorem d17_1 : decode method_3_code 1 = .ok (.ldc 28, 2) := by decide +kernel
theorem d17_3 : decode method_3_code 3 = .ok (.iand, 1) := by decide +kernel
theorem d17_4 : decode method_3_code 4 = .ok (.ifCond .eq 10, 3) := by decide +kernel
theorem d17_7 : decode method_3_code 7 = .ok (.iload_n 0, 1) := by decide +kernel
theorem d17_8 : decode method_3_code 8 = .ok (.sipush 255, 3) := by decide +kernel
theorem d17_11 : decode method_3_code 11 = .ok (.iand, 1) := by decide +kernel
theorem d17_12 : decode method_3_code 12 = .ok (.i2c, 1) := by decide +kernel
theorem d17_13 : decode method_3_code 13 = .ok (.ireturn, 1) := by decide +kernel
theorem d17_14 : decode method_3_code 14 = .ok (.iload_n 0, 1) := by decide +kernel
theorem d17_15 : decode method_3_code 15 = .ok (.ldc 29, 2) := by decide +kernel
theorem d17_17 : decode method_3_code 17 = .ok (.iand, 1) := by decide +kernel
theorem d17_18 : decode method_3_code 18 = .ok (.i2c, 1) := by decide +kernel
theorem d17_19 : decode method_3_code 19 = .ok (.ireturn, 1) := by decide +kernel
abbrev b_draw : Bx := (⟨"com/example/linetally/linetally/io/FieldsPrintablePinLaw", "draw", "(I)C"⟩, method_3_code, 1, some .char, { frames := 0, cells := 0, slots := 0, locals := 0 })
theorem c_draw (V : Vw) (hw : ∀ d ∈ tables_1, d.before V.a0 V.Z = true) (p : Int32) (h : Heap) (ps : List Addr) : Con V b_draw #[.int p] h ps (Qu6 h) := Con.of (plainFor_of_name pn_3) (L := [.val (.int p)]) rfl fun K => by
  refine r_iloadN 1 rfl d17_0 rfl ?_
  refine r_ldcI 3 rfl d17_1 (wd hw 5 rfl) ?_
  refine r_iand 4 rfl d17_3 ?_
  refine r_if_eq 14 7 d17_4 (by decide) rfl rfl (fun c475 => ?_) (fun c475 => ?_)
  · refine r_iloadN 15 rfl d17_14 rfl ?_
    refine r_ldcI 17 rfl d17_15 (wd hw 6 rfl) ?_
    refine r_iand 18 rfl d17_17 ?_
    refine r_i2c 19 rfl d17_18 ?_
    refine r_nret (t := .char) (p &&& (65535 : Int32)).toUInt32.toUInt16.toUInt32.toInt32 rfl (by simp) (nc16 _) d17_19 (by decide) (by decide) [] (fun _ q => nomatch q) ?_
    exact ⟨_, rfl, i2cU _, rfl⟩
  · refine r_iloadN 8 rfl d17_7 rfl ?_
    refine r_sipush (255 : Int32) 11 rfl d17_8 rfl ?_
    refine r_iand 12 rfl d17_11 ?_
    refine r_i2c 13 rfl d17_12 ?_
    refine r_nret (t := .char) (p &&& (255 : Int32)).toUInt32.toUInt16.toUInt32.toInt32 rfl (by simp) (nc16 _) d17_13 (by decide) (by decide) [] (fun _ q => nomatch q) ?_
    exact ⟨_, rfl, i2cU _, rfl⟩
theorem d18_0 : decode method_4_code 0 = .ok (.iload_n 0, 1) := by decide +kernel
theorem d18_1 : decode method_4_code 1 = .ok (.bipush 31, 2) := by decide +kernel
theorem d18_3 : decode method_4_code 3 = .ok (.if_icmp .gt 5, 3) := by decide +kernel
theorem d18_6 : decode method_4_code 6 = .ok (.iconst 1, 1) := by decide +kernel
theorem d18_7 : decode method_4_code 7 = .ok (.ireturn, 1) := by decide +kernel
theorem d18_8 : decode method_4_code 8 = .ok (.iload_n 0, 1) := by decide +kernel
theorem d18_9 : decode method_4_code 9 = .ok (.bipush 127, 2) := by decide +kernel
theorem d18_11 : decode method_4_code 11 = .ok (.if_icmp .lt 14, 3) := by decide +kernel
theorem d18_14 : decode method_4_code 14 = .ok (.iload_n 0, 1) := by decide +kernel
theorem d18_15 : decode method_4_code 15 = .ok (.sipush 159, 3) := by decide +kernel
theorem d18_18 : decode method_4_code 18 = .ok (.if_icmp .gt 7, 3) := by decide +kernel
theorem d18_21 : decode method_4_code 21 = .ok (.iconst 1, 1) := by decide +kernel
theorem d18_22 : decode method_4_code 22 = .ok (.goto 4, 3) := by decide +kernel
theorem d18_25 : decode method_4_code 25 = .ok (.iconst 0, 1) := by decide +kernel
theorem d18_26 : decode method_4_code 26 = .ok (.ireturn, 1) := by decide +kernel
abbrev b_ctl : Bx := (⟨"com/example/linetally/linetally/io/FieldsPrintablePinLaw", "control", "(C)Z"⟩, method_4_code, 1, some .boolean, { frames := 0, cells := 0, slots := 0, locals := 0 })
theorem c_ctl (V : Vw) (hw : ∀ d ∈ tables_1, d.before V.a0 V.Z = true) (c : Int32) (hc : U6 c) (h : Heap) (ps : List Addr) : Con V b_ctl #[.int c] h ps (Qsm (ctl c) h) := Con.of (plainFor_of_name pn_3) (L := [.val (.int c)]) rfl fun K => by
  refine r_iloadN 1 rfl d18_0 rfl ?_
  refine r_bipush (31 : Int32) 3 rfl d18_1 rfl ?_
  refine r_icmp_gt 8 6 d18_3 (by decide) rfl rfl (fun c476 => ?_) (fun c476 => ?_)
  rotate_left
  · refine r_iconst (1 : Int32) 7 rfl d18_6 rfl ?_
    refine r_nret (t := .boolean) (1 : Int32) rfl (by simp) rfl d18_7 (by decide) (by decide) [] (fun _ q => nomatch q) ?_
    exact ⟨_, rfl, rfl, Or.inl ⟨rfl, (by simp only [Int32.lt_iff_toInt_lt] at c476; have a := u6_int hc; have t0 : (0 : Int32).toInt = 0 := rfl ; have t1 : (1 : Int32).toInt = 1 := rfl ; have t2 : (2 : Int32).toInt = 2 := rfl ; have t3 : (3 : Int32).toInt = 3 := rfl ; have t4 : (4 : Int32).toInt = 4 := rfl ; have t5 : (5 : Int32).toInt = 5 := rfl ; have t31 : (31 : Int32).toInt = 31 := rfl ; have t127 : (127 : Int32).toInt = 127 := rfl ; have t159 : (159 : Int32).toInt = 159 := rfl ; have t65535 : (65535 : Int32).toInt = 65535 := rfl; unfold ctl; omega)⟩⟩
  refine r_iloadN 9 rfl d18_8 rfl ?_
  refine r_bipush (127 : Int32) 11 rfl d18_9 rfl ?_
  refine r_icmp_lt 25 14 d18_11 (by decide) rfl rfl (fun c477 => ?_) (fun c477 => ?_)
  · refine r_iconst (0 : Int32) 26 rfl d18_25 rfl ?_
    refine r_nret (t := .boolean) (0 : Int32) rfl (by simp) rfl d18_26 (by decide) (by decide) [] (fun _ q => nomatch q) ?_
    exact ⟨_, rfl, rfl, Or.inr ⟨rfl, (by simp only [Int32.lt_iff_toInt_lt] at c476 c477; have a := u6_int hc; have t0 : (0 : Int32).toInt = 0 := rfl ; have t1 : (1 : Int32).toInt = 1 := rfl ; have t2 : (2 : Int32).toInt = 2 := rfl ; have t3 : (3 : Int32).toInt = 3 := rfl ; have t4 : (4 : Int32).toInt = 4 := rfl ; have t5 : (5 : Int32).toInt = 5 := rfl ; have t31 : (31 : Int32).toInt = 31 := rfl ; have t127 : (127 : Int32).toInt = 127 := rfl ; have t159 : (159 : Int32).toInt = 159 := rfl ; have t65535 : (65535 : Int32).toInt = 65535 := rfl; unfold ctl; omega)⟩⟩
  refine r_iloadN 15 rfl d18_14 rfl ?_
  refine r_sipush (159 : Int32) 18 rfl d18_15 rfl ?_
  refine r_icmp_gt 25 21 d18_18 (by decide) rfl rfl (fun c478 => ?_) (fun c478 => ?_)
  · refine r_iconst (0 : Int32) 26 rfl d18_25 rfl ?_
    refine r_nret (t := .boolean) (0 : Int32) rfl (by simp) rfl d18_26 (by decide) (by decide) [] (fun _ q => nomatch q) ?_
    exact ⟨_, rfl, rfl, Or.inr ⟨rfl, (by simp only [Int32.lt_iff_toInt_lt] at c476 c478; have a := u6_int hc; have t0 : (0 : Int32).toInt = 0 := rfl ; have t1 : (1 : Int32).toInt = 1 := rfl ; have t2 : (2 : Int32).toInt = 2 := rfl ; have t3 : (3 : Int32).toInt = 3 := rfl ; have t4 : (4 : Int32).toInt = 4 := rfl ; have t5 : (5 : Int32).toInt = 5 := rfl ; have t31 : (31 : Int32).toInt = 31 := rfl ; have t127 : (127 : Int32).toInt = 127 := rfl ; have t159 : (159 : Int32).toInt = 159 := rfl ; have t65535 : (65535 : Int32).toInt = 65535 := rfl; unfold ctl; omega)⟩⟩
  · refine r_iconst (1 : Int32) 22 rfl d18_21 rfl ?_
    refine r_goto 26 d18_22 (by decide) rfl ?_
    refine r_nret (t := .boolean) (1 : Int32) rfl (by simp) rfl d18_26 (by decide) (by decide) [] (fun _ q => nomatch q) ?_
    exact ⟨_, rfl, rfl, Or.inl ⟨rfl, (by simp only [Int32.lt_iff_toInt_lt] at c477 c478; have a := u6_int hc; have t0 : (0 : Int32).toInt = 0 := rfl ; have t1 : (1 : Int32).toInt = 1 := rfl ; have t2 : (2 : Int32).toInt = 2 := rfl ; have t3 : (3 : Int32).toInt = 3 := rfl ; have t4 : (4 : Int32).toInt = 4 := rfl ; have t5 : (5 : Int32).toInt = 5 := rfl ; have t31 : (31 : Int32).toInt = 31 := rfl ; have t127 : (127 : Int32).toInt = 127 := rfl ; have t159 : (159 : Int32).toInt = 159 := rfl ; have t65535 : (65535 : Int32).toInt = 65535 := rfl; unfold ctl; omega)⟩⟩
theorem d19_0 : decode jdk_89_method_89_code 0 = .ok (.iload_n 0, 1) := by decide +kernel
theorem d19_1 : decode jdk_89_method_89_code 1 = .ok (.sipush 159, 3) := by decide +kernel
theorem d19_4 : decode jdk_89_method_89_code 4 = .ok (.if_icmp .gt 19, 3) := by decide +kernel
theorem d19_7 : decode jdk_89_method_89_code 7 = .ok (.iload_n 0, 1) := by decide +kernel
theorem d19_8 : decode jdk_89_method_89_code 8 = .ok (.bipush 127, 2) := by decide +kernel
theorem d19_10 : decode jdk_89_method_89_code 10 = .ok (.if_icmp .ge 9, 3) := by decide +kernel
theorem d19_13 : decode jdk_89_method_89_code 13 = .ok (.iload_n 0, 1) := by decide +kernel
theorem d19_14 : decode jdk_89_method_89_code 14 = .ok (.iconst 5, 1) := by decide +kernel
theorem d19_15 : decode jdk_89_method_89_code 15 = .ok (.iushr, 1) := by decide +kernel
theorem d19_16 : decode jdk_89_method_89_code 16 = .ok (.ifCond .ne 7, 3) := by decide +kernel
theorem d19_19 : decode jdk_89_method_89_code 19 = .ok (.iconst 1, 1) := by decide +kernel
theorem d19_20 : decode jdk_89_method_89_code 20 = .ok (.goto 4, 3) := by decide +kernel
theorem d19_23 : decode jdk_89_method_89_code 23 = .ok (.iconst 0, 1) := by decide +kernel
theorem d19_24 : decode jdk_89_method_89_code 24 = .ok (.ireturn, 1) := by decide +kernel
abbrev b_iso : Bx := (⟨"java/lang/Character", "isISOControl", "(I)Z"⟩, jdk_89_method_89_code, 1, some .boolean, { frames := 0, cells := 0, slots := 0, locals := 0 })
theorem c_iso (V : Vw) (hw : ∀ d ∈ tables_1, d.before V.a0 V.Z = true) (c : Int32) (hc : U6 c) (h : Heap) (ps : List Addr) : Con V b_iso #[.int c] h ps (Qsm (ctl c) h) := Con.of (plainFor_of_name pn_4) (L := [.val (.int c)]) rfl fun K => by
  refine r_iloadN 1 rfl d19_0 rfl ?_
  refine r_sipush (159 : Int32) 4 rfl d19_1 rfl ?_
  refine r_icmp_gt 23 7 d19_4 (by decide) rfl rfl (fun c479 => ?_) (fun c479 => ?_)
  · refine r_iconst (0 : Int32) 24 rfl d19_23 rfl ?_
    refine r_nret (t := .boolean) (0 : Int32) rfl (by simp) rfl d19_24 (by decide) (by decide) [] (fun _ q => nomatch q) ?_
    exact ⟨_, rfl, rfl, Or.inr ⟨rfl, (by simp only [Int32.lt_iff_toInt_lt] at c479; have a := u6_int hc; have t0 : (0 : Int32).toInt = 0 := rfl ; have t1 : (1 : Int32).toInt = 1 := rfl ; have t2 : (2 : Int32).toInt = 2 := rfl ; have t3 : (3 : Int32).toInt = 3 := rfl ; have t4 : (4 : Int32).toInt = 4 := rfl ; have t5 : (5 : Int32).toInt = 5 := rfl ; have t31 : (31 : Int32).toInt = 31 := rfl ; have t127 : (127 : Int32).toInt = 127 := rfl ; have t159 : (159 : Int32).toInt = 159 := rfl ; have t65535 : (65535 : Int32).toInt = 65535 := rfl; unfold ctl; omega)⟩⟩
  refine r_iloadN 8 rfl d19_7 rfl ?_
  refine r_bipush (127 : Int32) 10 rfl d19_8 rfl ?_
  refine r_icmp_ge 19 13 d19_10 (by decide) rfl rfl (fun c480 => ?_) (fun c480 => ?_)
  · refine r_iconst (1 : Int32) 20 rfl d19_19 rfl ?_
    refine r_goto 24 d19_20 (by decide) rfl ?_
    refine r_nret (t := .boolean) (1 : Int32) rfl (by simp) rfl d19_24 (by decide) (by decide) [] (fun _ q => nomatch q) ?_
    exact ⟨_, rfl, rfl, Or.inl ⟨rfl, (by simp only [Int32.lt_iff_toInt_lt] at c479 c480; have a := u6_int hc; have t0 : (0 : Int32).toInt = 0 := rfl ; have t1 : (1 : Int32).toInt = 1 := rfl ; have t2 : (2 : Int32).toInt = 2 := rfl ; have t3 : (3 : Int32).toInt = 3 := rfl ; have t4 : (4 : Int32).toInt = 4 := rfl ; have t5 : (5 : Int32).toInt = 5 := rfl ; have t31 : (31 : Int32).toInt = 31 := rfl ; have t127 : (127 : Int32).toInt = 127 := rfl ; have t159 : (159 : Int32).toInt = 159 := rfl ; have t65535 : (65535 : Int32).toInt = 65535 := rfl; unfold ctl; omega)⟩⟩
  refine r_iloadN 14 rfl d19_13 rfl ?_
  refine r_iconst (5 : Int32) 15 rfl d19_14 rfl ?_
  refine r_iushr 16 rfl d19_15 ?_
  refine r_if_ne 23 19 d19_16 (by decide) rfl rfl (fun c481 => ?_) (fun c481 => ?_)
  · refine r_iconst (0 : Int32) 24 rfl d19_23 rfl ?_
    refine r_nret (t := .boolean) (0 : Int32) rfl (by simp) rfl d19_24 (by decide) (by decide) [] (fun _ q => nomatch q) ?_
    exact ⟨_, rfl, rfl, Or.inr ⟨rfl, (by have z := mt (ush5 hc).mpr c481; simp only [Int32.lt_iff_toInt_lt] at c480; have a := u6_int hc; have t0 : (0 : Int32).toInt = 0 := rfl ; have t1 : (1 : Int32).toInt = 1 := rfl ; have t2 : (2 : Int32).toInt = 2 := rfl ; have t3 : (3 : Int32).toInt = 3 := rfl ; have t4 : (4 : Int32).toInt = 4 := rfl ; have t5 : (5 : Int32).toInt = 5 := rfl ; have t31 : (31 : Int32).toInt = 31 := rfl ; have t127 : (127 : Int32).toInt = 127 := rfl ; have t159 : (159 : Int32).toInt = 159 := rfl ; have t65535 : (65535 : Int32).toInt = 65535 := rfl; unfold ctl; omega)⟩⟩
  · refine r_iconst (1 : Int32) 20 rfl d19_19 rfl ?_
    refine r_goto 24 d19_20 (by decide) rfl ?_
    refine r_nret (t := .boolean) (1 : Int32) rfl (by simp) rfl d19_24 (by decide) (by decide) [] (fun _ q => nomatch q) ?_
    exact ⟨_, rfl, rfl, Or.inl ⟨rfl, Or.inl ((ush5 hc).mp c481)⟩⟩
theorem d20_0 : decode jdk_89_method_88_code 0 = .ok (.iload_n 0, 1) := by decide +kernel
theorem d20_1 : decode jdk_89_method_88_code 1 = .ok (.invokestatic 266, 3) := by decide +kernel
theorem d20_4 : decode jdk_89_method_88_code 4 = .ok (.ireturn, 1) := by decide +kernel
abbrev b_isoC : Bx := (⟨"java/lang/Character", "isISOControl", "(C)Z"⟩, jdk_89_method_88_code, 1, some .boolean, { frames := 1, cells := 0, slots := 0, locals := 14 })
theorem c_isoC (V : Vw) (hw : ∀ d ∈ tables_1, d.before V.a0 V.Z = true) (c : Int32) (hc : U6 c) (h : Heap) (ps : List Addr) : Con V b_isoC #[.int c] h ps (Qsm (ctl c) h) := Con.of (plainFor_of_name pn_4) (L := [.val (.int c)]) rfl fun K => by
  refine r_iloadN 1 rfl d20_0 rfl ?_
  refine r_static 4 rfl d20_1 (wd hw 86 rfl) (wd hw 87 rfl) (wd hw 84 rfl) (wd hw 88 rfl) (by decide) (Pays.con (K := K) (B := b_isoC) (c_iso V hw c hc h _) (wd hw 88 rfl) (wd hw 84 rfl) (by decide) (by decide)) (W := 0) (argsL := [.int c]) (lenOf pd_16 rfl) rfl rfl rfl (Nat.le_of_eq rfl) (Nat.le_of_ble_eq_true rfl) (Nat.le_of_ble_eq_true rfl) fun v485 h486 ps482 q484 z483 => ?_
  obtain ⟨e, rfl, es487, he⟩ := q484
  subst h486
  show Own.Run V K b_isoC _ h _ 0 0 4 [.val (.int c)] [.int e]
  refine r_nret (t := .boolean) e rfl (by simp) (bnar he) d20_4 (by decide) (by decide) [] (fun _ q => nomatch q) ?_
  exact ⟨_, rfl, rfl, he⟩
theorem d21_0 : decode prog_9_method_4_code 0 = .ok (.iconst 0, 1) := by decide +kernel
theorem d21_1 : decode prog_9_method_4_code 1 = .ok (.istore_n 1, 1) := by decide +kernel
theorem d21_2 : decode prog_9_method_4_code 2 = .ok (.iload_n 1, 1) := by decide +kernel
theorem d21_3 : decode prog_9_method_4_code 3 = .ok (.aload_n 0, 1) := by decide +kernel
theorem d21_4 : decode prog_9_method_4_code 4 = .ok (.invokevirtual 43, 3) := by decide +kernel
theorem d21_7 : decode prog_9_method_4_code 7 = .ok (.if_icmp .ge 22, 3) := by decide +kernel
theorem d21_10 : decode prog_9_method_4_code 10 = .ok (.aload_n 0, 1) := by decide +kernel
theorem d21_11 : decode prog_9_method_4_code 11 = .ok (.iload_n 1, 1) := by decide +kernel
theorem d21_12 : decode prog_9_method_4_code 12 = .ok (.invokevirtual 48, 3) := by decide +kernel
theorem d21_15 : decode prog_9_method_4_code 15 = .ok (.invokestatic 52, 3) := by decide +kernel
theorem d21_18 : decode prog_9_method_4_code 18 = .ok (.ifCond .eq 5, 3) := by decide +kernel
theorem d21_21 : decode prog_9_method_4_code 21 = .ok (.iconst 0, 1) := by decide +kernel
theorem d21_22 : decode prog_9_method_4_code 22 = .ok (.ireturn, 1) := by decide +kernel
theorem d21_23 : decode prog_9_method_4_code 23 = .ok (.iinc 1 1, 3) := by decide +kernel
theorem d21_26 : decode prog_9_method_4_code 26 = .ok (.goto (-24), 3) := by decide +kernel
theorem d21_29 : decode prog_9_method_4_code 29 = .ok (.iconst 1, 1) := by decide +kernel
theorem d21_30 : decode prog_9_method_4_code 30 = .ok (.ireturn, 1) := by decide +kernel
abbrev b_prn : Bx := (⟨"com/example/linetally/linetally/io/Fields", "printable", "(Ljava/lang/String;)Z"⟩, prog_9_method_4_code, 2, some .boolean, { frames := 5, cells := 0, slots := 0, locals := 92 })
theorem c_prn (V : Vw) (hw : ∀ d ∈ tables_1, d.before V.a0 V.Z = true) (cz : Int32) (hCS : Sta V.Z V.Z.heap "java/lang/String" "COMPACT_STRINGS" "Z" (.int cz)) (hcz : ¬ cz = 0) (fm : Value) (hFM : Sta V.Z V.Z.heap "jdk/internal/util/Preconditions" "SIOOBE_FORMATTER" "Ljava/util/function/BiFunction;" fm) (rf : fm.isRef = true) (hAD : Sta V.Z V.Z.heap "java/lang/StringUTF16" "$assertionsDisabled" "Z" (.int 1)) (hHI : Sta V.Z V.Z.heap "java/lang/StringUTF16" "HI_BYTE_SHIFT" "I" (.int 0)) (hLO : Sta V.Z V.Z.heap "java/lang/StringUTF16" "LO_BYTE_SHIFT" "I" (.int 8)) (x m : Nat) (cs : List Int32) (hl : cs.length ≤ 1000) (hU : ∀ c ∈ cs, U6 c) (h : Heap) (ps : List Addr) (S : Str V h m x cs) : Con V b_prn #[.ref x] h ps (Qsm (∀ c ∈ cs, ¬ ctl c) h) := Con.of (plainFor_of_name pn_5) (L := [.val (.ref x), .unset]) rfl fun K => by
  refine Run.old fun OX => ?_
  have loop : ∀ k i, i + k = cs.length → (∀ j, j < i → ¬ ctl (cs.getD j 0)) → ∀ pX : List Addr, Own.Run V K b_prn (Qsm (∀ c ∈ cs, ¬ ctl c) h) h pX 0 0 2 [.val (.ref x), .val (.int (Int32.ofNat i))] [] := by
    intro k
    induction k with
    | zero =>
      intro i hi hj pX
      refine r_iloadN 3 rfl d21_2 rfl ?_
      refine r_aloadN 4 rfl d21_3 rfl rfl ?_
      refine r_virtual 7 rfl d21_4 (wd hw 36 rfl) (wd hw 37 rfl) (wd hw 39 rfl) (wd hw 38 rfl) (nfS (wd hw 39 rfl)) (by decide) S.exa (pay_len V hw K b_prn 1 x m cs h _ S OX cz hCS hcz (by decide) (by decide)) (W := 1) (argsL := []) (lenOf pd_18 rfl) rfl rfl rfl (Nat.le_of_eq rfl) (Nat.le_of_ble_eq_true rfl) (Nat.le_of_ble_eq_true rfl) fun v491 h492 ps488 q490 z489 => ?_
      obtain ⟨rfl, es493⟩ := q490
      subst h492
      show Own.Run V K b_prn _ h _ 0 0 7 [.val (.ref x), .val (.int (Int32.ofNat i))] [.int (Int32.ofNat cs.length), .int (Int32.ofNat i)]
      refine r_icmp_ge 29 10 d21_7 (by decide) rfl rfl (fun c494 => ?_) (fun c494 => ?_)
      rotate_left
      · exact absurd ((ofN_lt (by omega) (by omega)).mp c494) (by omega)
      refine r_iconst (1 : Int32) 30 rfl d21_29 rfl ?_
      refine r_nret (t := .boolean) (1 : Int32) rfl (by simp) rfl d21_30 (by decide) (by decide) [] (fun _ q => nomatch q) ?_
      exact ⟨_, rfl, rfl, Or.inl ⟨rfl, fun c hc => by
        obtain ⟨j, hj1, hj2⟩ := List.getElem_of_mem hc
        have := hj j (by omega)
        simpa [List.getD_eq_getElem?_getD, hj1, hj2] using this⟩⟩
    | succ k ih =>
      intro i hi hj pX
      have hlt : i < cs.length := by omega
      have hm : cs.getD i 0 ∈ cs := by simp [List.getD_eq_getElem?_getD, hlt]
      refine r_iloadN 3 rfl d21_2 rfl ?_
      refine r_aloadN 4 rfl d21_3 rfl rfl ?_
      refine r_virtual 7 rfl d21_4 (wd hw 36 rfl) (wd hw 37 rfl) (wd hw 39 rfl) (wd hw 38 rfl) (nfS (wd hw 39 rfl)) (by decide) S.exa (pay_len V hw K b_prn 1 x m cs h _ S OX cz hCS hcz (by decide) (by decide)) (W := 1) (argsL := []) (lenOf pd_18 rfl) rfl rfl rfl (Nat.le_of_eq rfl) (Nat.le_of_ble_eq_true rfl) (Nat.le_of_ble_eq_true rfl) fun v498 h499 ps495 q497 z496 => ?_
      obtain ⟨rfl, es500⟩ := q497
      subst h499
      show Own.Run V K b_prn _ h _ 0 0 7 [.val (.ref x), .val (.int (Int32.ofNat i))] [.int (Int32.ofNat cs.length), .int (Int32.ofNat i)]
      refine r_icmp_ge 29 10 d21_7 (by decide) rfl rfl (fun c501 => ?_) (fun c501 => ?_)
      · exact absurd ((ofN_lt (by omega) (by omega)).mpr hlt) c501
      refine r_aloadN 11 rfl d21_10 rfl rfl ?_
      refine r_iloadN 12 rfl d21_11 rfl ?_
      refine r_virtual 15 rfl d21_12 (wd hw 60 rfl) (wd hw 61 rfl) (wd hw 63 rfl) (wd hw 62 rfl) (nfS (wd hw 63 rfl)) (by decide) S.exa (pay_chA V hw K b_prn 0 cz hCS hcz fm hFM rf hAD hHI hLO x m i cs h _ S hl hlt OX (by decide) (by decide)) (W := 0) (argsL := [.int (Int32.ofNat i)]) (lenOf pd_14 rfl) rfl rfl rfl (Nat.le_of_eq rfl) (Nat.le_of_ble_eq_true rfl) (Nat.le_of_ble_eq_true rfl) fun v505 h506 ps502 q504 z503 => ?_
      obtain ⟨rfl, es507⟩ := q504
      subst h506
      show Own.Run V K b_prn _ h _ 0 0 15 [.val (.ref x), .val (.int (Int32.ofNat i))] [.int (cs.getD i 0)]
      refine r_static 18 rfl d21_15 (wd hw 82 rfl) (wd hw 83 rfl) (wd hw 84 rfl) (wd hw 85 rfl) (by decide) (Pays.con (K := K) (B := b_prn) (c_isoC V hw (cs.getD i 0) (hU _ hm) h _) (wd hw 85 rfl) (wd hw 84 rfl) (by decide) (by decide)) (W := 0) (argsL := [.int (cs.getD i 0)]) (lenOf pd_15 rfl) rfl rfl rfl (Nat.le_of_eq rfl) (Nat.le_of_ble_eq_true rfl) (Nat.le_of_ble_eq_true rfl) fun v511 h512 ps508 q510 z509 => ?_
      obtain ⟨e, rfl, es513, he⟩ := q510
      subst h512
      show Own.Run V K b_prn _ h _ 0 0 18 [.val (.ref x), .val (.int (Int32.ofNat i))] [.int e]
      refine r_if_eq 23 21 d21_18 (by decide) rfl rfl (fun c514 => ?_) (fun c514 => ?_)
      · refine r_iinc (1) [.val (.ref x), .val (.int ((Int32.ofNat i) + (1 : Int32)))] 26 rfl d21_23 rfl rfl rfl ?_
        refine r_goto 2 d21_26 (by decide) rfl ?_
        rw [ofN_s]
        exact ih (i + 1) (by omega) (fun j hj' => by rcases Nat.lt_succ_iff_lt_or_eq.mp hj' with q | rfl; exact hj j q; exact bf he c514) _
      · refine r_iconst (0 : Int32) 22 rfl d21_21 rfl ?_
        refine r_nret (t := .boolean) (0 : Int32) rfl (by simp) rfl d21_22 (by decide) (by decide) [] (fun _ q => nomatch q) ?_
        exact ⟨_, rfl, rfl, Or.inr ⟨rfl, fun q => q _ hm (bt he c514)⟩⟩
  refine r_iconst (0 : Int32) 1 rfl d21_0 rfl ?_
  refine r_istoreN [.val (.ref x), .val (.int (0 : Int32))] 2 rfl d21_1 rfl ?_
  exact loop cs.length 0 (by omega) (fun j hj => absurd hj (Nat.not_lt_zero j)) _
theorem d22_0 : decode method_5_code 0 = .ok (.iload_n 0, 1) := by decide +kernel
theorem d22_1 : decode method_5_code 1 = .ok (.ifCond .ne 14, 3) := by decide +kernel
theorem d22_4 : decode method_5_code 4 = .ok (.new 30, 3) := by decide +kernel
theorem d22_7 : decode method_5_code 7 = .ok (.dup, 1) := by decide +kernel
theorem d22_8 : decode method_5_code 8 = .ok (.iconst 0, 1) := by decide +kernel
theorem d22_9 : decode method_5_code 9 = .ok (.newarray .char, 2) := by decide +kernel
theorem d22_11 : decode method_5_code 11 = .ok (.invokespecial 32, 3) := by decide +kernel
theorem d22_14 : decode method_5_code 14 = .ok (.areturn, 1) := by decide +kernel
theorem d22_15 : decode method_5_code 15 = .ok (.iload_n 0, 1) := by decide +kernel
theorem d22_16 : decode method_5_code 16 = .ok (.iconst 1, 1) := by decide +kernel
theorem d22_17 : decode method_5_code 17 = .ok (.if_icmp .ne 18, 3) := by decide +kernel
theorem d22_20 : decode method_5_code 20 = .ok (.new 30, 3) := by decide +kernel
theorem d22_23 : decode method_5_code 23 = .ok (.dup, 1) := by decide +kernel
theorem d22_24 : decode method_5_code 24 = .ok (.iconst 1, 1) := by decide +kernel
theorem d22_25 : decode method_5_code 25 = .ok (.newarray .char, 2) := by decide +kernel
theorem d22_27 : decode method_5_code 27 = .ok (.dup, 1) := by decide +kernel
theorem d22_28 : decode method_5_code 28 = .ok (.iconst 0, 1) := by decide +kernel
theorem d22_29 : decode method_5_code 29 = .ok (.iload_n 1, 1) := by decide +kernel
theorem d22_30 : decode method_5_code 30 = .ok (.castore, 1) := by decide +kernel
theorem d22_31 : decode method_5_code 31 = .ok (.invokespecial 32, 3) := by decide +kernel
theorem d22_34 : decode method_5_code 34 = .ok (.areturn, 1) := by decide +kernel
theorem d22_35 : decode method_5_code 35 = .ok (.iload_n 0, 1) := by decide +kernel
theorem d22_36 : decode method_5_code 36 = .ok (.iconst 2, 1) := by decide +kernel
theorem d22_37 : decode method_5_code 37 = .ok (.if_icmp .ne 22, 3) := by decide +kernel
theorem d22_40 : decode method_5_code 40 = .ok (.new 30, 3) := by decide +kernel
theorem d22_43 : decode method_5_code 43 = .ok (.dup, 1) := by decide +kernel
theorem d22_44 : decode method_5_code 44 = .ok (.iconst 2, 1) := by decide +kernel
theorem d22_45 : decode method_5_code 45 = .ok (.newarray .char, 2) := by decide +kernel
theorem d22_47 : decode method_5_code 47 = .ok (.dup, 1) := by decide +kernel
theorem d22_48 : decode method_5_code 48 = .ok (.iconst 0, 1) := by decide +kernel
theorem d22_49 : decode method_5_code 49 = .ok (.iload_n 1, 1) := by decide +kernel
theorem d22_50 : decode method_5_code 50 = .ok (.castore, 1) := by decide +kernel
theorem d22_51 : decode method_5_code 51 = .ok (.dup, 1) := by decide +kernel
theorem d22_52 : decode method_5_code 52 = .ok (.iconst 1, 1) := by decide +kernel
theorem d22_53 : decode method_5_code 53 = .ok (.iload_n 2, 1) := by decide +kernel
theorem d22_54 : decode method_5_code 54 = .ok (.castore, 1) := by decide +kernel
theorem d22_55 : decode method_5_code 55 = .ok (.invokespecial 32, 3) := by decide +kernel
theorem d22_58 : decode method_5_code 58 = .ok (.areturn, 1) := by decide +kernel
theorem d22_59 : decode method_5_code 59 = .ok (.iload_n 0, 1) := by decide +kernel
theorem d22_60 : decode method_5_code 60 = .ok (.iconst 3, 1) := by decide +kernel
theorem d22_61 : decode method_5_code 61 = .ok (.if_icmp .ne 26, 3) := by decide +kernel
theorem d22_64 : decode method_5_code 64 = .ok (.new 30, 3) := by decide +kernel
theorem d22_67 : decode method_5_code 67 = .ok (.dup, 1) := by decide +kernel
theorem d22_68 : decode method_5_code 68 = .ok (.iconst 3, 1) := by decide +kernel
theorem d22_69 : decode method_5_code 69 = .ok (.newarray .char, 2) := by decide +kernel
theorem d22_71 : decode method_5_code 71 = .ok (.dup, 1) := by decide +kernel
theorem d22_72 : decode method_5_code 72 = .ok (.iconst 0, 1) := by decide +kernel
theorem d22_73 : decode method_5_code 73 = .ok (.iload_n 1, 1) := by decide +kernel
theorem d22_74 : decode method_5_code 74 = .ok (.castore, 1) := by decide +kernel
theorem d22_75 : decode method_5_code 75 = .ok (.dup, 1) := by decide +kernel
theorem d22_76 : decode method_5_code 76 = .ok (.iconst 1, 1) := by decide +kernel
theorem d22_77 : decode method_5_code 77 = .ok (.iload_n 2, 1) := by decide +kernel
theorem d22_78 : decode method_5_code 78 = .ok (.castore, 1) := by decide +kernel
theorem d22_79 : decode method_5_code 79 = .ok (.dup, 1) := by decide +kernel
theorem d22_80 : decode method_5_code 80 = .ok (.iconst 2, 1) := by decide +kernel
theorem d22_81 : decode method_5_code 81 = .ok (.iload_n 3, 1) := by decide +kernel
theorem d22_82 : decode method_5_code 82 = .ok (.castore, 1) := by decide +kernel
theorem d22_83 : decode method_5_code 83 = .ok (.invokespecial 32, 3) := by decide +kernel
theorem d22_86 : decode method_5_code 86 = .ok (.areturn, 1) := by decide +kernel
theorem d22_87 : decode method_5_code 87 = .ok (.new 30, 3) := by decide +kernel
theorem d22_90 : decode method_5_code 90 = .ok (.dup, 1) := by decide +kernel
theorem d22_91 : decode method_5_code 91 = .ok (.iconst 4, 1) := by decide +kernel
theorem d22_92 : decode method_5_code 92 = .ok (.newarray .char, 2) := by decide +kernel
theorem d22_94 : decode method_5_code 94 = .ok (.dup, 1) := by decide +kernel
theorem d22_95 : decode method_5_code 95 = .ok (.iconst 0, 1) := by decide +kernel
theorem d22_96 : decode method_5_code 96 = .ok (.iload_n 1, 1) := by decide +kernel
theorem d22_97 : decode method_5_code 97 = .ok (.castore, 1) := by decide +kernel
theorem d22_98 : decode method_5_code 98 = .ok (.dup, 1) := by decide +kernel
theorem d22_99 : decode method_5_code 99 = .ok (.iconst 1, 1) := by decide +kernel
theorem d22_100 : decode method_5_code 100 = .ok (.iload_n 2, 1) := by decide +kernel
theorem d22_101 : decode method_5_code 101 = .ok (.castore, 1) := by decide +kernel
theorem d22_102 : decode method_5_code 102 = .ok (.dup, 1) := by decide +kernel
theorem d22_103 : decode method_5_code 103 = .ok (.iconst 2, 1) := by decide +kernel
theorem d22_104 : decode method_5_code 104 = .ok (.iload_n 3, 1) := by decide +kernel
theorem d22_105 : decode method_5_code 105 = .ok (.castore, 1) := by decide +kernel
theorem d22_106 : decode method_5_code 106 = .ok (.dup, 1) := by decide +kernel
theorem d22_107 : decode method_5_code 107 = .ok (.iconst 3, 1) := by decide +kernel
theorem d22_108 : decode method_5_code 108 = .ok (.iload 4, 2) := by decide +kernel
theorem d22_110 : decode method_5_code 110 = .ok (.castore, 1) := by decide +kernel
theorem d22_111 : decode method_5_code 111 = .ok (.invokespecial 32, 3) := by decide +kernel
theorem d22_114 : decode method_5_code 114 = .ok (.areturn, 1) := by decide +kernel
abbrev b_make : Bx := (⟨"com/example/linetally/linetally/io/FieldsPrintablePinLaw", "make", "(ICCCC)Ljava/lang/String;"⟩, method_5_code, 5, some (.object "java/lang/String"), { frames := 6, cells := 6, slots := 40, locals := 120 })
def mk (n c0 c1 c2 c3 : Int32) : List Int32 := if n = 0 then [] else if n = 1 then [c0] else if n = 2 then [c0, c1] else if n = 3 then [c0, c1, c2] else [c0, c1, c2, c3]
theorem c_make (V : Vw) (hw : ∀ d ∈ tables_1, d.before V.a0 V.Z = true) (hm : ("java/lang/String", 7) ∈ V.EL) (hn : V.nar = false) (cz : Int32) (hCS : Sta V.Z V.Z.heap "java/lang/String" "COMPACT_STRINGS" "Z" (.int cz)) (hcz : ¬ cz = 0) (hAD : Sta V.Z V.Z.heap "java/lang/StringUTF16" "$assertionsDisabled" "Z" (.int 1)) (hHI : Sta V.Z V.Z.heap "java/lang/StringUTF16" "HI_BYTE_SHIFT" "I" (.int 0)) (hLO : Sta V.Z V.Z.heap "java/lang/StringUTF16" "LO_BYTE_SHIFT" "I" (.int 8)) (n c0 c1 c2 c3 : Int32) (hc0 : U6 c0) (hc1 : U6 c1) (hc2 : U6 c2) (hc3 : U6 c3) (h : Heap) (ps : List Addr) : Con V b_make #[.int n, .int c0, .int c1, .int c2, .int c3] h ps (Qmk V (mk n c0 c1 c2 c3) h) := Con.of (plainFor_of_name pn_3) (L := [.val (.int n), .val (.int c0), .val (.int c1), .val (.int c2), .val (.int c3)]) rfl fun K => by
  refine r_iloadN 1 rfl d22_0 rfl ?_
  refine r_if_ne 15 4 d22_1 (by decide) rfl rfl (fun c515 => ?_) (fun c515 => ?_)
  rotate_left
  · refine r_new 7 rfl d22_4 (wd hw 10 rfl) (wd hw 11 rfl) (wd hw 12 rfl) (by decide) (by decide) fun a516 h517 ga516 za516 Eh517 Xa516 Da516 => ?_
    have sh517 := Eh517.1
    have la516 := ltN Xa516.lt
    have f518 : Fld V.Z h517 a516 "java/lang/String" "value" "[B" (.null) := Da516 (Or.inr (wd hw 26 rfl)) (ty := (.array .byte)) (by decide)
    have f519 : Fld V.Z h517 a516 "java/lang/String" "coder" "B" (.int (0 : Int32)) := Da516 (Or.inr (wd hw 27 rfl)) (ty := .byte) (by decide)
    refine r_dup 8 rfl d22_7 rfl ?_
    refine r_iconst (0 : Int32) 9 rfl d22_8 rfl ?_
    refine r_newarray 0 11 rfl d22_9 (wd hw 13 rfl) (by decide) (by decide) (by decide) (by decide) (by decide) fun a520 h521 k522 ga520 za520 Eh521 Aa520 => ?_
    have f523 := Exa.ext Eh521 Xa516
    have f524 := Fld.ext Eh521 f518
    have f525 := Fld.ext Eh521 f519
    have sh521 := Eh521.1
    have la520 := ltN Aa520.lt
    have f526 : Arv V.Z h521 a520 k522 .char (0 : Int32) [] (.int 0) := Arv.pad Aa520 (pad_rep [] (.int 0) 0)
    refine Run.old fun OX => ?_
    have EX := Ext.trans' Eh517 Eh521
    have lx' : a516 < h521.size := by omega
    refine r_special 14 rfl d22_11 rfl (wd hw 14 rfl) (wd hw 15 rfl) (wd hw 16 rfl) (by decide) (pay_newE V hw K b_make 1 hm hn a516 a520 _ _ _ h521 _ za516 (by simp) f523 f524 f525 f526 (by decide) (by decide)) (W := 1) (argsL := [.ref a520]) (lenOf pd_1 rfl) rfl rfl rfl (Nat.le_of_eq rfl) (Nat.le_of_ble_eq_true rfl) (Nat.le_of_ble_eq_true rfl) fun v530 h531 ps527 q529 z528 => ?_
    obtain ⟨rfl, K1, S1⟩ := q529
    show Own.Run V K b_make _ h531 _ 6 12 14 [.val (.int n), .val (.int c0), .val (.int c1), .val (.int c2), .val (.int c3)] [.ref a516]
    refine r_aret (t := (.object "java/lang/String")) rfl rfl rfl d22_14 (by decide) (by decide) [] (fun _ q => nomatch q) ?_
    exact ⟨_, rfl, Keep.ext0 EX K1 (fun w hw' => by cases List.mem_singleton.mp hw'; exact leA (by omega)), by rw [show mk n c0 c1 c2 c3 = ([] : List Int32) from if_pos c515]; exact S1⟩
  refine r_iloadN 16 rfl d22_15 rfl ?_
  refine r_iconst (1 : Int32) 17 rfl d22_16 rfl ?_
  refine r_icmp_ne 35 20 d22_17 (by decide) rfl rfl (fun c532 => ?_) (fun c532 => ?_)
  rotate_left
  · refine r_new 23 rfl d22_20 (wd hw 10 rfl) (wd hw 11 rfl) (wd hw 12 rfl) (by decide) (by decide) fun a533 h534 ga533 za533 Eh534 Xa533 Da533 => ?_
    have sh534 := Eh534.1
    have la533 := ltN Xa533.lt
    have f535 : Fld V.Z h534 a533 "java/lang/String" "value" "[B" (.null) := Da533 (Or.inr (wd hw 26 rfl)) (ty := (.array .byte)) (by decide)
    have f536 : Fld V.Z h534 a533 "java/lang/String" "coder" "B" (.int (0 : Int32)) := Da533 (Or.inr (wd hw 27 rfl)) (ty := .byte) (by decide)
    refine r_dup 24 rfl d22_23 rfl ?_
    refine r_iconst (1 : Int32) 25 rfl d22_24 rfl ?_
    refine r_newarray 1 27 rfl d22_25 (wd hw 13 rfl) (by decide) (by decide) (by decide) (by decide) (by decide) fun a537 h538 k539 ga537 za537 Eh538 Aa537 => ?_
    have f540 := Exa.ext Eh538 Xa533
    have f541 := Fld.ext Eh538 f535
    have f542 := Fld.ext Eh538 f536
    have sh538 := Eh538.1
    have la537 := ltN Aa537.lt
    have f543 : Arv V.Z h538 a537 k539 .char (1 : Int32) [.int 0] (.int 0) := Arv.pad Aa537 (pad_rep [] (.int 0) 1)
    refine r_dup 28 rfl d22_27 rfl ?_
    refine r_iconst (0 : Int32) 29 rfl d22_28 rfl ?_
    refine r_iloadN 30 rfl d22_29 rfl ?_
    refine r_castore 0 31 rfl d22_30 f543 (by decide) rfl (Nat.le_of_ble_eq_true rfl) za537 c0 (nu6 hc0) fun h544 Wh544 f545 => ?_
    have sh544 := Wh544.size
    have f546 := Exa.wr Wh544 f540
    have f547 := Fld.other Wh544 f541 (Or.inl (neA (by omega)))
    have f548 := Fld.other Wh544 f542 (Or.inl (neA (by omega)))
    replace f545 : Arv V.Z h544 a537 k539 .char (1 : Int32) [.int c0] (.int 0) := f545
    refine Run.old fun OX => ?_
    have EX := Ext.wr0 (Ext.trans' Eh534 Eh538) Wh544 (by omega)
    have lx' : a533 < h544.size := by omega
    by_cases hwd : ∃ c ∈ ([c0] : List Int32), 255 < c
    · refine r_special 34 rfl d22_31 rfl (wd hw 14 rfl) (wd hw 15 rfl) (wd hw 16 rfl) (by decide) (Pays.con (K := K) (B := b_make) (c_n11 V hw cz hCS hcz hAD hHI hLO c0 hc0 hwd h544 _ a537 _ f545 a533 za533 (by simp) f546 f547 f548) (wd hw 16 rfl) (wd hw 12 rfl) (by decide) (by decide)) (W := 1) (argsL := [.ref a537]) (lenOf pd_1 rfl) rfl rfl rfl (Nat.le_of_eq rfl) (Nat.le_of_ble_eq_true rfl) (Nat.le_of_ble_eq_true rfl) fun v552 h553 ps549 q551 z550 => ?_
      obtain ⟨rfl, K1, S1⟩ := q551
      show Own.Run V K b_make _ h553 _ 4 17 34 [.val (.int n), .val (.int c0), .val (.int c1), .val (.int c2), .val (.int c3)] [.ref a533]
      refine r_aret (t := (.object "java/lang/String")) rfl rfl rfl d22_34 (by decide) (by decide) [] (fun _ q => nomatch q) ?_
      exact ⟨_, rfl, Keep.ext0 EX K1 (fun w hw' => by cases List.mem_singleton.mp hw'; exact leA (by omega)), by rw [show mk n c0 c1 c2 c3 = ([c0] : List Int32) from (if_neg c515).trans (if_pos c532)]; exact S1⟩
    · have hby : ∀ c ∈ ([c0] : List Int32), By c := fun c hc => ⟨((uS hc0 u0) c hc).1, fun q => hwd ⟨c, hc, q⟩⟩
      refine r_special 34 rfl d22_31 rfl (wd hw 14 rfl) (wd hw 15 rfl) (wd hw 16 rfl) (by decide) (pay_newN V hw K b_make 1 a533 a537 _ ([c0] : List Int32) _ h544 _ _ _ _ za533 (Nat.le_trans za533 (Nat.le_of_lt lx')) f546 f547 f548 f545 OX cz hCS hcz rfl (Nat.le_of_ble_eq_true rfl) (Nat.le_of_ble_eq_true rfl) hby (by simp) (by decide) (by decide)) (W := 1) (argsL := [.ref a537]) (lenOf pd_1 rfl) rfl rfl rfl (Nat.le_of_eq rfl) (Nat.le_of_ble_eq_true rfl) (Nat.le_of_ble_eq_true rfl) fun v557 h558 ps554 q556 z555 => ?_
      obtain ⟨rfl, K1, S1⟩ := q556
      show Own.Run V K b_make _ h558 _ 3 6 34 [.val (.int n), .val (.int c0), .val (.int c1), .val (.int c2), .val (.int c3)] [.ref a533]
      refine r_aret (t := (.object "java/lang/String")) rfl rfl rfl d22_34 (by decide) (by decide) [] (fun _ q => nomatch q) ?_
      exact ⟨_, rfl, Keep.ext0 EX K1 (fun w hw' => by cases List.mem_singleton.mp hw'; exact leA (by omega)), by rw [show mk n c0 c1 c2 c3 = ([c0] : List Int32) from (if_neg c515).trans (if_pos c532)]; exact S1⟩
  refine r_iloadN 36 rfl d22_35 rfl ?_
  refine r_iconst (2 : Int32) 37 rfl d22_36 rfl ?_
  refine r_icmp_ne 59 40 d22_37 (by decide) rfl rfl (fun c559 => ?_) (fun c559 => ?_)
  rotate_left
  · refine r_new 43 rfl d22_40 (wd hw 10 rfl) (wd hw 11 rfl) (wd hw 12 rfl) (by decide) (by decide) fun a560 h561 ga560 za560 Eh561 Xa560 Da560 => ?_
    have sh561 := Eh561.1
    have la560 := ltN Xa560.lt
    have f562 : Fld V.Z h561 a560 "java/lang/String" "value" "[B" (.null) := Da560 (Or.inr (wd hw 26 rfl)) (ty := (.array .byte)) (by decide)
    have f563 : Fld V.Z h561 a560 "java/lang/String" "coder" "B" (.int (0 : Int32)) := Da560 (Or.inr (wd hw 27 rfl)) (ty := .byte) (by decide)
    refine r_dup 44 rfl d22_43 rfl ?_
    refine r_iconst (2 : Int32) 45 rfl d22_44 rfl ?_
    refine r_newarray 2 47 rfl d22_45 (wd hw 13 rfl) (by decide) (by decide) (by decide) (by decide) (by decide) fun a564 h565 k566 ga564 za564 Eh565 Aa564 => ?_
    have f567 := Exa.ext Eh565 Xa560
    have f568 := Fld.ext Eh565 f562
    have f569 := Fld.ext Eh565 f563
    have sh565 := Eh565.1
    have la564 := ltN Aa564.lt
    have f570 : Arv V.Z h565 a564 k566 .char (2 : Int32) [.int 0, .int 0] (.int 0) := Arv.pad Aa564 (pad_rep [] (.int 0) 2)
    refine r_dup 48 rfl d22_47 rfl ?_
    refine r_iconst (0 : Int32) 49 rfl d22_48 rfl ?_
    refine r_iloadN 50 rfl d22_49 rfl ?_
    refine r_castore 0 51 rfl d22_50 f570 (by decide) rfl (Nat.le_of_ble_eq_true rfl) za564 c0 (nu6 hc0) fun h571 Wh571 f572 => ?_
    have sh571 := Wh571.size
    have f573 := Exa.wr Wh571 f567
    have f574 := Fld.other Wh571 f568 (Or.inl (neA (by omega)))
    have f575 := Fld.other Wh571 f569 (Or.inl (neA (by omega)))
    replace f572 : Arv V.Z h571 a564 k566 .char (2 : Int32) [.int c0, .int 0] (.int 0) := f572
    refine r_dup 52 rfl d22_51 rfl ?_
    refine r_iconst (1 : Int32) 53 rfl d22_52 rfl ?_
    refine r_iloadN 54 rfl d22_53 rfl ?_
    refine r_castore 1 55 rfl d22_54 f572 (by decide) rfl (Nat.le_of_ble_eq_true rfl) za564 c1 (nu6 hc1) fun h576 Wh576 f577 => ?_
    have sh576 := Wh576.size
    have f578 := Exa.wr Wh576 f573
    have f579 := Fld.other Wh576 f574 (Or.inl (neA (by omega)))
    have f580 := Fld.other Wh576 f575 (Or.inl (neA (by omega)))
    replace f577 : Arv V.Z h576 a564 k566 .char (2 : Int32) [.int c0, .int c1] (.int 0) := f577
    refine Run.old fun OX => ?_
    have EX := Ext.wr0 (Ext.wr0 (Ext.trans' Eh561 Eh565) Wh571 (by omega)) Wh576 (by omega)
    have lx' : a560 < h576.size := by omega
    by_cases hwd : ∃ c ∈ ([c0, c1] : List Int32), 255 < c
    · refine r_special 58 rfl d22_55 rfl (wd hw 14 rfl) (wd hw 15 rfl) (wd hw 16 rfl) (by decide) (Pays.con (K := K) (B := b_make) (c_n12 V hw cz hCS hcz hAD hHI hLO c0 c1 hc0 hc1 hwd h576 _ a564 _ f577 a560 za560 (by simp) f578 f579 f580) (wd hw 16 rfl) (wd hw 12 rfl) (by decide) (by decide)) (W := 1) (argsL := [.ref a564]) (lenOf pd_1 rfl) rfl rfl rfl (Nat.le_of_eq rfl) (Nat.le_of_ble_eq_true rfl) (Nat.le_of_ble_eq_true rfl) fun v584 h585 ps581 q583 z582 => ?_
      obtain ⟨rfl, K1, S1⟩ := q583
      show Own.Run V K b_make _ h585 _ 4 18 58 [.val (.int n), .val (.int c0), .val (.int c1), .val (.int c2), .val (.int c3)] [.ref a560]
      refine r_aret (t := (.object "java/lang/String")) rfl rfl rfl d22_58 (by decide) (by decide) [] (fun _ q => nomatch q) ?_
      exact ⟨_, rfl, Keep.ext0 EX K1 (fun w hw' => by cases List.mem_singleton.mp hw'; exact leA (by omega)), by rw [show mk n c0 c1 c2 c3 = ([c0, c1] : List Int32) from (if_neg c515).trans ((if_neg c532).trans (if_pos c559))]; exact S1⟩
    · have hby : ∀ c ∈ ([c0, c1] : List Int32), By c := fun c hc => ⟨((uS hc0 (uS hc1 u0)) c hc).1, fun q => hwd ⟨c, hc, q⟩⟩
      refine r_special 58 rfl d22_55 rfl (wd hw 14 rfl) (wd hw 15 rfl) (wd hw 16 rfl) (by decide) (pay_newN V hw K b_make 1 a560 a564 _ ([c0, c1] : List Int32) _ h576 _ _ _ _ za560 (Nat.le_trans za560 (Nat.le_of_lt lx')) f578 f579 f580 f577 OX cz hCS hcz rfl (Nat.le_of_ble_eq_true rfl) (Nat.le_of_ble_eq_true rfl) hby (by simp) (by decide) (by decide)) (W := 1) (argsL := [.ref a564]) (lenOf pd_1 rfl) rfl rfl rfl (Nat.le_of_eq rfl) (Nat.le_of_ble_eq_true rfl) (Nat.le_of_ble_eq_true rfl) fun v589 h590 ps586 q588 z587 => ?_
      obtain ⟨rfl, K1, S1⟩ := q588
      show Own.Run V K b_make _ h590 _ 3 8 58 [.val (.int n), .val (.int c0), .val (.int c1), .val (.int c2), .val (.int c3)] [.ref a560]
      refine r_aret (t := (.object "java/lang/String")) rfl rfl rfl d22_58 (by decide) (by decide) [] (fun _ q => nomatch q) ?_
      exact ⟨_, rfl, Keep.ext0 EX K1 (fun w hw' => by cases List.mem_singleton.mp hw'; exact leA (by omega)), by rw [show mk n c0 c1 c2 c3 = ([c0, c1] : List Int32) from (if_neg c515).trans ((if_neg c532).trans (if_pos c559))]; exact S1⟩
  refine r_iloadN 60 rfl d22_59 rfl ?_
  refine r_iconst (3 : Int32) 61 rfl d22_60 rfl ?_
  refine r_icmp_ne 87 64 d22_61 (by decide) rfl rfl (fun c591 => ?_) (fun c591 => ?_)
  rotate_left
  · refine r_new 67 rfl d22_64 (wd hw 10 rfl) (wd hw 11 rfl) (wd hw 12 rfl) (by decide) (by decide) fun a592 h593 ga592 za592 Eh593 Xa592 Da592 => ?_
    have sh593 := Eh593.1
    have la592 := ltN Xa592.lt
    have f594 : Fld V.Z h593 a592 "java/lang/String" "value" "[B" (.null) := Da592 (Or.inr (wd hw 26 rfl)) (ty := (.array .byte)) (by decide)
    have f595 : Fld V.Z h593 a592 "java/lang/String" "coder" "B" (.int (0 : Int32)) := Da592 (Or.inr (wd hw 27 rfl)) (ty := .byte) (by decide)
    refine r_dup 68 rfl d22_67 rfl ?_
    refine r_iconst (3 : Int32) 69 rfl d22_68 rfl ?_
    refine r_newarray 3 71 rfl d22_69 (wd hw 13 rfl) (by decide) (by decide) (by decide) (by decide) (by decide) fun a596 h597 k598 ga596 za596 Eh597 Aa596 => ?_
    have f599 := Exa.ext Eh597 Xa592
    have f600 := Fld.ext Eh597 f594
    have f601 := Fld.ext Eh597 f595
    have sh597 := Eh597.1
    have la596 := ltN Aa596.lt
    have f602 : Arv V.Z h597 a596 k598 .char (3 : Int32) [.int 0, .int 0, .int 0] (.int 0) := Arv.pad Aa596 (pad_rep [] (.int 0) 3)
    refine r_dup 72 rfl d22_71 rfl ?_
    refine r_iconst (0 : Int32) 73 rfl d22_72 rfl ?_
    refine r_iloadN 74 rfl d22_73 rfl ?_
    refine r_castore 0 75 rfl d22_74 f602 (by decide) rfl (Nat.le_of_ble_eq_true rfl) za596 c0 (nu6 hc0) fun h603 Wh603 f604 => ?_
    have sh603 := Wh603.size
    have f605 := Exa.wr Wh603 f599
    have f606 := Fld.other Wh603 f600 (Or.inl (neA (by omega)))
    have f607 := Fld.other Wh603 f601 (Or.inl (neA (by omega)))
    replace f604 : Arv V.Z h603 a596 k598 .char (3 : Int32) [.int c0, .int 0, .int 0] (.int 0) := f604
    refine r_dup 76 rfl d22_75 rfl ?_
    refine r_iconst (1 : Int32) 77 rfl d22_76 rfl ?_
    refine r_iloadN 78 rfl d22_77 rfl ?_
    refine r_castore 1 79 rfl d22_78 f604 (by decide) rfl (Nat.le_of_ble_eq_true rfl) za596 c1 (nu6 hc1) fun h608 Wh608 f609 => ?_
    have sh608 := Wh608.size
    have f610 := Exa.wr Wh608 f605
    have f611 := Fld.other Wh608 f606 (Or.inl (neA (by omega)))
    have f612 := Fld.other Wh608 f607 (Or.inl (neA (by omega)))
    replace f609 : Arv V.Z h608 a596 k598 .char (3 : Int32) [.int c0, .int c1, .int 0] (.int 0) := f609
    refine r_dup 80 rfl d22_79 rfl ?_
    refine r_iconst (2 : Int32) 81 rfl d22_80 rfl ?_
    refine r_iloadN 82 rfl d22_81 rfl ?_
    refine r_castore 2 83 rfl d22_82 f609 (by decide) rfl (Nat.le_of_ble_eq_true rfl) za596 c2 (nu6 hc2) fun h613 Wh613 f614 => ?_
    have sh613 := Wh613.size
    have f615 := Exa.wr Wh613 f610
    have f616 := Fld.other Wh613 f611 (Or.inl (neA (by omega)))
    have f617 := Fld.other Wh613 f612 (Or.inl (neA (by omega)))
    replace f614 : Arv V.Z h613 a596 k598 .char (3 : Int32) [.int c0, .int c1, .int c2] (.int 0) := f614
    refine Run.old fun OX => ?_
    have EX := Ext.wr0 (Ext.wr0 (Ext.wr0 (Ext.trans' Eh593 Eh597) Wh603 (by omega)) Wh608 (by omega)) Wh613 (by omega)
    have lx' : a592 < h613.size := by omega
    by_cases hwd : ∃ c ∈ ([c0, c1, c2] : List Int32), 255 < c
    · refine r_special 86 rfl d22_83 rfl (wd hw 14 rfl) (wd hw 15 rfl) (wd hw 16 rfl) (by decide) (Pays.con (K := K) (B := b_make) (c_n13 V hw cz hCS hcz hAD hHI hLO c0 c1 c2 hc0 hc1 hc2 hwd h613 _ a596 _ f614 a592 za592 (by simp) f615 f616 f617) (wd hw 16 rfl) (wd hw 12 rfl) (by decide) (by decide)) (W := 1) (argsL := [.ref a596]) (lenOf pd_1 rfl) rfl rfl rfl (Nat.le_of_eq rfl) (Nat.le_of_ble_eq_true rfl) (Nat.le_of_ble_eq_true rfl) fun v621 h622 ps618 q620 z619 => ?_
      obtain ⟨rfl, K1, S1⟩ := q620
      show Own.Run V K b_make _ h622 _ 4 19 86 [.val (.int n), .val (.int c0), .val (.int c1), .val (.int c2), .val (.int c3)] [.ref a592]
      refine r_aret (t := (.object "java/lang/String")) rfl rfl rfl d22_86 (by decide) (by decide) [] (fun _ q => nomatch q) ?_
      exact ⟨_, rfl, Keep.ext0 EX K1 (fun w hw' => by cases List.mem_singleton.mp hw'; exact leA (by omega)), by rw [show mk n c0 c1 c2 c3 = ([c0, c1, c2] : List Int32) from (if_neg c515).trans ((if_neg c532).trans ((if_neg c559).trans (if_pos c591)))]; exact S1⟩
    · have hby : ∀ c ∈ ([c0, c1, c2] : List Int32), By c := fun c hc => ⟨((uS hc0 (uS hc1 (uS hc2 u0))) c hc).1, fun q => hwd ⟨c, hc, q⟩⟩
      refine r_special 86 rfl d22_83 rfl (wd hw 14 rfl) (wd hw 15 rfl) (wd hw 16 rfl) (by decide) (pay_newN V hw K b_make 1 a592 a596 _ ([c0, c1, c2] : List Int32) _ h613 _ _ _ _ za592 (Nat.le_trans za592 (Nat.le_of_lt lx')) f615 f616 f617 f614 OX cz hCS hcz rfl (Nat.le_of_ble_eq_true rfl) (Nat.le_of_ble_eq_true rfl) hby (by simp) (by decide) (by decide)) (W := 1) (argsL := [.ref a596]) (lenOf pd_1 rfl) rfl rfl rfl (Nat.le_of_eq rfl) (Nat.le_of_ble_eq_true rfl) (Nat.le_of_ble_eq_true rfl) fun v626 h627 ps623 q625 z624 => ?_
      obtain ⟨rfl, K1, S1⟩ := q625
      show Own.Run V K b_make _ h627 _ 3 10 86 [.val (.int n), .val (.int c0), .val (.int c1), .val (.int c2), .val (.int c3)] [.ref a592]
      refine r_aret (t := (.object "java/lang/String")) rfl rfl rfl d22_86 (by decide) (by decide) [] (fun _ q => nomatch q) ?_
      exact ⟨_, rfl, Keep.ext0 EX K1 (fun w hw' => by cases List.mem_singleton.mp hw'; exact leA (by omega)), by rw [show mk n c0 c1 c2 c3 = ([c0, c1, c2] : List Int32) from (if_neg c515).trans ((if_neg c532).trans ((if_neg c559).trans (if_pos c591)))]; exact S1⟩
  refine r_new 90 rfl d22_87 (wd hw 10 rfl) (wd hw 11 rfl) (wd hw 12 rfl) (by decide) (by decide) fun a628 h629 ga628 za628 Eh629 Xa628 Da628 => ?_
  have sh629 := Eh629.1
  have la628 := ltN Xa628.lt
  have f630 : Fld V.Z h629 a628 "java/lang/String" "value" "[B" (.null) := Da628 (Or.inr (wd hw 26 rfl)) (ty := (.array .byte)) (by decide)
  have f631 : Fld V.Z h629 a628 "java/lang/String" "coder" "B" (.int (0 : Int32)) := Da628 (Or.inr (wd hw 27 rfl)) (ty := .byte) (by decide)
  refine r_dup 91 rfl d22_90 rfl ?_
  refine r_iconst (4 : Int32) 92 rfl d22_91 rfl ?_
  refine r_newarray 4 94 rfl d22_92 (wd hw 13 rfl) (by decide) (by decide) (by decide) (by decide) (by decide) fun a632 h633 k634 ga632 za632 Eh633 Aa632 => ?_
  have f635 := Exa.ext Eh633 Xa628
  have f636 := Fld.ext Eh633 f630
  have f637 := Fld.ext Eh633 f631
  have sh633 := Eh633.1
  have la632 := ltN Aa632.lt
  have f638 : Arv V.Z h633 a632 k634 .char (4 : Int32) [.int 0, .int 0, .int 0, .int 0] (.int 0) := Arv.pad Aa632 (pad_rep [] (.int 0) 4)
  refine r_dup 95 rfl d22_94 rfl ?_
  refine r_iconst (0 : Int32) 96 rfl d22_95 rfl ?_
  refine r_iloadN 97 rfl d22_96 rfl ?_
  refine r_castore 0 98 rfl d22_97 f638 (by decide) rfl (Nat.le_of_ble_eq_true rfl) za632 c0 (nu6 hc0) fun h639 Wh639 f640 => ?_
  have sh639 := Wh639.size
  have f641 := Exa.wr Wh639 f635
  have f642 := Fld.other Wh639 f636 (Or.inl (neA (by omega)))
  have f643 := Fld.other Wh639 f637 (Or.inl (neA (by omega)))
  replace f640 : Arv V.Z h639 a632 k634 .char (4 : Int32) [.int c0, .int 0, .int 0, .int 0] (.int 0) := f640
  refine r_dup 99 rfl d22_98 rfl ?_
  refine r_iconst (1 : Int32) 100 rfl d22_99 rfl ?_
  refine r_iloadN 101 rfl d22_100 rfl ?_
  refine r_castore 1 102 rfl d22_101 f640 (by decide) rfl (Nat.le_of_ble_eq_true rfl) za632 c1 (nu6 hc1) fun h644 Wh644 f645 => ?_
  have sh644 := Wh644.size
  have f646 := Exa.wr Wh644 f641
  have f647 := Fld.other Wh644 f642 (Or.inl (neA (by omega)))
  have f648 := Fld.other Wh644 f643 (Or.inl (neA (by omega)))
  replace f645 : Arv V.Z h644 a632 k634 .char (4 : Int32) [.int c0, .int c1, .int 0, .int 0] (.int 0) := f645
  refine r_dup 103 rfl d22_102 rfl ?_
  refine r_iconst (2 : Int32) 104 rfl d22_103 rfl ?_
  refine r_iloadN 105 rfl d22_104 rfl ?_
  refine r_castore 2 106 rfl d22_105 f645 (by decide) rfl (Nat.le_of_ble_eq_true rfl) za632 c2 (nu6 hc2) fun h649 Wh649 f650 => ?_
  have sh649 := Wh649.size
  have f651 := Exa.wr Wh649 f646
  have f652 := Fld.other Wh649 f647 (Or.inl (neA (by omega)))
  have f653 := Fld.other Wh649 f648 (Or.inl (neA (by omega)))
  replace f650 : Arv V.Z h649 a632 k634 .char (4 : Int32) [.int c0, .int c1, .int c2, .int 0] (.int 0) := f650
  refine r_dup 107 rfl d22_106 rfl ?_
  refine r_iconst (3 : Int32) 108 rfl d22_107 rfl ?_
  refine r_iload 110 rfl d22_108 rfl ?_
  refine r_castore 3 111 rfl d22_110 f650 (by decide) rfl (Nat.le_of_ble_eq_true rfl) za632 c3 (nu6 hc3) fun h654 Wh654 f655 => ?_
  have sh654 := Wh654.size
  have f656 := Exa.wr Wh654 f651
  have f657 := Fld.other Wh654 f652 (Or.inl (neA (by omega)))
  have f658 := Fld.other Wh654 f653 (Or.inl (neA (by omega)))
  replace f655 : Arv V.Z h654 a632 k634 .char (4 : Int32) [.int c0, .int c1, .int c2, .int c3] (.int 0) := f655
  refine Run.old fun OX => ?_
  have EX := Ext.wr0 (Ext.wr0 (Ext.wr0 (Ext.wr0 (Ext.trans' Eh629 Eh633) Wh639 (by omega)) Wh644 (by omega)) Wh649 (by omega)) Wh654 (by omega)
  have lx' : a628 < h654.size := by omega
  by_cases hwd : ∃ c ∈ ([c0, c1, c2, c3] : List Int32), 255 < c
  · refine r_special 114 rfl d22_111 rfl (wd hw 14 rfl) (wd hw 15 rfl) (wd hw 16 rfl) (by decide) (Pays.con (K := K) (B := b_make) (c_n14 V hw cz hCS hcz hAD hHI hLO c0 c1 c2 c3 hc0 hc1 hc2 hc3 hwd h654 _ a632 _ f655 a628 za628 (by simp) f656 f657 f658) (wd hw 16 rfl) (wd hw 12 rfl) (by decide) (by decide)) (W := 1) (argsL := [.ref a632]) (lenOf pd_1 rfl) rfl rfl rfl (Nat.le_of_eq rfl) (Nat.le_of_ble_eq_true rfl) (Nat.le_of_ble_eq_true rfl) fun v662 h663 ps659 q661 z660 => ?_
    obtain ⟨rfl, K1, S1⟩ := q661
    show Own.Run V K b_make _ h663 _ 4 20 114 [.val (.int n), .val (.int c0), .val (.int c1), .val (.int c2), .val (.int c3)] [.ref a628]
    refine r_aret (t := (.object "java/lang/String")) rfl rfl rfl d22_114 (by decide) (by decide) [] (fun _ q => nomatch q) ?_
    exact ⟨_, rfl, Keep.ext0 EX K1 (fun w hw' => by cases List.mem_singleton.mp hw'; exact leA (by omega)), by rw [show mk n c0 c1 c2 c3 = ([c0, c1, c2, c3] : List Int32) from (if_neg c515).trans ((if_neg c532).trans ((if_neg c559).trans (if_neg c591)))]; exact S1⟩
  · have hby : ∀ c ∈ ([c0, c1, c2, c3] : List Int32), By c := fun c hc => ⟨((uS hc0 (uS hc1 (uS hc2 (uS hc3 u0)))) c hc).1, fun q => hwd ⟨c, hc, q⟩⟩
    refine r_special 114 rfl d22_111 rfl (wd hw 14 rfl) (wd hw 15 rfl) (wd hw 16 rfl) (by decide) (pay_newN V hw K b_make 1 a628 a632 _ ([c0, c1, c2, c3] : List Int32) _ h654 _ _ _ _ za628 (Nat.le_trans za628 (Nat.le_of_lt lx')) f656 f657 f658 f655 OX cz hCS hcz rfl (Nat.le_of_ble_eq_true rfl) (Nat.le_of_ble_eq_true rfl) hby (by simp) (by decide) (by decide)) (W := 1) (argsL := [.ref a632]) (lenOf pd_1 rfl) rfl rfl rfl (Nat.le_of_eq rfl) (Nat.le_of_ble_eq_true rfl) (Nat.le_of_ble_eq_true rfl) fun v667 h668 ps664 q666 z665 => ?_
    obtain ⟨rfl, K1, S1⟩ := q666
    show Own.Run V K b_make _ h668 _ 3 12 114 [.val (.int n), .val (.int c0), .val (.int c1), .val (.int c2), .val (.int c3)] [.ref a628]
    refine r_aret (t := (.object "java/lang/String")) rfl rfl rfl d22_114 (by decide) (by decide) [] (fun _ q => nomatch q) ?_
    exact ⟨_, rfl, Keep.ext0 EX K1 (fun w hw' => by cases List.mem_singleton.mp hw'; exact leA (by omega)), by rw [show mk n c0 c1 c2 c3 = ([c0, c1, c2, c3] : List Int32) from (if_neg c515).trans ((if_neg c532).trans ((if_neg c559).trans (if_neg c591)))]; exact S1⟩
abbrev b_law : Bx := (x, code, maxLocals, ret, room_1)
def Q1 : Qt := fun v _ _ => v = some (.int 1)
theorem c_law (V : Vw) (hw : ∀ d ∈ tables_1, d.before V.a0 V.Z = true) (hm : ("java/lang/String", 7) ∈ V.EL) (hn : V.nar = false) (cz : Int32) (hCS : Sta V.Z V.Z.heap "java/lang/String" "COMPACT_STRINGS" "Z" (.int cz)) (hcz : ¬ cz = 0) (fm : Value) (hFM : Sta V.Z V.Z.heap "jdk/internal/util/Preconditions" "SIOOBE_FORMATTER" "Ljava/util/function/BiFunction;" fm) (rf : fm.isRef = true) (hAD : Sta V.Z V.Z.heap "java/lang/StringUTF16" "$assertionsDisabled" "Z" (.int 1)) (hHI : Sta V.Z V.Z.heap "java/lang/StringUTF16" "HI_BYTE_SHIFT" "I" (.int 0)) (hLO : Sta V.Z V.Z.heap "java/lang/StringUTF16" "LO_BYTE_SHIFT" "I" (.int 8)) (p0 p1 p2 p3 p4 : Int32) (h : Heap) : Con V b_law #[.int p0, .int p1, .int p2, .int p3, .int p4] h [] Q1 := Con.of (plainFor_of_name pn_3) (L := [.val (.int p0), .val (.int p1), .val (.int p2), .val (.int p3), .val (.int p4), .unset, .unset, .unset, .unset, .unset, .unset, .unset]) rfl fun K => by
  refine r_iloadN 1 rfl at_0 rfl ?_
  refine r_ldcI 3 rfl at_1 (wd hw 0 rfl) ?_
  refine r_iand 4 rfl at_3 ?_
  refine r_iconst (5 : Int32) 5 rfl at_4 rfl ?_
  refine r_irem 6 rfl at_5 (by decide) ?_
  refine r_gen fun k669 hk669 => ?_
  refine r_istore [.val (.int p0), .val (.int p1), .val (.int p2), .val (.int p3), .val (.int p4), .val (.int k669), .unset, .unset, .unset, .unset, .unset, .unset] 8 rfl at_6 rfl ?_
  have m5 := mod5 hk669
  refine r_iloadN 9 rfl at_8 rfl ?_
  refine r_static 12 rfl at_9 (wd hw 1 rfl) (wd hw 2 rfl) (wd hw 3 rfl) (wd hw 4 rfl) (by decide) (Pays.con (K := K) (B := b_law) (c_draw V hw p1 h _) (wd hw 4 rfl) (wd hw 3 rfl) (by decide) (by decide)) (W := 0) (argsL := [.int p1]) (lenOf pd_14 rfl) rfl rfl rfl (Nat.le_of_eq rfl) (Nat.le_of_ble_eq_true rfl) (Nat.le_of_ble_eq_true rfl) fun v673 h674 ps670 q672 z671 => ?_
  obtain ⟨c0, rfl, hc0, es675⟩ := q672
  subst h674
  show Own.Run V K b_law _ h _ 0 0 12 [.val (.int p0), .val (.int p1), .val (.int p2), .val (.int p3), .val (.int p4), .val (.int k669), .unset, .unset, .unset, .unset, .unset, .unset] [.int c0]
  refine r_istore [.val (.int p0), .val (.int p1), .val (.int p2), .val (.int p3), .val (.int p4), .val (.int k669), .val (.int c0), .unset, .unset, .unset, .unset, .unset] 14 rfl at_12 rfl ?_
  refine r_iloadN 15 rfl at_14 rfl ?_
  refine r_static 18 rfl at_15 (wd hw 1 rfl) (wd hw 2 rfl) (wd hw 3 rfl) (wd hw 4 rfl) (by decide) (Pays.con (K := K) (B := b_law) (c_draw V hw p2 h _) (wd hw 4 rfl) (wd hw 3 rfl) (by decide) (by decide)) (W := 0) (argsL := [.int p2]) (lenOf pd_14 rfl) rfl rfl rfl (Nat.le_of_eq rfl) (Nat.le_of_ble_eq_true rfl) (Nat.le_of_ble_eq_true rfl) fun v679 h680 ps676 q678 z677 => ?_
  obtain ⟨c1, rfl, hc1, es681⟩ := q678
  subst h680
  show Own.Run V K b_law _ h _ 0 0 18 [.val (.int p0), .val (.int p1), .val (.int p2), .val (.int p3), .val (.int p4), .val (.int k669), .val (.int c0), .unset, .unset, .unset, .unset, .unset] [.int c1]
  refine r_istore [.val (.int p0), .val (.int p1), .val (.int p2), .val (.int p3), .val (.int p4), .val (.int k669), .val (.int c0), .val (.int c1), .unset, .unset, .unset, .unset] 20 rfl at_18 rfl ?_
  refine r_iloadN 21 rfl at_20 rfl ?_
  refine r_static 24 rfl at_21 (wd hw 1 rfl) (wd hw 2 rfl) (wd hw 3 rfl) (wd hw 4 rfl) (by decide) (Pays.con (K := K) (B := b_law) (c_draw V hw p3 h _) (wd hw 4 rfl) (wd hw 3 rfl) (by decide) (by decide)) (W := 0) (argsL := [.int p3]) (lenOf pd_14 rfl) rfl rfl rfl (Nat.le_of_eq rfl) (Nat.le_of_ble_eq_true rfl) (Nat.le_of_ble_eq_true rfl) fun v685 h686 ps682 q684 z683 => ?_
  obtain ⟨c2, rfl, hc2, es687⟩ := q684
  subst h686
  show Own.Run V K b_law _ h _ 0 0 24 [.val (.int p0), .val (.int p1), .val (.int p2), .val (.int p3), .val (.int p4), .val (.int k669), .val (.int c0), .val (.int c1), .unset, .unset, .unset, .unset] [.int c2]
  refine r_istore [.val (.int p0), .val (.int p1), .val (.int p2), .val (.int p3), .val (.int p4), .val (.int k669), .val (.int c0), .val (.int c1), .val (.int c2), .unset, .unset, .unset] 26 rfl at_24 rfl ?_
  refine r_iload 28 rfl at_26 rfl ?_
  refine r_static 31 rfl at_28 (wd hw 1 rfl) (wd hw 2 rfl) (wd hw 3 rfl) (wd hw 4 rfl) (by decide) (Pays.con (K := K) (B := b_law) (c_draw V hw p4 h _) (wd hw 4 rfl) (wd hw 3 rfl) (by decide) (by decide)) (W := 0) (argsL := [.int p4]) (lenOf pd_14 rfl) rfl rfl rfl (Nat.le_of_eq rfl) (Nat.le_of_ble_eq_true rfl) (Nat.le_of_ble_eq_true rfl) fun v691 h692 ps688 q690 z689 => ?_
  obtain ⟨c3, rfl, hc3, es693⟩ := q690
  subst h692
  show Own.Run V K b_law _ h _ 0 0 31 [.val (.int p0), .val (.int p1), .val (.int p2), .val (.int p3), .val (.int p4), .val (.int k669), .val (.int c0), .val (.int c1), .val (.int c2), .unset, .unset, .unset] [.int c3]
  refine r_istore [.val (.int p0), .val (.int p1), .val (.int p2), .val (.int p3), .val (.int p4), .val (.int k669), .val (.int c0), .val (.int c1), .val (.int c2), .val (.int c3), .unset, .unset] 33 rfl at_31 rfl ?_
  refine r_iload 35 rfl at_33 rfl ?_
  refine r_iload 37 rfl at_35 rfl ?_
  refine r_iload 39 rfl at_37 rfl ?_
  refine r_iload 41 rfl at_39 rfl ?_
  refine r_iload 43 rfl at_41 rfl ?_
  refine r_static 46 rfl at_43 (wd hw 7 rfl) (wd hw 8 rfl) (wd hw 3 rfl) (wd hw 9 rfl) (by decide) (Pays.con (K := K) (B := b_law) (c_make V hw hm hn cz hCS hcz hAD hHI hLO k669 c0 c1 c2 c3 hc0 hc1 hc2 hc3 h _) (wd hw 9 rfl) (wd hw 3 rfl) (by decide) (by decide)) (W := 0) (argsL := [.int k669, .int c0, .int c1, .int c2, .int c3]) (lenOf pd_19 rfl) rfl rfl rfl (Nat.le_of_eq rfl) (Nat.le_of_ble_eq_true rfl) (Nat.le_of_ble_eq_true rfl) fun v697 h698 ps694 q696 z695 => ?_
  obtain ⟨xs, rfl, ES, SS⟩ := q696
  have sh698 := ES.1
  show Own.Run V K b_law _ h698 _ 6 40 46 [.val (.int p0), .val (.int p1), .val (.int p2), .val (.int p3), .val (.int p4), .val (.int k669), .val (.int c0), .val (.int c1), .val (.int c2), .val (.int c3), .unset, .unset] [.ref xs]
  refine r_astore [.val (.int p0), .val (.int p1), .val (.int p2), .val (.int p3), .val (.int p4), .val (.int k669), .val (.int c0), .val (.int c1), .val (.int c2), .val (.int c3), .val (.ref xs), .unset] 48 rfl at_46 rfl rfl ?_
  rcases m5 with rfl | rfl | rfl | rfl | rfl
  · have S2 : Str V h698 _ xs ([] : List Int32) := SS
    have hPR : (∀ c ∈ ([] : List Int32), ¬ ctl c) ↔ True := by simp
    have j109 : ∀ {pX : List Addr} (ex : Int32), (ex = 1 ∧ (∀ c ∈ ([] : List Int32), ¬ ctl c) ∨ ex = 0 ∧ ¬ (∀ c ∈ ([] : List Int32), ¬ ctl c)) → Own.Run V K b_law Q1 h698 pX 6 40 109 [.val (.int p0), .val (.int p1), .val (.int p2), .val (.int p3), .val (.int p4), .val (.int (0 : Int32)), .val (.int c0), .val (.int c1), .val (.int c2), .val (.int c3), .val (.ref xs), .unset] [.int ex] := by
      intro pX ex hex
      refine r_istore [.val (.int p0), .val (.int p1), .val (.int p2), .val (.int p3), .val (.int p4), .val (.int (0 : Int32)), .val (.int c0), .val (.int c1), .val (.int c2), .val (.int c3), .val (.ref xs), .val (.int ex)] 111 rfl at_109 rfl ?_
      refine r_aload 113 rfl at_111 rfl rfl ?_
      refine r_static 116 rfl at_113 (wd hw 32 rfl) (wd hw 33 rfl) (wd hw 34 rfl) (wd hw 35 rfl) (by decide) (Pays.con (K := K) (B := b_law) (c_prn V hw cz hCS hcz fm hFM rf hAD hHI hLO xs _ ([] : List Int32) (Nat.le_of_ble_eq_true rfl) u0 h698 _ S2) (wd hw 35 rfl) (wd hw 34 rfl) (by decide) (by decide)) (W := 0) (argsL := [.ref xs]) (lenOf pd_17 rfl) rfl rfl rfl (Nat.le_of_eq rfl) (Nat.le_of_ble_eq_true rfl) (Nat.le_of_ble_eq_true rfl) fun v702 h703 ps699 q701 z700 => ?_
      obtain ⟨e, rfl, es704, he⟩ := q701
      subst h703
      show Own.Run V K b_law _ h698 _ 6 40 116 [.val (.int p0), .val (.int p1), .val (.int p2), .val (.int p3), .val (.int p4), .val (.int (0 : Int32)), .val (.int c0), .val (.int c1), .val (.int c2), .val (.int c3), .val (.ref xs), .val (.int ex)] [.int e]
      refine r_iload 118 rfl at_116 rfl ?_
      refine r_icmp_ne 125 121 at_118 (by decide) rfl rfl (fun c705 => ?_) (fun c705 => ?_)
      · exact absurd (beq he hex Iff.rfl) c705
      refine r_iconst (1 : Int32) 122 rfl at_121 rfl ?_
      refine r_goto 126 at_122 (by decide) rfl ?_
      refine r_nret (t := .boolean) (1 : Int32) rfl (by simp) rfl at_126 (by decide) (by decide) [] (fun _ q => nomatch q) ?_
      rfl
    refine r_iload 50 rfl at_48 rfl ?_
    refine r_iconst (1 : Int32) 51 rfl at_50 rfl ?_
    refine r_icmp_lt 62 54 at_51 (by decide) rfl rfl (fun c706 => ?_) (fun c706 => ?_)
    rotate_left
    · exact absurd c706 (by decide)
    refine r_iload 64 rfl at_62 rfl ?_
    refine r_iconst (2 : Int32) 65 rfl at_64 rfl ?_
    refine r_icmp_lt 76 68 at_65 (by decide) rfl rfl (fun c707 => ?_) (fun c707 => ?_)
    rotate_left
    · exact absurd c707 (by decide)
    refine r_iload 78 rfl at_76 rfl ?_
    refine r_iconst (3 : Int32) 79 rfl at_78 rfl ?_
    refine r_icmp_lt 90 82 at_79 (by decide) rfl rfl (fun c708 => ?_) (fun c708 => ?_)
    rotate_left
    · exact absurd c708 (by decide)
    refine r_iload 92 rfl at_90 rfl ?_
    refine r_iconst (4 : Int32) 93 rfl at_92 rfl ?_
    refine r_icmp_lt 104 96 at_93 (by decide) rfl rfl (fun c709 => ?_) (fun c709 => ?_)
    rotate_left
    · exact absurd c709 (by decide)
    refine r_iconst (1 : Int32) 105 rfl at_104 rfl ?_
    refine r_goto 109 at_105 (by decide) rfl ?_
    exact j109 1 (Or.inl ⟨rfl, hPR.mpr trivial⟩)
  · have S2 : Str V h698 _ xs ([c0] : List Int32) := SS
    have hPR : (∀ c ∈ ([c0] : List Int32), ¬ ctl c) ↔ ¬ ctl c0 := by simp
    have j109 : ∀ {pX : List Addr} (ex : Int32), (ex = 1 ∧ (∀ c ∈ ([c0] : List Int32), ¬ ctl c) ∨ ex = 0 ∧ ¬ (∀ c ∈ ([c0] : List Int32), ¬ ctl c)) → Own.Run V K b_law Q1 h698 pX 6 40 109 [.val (.int p0), .val (.int p1), .val (.int p2), .val (.int p3), .val (.int p4), .val (.int (1 : Int32)), .val (.int c0), .val (.int c1), .val (.int c2), .val (.int c3), .val (.ref xs), .unset] [.int ex] := by
      intro pX ex hex
      refine r_istore [.val (.int p0), .val (.int p1), .val (.int p2), .val (.int p3), .val (.int p4), .val (.int (1 : Int32)), .val (.int c0), .val (.int c1), .val (.int c2), .val (.int c3), .val (.ref xs), .val (.int ex)] 111 rfl at_109 rfl ?_
      refine r_aload 113 rfl at_111 rfl rfl ?_
      refine r_static 116 rfl at_113 (wd hw 32 rfl) (wd hw 33 rfl) (wd hw 34 rfl) (wd hw 35 rfl) (by decide) (Pays.con (K := K) (B := b_law) (c_prn V hw cz hCS hcz fm hFM rf hAD hHI hLO xs _ ([c0] : List Int32) (Nat.le_of_ble_eq_true rfl) (uS hc0 u0) h698 _ S2) (wd hw 35 rfl) (wd hw 34 rfl) (by decide) (by decide)) (W := 0) (argsL := [.ref xs]) (lenOf pd_17 rfl) rfl rfl rfl (Nat.le_of_eq rfl) (Nat.le_of_ble_eq_true rfl) (Nat.le_of_ble_eq_true rfl) fun v713 h714 ps710 q712 z711 => ?_
      obtain ⟨e, rfl, es715, he⟩ := q712
      subst h714
      show Own.Run V K b_law _ h698 _ 6 40 116 [.val (.int p0), .val (.int p1), .val (.int p2), .val (.int p3), .val (.int p4), .val (.int (1 : Int32)), .val (.int c0), .val (.int c1), .val (.int c2), .val (.int c3), .val (.ref xs), .val (.int ex)] [.int e]
      refine r_iload 118 rfl at_116 rfl ?_
      refine r_icmp_ne 125 121 at_118 (by decide) rfl rfl (fun c716 => ?_) (fun c716 => ?_)
      · exact absurd (beq he hex Iff.rfl) c716
      refine r_iconst (1 : Int32) 122 rfl at_121 rfl ?_
      refine r_goto 126 at_122 (by decide) rfl ?_
      refine r_nret (t := .boolean) (1 : Int32) rfl (by simp) rfl at_126 (by decide) (by decide) [] (fun _ q => nomatch q) ?_
      rfl
    refine r_iload 50 rfl at_48 rfl ?_
    refine r_iconst (1 : Int32) 51 rfl at_50 rfl ?_
    refine r_icmp_lt 62 54 at_51 (by decide) rfl rfl (fun c717 => ?_) (fun c717 => ?_)
    · exact absurd c717 (by decide)
    refine r_iload 56 rfl at_54 rfl ?_
    refine r_static 59 rfl at_56 (wd hw 57 rfl) (wd hw 58 rfl) (wd hw 3 rfl) (wd hw 59 rfl) (by decide) (Pays.con (K := K) (B := b_law) (c_ctl V hw c0 hc0 h698 _) (wd hw 59 rfl) (wd hw 3 rfl) (by decide) (by decide)) (W := 0) (argsL := [.int c0]) (lenOf pd_15 rfl) rfl rfl rfl (Nat.le_of_eq rfl) (Nat.le_of_ble_eq_true rfl) (Nat.le_of_ble_eq_true rfl) fun v721 h722 ps718 q720 z719 => ?_
    obtain ⟨k0, rfl, es723, hk0⟩ := q720
    subst h722
    show Own.Run V K b_law _ h698 _ 6 40 59 [.val (.int p0), .val (.int p1), .val (.int p2), .val (.int p3), .val (.int p4), .val (.int (1 : Int32)), .val (.int c0), .val (.int c1), .val (.int c2), .val (.int c3), .val (.ref xs), .unset] [.int k0]
    refine r_if_ne 108 62 at_59 (by decide) rfl rfl (fun c724 => ?_) (fun c724 => ?_)
    · refine r_iconst (0 : Int32) 109 rfl at_108 rfl ?_
      exact j109 0 (Or.inr ⟨rfl, fun q => q c0 (by simp) (bt hk0 c724)⟩)
    refine r_iload 64 rfl at_62 rfl ?_
    refine r_iconst (2 : Int32) 65 rfl at_64 rfl ?_
    refine r_icmp_lt 76 68 at_65 (by decide) rfl rfl (fun c725 => ?_) (fun c725 => ?_)
    rotate_left
    · exact absurd c725 (by decide)
    refine r_iload 78 rfl at_76 rfl ?_
    refine r_iconst (3 : Int32) 79 rfl at_78 rfl ?_
    refine r_icmp_lt 90 82 at_79 (by decide) rfl rfl (fun c726 => ?_) (fun c726 => ?_)
    rotate_left
    · exact absurd c726 (by decide)
    refine r_iload 92 rfl at_90 rfl ?_
    refine r_iconst (4 : Int32) 93 rfl at_92 rfl ?_
    refine r_icmp_lt 104 96 at_93 (by decide) rfl rfl (fun c727 => ?_) (fun c727 => ?_)
    rotate_left
    · exact absurd c727 (by decide)
    refine r_iconst (1 : Int32) 105 rfl at_104 rfl ?_
    refine r_goto 109 at_105 (by decide) rfl ?_
    exact j109 1 (Or.inl ⟨rfl, hPR.mpr (bf hk0 c724)⟩)
  · have S2 : Str V h698 _ xs ([c0, c1] : List Int32) := SS
    have hPR : (∀ c ∈ ([c0, c1] : List Int32), ¬ ctl c) ↔ ¬ ctl c0 ∧ ¬ ctl c1 := by simp
    have j109 : ∀ {pX : List Addr} (ex : Int32), (ex = 1 ∧ (∀ c ∈ ([c0, c1] : List Int32), ¬ ctl c) ∨ ex = 0 ∧ ¬ (∀ c ∈ ([c0, c1] : List Int32), ¬ ctl c)) → Own.Run V K b_law Q1 h698 pX 6 40 109 [.val (.int p0), .val (.int p1), .val (.int p2), .val (.int p3), .val (.int p4), .val (.int (2 : Int32)), .val (.int c0), .val (.int c1), .val (.int c2), .val (.int c3), .val (.ref xs), .unset] [.int ex] := by
      intro pX ex hex
      refine r_istore [.val (.int p0), .val (.int p1), .val (.int p2), .val (.int p3), .val (.int p4), .val (.int (2 : Int32)), .val (.int c0), .val (.int c1), .val (.int c2), .val (.int c3), .val (.ref xs), .val (.int ex)] 111 rfl at_109 rfl ?_
      refine r_aload 113 rfl at_111 rfl rfl ?_
      refine r_static 116 rfl at_113 (wd hw 32 rfl) (wd hw 33 rfl) (wd hw 34 rfl) (wd hw 35 rfl) (by decide) (Pays.con (K := K) (B := b_law) (c_prn V hw cz hCS hcz fm hFM rf hAD hHI hLO xs _ ([c0, c1] : List Int32) (Nat.le_of_ble_eq_true rfl) (uS hc0 (uS hc1 u0)) h698 _ S2) (wd hw 35 rfl) (wd hw 34 rfl) (by decide) (by decide)) (W := 0) (argsL := [.ref xs]) (lenOf pd_17 rfl) rfl rfl rfl (Nat.le_of_eq rfl) (Nat.le_of_ble_eq_true rfl) (Nat.le_of_ble_eq_true rfl) fun v731 h732 ps728 q730 z729 => ?_
      obtain ⟨e, rfl, es733, he⟩ := q730
      subst h732
      show Own.Run V K b_law _ h698 _ 6 40 116 [.val (.int p0), .val (.int p1), .val (.int p2), .val (.int p3), .val (.int p4), .val (.int (2 : Int32)), .val (.int c0), .val (.int c1), .val (.int c2), .val (.int c3), .val (.ref xs), .val (.int ex)] [.int e]
      refine r_iload 118 rfl at_116 rfl ?_
      refine r_icmp_ne 125 121 at_118 (by decide) rfl rfl (fun c734 => ?_) (fun c734 => ?_)
      · exact absurd (beq he hex Iff.rfl) c734
      refine r_iconst (1 : Int32) 122 rfl at_121 rfl ?_
      refine r_goto 126 at_122 (by decide) rfl ?_
      refine r_nret (t := .boolean) (1 : Int32) rfl (by simp) rfl at_126 (by decide) (by decide) [] (fun _ q => nomatch q) ?_
      rfl
    refine r_iload 50 rfl at_48 rfl ?_
    refine r_iconst (1 : Int32) 51 rfl at_50 rfl ?_
    refine r_icmp_lt 62 54 at_51 (by decide) rfl rfl (fun c735 => ?_) (fun c735 => ?_)
    · exact absurd c735 (by decide)
    refine r_iload 56 rfl at_54 rfl ?_
    refine r_static 59 rfl at_56 (wd hw 57 rfl) (wd hw 58 rfl) (wd hw 3 rfl) (wd hw 59 rfl) (by decide) (Pays.con (K := K) (B := b_law) (c_ctl V hw c0 hc0 h698 _) (wd hw 59 rfl) (wd hw 3 rfl) (by decide) (by decide)) (W := 0) (argsL := [.int c0]) (lenOf pd_15 rfl) rfl rfl rfl (Nat.le_of_eq rfl) (Nat.le_of_ble_eq_true rfl) (Nat.le_of_ble_eq_true rfl) fun v739 h740 ps736 q738 z737 => ?_
    obtain ⟨k0, rfl, es741, hk0⟩ := q738
    subst h740
    show Own.Run V K b_law _ h698 _ 6 40 59 [.val (.int p0), .val (.int p1), .val (.int p2), .val (.int p3), .val (.int p4), .val (.int (2 : Int32)), .val (.int c0), .val (.int c1), .val (.int c2), .val (.int c3), .val (.ref xs), .unset] [.int k0]
    refine r_if_ne 108 62 at_59 (by decide) rfl rfl (fun c742 => ?_) (fun c742 => ?_)
    · refine r_iconst (0 : Int32) 109 rfl at_108 rfl ?_
      exact j109 0 (Or.inr ⟨rfl, fun q => q c0 (by simp) (bt hk0 c742)⟩)
    refine r_iload 64 rfl at_62 rfl ?_
    refine r_iconst (2 : Int32) 65 rfl at_64 rfl ?_
    refine r_icmp_lt 76 68 at_65 (by decide) rfl rfl (fun c743 => ?_) (fun c743 => ?_)
    · exact absurd c743 (by decide)
    refine r_iload 70 rfl at_68 rfl ?_
    refine r_static 73 rfl at_70 (wd hw 57 rfl) (wd hw 58 rfl) (wd hw 3 rfl) (wd hw 59 rfl) (by decide) (Pays.con (K := K) (B := b_law) (c_ctl V hw c1 hc1 h698 _) (wd hw 59 rfl) (wd hw 3 rfl) (by decide) (by decide)) (W := 0) (argsL := [.int c1]) (lenOf pd_15 rfl) rfl rfl rfl (Nat.le_of_eq rfl) (Nat.le_of_ble_eq_true rfl) (Nat.le_of_ble_eq_true rfl) fun v747 h748 ps744 q746 z745 => ?_
    obtain ⟨k1, rfl, es749, hk1⟩ := q746
    subst h748
    show Own.Run V K b_law _ h698 _ 6 40 73 [.val (.int p0), .val (.int p1), .val (.int p2), .val (.int p3), .val (.int p4), .val (.int (2 : Int32)), .val (.int c0), .val (.int c1), .val (.int c2), .val (.int c3), .val (.ref xs), .unset] [.int k1]
    refine r_if_ne 108 76 at_73 (by decide) rfl rfl (fun c750 => ?_) (fun c750 => ?_)
    · refine r_iconst (0 : Int32) 109 rfl at_108 rfl ?_
      exact j109 0 (Or.inr ⟨rfl, fun q => q c1 (by simp) (bt hk1 c750)⟩)
    refine r_iload 78 rfl at_76 rfl ?_
    refine r_iconst (3 : Int32) 79 rfl at_78 rfl ?_
    refine r_icmp_lt 90 82 at_79 (by decide) rfl rfl (fun c751 => ?_) (fun c751 => ?_)
    rotate_left
    · exact absurd c751 (by decide)
    refine r_iload 92 rfl at_90 rfl ?_
    refine r_iconst (4 : Int32) 93 rfl at_92 rfl ?_
    refine r_icmp_lt 104 96 at_93 (by decide) rfl rfl (fun c752 => ?_) (fun c752 => ?_)
    rotate_left
    · exact absurd c752 (by decide)
    refine r_iconst (1 : Int32) 105 rfl at_104 rfl ?_
    refine r_goto 109 at_105 (by decide) rfl ?_
    exact j109 1 (Or.inl ⟨rfl, hPR.mpr ⟨bf hk0 c742, bf hk1 c750⟩⟩)
  · have S2 : Str V h698 _ xs ([c0, c1, c2] : List Int32) := SS
    have hPR : (∀ c ∈ ([c0, c1, c2] : List Int32), ¬ ctl c) ↔ ¬ ctl c0 ∧ ¬ ctl c1 ∧ ¬ ctl c2 := by simp
    have j109 : ∀ {pX : List Addr} (ex : Int32), (ex = 1 ∧ (∀ c ∈ ([c0, c1, c2] : List Int32), ¬ ctl c) ∨ ex = 0 ∧ ¬ (∀ c ∈ ([c0, c1, c2] : List Int32), ¬ ctl c)) → Own.Run V K b_law Q1 h698 pX 6 40 109 [.val (.int p0), .val (.int p1), .val (.int p2), .val (.int p3), .val (.int p4), .val (.int (3 : Int32)), .val (.int c0), .val (.int c1), .val (.int c2), .val (.int c3), .val (.ref xs), .unset] [.int ex] := by
      intro pX ex hex
      refine r_istore [.val (.int p0), .val (.int p1), .val (.int p2), .val (.int p3), .val (.int p4), .val (.int (3 : Int32)), .val (.int c0), .val (.int c1), .val (.int c2), .val (.int c3), .val (.ref xs), .val (.int ex)] 111 rfl at_109 rfl ?_
      refine r_aload 113 rfl at_111 rfl rfl ?_
      refine r_static 116 rfl at_113 (wd hw 32 rfl) (wd hw 33 rfl) (wd hw 34 rfl) (wd hw 35 rfl) (by decide) (Pays.con (K := K) (B := b_law) (c_prn V hw cz hCS hcz fm hFM rf hAD hHI hLO xs _ ([c0, c1, c2] : List Int32) (Nat.le_of_ble_eq_true rfl) (uS hc0 (uS hc1 (uS hc2 u0))) h698 _ S2) (wd hw 35 rfl) (wd hw 34 rfl) (by decide) (by decide)) (W := 0) (argsL := [.ref xs]) (lenOf pd_17 rfl) rfl rfl rfl (Nat.le_of_eq rfl) (Nat.le_of_ble_eq_true rfl) (Nat.le_of_ble_eq_true rfl) fun v756 h757 ps753 q755 z754 => ?_
      obtain ⟨e, rfl, es758, he⟩ := q755
      subst h757
      show Own.Run V K b_law _ h698 _ 6 40 116 [.val (.int p0), .val (.int p1), .val (.int p2), .val (.int p3), .val (.int p4), .val (.int (3 : Int32)), .val (.int c0), .val (.int c1), .val (.int c2), .val (.int c3), .val (.ref xs), .val (.int ex)] [.int e]
      refine r_iload 118 rfl at_116 rfl ?_
      refine r_icmp_ne 125 121 at_118 (by decide) rfl rfl (fun c759 => ?_) (fun c759 => ?_)
      · exact absurd (beq he hex Iff.rfl) c759
      refine r_iconst (1 : Int32) 122 rfl at_121 rfl ?_
      refine r_goto 126 at_122 (by decide) rfl ?_
      refine r_nret (t := .boolean) (1 : Int32) rfl (by simp) rfl at_126 (by decide) (by decide) [] (fun _ q => nomatch q) ?_
      rfl
    refine r_iload 50 rfl at_48 rfl ?_
    refine r_iconst (1 : Int32) 51 rfl at_50 rfl ?_
    refine r_icmp_lt 62 54 at_51 (by decide) rfl rfl (fun c760 => ?_) (fun c760 => ?_)
    · exact absurd c760 (by decide)
    refine r_iload 56 rfl at_54 rfl ?_
    refine r_static 59 rfl at_56 (wd hw 57 rfl) (wd hw 58 rfl) (wd hw 3 rfl) (wd hw 59 rfl) (by decide) (Pays.con (K := K) (B := b_law) (c_ctl V hw c0 hc0 h698 _) (wd hw 59 rfl) (wd hw 3 rfl) (by decide) (by decide)) (W := 0) (argsL := [.int c0]) (lenOf pd_15 rfl) rfl rfl rfl (Nat.le_of_eq rfl) (Nat.le_of_ble_eq_true rfl) (Nat.le_of_ble_eq_true rfl) fun v764 h765 ps761 q763 z762 => ?_
    obtain ⟨k0, rfl, es766, hk0⟩ := q763
    subst h765
    show Own.Run V K b_law _ h698 _ 6 40 59 [.val (.int p0), .val (.int p1), .val (.int p2), .val (.int p3), .val (.int p4), .val (.int (3 : Int32)), .val (.int c0), .val (.int c1), .val (.int c2), .val (.int c3), .val (.ref xs), .unset] [.int k0]
    refine r_if_ne 108 62 at_59 (by decide) rfl rfl (fun c767 => ?_) (fun c767 => ?_)
    · refine r_iconst (0 : Int32) 109 rfl at_108 rfl ?_
      exact j109 0 (Or.inr ⟨rfl, fun q => q c0 (by simp) (bt hk0 c767)⟩)
    refine r_iload 64 rfl at_62 rfl ?_
    refine r_iconst (2 : Int32) 65 rfl at_64 rfl ?_
    refine r_icmp_lt 76 68 at_65 (by decide) rfl rfl (fun c768 => ?_) (fun c768 => ?_)
    · exact absurd c768 (by decide)
    refine r_iload 70 rfl at_68 rfl ?_
    refine r_static 73 rfl at_70 (wd hw 57 rfl) (wd hw 58 rfl) (wd hw 3 rfl) (wd hw 59 rfl) (by decide) (Pays.con (K := K) (B := b_law) (c_ctl V hw c1 hc1 h698 _) (wd hw 59 rfl) (wd hw 3 rfl) (by decide) (by decide)) (W := 0) (argsL := [.int c1]) (lenOf pd_15 rfl) rfl rfl rfl (Nat.le_of_eq rfl) (Nat.le_of_ble_eq_true rfl) (Nat.le_of_ble_eq_true rfl) fun v772 h773 ps769 q771 z770 => ?_
    obtain ⟨k1, rfl, es774, hk1⟩ := q771
    subst h773
    show Own.Run V K b_law _ h698 _ 6 40 73 [.val (.int p0), .val (.int p1), .val (.int p2), .val (.int p3), .val (.int p4), .val (.int (3 : Int32)), .val (.int c0), .val (.int c1), .val (.int c2), .val (.int c3), .val (.ref xs), .unset] [.int k1]
    refine r_if_ne 108 76 at_73 (by decide) rfl rfl (fun c775 => ?_) (fun c775 => ?_)
    · refine r_iconst (0 : Int32) 109 rfl at_108 rfl ?_
      exact j109 0 (Or.inr ⟨rfl, fun q => q c1 (by simp) (bt hk1 c775)⟩)
    refine r_iload 78 rfl at_76 rfl ?_
    refine r_iconst (3 : Int32) 79 rfl at_78 rfl ?_
    refine r_icmp_lt 90 82 at_79 (by decide) rfl rfl (fun c776 => ?_) (fun c776 => ?_)
    · exact absurd c776 (by decide)
    refine r_iload 84 rfl at_82 rfl ?_
    refine r_static 87 rfl at_84 (wd hw 57 rfl) (wd hw 58 rfl) (wd hw 3 rfl) (wd hw 59 rfl) (by decide) (Pays.con (K := K) (B := b_law) (c_ctl V hw c2 hc2 h698 _) (wd hw 59 rfl) (wd hw 3 rfl) (by decide) (by decide)) (W := 0) (argsL := [.int c2]) (lenOf pd_15 rfl) rfl rfl rfl (Nat.le_of_eq rfl) (Nat.le_of_ble_eq_true rfl) (Nat.le_of_ble_eq_true rfl) fun v780 h781 ps777 q779 z778 => ?_
    obtain ⟨k2, rfl, es782, hk2⟩ := q779
    subst h781
    show Own.Run V K b_law _ h698 _ 6 40 87 [.val (.int p0), .val (.int p1), .val (.int p2), .val (.int p3), .val (.int p4), .val (.int (3 : Int32)), .val (.int c0), .val (.int c1), .val (.int c2), .val (.int c3), .val (.ref xs), .unset] [.int k2]
    refine r_if_ne 108 90 at_87 (by decide) rfl rfl (fun c783 => ?_) (fun c783 => ?_)
    · refine r_iconst (0 : Int32) 109 rfl at_108 rfl ?_
      exact j109 0 (Or.inr ⟨rfl, fun q => q c2 (by simp) (bt hk2 c783)⟩)
    refine r_iload 92 rfl at_90 rfl ?_
    refine r_iconst (4 : Int32) 93 rfl at_92 rfl ?_
    refine r_icmp_lt 104 96 at_93 (by decide) rfl rfl (fun c784 => ?_) (fun c784 => ?_)
    rotate_left
    · exact absurd c784 (by decide)
    refine r_iconst (1 : Int32) 105 rfl at_104 rfl ?_
    refine r_goto 109 at_105 (by decide) rfl ?_
    exact j109 1 (Or.inl ⟨rfl, hPR.mpr ⟨bf hk0 c767, bf hk1 c775, bf hk2 c783⟩⟩)
  · have S2 : Str V h698 _ xs ([c0, c1, c2, c3] : List Int32) := SS
    have hPR : (∀ c ∈ ([c0, c1, c2, c3] : List Int32), ¬ ctl c) ↔ ¬ ctl c0 ∧ ¬ ctl c1 ∧ ¬ ctl c2 ∧ ¬ ctl c3 := by simp
    have j109 : ∀ {pX : List Addr} (ex : Int32), (ex = 1 ∧ (∀ c ∈ ([c0, c1, c2, c3] : List Int32), ¬ ctl c) ∨ ex = 0 ∧ ¬ (∀ c ∈ ([c0, c1, c2, c3] : List Int32), ¬ ctl c)) → Own.Run V K b_law Q1 h698 pX 6 40 109 [.val (.int p0), .val (.int p1), .val (.int p2), .val (.int p3), .val (.int p4), .val (.int (4 : Int32)), .val (.int c0), .val (.int c1), .val (.int c2), .val (.int c3), .val (.ref xs), .unset] [.int ex] := by
      intro pX ex hex
      refine r_istore [.val (.int p0), .val (.int p1), .val (.int p2), .val (.int p3), .val (.int p4), .val (.int (4 : Int32)), .val (.int c0), .val (.int c1), .val (.int c2), .val (.int c3), .val (.ref xs), .val (.int ex)] 111 rfl at_109 rfl ?_
      refine r_aload 113 rfl at_111 rfl rfl ?_
      refine r_static 116 rfl at_113 (wd hw 32 rfl) (wd hw 33 rfl) (wd hw 34 rfl) (wd hw 35 rfl) (by decide) (Pays.con (K := K) (B := b_law) (c_prn V hw cz hCS hcz fm hFM rf hAD hHI hLO xs _ ([c0, c1, c2, c3] : List Int32) (Nat.le_of_ble_eq_true rfl) (uS hc0 (uS hc1 (uS hc2 (uS hc3 u0)))) h698 _ S2) (wd hw 35 rfl) (wd hw 34 rfl) (by decide) (by decide)) (W := 0) (argsL := [.ref xs]) (lenOf pd_17 rfl) rfl rfl rfl (Nat.le_of_eq rfl) (Nat.le_of_ble_eq_true rfl) (Nat.le_of_ble_eq_true rfl) fun v788 h789 ps785 q787 z786 => ?_
      obtain ⟨e, rfl, es790, he⟩ := q787
      subst h789
      show Own.Run V K b_law _ h698 _ 6 40 116 [.val (.int p0), .val (.int p1), .val (.int p2), .val (.int p3), .val (.int p4), .val (.int (4 : Int32)), .val (.int c0), .val (.int c1), .val (.int c2), .val (.int c3), .val (.ref xs), .val (.int ex)] [.int e]
      refine r_iload 118 rfl at_116 rfl ?_
      refine r_icmp_ne 125 121 at_118 (by decide) rfl rfl (fun c791 => ?_) (fun c791 => ?_)
      · exact absurd (beq he hex Iff.rfl) c791
      refine r_iconst (1 : Int32) 122 rfl at_121 rfl ?_
      refine r_goto 126 at_122 (by decide) rfl ?_
      refine r_nret (t := .boolean) (1 : Int32) rfl (by simp) rfl at_126 (by decide) (by decide) [] (fun _ q => nomatch q) ?_
      rfl
    refine r_iload 50 rfl at_48 rfl ?_
    refine r_iconst (1 : Int32) 51 rfl at_50 rfl ?_
    refine r_icmp_lt 62 54 at_51 (by decide) rfl rfl (fun c792 => ?_) (fun c792 => ?_)
    · exact absurd c792 (by decide)
    refine r_iload 56 rfl at_54 rfl ?_
    refine r_static 59 rfl at_56 (wd hw 57 rfl) (wd hw 58 rfl) (wd hw 3 rfl) (wd hw 59 rfl) (by decide) (Pays.con (K := K) (B := b_law) (c_ctl V hw c0 hc0 h698 _) (wd hw 59 rfl) (wd hw 3 rfl) (by decide) (by decide)) (W := 0) (argsL := [.int c0]) (lenOf pd_15 rfl) rfl rfl rfl (Nat.le_of_eq rfl) (Nat.le_of_ble_eq_true rfl) (Nat.le_of_ble_eq_true rfl) fun v796 h797 ps793 q795 z794 => ?_
    obtain ⟨k0, rfl, es798, hk0⟩ := q795
    subst h797
    show Own.Run V K b_law _ h698 _ 6 40 59 [.val (.int p0), .val (.int p1), .val (.int p2), .val (.int p3), .val (.int p4), .val (.int (4 : Int32)), .val (.int c0), .val (.int c1), .val (.int c2), .val (.int c3), .val (.ref xs), .unset] [.int k0]
    refine r_if_ne 108 62 at_59 (by decide) rfl rfl (fun c799 => ?_) (fun c799 => ?_)
    · refine r_iconst (0 : Int32) 109 rfl at_108 rfl ?_
      exact j109 0 (Or.inr ⟨rfl, fun q => q c0 (by simp) (bt hk0 c799)⟩)
    refine r_iload 64 rfl at_62 rfl ?_
    refine r_iconst (2 : Int32) 65 rfl at_64 rfl ?_
    refine r_icmp_lt 76 68 at_65 (by decide) rfl rfl (fun c800 => ?_) (fun c800 => ?_)
    · exact absurd c800 (by decide)
    refine r_iload 70 rfl at_68 rfl ?_
    refine r_static 73 rfl at_70 (wd hw 57 rfl) (wd hw 58 rfl) (wd hw 3 rfl) (wd hw 59 rfl) (by decide) (Pays.con (K := K) (B := b_law) (c_ctl V hw c1 hc1 h698 _) (wd hw 59 rfl) (wd hw 3 rfl) (by decide) (by decide)) (W := 0) (argsL := [.int c1]) (lenOf pd_15 rfl) rfl rfl rfl (Nat.le_of_eq rfl) (Nat.le_of_ble_eq_true rfl) (Nat.le_of_ble_eq_true rfl) fun v804 h805 ps801 q803 z802 => ?_
    obtain ⟨k1, rfl, es806, hk1⟩ := q803
    subst h805
    show Own.Run V K b_law _ h698 _ 6 40 73 [.val (.int p0), .val (.int p1), .val (.int p2), .val (.int p3), .val (.int p4), .val (.int (4 : Int32)), .val (.int c0), .val (.int c1), .val (.int c2), .val (.int c3), .val (.ref xs), .unset] [.int k1]
    refine r_if_ne 108 76 at_73 (by decide) rfl rfl (fun c807 => ?_) (fun c807 => ?_)
    · refine r_iconst (0 : Int32) 109 rfl at_108 rfl ?_
      exact j109 0 (Or.inr ⟨rfl, fun q => q c1 (by simp) (bt hk1 c807)⟩)
    refine r_iload 78 rfl at_76 rfl ?_
    refine r_iconst (3 : Int32) 79 rfl at_78 rfl ?_
    refine r_icmp_lt 90 82 at_79 (by decide) rfl rfl (fun c808 => ?_) (fun c808 => ?_)
    · exact absurd c808 (by decide)
    refine r_iload 84 rfl at_82 rfl ?_
    refine r_static 87 rfl at_84 (wd hw 57 rfl) (wd hw 58 rfl) (wd hw 3 rfl) (wd hw 59 rfl) (by decide) (Pays.con (K := K) (B := b_law) (c_ctl V hw c2 hc2 h698 _) (wd hw 59 rfl) (wd hw 3 rfl) (by decide) (by decide)) (W := 0) (argsL := [.int c2]) (lenOf pd_15 rfl) rfl rfl rfl (Nat.le_of_eq rfl) (Nat.le_of_ble_eq_true rfl) (Nat.le_of_ble_eq_true rfl) fun v812 h813 ps809 q811 z810 => ?_
    obtain ⟨k2, rfl, es814, hk2⟩ := q811
    subst h813
    show Own.Run V K b_law _ h698 _ 6 40 87 [.val (.int p0), .val (.int p1), .val (.int p2), .val (.int p3), .val (.int p4), .val (.int (4 : Int32)), .val (.int c0), .val (.int c1), .val (.int c2), .val (.int c3), .val (.ref xs), .unset] [.int k2]
    refine r_if_ne 108 90 at_87 (by decide) rfl rfl (fun c815 => ?_) (fun c815 => ?_)
    · refine r_iconst (0 : Int32) 109 rfl at_108 rfl ?_
      exact j109 0 (Or.inr ⟨rfl, fun q => q c2 (by simp) (bt hk2 c815)⟩)
    refine r_iload 92 rfl at_90 rfl ?_
    refine r_iconst (4 : Int32) 93 rfl at_92 rfl ?_
    refine r_icmp_lt 104 96 at_93 (by decide) rfl rfl (fun c816 => ?_) (fun c816 => ?_)
    · exact absurd c816 (by decide)
    refine r_iload 98 rfl at_96 rfl ?_
    refine r_static 101 rfl at_98 (wd hw 57 rfl) (wd hw 58 rfl) (wd hw 3 rfl) (wd hw 59 rfl) (by decide) (Pays.con (K := K) (B := b_law) (c_ctl V hw c3 hc3 h698 _) (wd hw 59 rfl) (wd hw 3 rfl) (by decide) (by decide)) (W := 0) (argsL := [.int c3]) (lenOf pd_15 rfl) rfl rfl rfl (Nat.le_of_eq rfl) (Nat.le_of_ble_eq_true rfl) (Nat.le_of_ble_eq_true rfl) fun v820 h821 ps817 q819 z818 => ?_
    obtain ⟨k3, rfl, es822, hk3⟩ := q819
    subst h821
    show Own.Run V K b_law _ h698 _ 6 40 101 [.val (.int p0), .val (.int p1), .val (.int p2), .val (.int p3), .val (.int p4), .val (.int (4 : Int32)), .val (.int c0), .val (.int c1), .val (.int c2), .val (.int c3), .val (.ref xs), .unset] [.int k3]
    refine r_if_ne 108 104 at_101 (by decide) rfl rfl (fun c823 => ?_) (fun c823 => ?_)
    · refine r_iconst (0 : Int32) 109 rfl at_108 rfl ?_
      exact j109 0 (Or.inr ⟨rfl, fun q => q c3 (by simp) (bt hk3 c823)⟩)
    refine r_iconst (1 : Int32) 105 rfl at_104 rfl ?_
    refine r_goto 109 at_105 (by decide) rfl ?_
    exact j109 1 (Or.inl ⟨rfl, hPR.mpr ⟨bf hk0 c799, bf hk1 c807, bf hk2 c815, bf hk3 c823⟩⟩)
theorem sta_eq_int {args : Array Value} {s : State} {C n d : String} {k : Int32} (h : (Jvm.Cond.eq (.static C n d) (.int k)).value args s none s [] = some true) (w : (Jvm.Cond.initializedFor C n d).before args s = true) : Sta s s.heap C n d (.int k) := by
  obtain ⟨u, w', e1, e2, k1, k2⟩ := cmp_v (Or.inl h)
  obtain rfl : w' = .int k := Option.some.inj (e2.symm.trans (Term.int_eval k))
  obtain ⟨z, rfl⟩ := k2
  have q : z = k := gotT (Cond.eq_ints e1 (Term.int_eval k)) h
  subst q
  exact Sta.start e1 (Or.inl w)
theorem comes_1 {Post : Tables → Env → Array Value → State → Outcome → State → Prop} (hpost : ∀ tb e args s v u, (limb_1_1.after args s (.returned v) u = true ∧ limb_1_2.after args s (.returned v) u = true ∧ True) → ReturnedEndW s (.returned v) u (Jvm.fieldLocs frame_1_writes args s ++ Jvm.arrayLocs frame_1_arrays args s ++ Jvm.staticLocs frame_1_statics s) 24 1152 → Post tb e args s (.returned v) u) :
    ArmFor flags0 classFile x code maxLocals ret World_1 tables_1 room_1 Calls_1 rest_1 Pre_1 Post := by
  intro l hfl _ _ p e ha hc hk s m args below hf hA hF happ hP
  obtain ⟨hcalls, hrest, hpre⟩ := hP
  obtain ⟨-, -, -, hnamed, -, -, -, hat⟩ := (Spec.applies_iff hf).mp happ
  obtain ⟨hg, hn⟩ := and_e (Cond.before_iff.mp (show (Jvm.Cond.and given_1 narrow_1).before args s = true from hpre))
  obtain ⟨hcount, g0⟩ := and_e hg
  obtain ⟨k0, g1⟩ := and_e g0
  obtain ⟨k1, g2⟩ := and_e g1
  obtain ⟨k2, g3⟩ := and_e g2
  obtain ⟨k3, g4⟩ := and_e g3
  have k4 := g4
  obtain ⟨w0, w1, w2, w3, w4, rfl⟩ : ∃ w0 w1 w2 w3 w4 : Value, args = #[w0, w1, w2, w3, w4] := by
    have hs : args.size = 5 := by simpa [Cond.value, given_1] using hcount
    obtain ⟨L⟩ := args
    match L, hs with
    | [w0, w1, w2, w3, w4], _ => exact ⟨w0, w1, w2, w3, w4, rfl⟩
  have hw := fun d (hd : d ∈ tables_1) => atoms_spec (ws := Jvm.Cond.code x code maxLocals ret :: tables_1) hat d (List.mem_cons_of_mem _ hd)
  obtain ⟨i0, e0⟩ := is_v k0
  obtain rfl : w0 = (.int i0) := Option.some.inj e0
  obtain ⟨i1, e1⟩ := is_v k1
  obtain rfl : w1 = (.int i1) := Option.some.inj e1
  obtain ⟨i2, e2⟩ := is_v k2
  obtain rfl : w2 = (.int i2) := Option.some.inj e2
  obtain ⟨i3, e3⟩ := is_v k3
  obtain rfl : w3 = (.int i3) := Option.some.inj e3
  obtain ⟨i4, e4⟩ := is_v k4
  obtain rfl : w4 = (.int i4) := Option.some.inj e4
  obtain ⟨hsets, hown0⟩ := atoms_of _ (rest_1_c_eq ▸ (show rest_1_c.before _ s = true from hrest))
  have n5 := not_v (Cond.before_iff.mp (hsets _ (List.mem_of_getElem? (i := 2) rfl)))
  obtain ⟨i11, e11⟩ := is_v (Cond.before_iff.mp (hsets _ (List.mem_of_getElem? (i := 1) rfl)))
  have S12 : Sta s s.heap "java/lang/String" "COMPACT_STRINGS" "Z" (.int i11) := Sta.start e11 (Or.inl (hsets _ (List.mem_of_getElem? (i := 0) rfl)))
  have c17 : ¬ (i11 = (0 : Int32)) := gotF (Cond.eq_ints e11 (Term.int_eval (0))) n5
  obtain ⟨v13, e14, r15⟩ := isR_v (Cond.before_iff.mp (hsets _ (List.mem_of_getElem? (i := 8) rfl)))
  have S16 : Sta s s.heap "jdk/internal/util/Preconditions" "SIOOBE_FORMATTER" "Ljava/util/function/BiFunction;" v13 := Sta.start e14 (Or.inl (hsets _ (List.mem_of_getElem? (i := 7) rfl)))
  have hEW : EW s #[.int i0, .int i1, .int i2, .int i3, .int i4] consts_1 := (EW.cons (hw _ (List.mem_of_getElem? (i := 24) rfl)) (by decide) EW.nil)
  have hCH : CHv s consts_1 s.vm s.heap := CHv.start hEW (fun p hp => hcalls.1 p hp) (hsets _ (List.mem_of_getElem? (i := 2) rfl)) (hw _ (List.mem_of_getElem? (i := 25) rfl)) (hw _ (List.mem_of_getElem? (i := 11) rfl))
  have hAD := sta_eq_int (Cond.before_iff.mp (hsets _ (List.mem_of_getElem? (i := 12) rfl))) (hsets _ (List.mem_of_getElem? (i := 11) rfl))
  have hHI := sta_eq_int (Cond.before_iff.mp (hsets _ (List.mem_of_getElem? (i := 15) rfl))) (hsets _ (List.mem_of_getElem? (i := 14) rfl))
  have hLO := sta_eq_int (Cond.before_iff.mp (hsets _ (List.mem_of_getElem? (i := 18) rfl))) (hsets _ (List.mem_of_getElem? (i := 17) rfl))
  obtain ⟨n, o, h1, h2, h3, v, L, ps, rfl, N, rfl, -, -, -, hq, -⟩ := c_law (s, #[.int i0, .int i1, .int i2, .int i3, .int i4], consts_1, false, l) hw (show ("java/lang/String", 7) ∈ consts_1 by decide) rfl i11 S12 c17 v13 S16 r15 hAD hHI hLO i0 i1 i2 i3 i4 s.heap hEW ⟨Nat.le_refl _, fun _ _ q => q⟩ (fun q => nomatch q) tables_1 p e ha hc hk s m _ below hf ((Spec.applies_iff_loose hf).mp happ).1 ⟨rfl, State.Warmed39.refl s, rfl, hCH, Sf.nil⟩ trivial
  refine ⟨n, _, h1, h2, h3, hpost _ _ _ _ _ _ ⟨Cond.after_iff.mpr rfl, Cond.after_iff.mpr (eq_i res_at (Term.int_eval (1)) rfl), trivial⟩ ⟨hq.1, hq.2.1, hq.2.2.1, (hq.2.2.2.sift fun y hy => Or.inr (N y hy)).mono (by decide) (by decide)⟩⟩
theorem main_1_1 : Claimed_1_1 := comes_1 fun _ _ _ _ _ _ h hF => ⟨h.1, hF⟩
theorem main_1_2 : Claimed_1_2 := comes_1 fun _ _ _ _ _ _ h hF => ⟨h.2.1, hF⟩
end Jvm.Pilot.@@N@@
namespace Jvm.Pilot.@@N@@
open Jvm Jvm.ClassFile Sem Op Lib Jvm.Free Jvm.Stand Jvm.Pilot.@@N@@.Jvm.D
/-! MADE BY PROGRAM (witnessworld.py) out of the Statement's table words and the real class files: 21 classes; the members and pool entries that the words name. The judged class is class 1, her method 1. -/
namespace start1
open Jvm.ClassFile
def u (s : String) : CpInfo := .utf8 (stringToUtf16 s)
/-- a pool by its gaps: so many unusable entries, then the entry; so many at the end -/
def gap : Nat → List CpInfo → List CpInfo
  | 0, r => r
  | n + 1, r => .unusable :: gap n r
def poolList (es : List (Nat × CpInfo)) (last : Nat) : List CpInfo := es.foldr (fun e r => gap e.1 (e.2 :: r)) (gap last [])
def pool (es : List (Nat × CpInfo)) (last : Nat) : Array CpInfo := ⟨poolList es last⟩
def fileOf (pool : Array CpInfo) (this : Nat) (attrs : Array Attribute := #[]) (ms : Array MethodInfo := #[]) (fl : Nat := 33) (sup : Nat := 0) (ifs : Array Nat := #[]) (fds : Array FieldInfo := #[]) : ClassFile where
  minorVersion := 0
  majorVersion := 65
  constantPool := pool
  accessFlags := fl
  thisClass := this
  superClass := sup
  interfaces := ifs
  fields := fds
  methods := ms
  attributes := attrs
def plain (name : String) (sup : Option ClassId) : Class where
  name := name
  kind := .ordinary
  loader := none
  accessFlags := 33
  super := sup
  interfaces := #[]
  cf := none
  fields := #[]
  methods := #[]
  instanceTypes := #[]
  staticTypes := #[]
  resolved := #[]
  callSites := []
  init := .initialized
  statics := none
  mirror := none

def pool0 : Array CpInfo := pool [(5, u "<init>"), (0, u "()V"), (1, .class_ 10), (1, u "java/lang/Object")] 113

def k0c0 : Code := { maxStack := 0, maxLocals := 1, code := object_method_1_code, exceptionTable := #[], attributes := #[] }
def k0m0 : Method := { name := "<init>", desc := "()V", sig := { parameters := [], returnType := none }, accessFlags := 1, code := some k0c0 }
/-- java/lang/Object -/
def k0 : Class := { plain "java/lang/Object" none with
  accessFlags := 33
  interfaces := #[]
  cf := some (fileOf pool0 8 #[] #[{ accessFlags := 1, nameIndex := 5, descriptorIndex := 6, attributes := #[] }] 33 0 #[] #[])
  fields := #[]
  methods := #[k0m0]
  instanceTypes := #[]
  staticTypes := #[]
  resolved := Array.replicate 124 none
  statics := none }

def pool1 : Array CpInfo := pool [(2, .class_ 4), (1, u "java/lang/Object"), (0, u "<init>"), (0, u "()V"), (0, .integer 2147483647), (0, .methodref 9 10), (0, .class_ 11), (0, .nameAndType 12 13), (0, u "com/example/linetally/linetally/io/FieldsPrintablePinLaw"), (0, u "draw"), (0, u "(I)C"), (0, .methodref 9 15), (0, .nameAndType 16 17), (0, u "make"), (0, u "(ICCCC)Ljava/lang/String;"), (0, .methodref 9 19), (0, .nameAndType 20 21), (0, u "control"), (0, u "(C)Z"), (0, .methodref 23 24), (0, .class_ 25), (0, .nameAndType 26 27), (0, u "com/example/linetally/linetally/io/Fields"), (0, u "printable"), (0, u "(Ljava/lang/String;)Z"), (0, .integer 65536), (0, .integer 65535), (0, .class_ 31), (0, u "java/lang/String"), (0, .methodref 30 33), (0, .nameAndType 5 34), (0, u "([C)V"), (2, u "law"), (0, u "(IIIII)Z")] 3

def k1m0 : Method := { name := "<init>", desc := "()V", sig := { parameters := [], returnType := none }, accessFlags := 2, code := none }
def k1c1 : Code := { maxStack := 5, maxLocals := 12, code := code, exceptionTable := #[], attributes := #[] }
def k1m1 : Method := { name := "law", desc := "(IIIII)Z", sig := { parameters := [.int, .int, .int, .int, .int], returnType := some .boolean }, accessFlags := 9, code := some k1c1 }
def k1c2 : Code := { maxStack := 2, maxLocals := 1, code := method_3_code, exceptionTable := #[], attributes := #[] }
def k1m2 : Method := { name := "draw", desc := "(I)C", sig := { parameters := [.int], returnType := some .char }, accessFlags := 10, code := some k1c2 }
def k1c3 : Code := { maxStack := 2, maxLocals := 1, code := method_4_code, exceptionTable := #[], attributes := #[] }
def k1m3 : Method := { name := "control", desc := "(C)Z", sig := { parameters := [.char], returnType := some .boolean }, accessFlags := 10, code := some k1c3 }
def k1c4 : Code := { maxStack := 6, maxLocals := 5, code := method_5_code, exceptionTable := #[], attributes := #[] }
def k1m4 : Method := { name := "make", desc := "(ICCCC)Ljava/lang/String;", sig := { parameters := [.int, .char, .char, .char, .char], returnType := some (.object "java/lang/String") }, accessFlags := 10, code := some k1c4 }
/-- com/example/linetally/linetally/io/FieldsPrintablePinLaw -/
def k1 : Class := { plain "com/example/linetally/linetally/io/FieldsPrintablePinLaw" (some 0) with
  accessFlags := 49
  interfaces := #[]
  cf := some (fileOf pool1 9 #[] #[{ accessFlags := 2, nameIndex := 5, descriptorIndex := 6, attributes := #[] }, { accessFlags := 9, nameIndex := 37, descriptorIndex := 38, attributes := #[] }, { accessFlags := 10, nameIndex := 12, descriptorIndex := 13, attributes := #[] }, { accessFlags := 10, nameIndex := 20, descriptorIndex := 21, attributes := #[] }, { accessFlags := 10, nameIndex := 16, descriptorIndex := 17, attributes := #[] }] 49 2 #[] #[])
  fields := #[]
  methods := #[k1m0, k1m1, k1m2, k1m3, k1m4]
  instanceTypes := #[]
  staticTypes := #[]
  resolved := Array.replicate 42 none
  statics := none }

def pool2 : Array CpInfo := pool [(1, .class_ 2), (0, u "java/io/Serializable"), (0, .class_ 4), (0, u "java/lang/Object")] 2

/-- java/io/Serializable -/
def k2 : Class := { plain "java/io/Serializable" (some 0) with
  accessFlags := 1537
  interfaces := #[]
  cf := some (fileOf pool2 1 #[] #[] 1537 3 #[] #[])
  fields := #[]
  methods := #[]
  instanceTypes := #[]
  staticTypes := #[]
  resolved := Array.replicate 7 none
  statics := none }

def pool3 : Array CpInfo := pool [(1, .class_ 2), (0, u "java/lang/Comparable"), (0, .class_ 4), (0, u "java/lang/Object")] 7

/-- java/lang/Comparable -/
def k3 : Class := { plain "java/lang/Comparable" (some 0) with
  accessFlags := 1537
  interfaces := #[]
  cf := some (fileOf pool3 1 #[] #[] 1537 3 #[] #[])
  fields := #[]
  methods := #[]
  instanceTypes := #[]
  staticTypes := #[]
  resolved := Array.replicate 12 none
  statics := none }

def pool4 : Array CpInfo := pool [(2, .class_ 4), (1, u "java/lang/CharSequence"), (42, .class_ 48), (0, u "java/lang/CharSequence$1CodePointIterator"), (10, .class_ 60), (0, u "java/lang/CharSequence$1CharIterator"), (5, .class_ 67), (0, u "java/lang/Object")] 63

/-- java/lang/CharSequence -/
def k4 : Class := { plain "java/lang/CharSequence" (some 0) with
  accessFlags := 1537
  interfaces := #[]
  cf := some (fileOf pool4 2 #[.nestMembers #[47, 59]] #[] 1537 66 #[] #[])
  fields := #[]
  methods := #[]
  instanceTypes := #[]
  staticTypes := #[]
  resolved := Array.replicate 131 none
  statics := none }

def pool5 : Array CpInfo := pool [(1, .class_ 2), (0, u "java/lang/constant/Constable"), (0, .class_ 4), (0, u "java/lang/Object")] 6

/-- java/lang/constant/Constable -/
def k5 : Class := { plain "java/lang/constant/Constable" (some 0) with
  accessFlags := 1537
  interfaces := #[]
  cf := some (fileOf pool5 1 #[] #[] 1537 3 #[] #[])
  fields := #[]
  methods := #[]
  instanceTypes := #[]
  staticTypes := #[]
  resolved := Array.replicate 11 none
  statics := none }

def pool6 : Array CpInfo := pool [(1, .class_ 2), (0, u "java/lang/constant/ConstantDesc"), (0, .class_ 4), (0, u "java/lang/Object")] 32

/-- java/lang/constant/ConstantDesc -/
def k6 : Class := { plain "java/lang/constant/ConstantDesc" (some 0) with
  accessFlags := 1537
  interfaces := #[]
  cf := some (fileOf pool6 1 #[] #[] 1537 3 #[] #[])
  fields := #[]
  methods := #[]
  instanceTypes := #[]
  staticTypes := #[]
  resolved := Array.replicate 37 none
  statics := none }

def pool7 : Array CpInfo := pool [(1, .methodref 2 3), (0, .class_ 4), (0, .nameAndType 5 6), (0, u "java/lang/Object"), (0, u "<init>"), (0, u "()V"), (0, .string 8), (0, u ""), (0, .fieldref 10 11), (0, .class_ 12), (0, .nameAndType 13 14), (0, u "java/lang/String"), (0, u "value"), (0, u "[B"), (0, .fieldref 10 16), (0, .nameAndType 17 18), (0, u "coder"), (0, u "B"), (2, u "hash"), (0, u "I"), (2, u "hashIsZero"), (0, u "Z"), (0, .methodref 10 28), (0, .nameAndType 5 29), (0, u "([CIILjava/lang/Void;)V"), (8, .fieldref 10 39), (0, .nameAndType 40 26), (0, u "COMPACT_STRINGS"), (1, .class_ 44), (1, u "java/lang/StringUTF16"), (0, u "compress"), (1, .methodref 42 48), (0, .nameAndType 49 50), (0, u "coderFromArrayLen"), (0, u "([BI)B"), (56, .class_ 109), (1, u "java/lang/StringLatin1"), (32, u "()Z"), (34, .methodref 42 178), (0, .nameAndType 45 179), (0, u "([CII)[B"), (154, u "()I"), (0, .methodref 10 336), (0, .nameAndType 17 337), (0, u "()B"), (25, u "([BI)C"), (27, u "(II)V"), (35, u "(I)C"), (64, .methodref 10 493), (0, .nameAndType 494 142), (0, u "isLatin1"), (0, .methodref 107 496), (0, .nameAndType 497 363), (0, u "charAt"), (0, .methodref 42 496), (2, u "checkIndex"), (5, u "length"), (67, .class_ 576), (0, u "java/lang/CharSequence"), (22, u "CASE_INSENSITIVE_ORDER"), (0, u "Ljava/util/Comparator;"), (409, u "([C)V"), (42, .fieldref 1054 1055), (0, .class_ 1056), (0, .nameAndType 1057 1058), (0, u "jdk/internal/util/Preconditions"), (0, u "SIOOBE_FORMATTER"), (0, u "Ljava/util/function/BiFunction;"), (0, .methodref 1054 1060), (0, .nameAndType 501 1061), (0, u "(IILjava/util/function/BiFunction;)I"), (39, u "serialPersistentFields"), (0, u "[Ljava/io/ObjectStreamField;"), (0, .class_ 1104), (0, u "java/lang/String$CaseInsensitiveComparator"), (1, .class_ 1107), (0, u "java/io/Serializable"), (0, .class_ 1109), (0, u "java/lang/Comparable"), (0, .class_ 1111), (0, u "java/lang/constant/Constable"), (0, .class_ 1113), (0, u "java/lang/constant/ConstantDesc"), (2, u "serialVersionUID"), (0, u "J"), (3, u "REPL"), (0, u "C"), (2, u "LATIN1"), (1, u "UTF16")] 323

def k7m0 : Method := { name := "<init>", desc := "()V", sig := { parameters := [], returnType := none }, accessFlags := 1, code := none }
def k7c1 : Code := { maxStack := 5, maxLocals := 2, code := jdk_42_method_3_code, exceptionTable := #[], attributes := #[] }
def k7m1 : Method := { name := "<init>", desc := "([C)V", sig := { parameters := [(.array .char)], returnType := none }, accessFlags := 1, code := some k7c1 }
def k7c2 : Code := { maxStack := 2, maxLocals := 1, code := jdk_42_method_54_code, exceptionTable := #[], attributes := #[] }
def k7m2 : Method := { name := "length", desc := "()I", sig := { parameters := [], returnType := some .int }, accessFlags := 1, code := some k7c2 }
def k7c3 : Code := { maxStack := 2, maxLocals := 2, code := jdk_42_method_56_code, exceptionTable := #[], attributes := #[] }
def k7m3 : Method := { name := "charAt", desc := "(I)C", sig := { parameters := [.int], returnType := some .char }, accessFlags := 1, code := some k7c3 }
def k7c4 : Code := { maxStack := 4, maxLocals := 6, code := jdk_42_method_149_code, exceptionTable := #[], attributes := #[] }
def k7m4 : Method := { name := "<init>", desc := "([CIILjava/lang/Void;)V", sig := { parameters := [(.array .char), .int, .int, (.object "java/lang/Void")], returnType := none }, accessFlags := 2, code := some k7c4 }
def k7c5 : Code := { maxStack := 1, maxLocals := 1, code := jdk_42_method_152_code, exceptionTable := #[], attributes := #[] }
def k7m5 : Method := { name := "coder", desc := "()B", sig := { parameters := [], returnType := some .byte }, accessFlags := 0, code := some k7c5 }
def k7c6 : Code := { maxStack := 1, maxLocals := 1, code := jdk_42_method_154_code, exceptionTable := #[], attributes := #[] }
def k7m6 : Method := { name := "isLatin1", desc := "()Z", sig := { parameters := [], returnType := some .boolean }, accessFlags := 0, code := some k7c6 }
def k7c7 : Code := { maxStack := 3, maxLocals := 2, code := jdk_42_method_155_code, exceptionTable := #[], attributes := #[] }
def k7m7 : Method := { name := "checkIndex", desc := "(II)V", sig := { parameters := [.int, .int], returnType := none }, accessFlags := 8, code := some k7c7 }
/-- java/lang/String -/
def k7 : Class := { plain "java/lang/String" (some 0) with
  accessFlags := 49
  interfaces := #[2, 3, 4, 5, 6]
  cf := some (fileOf pool7 10 #[.nestMembers #[1103]] #[{ accessFlags := 1, nameIndex := 5, descriptorIndex := 6, attributes := #[] }, { accessFlags := 1, nameIndex := 5, descriptorIndex := 1010, attributes := #[] }, { accessFlags := 1, nameIndex := 507, descriptorIndex := 334, attributes := #[] }, { accessFlags := 1, nameIndex := 497, descriptorIndex := 427, attributes := #[] }, { accessFlags := 2, nameIndex := 5, descriptorIndex := 29, attributes := #[] }, { accessFlags := 0, nameIndex := 17, descriptorIndex := 337, attributes := #[] }, { accessFlags := 0, nameIndex := 494, descriptorIndex := 142, attributes := #[] }, { accessFlags := 8, nameIndex := 501, descriptorIndex := 391, attributes := #[] }] 49 2 #[1106, 1108, 575, 1110, 1112] #[{ accessFlags := 18, nameIndex := 13, descriptorIndex := 14, attributes := #[] }, { accessFlags := 18, nameIndex := 17, descriptorIndex := 18, attributes := #[] }, { accessFlags := 2, nameIndex := 21, descriptorIndex := 22, attributes := #[] }, { accessFlags := 2, nameIndex := 25, descriptorIndex := 26, attributes := #[] }, { accessFlags := 26, nameIndex := 1116, descriptorIndex := 1117, attributes := #[] }, { accessFlags := 24, nameIndex := 40, descriptorIndex := 26, attributes := #[] }, { accessFlags := 26, nameIndex := 1101, descriptorIndex := 1102, attributes := #[] }, { accessFlags := 26, nameIndex := 1121, descriptorIndex := 1122, attributes := #[] }, { accessFlags := 25, nameIndex := 599, descriptorIndex := 600, attributes := #[] }, { accessFlags := 24, nameIndex := 1125, descriptorIndex := 18, attributes := #[] }, { accessFlags := 24, nameIndex := 1127, descriptorIndex := 18, attributes := #[] }])
  fields := #[{ name := "value", type := (.array .byte), accessFlags := 18, slot := 0, constantValue := 0 }, { name := "coder", type := .byte, accessFlags := 18, slot := 1, constantValue := 0 }, { name := "hash", type := .int, accessFlags := 2, slot := 2, constantValue := 0 }, { name := "hashIsZero", type := .boolean, accessFlags := 2, slot := 3, constantValue := 0 }, { name := "serialVersionUID", type := .long, accessFlags := 26, slot := 0, constantValue := 0 }, { name := "COMPACT_STRINGS", type := .boolean, accessFlags := 24, slot := 1, constantValue := 0 }, { name := "serialPersistentFields", type := (.array (.object "java/io/ObjectStreamField")), accessFlags := 26, slot := 2, constantValue := 0 }, { name := "REPL", type := .char, accessFlags := 26, slot := 3, constantValue := 0 }, { name := "CASE_INSENSITIVE_ORDER", type := (.object "java/util/Comparator"), accessFlags := 25, slot := 4, constantValue := 0 }, { name := "LATIN1", type := .byte, accessFlags := 24, slot := 5, constantValue := 0 }, { name := "UTF16", type := .byte, accessFlags := 24, slot := 6, constantValue := 0 }]
  methods := #[k7m0, k7m1, k7m2, k7m3, k7m4, k7m5, k7m6, k7m7]
  instanceTypes := #[(.array .byte), .byte, .int, .boolean]
  staticTypes := #[.long, .boolean, (.array (.object "java/io/ObjectStreamField")), .char, (.object "java/util/Comparator"), .byte, .byte]
  resolved := Array.replicate 1451 none
  statics := some 0 }

def pool8 : Array CpInfo := pool [(2, .class_ 4), (1, u "java/lang/Object"), (0, u "<init>"), (0, u "()V"), (1, .class_ 10), (1, u "com/example/linetally/linetally/io/Fields"), (27, u "()I"), (4, .methodref 44 45), (0, .class_ 46), (0, .nameAndType 47 38), (0, u "java/lang/String"), (0, u "length"), (0, .methodref 44 49), (0, .nameAndType 50 51), (0, u "charAt"), (0, u "(I)C"), (0, .methodref 53 54), (0, .class_ 55), (0, .nameAndType 56 57), (0, u "java/lang/Character"), (0, u "isISOControl"), (0, u "(C)Z"), (72, u "INTEGER_DIGITS"), (0, u "I"), (2, u "FRACTION_DIGITS"), (8, u "printable"), (0, u "(Ljava/lang/String;)Z"), (12, .class_ 158), (0, u "com/example/linetally/linetally/io/Fields$Grammar")] 55

def k8m0 : Method := { name := "<init>", desc := "()V", sig := { parameters := [], returnType := none }, accessFlags := 2, code := none }
def k8c1 : Code := { maxStack := 2, maxLocals := 2, code := prog_9_method_4_code, exceptionTable := #[], attributes := #[] }
def k8m1 : Method := { name := "printable", desc := "(Ljava/lang/String;)Z", sig := { parameters := [(.object "java/lang/String")], returnType := some .boolean }, accessFlags := 8, code := some k8c1 }
/-- com/example/linetally/linetally/io/Fields -/
def k8 : Class := { plain "com/example/linetally/linetally/io/Fields" (some 0) with
  accessFlags := 48
  interfaces := #[]
  cf := some (fileOf pool8 8 #[.nestMembers #[157]] #[{ accessFlags := 2, nameIndex := 5, descriptorIndex := 6, attributes := #[] }, { accessFlags := 8, nameIndex := 143, descriptorIndex := 144, attributes := #[] }] 48 2 #[] #[{ accessFlags := 26, nameIndex := 130, descriptorIndex := 131, attributes := #[] }, { accessFlags := 26, nameIndex := 134, descriptorIndex := 131, attributes := #[] }])
  fields := #[{ name := "INTEGER_DIGITS", type := .int, accessFlags := 26, slot := 0, constantValue := 0 }, { name := "FRACTION_DIGITS", type := .int, accessFlags := 26, slot := 1, constantValue := 0 }]
  methods := #[k8m0, k8m1]
  instanceTypes := #[]
  staticTypes := #[.int, .int]
  resolved := Array.replicate 214 none
  statics := none }

def pool9 : Array CpInfo := pool [(3, .class_ 4), (0, u "java/lang/String"), (1, .class_ 8), (1, u "java/lang/Object"), (0, u "<init>"), (0, u "()V"), (0, .methodref 12 13), (0, .class_ 14), (0, .nameAndType 15 16), (0, u "java/lang/StringUTF16"), (0, u "newBytesLength"), (0, u "(I)I"), (3, .integer 1073741823), (23, .fieldref 12 45), (0, .nameAndType 46 47), (0, u "$assertionsDisabled"), (0, u "Z"), (0, .methodref 12 49), (0, .nameAndType 50 51), (0, u "length"), (0, u "([B)I"), (7, .fieldref 12 60), (0, .nameAndType 61 62), (0, u "HI_BYTE_SHIFT"), (0, u "I"), (0, .fieldref 12 64), (0, .nameAndType 65 62), (0, u "LO_BYTE_SHIFT"), (1, .methodref 12 68), (0, .nameAndType 69 70), (0, u "checkIndex"), (0, u "(I[B)V"), (0, .methodref 12 72), (0, .nameAndType 73 74), (0, u "getChar"), (0, u "([BI)C"), (32, .methodref 12 108), (0, .nameAndType 109 110), (0, u "newBytesFor"), (0, u "(I)[B"), (0, .methodref 12 112), (0, .nameAndType 113 114), (0, u "putChar"), (0, u "([BII)V"), (0, .methodref 12 116), (0, .nameAndType 117 118), (0, u "compress"), (0, u "([CI[BII)I"), (0, .methodref 12 120), (0, .nameAndType 121 122), (0, u "toBytes"), (0, u "([CII)[B"), (138, u "coderFromArrayLen"), (0, u "([BI)B"), (106, .class_ 371), (1, u "java/lang/StringUTF16$LinesSpliterator"), (20, u "charAt"), (21, .methodref 3 415), (0, .nameAndType 69 416), (0, u "(II)V"), (13, u "MAX_LENGTH"), (196, .class_ 628), (0, u "java/lang/StringUTF16$CodePointsSpliterator"), (0, .class_ 630), (0, u "java/lang/StringUTF16$CharsSpliterator")] 4

def k9m0 : Method := { name := "<init>", desc := "()V", sig := { parameters := [], returnType := none }, accessFlags := 0, code := none }
def k9c1 : Code := { maxStack := 1, maxLocals := 1, code := jdk_52_method_2_code, exceptionTable := #[], attributes := #[] }
def k9m1 : Method := { name := "newBytesFor", desc := "(I)[B", sig := { parameters := [.int], returnType := some (.array .byte) }, accessFlags := 9, code := some k9c1 }
def k9c2 : Code := { maxStack := 4, maxLocals := 1, code := jdk_52_method_3_code, exceptionTable := #[], attributes := #[] }
def k9m2 : Method := { name := "newBytesLength", desc := "(I)I", sig := { parameters := [.int], returnType := some .int }, accessFlags := 9, code := some k9c2 }
def k9c3 : Code := { maxStack := 4, maxLocals := 3, code := jdk_52_method_4_code, exceptionTable := #[], attributes := #[] }
def k9m3 : Method := { name := "putChar", desc := "([BII)V", sig := { parameters := [(.array .byte), .int, .int], returnType := none }, accessFlags := 8, code := some k9c3 }
def k9c4 : Code := { maxStack := 3, maxLocals := 2, code := jdk_52_method_5_code, exceptionTable := #[], attributes := #[] }
def k9m4 : Method := { name := "getChar", desc := "([BI)C", sig := { parameters := [(.array .byte), .int], returnType := some .char }, accessFlags := 8, code := some k9c4 }
def k9c5 : Code := { maxStack := 2, maxLocals := 1, code := jdk_52_method_6_code, exceptionTable := #[], attributes := #[] }
def k9m5 : Method := { name := "length", desc := "([B)I", sig := { parameters := [(.array .byte)], returnType := some .int }, accessFlags := 9, code := some k9c5 }
def k9c6 : Code := { maxStack := 4, maxLocals := 5, code := jdk_52_method_14_code, exceptionTable := #[], attributes := #[] }
def k9m6 : Method := { name := "toBytes", desc := "([CII)[B", sig := { parameters := [(.array .char), .int, .int], returnType := some (.array .byte) }, accessFlags := 9, code := some k9c6 }
def k9c7 : Code := { maxStack := 2, maxLocals := 2, code := jdk_52_method_15_code, exceptionTable := #[], attributes := #[] }
def k9m7 : Method := { name := "coderFromArrayLen", desc := "([BI)B", sig := { parameters := [(.array .byte), .int], returnType := some .byte }, accessFlags := 8, code := some k9c7 }
def k9c8 : Code := { maxStack := 5, maxLocals := 6, code := jdk_52_method_16_code, exceptionTable := #[], attributes := #[] }
def k9m8 : Method := { name := "compress", desc := "([CII)[B", sig := { parameters := [(.array .char), .int, .int], returnType := some (.array .byte) }, accessFlags := 9, code := some k9c8 }
def k9c9 : Code := { maxStack := 3, maxLocals := 7, code := jdk_52_method_21_code, exceptionTable := #[], attributes := #[] }
def k9m9 : Method := { name := "compress", desc := "([CI[BII)I", sig := { parameters := [(.array .char), .int, (.array .byte), .int, .int], returnType := some .int }, accessFlags := 9, code := some k9c9 }
def k9c10 : Code := { maxStack := 2, maxLocals := 2, code := jdk_52_method_83_code, exceptionTable := #[], attributes := #[] }
def k9m10 : Method := { name := "charAt", desc := "([BI)C", sig := { parameters := [(.array .byte), .int], returnType := some .char }, accessFlags := 9, code := some k9c10 }
def k9c11 : Code := { maxStack := 2, maxLocals := 2, code := jdk_52_method_91_code, exceptionTable := #[], attributes := #[] }
def k9m11 : Method := { name := "checkIndex", desc := "(I[B)V", sig := { parameters := [.int, (.array .byte)], returnType := none }, accessFlags := 9, code := some k9c11 }
/-- java/lang/StringUTF16 -/
def k9 : Class := { plain "java/lang/StringUTF16" (some 0) with
  accessFlags := 48
  interfaces := #[]
  cf := some (fileOf pool9 12 #[.nestMembers #[627, 629, 369]] #[{ accessFlags := 0, nameIndex := 9, descriptorIndex := 10, attributes := #[] }, { accessFlags := 9, nameIndex := 109, descriptorIndex := 110, attributes := #[] }, { accessFlags := 9, nameIndex := 15, descriptorIndex := 16, attributes := #[] }, { accessFlags := 8, nameIndex := 113, descriptorIndex := 114, attributes := #[] }, { accessFlags := 8, nameIndex := 73, descriptorIndex := 74, attributes := #[] }, { accessFlags := 9, nameIndex := 50, descriptorIndex := 51, attributes := #[] }, { accessFlags := 9, nameIndex := 121, descriptorIndex := 122, attributes := #[] }, { accessFlags := 8, nameIndex := 261, descriptorIndex := 262, attributes := #[] }, { accessFlags := 9, nameIndex := 117, descriptorIndex := 122, attributes := #[] }, { accessFlags := 9, nameIndex := 117, descriptorIndex := 118, attributes := #[] }, { accessFlags := 9, nameIndex := 392, descriptorIndex := 74, attributes := #[] }, { accessFlags := 9, nameIndex := 69, descriptorIndex := 70, attributes := #[] }] 48 6 #[] #[{ accessFlags := 26, nameIndex := 61, descriptorIndex := 62, attributes := #[] }, { accessFlags := 26, nameIndex := 65, descriptorIndex := 62, attributes := #[] }, { accessFlags := 24, nameIndex := 430, descriptorIndex := 62, attributes := #[] }, { accessFlags := 4120, nameIndex := 46, descriptorIndex := 47, attributes := #[] }])
  fields := #[{ name := "HI_BYTE_SHIFT", type := .int, accessFlags := 26, slot := 0, constantValue := 0 }, { name := "LO_BYTE_SHIFT", type := .int, accessFlags := 26, slot := 1, constantValue := 0 }, { name := "MAX_LENGTH", type := .int, accessFlags := 24, slot := 2, constantValue := 0 }, { name := "$assertionsDisabled", type := .boolean, accessFlags := 4120, slot := 3, constantValue := 0 }]
  methods := #[k9m0, k9m1, k9m2, k9m3, k9m4, k9m5, k9m6, k9m7, k9m8, k9m9, k9m10, k9m11]
  instanceTypes := #[]
  staticTypes := #[.int, .int, .int, .boolean]
  resolved := Array.replicate 635 none
  statics := some 1 }

def pool10 : Array CpInfo := pool [(1, .class_ 2), (0, u "java/lang/String"), (1, .class_ 6), (1, u "java/lang/Object"), (0, u "<init>"), (0, u "()V"), (0, .methodref 1 10), (0, .nameAndType 11 12), (0, u "checkIndex"), (0, u "(II)V"), (1, .class_ 16), (1, u "java/lang/StringLatin1"), (36, u "([BI)C"), (67, u "$assertionsDisabled"), (0, u "Z"), (98, .class_ 223), (1, u "java/lang/StringLatin1$LinesSpliterator"), (28, u "charAt"), (137, .class_ 391), (0, u "java/lang/StringLatin1$CharsSpliterator")] 3

def k10m0 : Method := { name := "<init>", desc := "()V", sig := { parameters := [], returnType := none }, accessFlags := 0, code := none }
def k10c1 : Code := { maxStack := 2, maxLocals := 2, code := jdk_43_method_2_code, exceptionTable := #[], attributes := #[] }
def k10m1 : Method := { name := "charAt", desc := "([BI)C", sig := { parameters := [(.array .byte), .int], returnType := some .char }, accessFlags := 9, code := some k10c1 }
/-- java/lang/StringLatin1 -/
def k10 : Class := { plain "java/lang/StringLatin1" (some 0) with
  accessFlags := 48
  interfaces := #[]
  cf := some (fileOf pool10 14 #[.nestMembers #[390, 221]] #[{ accessFlags := 0, nameIndex := 7, descriptorIndex := 8, attributes := #[] }, { accessFlags := 9, nameIndex := 252, descriptorIndex := 53, attributes := #[] }] 48 4 #[] #[{ accessFlags := 4120, nameIndex := 121, descriptorIndex := 122, attributes := #[] }])
  fields := #[{ name := "$assertionsDisabled", type := .boolean, accessFlags := 4120, slot := 0, constantValue := 0 }]
  methods := #[k10m0, k10m1]
  instanceTypes := #[]
  staticTypes := #[.boolean]
  resolved := Array.replicate 395 none
  statics := none }

def pool11 : Array CpInfo := pool [(2, .class_ 4), (1, u "java/lang/Object"), (0, u "<init>"), (0, u "()V"), (17, .class_ 26), (1, u "jdk/internal/util/Preconditions"), (6, u "checkIndex"), (21, .class_ 56), (0, u "jdk/internal/util/Preconditions$4"), (57, .class_ 115), (0, u "jdk/internal/util/Preconditions$1"), (7, u "SIOOBE_FORMATTER"), (0, u "Ljava/util/function/BiFunction;"), (0, .class_ 126), (0, u "jdk/internal/util/Preconditions$2"), (3, u "AIOOBE_FORMATTER"), (0, .class_ 132), (0, u "jdk/internal/util/Preconditions$3"), (3, u "IOOBE_FORMATTER"), (41, u "(IILjava/util/function/BiFunction;)I")] 15

def k11m0 : Method := { name := "<init>", desc := "()V", sig := { parameters := [], returnType := none }, accessFlags := 1, code := none }
def k11c1 : Code := { maxStack := 3, maxLocals := 3, code := jdk_41_method_11_code, exceptionTable := #[], attributes := #[] }
def k11m1 : Method := { name := "checkIndex", desc := "(IILjava/util/function/BiFunction;)I", sig := { parameters := [.int, .int, (.object "java/util/function/BiFunction")], returnType := some .int }, accessFlags := 9, code := some k11c1 }
/-- jdk/internal/util/Preconditions -/
def k11 : Class := { plain "jdk/internal/util/Preconditions" (some 0) with
  accessFlags := 33
  interfaces := #[]
  cf := some (fileOf pool11 24 #[.nestMembers #[55, 131, 125, 114]] #[{ accessFlags := 1, nameIndex := 5, descriptorIndex := 6, attributes := #[] }, { accessFlags := 9, nameIndex := 33, descriptorIndex := 178, attributes := #[] }] 33 2 #[] #[{ accessFlags := 25, nameIndex := 123, descriptorIndex := 124, attributes := #[] }, { accessFlags := 25, nameIndex := 130, descriptorIndex := 124, attributes := #[] }, { accessFlags := 25, nameIndex := 136, descriptorIndex := 124, attributes := #[] }])
  fields := #[{ name := "SIOOBE_FORMATTER", type := (.object "java/util/function/BiFunction"), accessFlags := 25, slot := 0, constantValue := 0 }, { name := "AIOOBE_FORMATTER", type := (.object "java/util/function/BiFunction"), accessFlags := 25, slot := 1, constantValue := 0 }, { name := "IOOBE_FORMATTER", type := (.object "java/util/function/BiFunction"), accessFlags := 25, slot := 2, constantValue := 0 }]
  methods := #[k11m0, k11m1]
  instanceTypes := #[]
  staticTypes := #[(.object "java/util/function/BiFunction"), (.object "java/util/function/BiFunction"), (.object "java/util/function/BiFunction")]
  resolved := Array.replicate 194 none
  statics := some 2 }

def pool12 : Array CpInfo := pool [(1, .class_ 2), (0, u "java/lang/Character"), (18, u "value"), (0, u "C"), (19, .class_ 44), (1, u "java/lang/Object"), (3, .class_ 50), (1, u "java/lang/Character$CharacterCache"), (30, u "(C)Z"), (32, u "(I)Z"), (151, .methodref 1 267), (0, .nameAndType 268 114), (0, u "isISOControl"), (15, u "$assertionsDisabled"), (0, u "Z"), (21, .class_ 309), (1, u "java/lang/Character$UnicodeBlock"), (73, u "TYPE"), (0, u "Ljava/lang/Class;"), (0, .class_ 386), (0, u "java/io/Serializable"), (0, .class_ 388), (0, u "java/lang/Comparable"), (0, .class_ 390), (0, u "java/lang/constant/Constable"), (0, u "MIN_RADIX"), (0, u "I"), (2, u "MAX_RADIX"), (1, u "MIN_VALUE"), (1, u "MAX_VALUE"), (3, u "UNASSIGNED"), (0, u "B"), (0, u "UPPERCASE_LETTER"), (1, u "LOWERCASE_LETTER"), (0, u "TITLECASE_LETTER"), (1, u "MODIFIER_LETTER"), (1, u "OTHER_LETTER"), (1, u "NON_SPACING_MARK"), (1, u "ENCLOSING_MARK"), (1, u "COMBINING_SPACING_MARK"), (1, u "DECIMAL_DIGIT_NUMBER"), (1, u "LETTER_NUMBER"), (1, u "OTHER_NUMBER"), (1, u "SPACE_SEPARATOR"), (1, u "LINE_SEPARATOR"), (1, u "PARAGRAPH_SEPARATOR"), (1, u "CONTROL"), (1, u "FORMAT"), (1, u "PRIVATE_USE"), (1, u "SURROGATE"), (1, u "DASH_PUNCTUATION"), (1, u "START_PUNCTUATION"), (1, u "END_PUNCTUATION"), (1, u "CONNECTOR_PUNCTUATION"), (1, u "OTHER_PUNCTUATION"), (1, u "MATH_SYMBOL"), (1, u "CURRENCY_SYMBOL"), (1, u "MODIFIER_SYMBOL"), (1, u "OTHER_SYMBOL"), (1, u "INITIAL_QUOTE_PUNCTUATION"), (1, u "FINAL_QUOTE_PUNCTUATION"), (1, u "ERROR"), (1, u "DIRECTIONALITY_UNDEFINED"), (0, u "DIRECTIONALITY_LEFT_TO_RIGHT"), (0, u "DIRECTIONALITY_RIGHT_TO_LEFT"), (0, u "DIRECTIONALITY_RIGHT_TO_LEFT_ARABIC"), (0, u "DIRECTIONALITY_EUROPEAN_NUMBER"), (0, u "DIRECTIONALITY_EUROPEAN_NUMBER_SEPARATOR"), (0, u "DIRECTIONALITY_EUROPEAN_NUMBER_TERMINATOR"), (0, u "DIRECTIONALITY_ARABIC_NUMBER"), (0, u "DIRECTIONALITY_COMMON_NUMBER_SEPARATOR"), (0, u "DIRECTIONALITY_NONSPACING_MARK"), (0, u "DIRECTIONALITY_BOUNDARY_NEUTRAL"), (0, u "DIRECTIONALITY_PARAGRAPH_SEPARATOR"), (0, u "DIRECTIONALITY_SEGMENT_SEPARATOR"), (0, u "DIRECTIONALITY_WHITESPACE"), (0, u "DIRECTIONALITY_OTHER_NEUTRALS"), (0, u "DIRECTIONALITY_LEFT_TO_RIGHT_EMBEDDING"), (0, u "DIRECTIONALITY_LEFT_TO_RIGHT_OVERRIDE"), (0, u "DIRECTIONALITY_RIGHT_TO_LEFT_EMBEDDING"), (0, u "DIRECTIONALITY_RIGHT_TO_LEFT_OVERRIDE"), (1, u "DIRECTIONALITY_POP_DIRECTIONAL_FORMAT"), (0, u "DIRECTIONALITY_LEFT_TO_RIGHT_ISOLATE"), (0, u "DIRECTIONALITY_RIGHT_TO_LEFT_ISOLATE"), (0, u "DIRECTIONALITY_FIRST_STRONG_ISOLATE"), (0, u "DIRECTIONALITY_POP_DIRECTIONAL_ISOLATE"), (0, u "MIN_HIGH_SURROGATE"), (0, u "MAX_HIGH_SURROGATE"), (1, u "MIN_LOW_SURROGATE"), (0, u "MAX_LOW_SURROGATE"), (1, u "MIN_SURROGATE"), (0, u "MAX_SURROGATE"), (0, u "MIN_SUPPLEMENTARY_CODE_POINT"), (0, u "MIN_CODE_POINT"), (0, u "MAX_CODE_POINT"), (1, u "serialVersionUID"), (0, u "J"), (2, u "SIZE"), (0, u "BYTES"), (88, .class_ 596), (0, u "java/lang/Character$UnicodeScript"), (0, .class_ 598), (0, u "java/lang/Character$Subset")] 5

def k12c0 : Code := { maxStack := 1, maxLocals := 1, code := jdk_89_method_88_code, exceptionTable := #[], attributes := #[] }
def k12m0 : Method := { name := "isISOControl", desc := "(C)Z", sig := { parameters := [.char], returnType := some .boolean }, accessFlags := 9, code := some k12c0 }
def k12c1 : Code := { maxStack := 2, maxLocals := 1, code := jdk_89_method_89_code, exceptionTable := #[], attributes := #[] }
def k12m1 : Method := { name := "isISOControl", desc := "(I)Z", sig := { parameters := [.int], returnType := some .boolean }, accessFlags := 9, code := some k12c1 }
/-- java/lang/Character -/
def k12 : Class := { plain "java/lang/Character" (some 0) with
  accessFlags := 49
  interfaces := #[2, 3, 5]
  cf := some (fileOf pool12 1 #[.nestMembers #[48, 595, 307, 597]] #[{ accessFlags := 9, nameIndex := 268, descriptorIndex := 81, attributes := #[] }, { accessFlags := 9, nameIndex := 268, descriptorIndex := 114, attributes := #[] }] 49 42 #[385, 387, 389] #[{ accessFlags := 25, nameIndex := 391, descriptorIndex := 392, attributes := #[] }, { accessFlags := 25, nameIndex := 395, descriptorIndex := 392, attributes := #[] }, { accessFlags := 25, nameIndex := 397, descriptorIndex := 22, attributes := #[] }, { accessFlags := 25, nameIndex := 399, descriptorIndex := 22, attributes := #[] }, { accessFlags := 25, nameIndex := 383, descriptorIndex := 384, attributes := #[] }, { accessFlags := 25, nameIndex := 403, descriptorIndex := 404, attributes := #[] }, { accessFlags := 25, nameIndex := 405, descriptorIndex := 404, attributes := #[] }, { accessFlags := 25, nameIndex := 407, descriptorIndex := 404, attributes := #[] }, { accessFlags := 25, nameIndex := 408, descriptorIndex := 404, attributes := #[] }, { accessFlags := 25, nameIndex := 410, descriptorIndex := 404, attributes := #[] }, { accessFlags := 25, nameIndex := 412, descriptorIndex := 404, attributes := #[] }, { accessFlags := 25, nameIndex := 414, descriptorIndex := 404, attributes := #[] }, { accessFlags := 25, nameIndex := 416, descriptorIndex := 404, attributes := #[] }, { accessFlags := 25, nameIndex := 418, descriptorIndex := 404, attributes := #[] }, { accessFlags := 25, nameIndex := 420, descriptorIndex := 404, attributes := #[] }, { accessFlags := 25, nameIndex := 422, descriptorIndex := 404, attributes := #[] }, { accessFlags := 25, nameIndex := 424, descriptorIndex := 404, attributes := #[] }, { accessFlags := 25, nameIndex := 426, descriptorIndex := 404, attributes := #[] }, { accessFlags := 25, nameIndex := 428, descriptorIndex := 404, attributes := #[] }, { accessFlags := 25, nameIndex := 430, descriptorIndex := 404, attributes := #[] }, { accessFlags := 25, nameIndex := 432, descriptorIndex := 404, attributes := #[] }, { accessFlags := 25, nameIndex := 434, descriptorIndex := 404, attributes := #[] }, { accessFlags := 25, nameIndex := 436, descriptorIndex := 404, attributes := #[] }, { accessFlags := 25, nameIndex := 438, descriptorIndex := 404, attributes := #[] }, { accessFlags := 25, nameIndex := 440, descriptorIndex := 404, attributes := #[] }, { accessFlags := 25, nameIndex := 442, descriptorIndex := 404, attributes := #[] }, { accessFlags := 25, nameIndex := 444, descriptorIndex := 404, attributes := #[] }, { accessFlags := 25, nameIndex := 446, descriptorIndex := 404, attributes := #[] }, { accessFlags := 25, nameIndex := 448, descriptorIndex := 404, attributes := #[] }, { accessFlags := 25, nameIndex := 450, descriptorIndex := 404, attributes := #[] }, { accessFlags := 25, nameIndex := 452, descriptorIndex := 404, attributes := #[] }, { accessFlags := 25, nameIndex := 454, descriptorIndex := 404, attributes := #[] }, { accessFlags := 25, nameIndex := 456, descriptorIndex := 404, attributes := #[] }, { accessFlags := 25, nameIndex := 458, descriptorIndex := 404, attributes := #[] }, { accessFlags := 25, nameIndex := 460, descriptorIndex := 404, attributes := #[] }, { accessFlags := 24, nameIndex := 462, descriptorIndex := 392, attributes := #[] }, { accessFlags := 25, nameIndex := 464, descriptorIndex := 404, attributes := #[] }, { accessFlags := 25, nameIndex := 465, descriptorIndex := 404, attributes := #[] }, { accessFlags := 25, nameIndex := 466, descriptorIndex := 404, attributes := #[] }, { accessFlags := 25, nameIndex := 467, descriptorIndex := 404, attributes := #[] }, { accessFlags := 25, nameIndex := 468, descriptorIndex := 404, attributes := #[] }, { accessFlags := 25, nameIndex := 469, descriptorIndex := 404, attributes := #[] }, { accessFlags := 25, nameIndex := 470, descriptorIndex := 404, attributes := #[] }, { accessFlags := 25, nameIndex := 471, descriptorIndex := 404, attributes := #[] }, { accessFlags := 25, nameIndex := 472, descriptorIndex := 404, attributes := #[] }, { accessFlags := 25, nameIndex := 473, descriptorIndex := 404, attributes := #[] }, { accessFlags := 25, nameIndex := 474, descriptorIndex := 404, attributes := #[] }, { accessFlags := 25, nameIndex := 475, descriptorIndex := 404, attributes := #[] }, { accessFlags := 25, nameIndex := 476, descriptorIndex := 404, attributes := #[] }, { accessFlags := 25, nameIndex := 477, descriptorIndex := 404, attributes := #[] }, { accessFlags := 25, nameIndex := 478, descriptorIndex := 404, attributes := #[] }, { accessFlags := 25, nameIndex := 479, descriptorIndex := 404, attributes := #[] }, { accessFlags := 25, nameIndex := 480, descriptorIndex := 404, attributes := #[] }, { accessFlags := 25, nameIndex := 481, descriptorIndex := 404, attributes := #[] }, { accessFlags := 25, nameIndex := 482, descriptorIndex := 404, attributes := #[] }, { accessFlags := 25, nameIndex := 484, descriptorIndex := 404, attributes := #[] }, { accessFlags := 25, nameIndex := 485, descriptorIndex := 404, attributes := #[] }, { accessFlags := 25, nameIndex := 486, descriptorIndex := 404, attributes := #[] }, { accessFlags := 25, nameIndex := 487, descriptorIndex := 404, attributes := #[] }, { accessFlags := 25, nameIndex := 488, descriptorIndex := 404, attributes := #[] }, { accessFlags := 25, nameIndex := 489, descriptorIndex := 22, attributes := #[] }, { accessFlags := 25, nameIndex := 490, descriptorIndex := 22, attributes := #[] }, { accessFlags := 25, nameIndex := 492, descriptorIndex := 22, attributes := #[] }, { accessFlags := 25, nameIndex := 493, descriptorIndex := 22, attributes := #[] }, { accessFlags := 25, nameIndex := 495, descriptorIndex := 22, attributes := #[] }, { accessFlags := 25, nameIndex := 496, descriptorIndex := 22, attributes := #[] }, { accessFlags := 25, nameIndex := 497, descriptorIndex := 392, attributes := #[] }, { accessFlags := 25, nameIndex := 498, descriptorIndex := 392, attributes := #[] }, { accessFlags := 25, nameIndex := 499, descriptorIndex := 392, attributes := #[] }, { accessFlags := 18, nameIndex := 21, descriptorIndex := 22, attributes := #[] }, { accessFlags := 26, nameIndex := 501, descriptorIndex := 502, attributes := #[] }, { accessFlags := 25, nameIndex := 505, descriptorIndex := 392, attributes := #[] }, { accessFlags := 25, nameIndex := 506, descriptorIndex := 392, attributes := #[] }, { accessFlags := 4120, nameIndex := 284, descriptorIndex := 285, attributes := #[] }])
  fields := #[{ name := "MIN_RADIX", type := .int, accessFlags := 25, slot := 0, constantValue := 0 }, { name := "MAX_RADIX", type := .int, accessFlags := 25, slot := 1, constantValue := 0 }, { name := "MIN_VALUE", type := .char, accessFlags := 25, slot := 2, constantValue := 0 }, { name := "MAX_VALUE", type := .char, accessFlags := 25, slot := 3, constantValue := 0 }, { name := "TYPE", type := (.object "java/lang/Class"), accessFlags := 25, slot := 4, constantValue := 0 }, { name := "UNASSIGNED", type := .byte, accessFlags := 25, slot := 5, constantValue := 0 }, { name := "UPPERCASE_LETTER", type := .byte, accessFlags := 25, slot := 6, constantValue := 0 }, { name := "LOWERCASE_LETTER", type := .byte, accessFlags := 25, slot := 7, constantValue := 0 }, { name := "TITLECASE_LETTER", type := .byte, accessFlags := 25, slot := 8, constantValue := 0 }, { name := "MODIFIER_LETTER", type := .byte, accessFlags := 25, slot := 9, constantValue := 0 }, { name := "OTHER_LETTER", type := .byte, accessFlags := 25, slot := 10, constantValue := 0 }, { name := "NON_SPACING_MARK", type := .byte, accessFlags := 25, slot := 11, constantValue := 0 }, { name := "ENCLOSING_MARK", type := .byte, accessFlags := 25, slot := 12, constantValue := 0 }, { name := "COMBINING_SPACING_MARK", type := .byte, accessFlags := 25, slot := 13, constantValue := 0 }, { name := "DECIMAL_DIGIT_NUMBER", type := .byte, accessFlags := 25, slot := 14, constantValue := 0 }, { name := "LETTER_NUMBER", type := .byte, accessFlags := 25, slot := 15, constantValue := 0 }, { name := "OTHER_NUMBER", type := .byte, accessFlags := 25, slot := 16, constantValue := 0 }, { name := "SPACE_SEPARATOR", type := .byte, accessFlags := 25, slot := 17, constantValue := 0 }, { name := "LINE_SEPARATOR", type := .byte, accessFlags := 25, slot := 18, constantValue := 0 }, { name := "PARAGRAPH_SEPARATOR", type := .byte, accessFlags := 25, slot := 19, constantValue := 0 }, { name := "CONTROL", type := .byte, accessFlags := 25, slot := 20, constantValue := 0 }, { name := "FORMAT", type := .byte, accessFlags := 25, slot := 21, constantValue := 0 }, { name := "PRIVATE_USE", type := .byte, accessFlags := 25, slot := 22, constantValue := 0 }, { name := "SURROGATE", type := .byte, accessFlags := 25, slot := 23, constantValue := 0 }, { name := "DASH_PUNCTUATION", type := .byte, accessFlags := 25, slot := 24, constantValue := 0 }, { name := "START_PUNCTUATION", type := .byte, accessFlags := 25, slot := 25, constantValue := 0 }, { name := "END_PUNCTUATION", type := .byte, accessFlags := 25, slot := 26, constantValue := 0 }, { name := "CONNECTOR_PUNCTUATION", type := .byte, accessFlags := 25, slot := 27, constantValue := 0 }, { name := "OTHER_PUNCTUATION", type := .byte, accessFlags := 25, slot := 28, constantValue := 0 }, { name := "MATH_SYMBOL", type := .byte, accessFlags := 25, slot := 29, constantValue := 0 }, { name := "CURRENCY_SYMBOL", type := .byte, accessFlags := 25, slot := 30, constantValue := 0 }, { name := "MODIFIER_SYMBOL", type := .byte, accessFlags := 25, slot := 31, constantValue := 0 }, { name := "OTHER_SYMBOL", type := .byte, accessFlags := 25, slot := 32, constantValue := 0 }, { name := "INITIAL_QUOTE_PUNCTUATION", type := .byte, accessFlags := 25, slot := 33, constantValue := 0 }, { name := "FINAL_QUOTE_PUNCTUATION", type := .byte, accessFlags := 25, slot := 34, constantValue := 0 }, { name := "ERROR", type := .int, accessFlags := 24, slot := 35, constantValue := 0 }, { name := "DIRECTIONALITY_UNDEFINED", type := .byte, accessFlags := 25, slot := 36, constantValue := 0 }, { name := "DIRECTIONALITY_LEFT_TO_RIGHT", type := .byte, accessFlags := 25, slot := 37, constantValue := 0 }, { name := "DIRECTIONALITY_RIGHT_TO_LEFT", type := .byte, accessFlags := 25, slot := 38, constantValue := 0 }, { name := "DIRECTIONALITY_RIGHT_TO_LEFT_ARABIC", type := .byte, accessFlags := 25, slot := 39, constantValue := 0 }, { name := "DIRECTIONALITY_EUROPEAN_NUMBER", type := .byte, accessFlags := 25, slot := 40, constantValue := 0 }, { name := "DIRECTIONALITY_EUROPEAN_NUMBER_SEPARATOR", type := .byte, accessFlags := 25, slot := 41, constantValue := 0 }, { name := "DIRECTIONALITY_EUROPEAN_NUMBER_TERMINATOR", type := .byte, accessFlags := 25, slot := 42, constantValue := 0 }, { name := "DIRECTIONALITY_ARABIC_NUMBER", type := .byte, accessFlags := 25, slot := 43, constantValue := 0 }, { name := "DIRECTIONALITY_COMMON_NUMBER_SEPARATOR", type := .byte, accessFlags := 25, slot := 44, constantValue := 0 }, { name := "DIRECTIONALITY_NONSPACING_MARK", type := .byte, accessFlags := 25, slot := 45, constantValue := 0 }, { name := "DIRECTIONALITY_BOUNDARY_NEUTRAL", type := .byte, accessFlags := 25, slot := 46, constantValue := 0 }, { name := "DIRECTIONALITY_PARAGRAPH_SEPARATOR", type := .byte, accessFlags := 25, slot := 47, constantValue := 0 }, { name := "DIRECTIONALITY_SEGMENT_SEPARATOR", type := .byte, accessFlags := 25, slot := 48, constantValue := 0 }, { name := "DIRECTIONALITY_WHITESPACE", type := .byte, accessFlags := 25, slot := 49, constantValue := 0 }, { name := "DIRECTIONALITY_OTHER_NEUTRALS", type := .byte, accessFlags := 25, slot := 50, constantValue := 0 }, { name := "DIRECTIONALITY_LEFT_TO_RIGHT_EMBEDDING", type := .byte, accessFlags := 25, slot := 51, constantValue := 0 }, { name := "DIRECTIONALITY_LEFT_TO_RIGHT_OVERRIDE", type := .byte, accessFlags := 25, slot := 52, constantValue := 0 }, { name := "DIRECTIONALITY_RIGHT_TO_LEFT_EMBEDDING", type := .byte, accessFlags := 25, slot := 53, constantValue := 0 }, { name := "DIRECTIONALITY_RIGHT_TO_LEFT_OVERRIDE", type := .byte, accessFlags := 25, slot := 54, constantValue := 0 }, { name := "DIRECTIONALITY_POP_DIRECTIONAL_FORMAT", type := .byte, accessFlags := 25, slot := 55, constantValue := 0 }, { name := "DIRECTIONALITY_LEFT_TO_RIGHT_ISOLATE", type := .byte, accessFlags := 25, slot := 56, constantValue := 0 }, { name := "DIRECTIONALITY_RIGHT_TO_LEFT_ISOLATE", type := .byte, accessFlags := 25, slot := 57, constantValue := 0 }, { name := "DIRECTIONALITY_FIRST_STRONG_ISOLATE", type := .byte, accessFlags := 25, slot := 58, constantValue := 0 }, { name := "DIRECTIONALITY_POP_DIRECTIONAL_ISOLATE", type := .byte, accessFlags := 25, slot := 59, constantValue := 0 }, { name := "MIN_HIGH_SURROGATE", type := .char, accessFlags := 25, slot := 60, constantValue := 0 }, { name := "MAX_HIGH_SURROGATE", type := .char, accessFlags := 25, slot := 61, constantValue := 0 }, { name := "MIN_LOW_SURROGATE", type := .char, accessFlags := 25, slot := 62, constantValue := 0 }, { name := "MAX_LOW_SURROGATE", type := .char, accessFlags := 25, slot := 63, constantValue := 0 }, { name := "MIN_SURROGATE", type := .char, accessFlags := 25, slot := 64, constantValue := 0 }, { name := "MAX_SURROGATE", type := .char, accessFlags := 25, slot := 65, constantValue := 0 }, { name := "MIN_SUPPLEMENTARY_CODE_POINT", type := .int, accessFlags := 25, slot := 66, constantValue := 0 }, { name := "MIN_CODE_POINT", type := .int, accessFlags := 25, slot := 67, constantValue := 0 }, { name := "MAX_CODE_POINT", type := .int, accessFlags := 25, slot := 68, constantValue := 0 }, { name := "value", type := .char, accessFlags := 18, slot := 0, constantValue := 0 }, { name := "serialVersionUID", type := .long, accessFlags := 26, slot := 69, constantValue := 0 }, { name := "SIZE", type := .int, accessFlags := 25, slot := 70, constantValue := 0 }, { name := "BYTES", type := .int, accessFlags := 25, slot := 71, constantValue := 0 }, { name := "$assertionsDisabled", type := .boolean, accessFlags := 4120, slot := 72, constantValue := 0 }]
  methods := #[k12m0, k12m1]
  instanceTypes := #[.char]
  staticTypes := #[.int, .int, .char, .char, (.object "java/lang/Class"), .byte, .byte, .byte, .byte, .byte, .byte, .byte, .byte, .byte, .byte, .byte, .byte, .byte, .byte, .byte, .byte, .byte, .byte, .byte, .byte, .byte, .byte, .byte, .byte, .byte, .byte, .byte, .byte, .byte, .byte, .int, .byte, .byte, .byte, .byte, .byte, .byte, .byte, .byte, .byte, .byte, .byte, .byte, .byte, .byte, .byte, .byte, .byte, .byte, .byte, .byte, .byte, .byte, .byte, .byte, .char, .char, .char, .char, .char, .char, .int, .int, .int, .long, .int, .int, .boolean]
  resolved := Array.replicate 604 none
  statics := none }

def pool13 : Array CpInfo := pool [(9, u "<init>"), (6, .class_ 18), (1, u "java/lang/Object"), (0, u "()V"), (1, .class_ 23), (1, u "jdk/internal/util/ArraysSupport"), (0, u "LOG2_ARRAY_LONG_INDEX_SCALE"), (0, u "I"), (2, u "U"), (0, u "Ljdk/internal/misc/Unsafe;"), (8, u "BIG_ENDIAN"), (0, u "Z"), (8, u "LOG2_BYTE_BIT_SIZE"), (4, u "LOG2_ARRAY_INT_INDEX_SCALE"), (54, u "JLA"), (0, u "Ljdk/internal/access/JavaLangAccess;"), (11, u "LOG2_ARRAY_BOOLEAN_INDEX_SCALE"), (9, u "LOG2_ARRAY_BYTE_INDEX_SCALE"), (5, u "LOG2_ARRAY_CHAR_INDEX_SCALE"), (5, u "LOG2_ARRAY_SHORT_INDEX_SCALE"), (18, u "LOG2_ARRAY_FLOAT_INDEX_SCALE"), (24, u "LOG2_ARRAY_DOUBLE_INDEX_SCALE"), (89, u "T_BOOLEAN"), (2, u "T_CHAR"), (1, u "T_FLOAT"), (1, u "T_DOUBLE"), (1, u "T_BYTE"), (1, u "T_SHORT"), (1, u "T_INT"), (1, u "T_LONG"), (1, u "SOFT_MAX_ARRAY_LENGTH")] 83

def k13m0 : Method := { name := "<init>", desc := "()V", sig := { parameters := [], returnType := none }, accessFlags := 2, code := none }
/-- jdk/internal/util/ArraysSupport -/
def k13 : Class := { plain "jdk/internal/util/ArraysSupport" (some 0) with
  accessFlags := 33
  interfaces := #[]
  cf := some (fileOf pool13 21 #[] #[{ accessFlags := 2, nameIndex := 9, descriptorIndex := 19, attributes := #[] }] 33 16 #[] #[{ accessFlags := 24, nameIndex := 28, descriptorIndex := 29, attributes := #[] }, { accessFlags := 26, nameIndex := 38, descriptorIndex := 39, attributes := #[] }, { accessFlags := 25, nameIndex := 121, descriptorIndex := 25, attributes := #[] }, { accessFlags := 25, nameIndex := 131, descriptorIndex := 25, attributes := #[] }, { accessFlags := 25, nameIndex := 137, descriptorIndex := 25, attributes := #[] }, { accessFlags := 25, nameIndex := 143, descriptorIndex := 25, attributes := #[] }, { accessFlags := 25, nameIndex := 53, descriptorIndex := 25, attributes := #[] }, { accessFlags := 25, nameIndex := 24, descriptorIndex := 25, attributes := #[] }, { accessFlags := 25, nameIndex := 162, descriptorIndex := 25, attributes := #[] }, { accessFlags := 25, nameIndex := 187, descriptorIndex := 25, attributes := #[] }, { accessFlags := 26, nameIndex := 48, descriptorIndex := 25, attributes := #[] }, { accessFlags := 25, nameIndex := 277, descriptorIndex := 25, attributes := #[] }, { accessFlags := 25, nameIndex := 280, descriptorIndex := 25, attributes := #[] }, { accessFlags := 25, nameIndex := 282, descriptorIndex := 25, attributes := #[] }, { accessFlags := 25, nameIndex := 284, descriptorIndex := 25, attributes := #[] }, { accessFlags := 25, nameIndex := 286, descriptorIndex := 25, attributes := #[] }, { accessFlags := 25, nameIndex := 288, descriptorIndex := 25, attributes := #[] }, { accessFlags := 25, nameIndex := 290, descriptorIndex := 25, attributes := #[] }, { accessFlags := 25, nameIndex := 292, descriptorIndex := 25, attributes := #[] }, { accessFlags := 26, nameIndex := 108, descriptorIndex := 109, attributes := #[] }, { accessFlags := 25, nameIndex := 294, descriptorIndex := 25, attributes := #[] }])
  fields := #[{ name := "U", type := (.object "jdk/internal/misc/Unsafe"), accessFlags := 24, slot := 0, constantValue := 0 }, { name := "BIG_ENDIAN", type := .boolean, accessFlags := 26, slot := 1, constantValue := 0 }, { name := "LOG2_ARRAY_BOOLEAN_INDEX_SCALE", type := .int, accessFlags := 25, slot := 2, constantValue := 0 }, { name := "LOG2_ARRAY_BYTE_INDEX_SCALE", type := .int, accessFlags := 25, slot := 3, constantValue := 0 }, { name := "LOG2_ARRAY_CHAR_INDEX_SCALE", type := .int, accessFlags := 25, slot := 4, constantValue := 0 }, { name := "LOG2_ARRAY_SHORT_INDEX_SCALE", type := .int, accessFlags := 25, slot := 5, constantValue := 0 }, { name := "LOG2_ARRAY_INT_INDEX_SCALE", type := .int, accessFlags := 25, slot := 6, constantValue := 0 }, { name := "LOG2_ARRAY_LONG_INDEX_SCALE", type := .int, accessFlags := 25, slot := 7, constantValue := 0 }, { name := "LOG2_ARRAY_FLOAT_INDEX_SCALE", type := .int, accessFlags := 25, slot := 8, constantValue := 0 }, { name := "LOG2_ARRAY_DOUBLE_INDEX_SCALE", type := .int, accessFlags := 25, slot := 9, constantValue := 0 }, { name := "LOG2_BYTE_BIT_SIZE", type := .int, accessFlags := 26, slot := 10, constantValue := 0 }, { name := "T_BOOLEAN", type := .int, accessFlags := 25, slot := 11, constantValue := 0 }, { name := "T_CHAR", type := .int, accessFlags := 25, slot := 12, constantValue := 0 }, { name := "T_FLOAT", type := .int, accessFlags := 25, slot := 13, constantValue := 0 }, { name := "T_DOUBLE", type := .int, accessFlags := 25, slot := 14, constantValue := 0 }, { name := "T_BYTE", type := .int, accessFlags := 25, slot := 15, constantValue := 0 }, { name := "T_SHORT", type := .int, accessFlags := 25, slot := 16, constantValue := 0 }, { name := "T_INT", type := .int, accessFlags := 25, slot := 17, constantValue := 0 }, { name := "T_LONG", type := .int, accessFlags := 25, slot := 18, constantValue := 0 }, { name := "JLA", type := (.object "jdk/internal/access/JavaLangAccess"), accessFlags := 26, slot := 19, constantValue := 0 }, { name := "SOFT_MAX_ARRAY_LENGTH", type := .int, accessFlags := 25, slot := 20, constantValue := 0 }]
  methods := #[k13m0]
  instanceTypes := #[]
  staticTypes := #[(.object "jdk/internal/misc/Unsafe"), .boolean, .int, .int, .int, .int, .int, .int, .int, .int, .int, .int, .int, .int, .int, .int, .int, .int, .int, (.object "jdk/internal/access/JavaLangAccess"), .int]
  resolved := Array.replicate 378 none
  statics := none }

def pool14 : Array CpInfo := pool [(1, u "java/lang/Cloneable"), (0, .class_ 1), (0, u "java/lang/Object"), (0, .class_ 3)] 3

/-- java/lang/Cloneable -/
def k14 : Class := { plain "java/lang/Cloneable" (some 0) with
  accessFlags := 1537
  interfaces := #[]
  cf := some (fileOf pool14 2 #[] #[] 1537 4 #[] #[])
  fields := #[]
  methods := #[]
  instanceTypes := #[]
  staticTypes := #[]
  resolved := Array.replicate 8 none
  statics := none }

/-- the primitive byte -/
def k15 : Class := { plain "byte" none with kind := .primitive 'B', accessFlags := 0x411 }
/-- [B -/
def k16 : Class := { plain "[B" (some 0) with kind := .array 15 .byte, interfaces := #[14, 2], accessFlags := 1041 }

/-- the primitive char -/
def k17 : Class := { plain "char" none with kind := .primitive 'C', accessFlags := 0x411 }
/-- [C -/
def k18 : Class := { plain "[C" (some 0) with kind := .array 17 .char, interfaces := #[14, 2], accessFlags := 1041 }

/-- the primitive int -/
def k19 : Class := { plain "int" none with kind := .primitive 'I', accessFlags := 0x411 }
/-- [I -/
def k20 : Class := { plain "[I" (some 0) with kind := .array 19 .int, interfaces := #[14, 2], accessFlags := 1041 }

def heap : Heap := #[{ cls := 7, slots := #[.long 0, .int 1, .null, .int 0, .null, .int 0, .int 0], vm := .statics 7 },
  { cls := 9, slots := #[.int 0, .int 8, .int 0, .int 1], vm := .statics 9 },
  { cls := 11, slots := #[.null, .null, .null], vm := .statics 11 }]
def classes : Array Class := #[k0, k1, k2, k3, k4, k5, k6, k7, k8, k9, k10, k11, k12, k13, k14, k15, k16, k17, k18, k19, k20]
def interned : List (Array UInt16 × Addr) := []
def slotsUsed : Nat := 14
def theMethod : MethodId := ⟨1, 1⟩
def args0 : Array Value := #[.int 1, .int 2, .int 3, .int 4, .int 5]
def aboutOver (below : List Frame) : State where
  vm := { classes := classes, interned := interned.toArray }
  heap := heap
  slotsUsed := slotsUsed
  threads := #[{ frames := .invoking theMethod args0 :: below }]
def below0 : List Frame := [.native { method := ⟨0, 0⟩, args := #[] }]
def about1 : State := aboutOver below0
def p0 : Program := .bare "" "" ""
def e0 : Env := launch0.env 0 0 0
theorem w_frames : about1.frames = Frame.invoking theMethod args0 :: below0 := rfl
set_option maxRecDepth 65536 in
theorem w_args : argsFit about1.vm theMethod args0 = true := by decide +kernel
set_option maxRecDepth 65536 in
theorem w_heap : heapFits about1 = true := by decide +kernel
set_option maxRecDepth 65536 in
theorem w_runnable : about1.curStatus? = some .runnable := by decide +kernel
set_option maxRecDepth 65536 in
theorem w_alone : about1.alone = true := by decide +kernel
set_option maxRecDepth 65536 in
theorem w_named : about1.methodNamed? x = some theMethod := by decide +kernel
set_option maxRecDepth 65536 in
theorem w_hears : about1.hears theMethod below0 = true := by decide +kernel
set_option maxRecDepth 65536 in
theorem w_ripe : about1.ripe theMethod args0 below0 = true := by decide +kernel
theorem w_running : about1.status = .running := rfl
set_option maxRecDepth 65536 in
theorem w_room : about1.hasRoom e0.platform room_1 = true :=
  launch0.hasRoom_least _ room_1 (by decide +kernel) (by decide +kernel) (by decide +kernel) (by decide +kernel) (by decide +kernel) (by decide +kernel)
theorem allAtoms_all (ts : List Jvm.Cond) (a : Array Jvm.Value) (st : Jvm.State) : (allAtoms ts).before a st = ts.all (fun c => c.before a st) := by
  induction ts with
  | nil => rfl
  | cons c t ih =>
    show (Jvm.Cond.and c (allAtoms t)).before a st = _
    rw [Jvm.Cond.before_and, ih, List.all_cons]
def words1 : List Jvm.Cond := Jvm.Cond.code x code maxLocals ret :: tables_1
/-- a 'code' word, met by the world's own term for the bytes: nothing is compared byte by byte -/
theorem code_word {y : MethodName} {bytes : ByteArray} {mx : Nat} {rt : Option FieldType} {a : Array Value} {s : State} {m : MethodId} {meth : Method} {c : Code} (h1 : s.methodNamed? y = some m) (h2 : s.vm.method? m = some meth) (h3 : meth.code = some c) (h4 : c.code = bytes)
    (h5 : (c.maxLocals == mx && c.exceptionTable.isEmpty && decide (c.maxStack ≤ mostOperands) && decide (meth.sig.returnType = rt) && !meth.locks && decide (parseMethodDescriptor y.desc = some meth.sig)) = true) : (Jvm.Cond.code y bytes mx rt).before a s = true := by
  simp only [Bool.and_eq_true, beq_iff_eq, Bool.not_eq_true', decide_eq_true_eq] at h5
  obtain ⟨⟨⟨⟨⟨g1, g2⟩, g3⟩, g4⟩, g5⟩, g6⟩ := h5
  simp [Cond.before, Cond.holds, Cond.value, h1, h2, h3, h4, g1, g2, g3, g4, g5, g6]
def isCode : Jvm.Cond → Bool
  | .code _ _ _ _ => true
  | _ => false
theorem all_split {L : List Jvm.Cond} {P : Jvm.Cond → Bool} (h1 : L.all (fun c => isCode c || P c) = true) (h2 : ∀ c ∈ L.filter isCode, P c = true) : L.all P = true := by
  refine List.all_eq_true.mpr fun c hc => ?_
  have h := List.all_eq_true.mp h1 c hc
  rcases Bool.eq_false_or_eq_true (isCode c) with hi | hi
  · exact h2 c (List.mem_filter.mpr ⟨hc, hi⟩)
  · simpa [hi] using h
set_option maxRecDepth 65536 in
theorem w_c0 : (Jvm.Cond.code x code maxLocals ret).before args0 about1 = true := code_word (m := ⟨1, 1⟩) (meth := k1m1) (c := k1c1) (by decide +kernel) rfl rfl rfl (by decide +kernel)
set_option maxRecDepth 65536 in
theorem w_c1 : (Jvm.Cond.code ({ cls := "com/example/linetally/linetally/io/FieldsPrintablePinLaw", name := "draw", desc := "(I)C" } : Jvm.MethodName) method_3_code (1 : Nat) (Option.some Jvm.ClassFile.FieldType.char)).before args0 about1 = true := code_word (m := ⟨1, 2⟩) (meth := k1m2) (c := k1c2) (by decide +kernel) rfl rfl rfl (by decide +kernel)
set_option maxRecDepth 65536 in
theorem w_c2 : (Jvm.Cond.code ({ cls := "com/example/linetally/linetally/io/FieldsPrintablePinLaw", name := "make", desc := "(ICCCC)Ljava/lang/String;" } : Jvm.MethodName) method_5_code (5 : Nat) (Option.some (Jvm.ClassFile.FieldType.object "java/lang/String"))).before args0 about1 = true := code_word (m := ⟨1, 4⟩) (meth := k1m4) (c := k1c4) (by decide +kernel) rfl rfl rfl (by decide +kernel)
set_option maxRecDepth 65536 in
theorem w_c3 : (Jvm.Cond.code ({ cls := "java/lang/String", name := "<init>", desc := "([C)V" } : Jvm.MethodName) jdk_42_method_3_code (2 : Nat) (Option.none : Option Jvm.ClassFile.FieldType)).before args0 about1 = true := code_word (m := ⟨7, 1⟩) (meth := k7m1) (c := k7c1) (by decide +kernel) rfl rfl rfl (by decide +kernel)
set_option maxRecDepth 65536 in
theorem w_c4 : (Jvm.Cond.code ({ cls := "java/lang/String", name := "<init>", desc := "([CIILjava/lang/Void;)V" } : Jvm.MethodName) jdk_42_method_149_code (6 : Nat) (Option.none : Option Jvm.ClassFile.FieldType)).before args0 about1 = true := code_word (m := ⟨7, 4⟩) (meth := k7m4) (c := k7c4) (by decide +kernel) rfl rfl rfl (by decide +kernel)
set_option maxRecDepth 65536 in
theorem w_c5 : (Jvm.Cond.code ({ cls := "java/lang/Object", name := "<init>", desc := "()V" } : Jvm.MethodName) object_method_1_code (1 : Nat) (Option.none : Option Jvm.ClassFile.FieldType)).before args0 about1 = true := code_word (m := ⟨0, 0⟩) (meth := k0m0) (c := k0c0) (by decide +kernel) rfl rfl rfl (by decide +kernel)
set_option maxRecDepth 65536 in
theorem w_c6 : (Jvm.Cond.code ({ cls := "com/example/linetally/linetally/io/Fields", name := "printable", desc := "(Ljava/lang/String;)Z" } : Jvm.MethodName) prog_9_method_4_code (2 : Nat) (Option.some Jvm.ClassFile.FieldType.boolean)).before args0 about1 = true := code_word (m := ⟨8, 1⟩) (meth := k8m1) (c := k8c1) (by decide +kernel) rfl rfl rfl (by decide +kernel)
set_option maxRecDepth 65536 in
theorem w_c7 : (Jvm.Cond.code ({ cls := "java/lang/String", name := "length", desc := "()I" } : Jvm.MethodName) jdk_42_method_54_code (1 : Nat) (Option.some Jvm.ClassFile.FieldType.int)).before args0 about1 = true := code_word (m := ⟨7, 2⟩) (meth := k7m2) (c := k7c2) (by decide +kernel) rfl rfl rfl (by decide +kernel)
set_option maxRecDepth 65536 in
theorem w_c8 : (Jvm.Cond.code ({ cls := "java/lang/String", name := "coder", desc := "()B" } : Jvm.MethodName) jdk_42_method_152_code (1 : Nat) (Option.some Jvm.ClassFile.FieldType.byte)).before args0 about1 = true := code_word (m := ⟨7, 5⟩) (meth := k7m5) (c := k7c5) (by decide +kernel) rfl rfl rfl (by decide +kernel)
set_option maxRecDepth 65536 in
theorem w_c9 : (Jvm.Cond.code ({ cls := "java/lang/StringUTF16", name := "compress", desc := "([CII)[B" } : Jvm.MethodName) jdk_52_method_16_code (6 : Nat) (Option.some (Jvm.ClassFile.FieldType.array Jvm.ClassFile.FieldType.byte))).before args0 about1 = true := code_word (m := ⟨9, 8⟩) (meth := k9m8) (c := k9c8) (by decide +kernel) rfl rfl rfl (by decide +kernel)
set_option maxRecDepth 65536 in
theorem w_c10 : (Jvm.Cond.code ({ cls := "java/lang/StringUTF16", name := "compress", desc := "([CI[BII)I" } : Jvm.MethodName) jdk_52_method_21_code (7 : Nat) (Option.some Jvm.ClassFile.FieldType.int)).before args0 about1 = true := code_word (m := ⟨9, 9⟩) (meth := k9m9) (c := k9c9) (by decide +kernel) rfl rfl rfl (by decide +kernel)
set_option maxRecDepth 65536 in
theorem w_c11 : (Jvm.Cond.code ({ cls := "java/lang/StringUTF16", name := "coderFromArrayLen", desc := "([BI)B" } : Jvm.MethodName) jdk_52_method_15_code (2 : Nat) (Option.some Jvm.ClassFile.FieldType.byte)).before args0 about1 = true := code_word (m := ⟨9, 7⟩) (meth := k9m7) (c := k9c7) (by decide +kernel) rfl rfl rfl (by decide +kernel)
set_option maxRecDepth 65536 in
theorem w_c12 : (Jvm.Cond.code ({ cls := "com/example/linetally/linetally/io/FieldsPrintablePinLaw", name := "control", desc := "(C)Z" } : Jvm.MethodName) method_4_code (1 : Nat) (Option.some Jvm.ClassFile.FieldType.boolean)).before args0 about1 = true := code_word (m := ⟨1, 3⟩) (meth := k1m3) (c := k1c3) (by decide +kernel) rfl rfl rfl (by decide +kernel)
set_option maxRecDepth 65536 in
theorem w_c13 : (Jvm.Cond.code ({ cls := "java/lang/String", name := "charAt", desc := "(I)C" } : Jvm.MethodName) jdk_42_method_56_code (2 : Nat) (Option.some Jvm.ClassFile.FieldType.char)).before args0 about1 = true := code_word (m := ⟨7, 3⟩) (meth := k7m3) (c := k7c3) (by decide +kernel) rfl rfl rfl (by decide +kernel)
set_option maxRecDepth 65536 in
theorem w_c14 : (Jvm.Cond.code ({ cls := "java/lang/String", name := "isLatin1", desc := "()Z" } : Jvm.MethodName) jdk_42_method_154_code (1 : Nat) (Option.some Jvm.ClassFile.FieldType.boolean)).before args0 about1 = true := code_word (m := ⟨7, 6⟩) (meth := k7m6) (c := k7c6) (by decide +kernel) rfl rfl rfl (by decide +kernel)
set_option maxRecDepth 65536 in
theorem w_c15 : (Jvm.Cond.code ({ cls := "java/lang/StringLatin1", name := "charAt", desc := "([BI)C" } : Jvm.MethodName) jdk_43_method_2_code (2 : Nat) (Option.some Jvm.ClassFile.FieldType.char)).before args0 about1 = true := code_word (m := ⟨10, 1⟩) (meth := k10m1) (c := k10c1) (by decide +kernel) rfl rfl rfl (by decide +kernel)
set_option maxRecDepth 65536 in
theorem w_c16 : (Jvm.Cond.code ({ cls := "java/lang/String", name := "checkIndex", desc := "(II)V" } : Jvm.MethodName) jdk_42_method_155_code (2 : Nat) (Option.none : Option Jvm.ClassFile.FieldType)).before args0 about1 = true := code_word (m := ⟨7, 7⟩) (meth := k7m7) (c := k7c7) (by decide +kernel) rfl rfl rfl (by decide +kernel)
set_option maxRecDepth 65536 in
theorem w_c17 : (Jvm.Cond.code ({ cls := "jdk/internal/util/Preconditions", name := "checkIndex", desc := "(IILjava/util/function/BiFunction;)I" } : Jvm.MethodName) jdk_41_method_11_code (3 : Nat) (Option.some Jvm.ClassFile.FieldType.int)).before args0 about1 = true := code_word (m := ⟨11, 1⟩) (meth := k11m1) (c := k11c1) (by decide +kernel) rfl rfl rfl (by decide +kernel)
set_option maxRecDepth 65536 in
theorem w_c18 : (Jvm.Cond.code ({ cls := "java/lang/Character", name := "isISOControl", desc := "(C)Z" } : Jvm.MethodName) jdk_89_method_88_code (1 : Nat) (Option.some Jvm.ClassFile.FieldType.boolean)).before args0 about1 = true := code_word (m := ⟨12, 0⟩) (meth := k12m0) (c := k12c0) (by decide +kernel) rfl rfl rfl (by decide +kernel)
set_option maxRecDepth 65536 in
theorem w_c19 : (Jvm.Cond.code ({ cls := "java/lang/Character", name := "isISOControl", desc := "(I)Z" } : Jvm.MethodName) jdk_89_method_89_code (1 : Nat) (Option.some Jvm.ClassFile.FieldType.boolean)).before args0 about1 = true := code_word (m := ⟨12, 1⟩) (meth := k12m1) (c := k12c1) (by decide +kernel) rfl rfl rfl (by decide +kernel)
set_option maxRecDepth 65536 in
theorem w_c20 : (Jvm.Cond.code ({ cls := "java/lang/StringUTF16", name := "toBytes", desc := "([CII)[B" } : Jvm.MethodName) jdk_52_method_14_code (5 : Nat) (Option.some (Jvm.ClassFile.FieldType.array Jvm.ClassFile.FieldType.byte))).before args0 about1 = true := code_word (m := ⟨9, 6⟩) (meth := k9m6) (c := k9c6) (by decide +kernel) rfl rfl rfl (by decide +kernel)
set_option maxRecDepth 65536 in
theorem w_c21 : (Jvm.Cond.code ({ cls := "java/lang/StringUTF16", name := "newBytesFor", desc := "(I)[B" } : Jvm.MethodName) jdk_52_method_2_code (1 : Nat) (Option.some (Jvm.ClassFile.FieldType.array Jvm.ClassFile.FieldType.byte))).before args0 about1 = true := code_word (m := ⟨9, 1⟩) (meth := k9m1) (c := k9c1) (by decide +kernel) rfl rfl rfl (by decide +kernel)
set_option maxRecDepth 65536 in
theorem w_c22 : (Jvm.Cond.code ({ cls := "java/lang/StringUTF16", name := "newBytesLength", desc := "(I)I" } : Jvm.MethodName) jdk_52_method_3_code (1 : Nat) (Option.some Jvm.ClassFile.FieldType.int)).before args0 about1 = true := code_word (m := ⟨9, 2⟩) (meth := k9m2) (c := k9c2) (by decide +kernel) rfl rfl rfl (by decide +kernel)
set_option maxRecDepth 65536 in
theorem w_c23 : (Jvm.Cond.code ({ cls := "java/lang/StringUTF16", name := "putChar", desc := "([BII)V" } : Jvm.MethodName) jdk_52_method_4_code (3 : Nat) (Option.none : Option Jvm.ClassFile.FieldType)).before args0 about1 = true := code_word (m := ⟨9, 3⟩) (meth := k9m3) (c := k9c3) (by decide +kernel) rfl rfl rfl (by decide +kernel)
set_option maxRecDepth 65536 in
theorem w_c24 : (Jvm.Cond.code ({ cls := "java/lang/StringUTF16", name := "getChar", desc := "([BI)C" } : Jvm.MethodName) jdk_52_method_5_code (2 : Nat) (Option.some Jvm.ClassFile.FieldType.char)).before args0 about1 = true := code_word (m := ⟨9, 4⟩) (meth := k9m4) (c := k9c4) (by decide +kernel) rfl rfl rfl (by decide +kernel)
set_option maxRecDepth 65536 in
theorem w_c25 : (Jvm.Cond.code ({ cls := "java/lang/StringUTF16", name := "charAt", desc := "([BI)C" } : Jvm.MethodName) jdk_52_method_83_code (2 : Nat) (Option.some Jvm.ClassFile.FieldType.char)).before args0 about1 = true := code_word (m := ⟨9, 10⟩) (meth := k9m10) (c := k9c10) (by decide +kernel) rfl rfl rfl (by decide +kernel)
set_option maxRecDepth 65536 in
theorem w_c26 : (Jvm.Cond.code ({ cls := "java/lang/StringUTF16", name := "checkIndex", desc := "(I[B)V" } : Jvm.MethodName) jdk_52_method_91_code (2 : Nat) (Option.none : Option Jvm.ClassFile.FieldType)).before args0 about1 = true := code_word (m := ⟨9, 11⟩) (meth := k9m11) (c := k9c11) (by decide +kernel) rfl rfl rfl (by decide +kernel)
set_option maxRecDepth 65536 in
theorem w_c27 : (Jvm.Cond.code ({ cls := "java/lang/StringUTF16", name := "length", desc := "([B)I" } : Jvm.MethodName) jdk_52_method_6_code (1 : Nat) (Option.some Jvm.ClassFile.FieldType.int)).before args0 about1 = true := code_word (m := ⟨9, 5⟩) (meth := k9m5) (c := k9c5) (by decide +kernel) rfl rfl rfl (by decide +kernel)
def codes1 : List Jvm.Cond := [Jvm.Cond.code x code maxLocals ret, Jvm.Cond.code ({ cls := "com/example/linetally/linetally/io/FieldsPrintablePinLaw", name := "draw", desc := "(I)C" } : Jvm.MethodName) method_3_code (1 : Nat) (Option.some Jvm.ClassFile.FieldType.char), Jvm.Cond.code ({ cls := "com/example/linetally/linetally/io/FieldsPrintablePinLaw", name := "make", desc := "(ICCCC)Ljava/lang/String;" } : Jvm.MethodName) method_5_code (5 : Nat) (Option.some (Jvm.ClassFile.FieldType.object "java/lang/String")), Jvm.Cond.code ({ cls := "java/lang/String", name := "<init>", desc := "([C)V" } : Jvm.MethodName) jdk_42_method_3_code (2 : Nat) (Option.none : Option Jvm.ClassFile.FieldType), Jvm.Cond.code ({ cls := "java/lang/String", name := "<init>", desc := "([CIILjava/lang/Void;)V" } : Jvm.MethodName) jdk_42_method_149_code (6 : Nat) (Option.none : Option Jvm.ClassFile.FieldType), Jvm.Cond.code ({ cls := "java/lang/Object", name := "<init>", desc := "()V" } : Jvm.MethodName) object_method_1_code (1 : Nat) (Option.none : Option Jvm.ClassFile.FieldType), Jvm.Cond.code ({ cls := "com/example/linetally/linetally/io/Fields", name := "printable", desc := "(Ljava/lang/String;)Z" } : Jvm.MethodName) prog_9_method_4_code (2 : Nat) (Option.some Jvm.ClassFile.FieldType.boolean), Jvm.Cond.code ({ cls := "java/lang/String", name := "length", desc := "()I" } : Jvm.MethodName) jdk_42_method_54_code (1 : Nat) (Option.some Jvm.ClassFile.FieldType.int), Jvm.Cond.code ({ cls := "java/lang/String", name := "coder", desc := "()B" } : Jvm.MethodName) jdk_42_method_152_code (1 : Nat) (Option.some Jvm.ClassFile.FieldType.byte), Jvm.Cond.code ({ cls := "java/lang/StringUTF16", name := "compress", desc := "([CII)[B" } : Jvm.MethodName) jdk_52_method_16_code (6 : Nat) (Option.some (Jvm.ClassFile.FieldType.array Jvm.ClassFile.FieldType.byte)), Jvm.Cond.code ({ cls := "java/lang/StringUTF16", name := "compress", desc := "([CI[BII)I" } : Jvm.MethodName) jdk_52_method_21_code (7 : Nat) (Option.some Jvm.ClassFile.FieldType.int), Jvm.Cond.code ({ cls := "java/lang/StringUTF16", name := "coderFromArrayLen", desc := "([BI)B" } : Jvm.MethodName) jdk_52_method_15_code (2 : Nat) (Option.some Jvm.ClassFile.FieldType.byte), Jvm.Cond.code ({ cls := "com/example/linetally/linetally/io/FieldsPrintablePinLaw", name := "control", desc := "(C)Z" } : Jvm.MethodName) method_4_code (1 : Nat) (Option.some Jvm.ClassFile.FieldType.boolean), Jvm.Cond.code ({ cls := "java/lang/String", name := "charAt", desc := "(I)C" } : Jvm.MethodName) jdk_42_method_56_code (2 : Nat) (Option.some Jvm.ClassFile.FieldType.char), Jvm.Cond.code ({ cls := "java/lang/String", name := "isLatin1", desc := "()Z" } : Jvm.MethodName) jdk_42_method_154_code (1 : Nat) (Option.some Jvm.ClassFile.FieldType.boolean), Jvm.Cond.code ({ cls := "java/lang/StringLatin1", name := "charAt", desc := "([BI)C" } : Jvm.MethodName) jdk_43_method_2_code (2 : Nat) (Option.some Jvm.ClassFile.FieldType.char), Jvm.Cond.code ({ cls := "java/lang/String", name := "checkIndex", desc := "(II)V" } : Jvm.MethodName) jdk_42_method_155_code (2 : Nat) (Option.none : Option Jvm.ClassFile.FieldType), Jvm.Cond.code ({ cls := "jdk/internal/util/Preconditions", name := "checkIndex", desc := "(IILjava/util/function/BiFunction;)I" } : Jvm.MethodName) jdk_41_method_11_code (3 : Nat) (Option.some Jvm.ClassFile.FieldType.int), Jvm.Cond.code ({ cls := "java/lang/Character", name := "isISOControl", desc := "(C)Z" } : Jvm.MethodName) jdk_89_method_88_code (1 : Nat) (Option.some Jvm.ClassFile.FieldType.boolean), Jvm.Cond.code ({ cls := "java/lang/Character", name := "isISOControl", desc := "(I)Z" } : Jvm.MethodName) jdk_89_method_89_code (1 : Nat) (Option.some Jvm.ClassFile.FieldType.boolean), Jvm.Cond.code ({ cls := "java/lang/StringUTF16", name := "toBytes", desc := "([CII)[B" } : Jvm.MethodName) jdk_52_method_14_code (5 : Nat) (Option.some (Jvm.ClassFile.FieldType.array Jvm.ClassFile.FieldType.byte)), Jvm.Cond.code ({ cls := "java/lang/StringUTF16", name := "newBytesFor", desc := "(I)[B" } : Jvm.MethodName) jdk_52_method_2_code (1 : Nat) (Option.some (Jvm.ClassFile.FieldType.array Jvm.ClassFile.FieldType.byte)), Jvm.Cond.code ({ cls := "java/lang/StringUTF16", name := "newBytesLength", desc := "(I)I" } : Jvm.MethodName) jdk_52_method_3_code (1 : Nat) (Option.some Jvm.ClassFile.FieldType.int), Jvm.Cond.code ({ cls := "java/lang/StringUTF16", name := "putChar", desc := "([BII)V" } : Jvm.MethodName) jdk_52_method_4_code (3 : Nat) (Option.none : Option Jvm.ClassFile.FieldType), Jvm.Cond.code ({ cls := "java/lang/StringUTF16", name := "getChar", desc := "([BI)C" } : Jvm.MethodName) jdk_52_method_5_code (2 : Nat) (Option.some Jvm.ClassFile.FieldType.char), Jvm.Cond.code ({ cls := "java/lang/StringUTF16", name := "charAt", desc := "([BI)C" } : Jvm.MethodName) jdk_52_method_83_code (2 : Nat) (Option.some Jvm.ClassFile.FieldType.char), Jvm.Cond.code ({ cls := "java/lang/StringUTF16", name := "checkIndex", desc := "(I[B)V" } : Jvm.MethodName) jdk_52_method_91_code (2 : Nat) (Option.none : Option Jvm.ClassFile.FieldType), Jvm.Cond.code ({ cls := "java/lang/StringUTF16", name := "length", desc := "([B)I" } : Jvm.MethodName) jdk_52_method_6_code (1 : Nat) (Option.some Jvm.ClassFile.FieldType.int)]
set_option maxRecDepth 65536 in
theorem codes_eq : words1.filter isCode = codes1 := rfl
theorem w_codes : ∀ c ∈ words1.filter isCode, c.before args0 about1 = true := by
  rw [codes_eq]
  intro c hc
  simp only [codes1, List.mem_cons, List.not_mem_nil, or_false] at hc
  rcases hc with rfl | rfl | rfl | rfl | rfl | rfl | rfl | rfl | rfl | rfl | rfl | rfl | rfl | rfl | rfl | rfl | rfl | rfl | rfl | rfl | rfl | rfl | rfl | rfl | rfl | rfl | rfl | rfl
  · exact w_c0
  · exact w_c1
  · exact w_c2
  · exact w_c3
  · exact w_c4
  · exact w_c5
  · exact w_c6
  · exact w_c7
  · exact w_c8
  · exact w_c9
  · exact w_c10
  · exact w_c11
  · exact w_c12
  · exact w_c13
  · exact w_c14
  · exact w_c15
  · exact w_c16
  · exact w_c17
  · exact w_c18
  · exact w_c19
  · exact w_c20
  · exact w_c21
  · exact w_c22
  · exact w_c23
  · exact w_c24
  · exact w_c25
  · exact w_c26
  · exact w_c27
set_option maxRecDepth 65536 in
theorem w_t1 : (words1.take 24).all (fun c => isCode c || c.before args0 about1) = true := by decide +kernel
set_option maxRecDepth 65536 in
theorem w_t2 : ((words1.drop 24).take 24).all (fun c => isCode c || c.before args0 about1) = true := by decide +kernel
set_option maxRecDepth 65536 in
theorem w_t3 : (((words1.drop 24).drop 24).take 24).all (fun c => isCode c || c.before args0 about1) = true := by decide +kernel
set_option maxRecDepth 65536 in
theorem w_t4 : ((((words1.drop 24).drop 24).drop 24).take 24).all (fun c => isCode c || c.before args0 about1) = true := by decide +kernel
set_option maxRecDepth 65536 in
theorem w_t5 : ((((words1.drop 24).drop 24).drop 24).drop 24).all (fun c => isCode c || c.before args0 about1) = true := by decide +kernel
theorem w_tables : (allAtoms (Jvm.Cond.code x code maxLocals ret :: tables_1)).before args0 about1 = true := by
  rw [allAtoms_all]
  show words1.all (fun c => c.before args0 about1) = true
  refine all_split ?_ w_codes
  rw [← List.take_append_drop 24 words1, List.all_append, w_t1, ← List.take_append_drop 24 (words1.drop 24), List.all_append, w_t2, ← List.take_append_drop 24 ((words1.drop 24).drop 24), List.all_append, w_t3, ← List.take_append_drop 24 (((words1.drop 24).drop 24).drop 24), List.all_append, w_t4, w_t5]
  rfl
set_option maxRecDepth 65536 in
theorem w_rest : rest_1_c.before args0 about1 = true := by decide +kernel
set_option maxRecDepth 65536 in
theorem w_case : (Jvm.Cond.and given_1 narrow_1).before args0 about1 = true := by decide +kernel
set_option maxRecDepth 65536 in
theorem w_consts : constsHeld consts_1 about1 := Jvm.Lit.constsHeldB_iff.mp (by decide +kernel)
theorem w_applies : (headSpec (Jvm.Cond.code x code maxLocals ret :: tables_1) room_1).applies x e0.platform about1 = true :=
  (Spec.applies_iff w_frames).mpr ⟨w_running, w_runnable, w_alone, w_named, w_hears, w_ripe, w_room, w_tables⟩
theorem atStart : AtStart classFile x code maxLocals ret World_1 tables_1 room_1 Calls_1 rest_1 Pre_1 launch0 p0 e0 about1 theMethod args0 below0 :=
  ⟨lists_1, trivial, launch0.admits_env _ _ _, launch0.least_env, fairChoices_fair.cas, fairChoices_fair.clock, w_frames, w_args, w_heap, w_applies, ⟨w_consts, trivial⟩, w_rest, w_case⟩
end start1
theorem witness_1 : WitnessClaimed_1 := ⟨start1.p0, start1.e0, start1.about1, start1.theMethod, start1.args0, start1.below0, start1.atStart⟩
end Jvm.Pilot.@@N@@
