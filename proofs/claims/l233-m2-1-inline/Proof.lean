import JvmDerived
import JvmDerived.Pilot.@@N@@Statement
import JvmDerived.Pilot.@@N@@Code
set_option linter.unusedVariables false
set_option linter.unusedSimpArgs false
namespace Jvm.Own
open Jvm Jvm.ClassFile Sem Op Lib Jvm.Free Jvm.Stand Jvm.LawKit Jvm.RoadKit Bundle
/-! OWN LAYER: a wp-style reading of RoadKit's laws. V: the case's view (start state, start arguments, the literals that are held, narrow or wide, the launch). B: a body (name, bytes, max locals, return type, room). K: one invocation. -/
abbrev Vw : Type := State × Array Value × List (String × Nat) × Bool × Launch
abbrev Vw.Z (V : Vw) : State := V.1
abbrev Vw.a0 (V : Vw) : Array Value := V.2.1
abbrev Vw.EL (V : Vw) : List (String × Nat) := V.2.2.1
abbrev Vw.nar (V : Vw) : Bool := V.2.2.2.1
abbrev Vw.l (V : Vw) : Launch := V.2.2.2.2
abbrev Bx : Type := MethodName × ByteArray × Nat × Option FieldType × Room
abbrev Bx.y (B : Bx) : MethodName := B.1
abbrev Bx.code (B : Bx) : ByteArray := B.2.1
abbrev Bx.ml (B : Bx) : Nat := B.2.2.1
abbrev Bx.ret (B : Bx) : Option FieldType := B.2.2.2.1
abbrev Bx.R (B : Bx) : Room := B.2.2.2.2
abbrev Cx : Type := Program × Env × State × MethodId × Array Value × List Frame × Method × Code
abbrev Cx.p (K : Cx) : Program := K.1
abbrev Cx.e (K : Cx) : Env := K.2.1
abbrev Cx.s (K : Cx) : State := K.2.2.1
abbrev Cx.m (K : Cx) : MethodId := K.2.2.2.1
abbrev Cx.args (K : Cx) : Array Value := K.2.2.2.2.1
abbrev Cx.below (K : Cx) : List Frame := K.2.2.2.2.2.1
abbrev Cx.meth (K : Cx) : Method := K.2.2.2.2.2.2.1
abbrev Cx.c (K : Cx) : Code := K.2.2.2.2.2.2.2
abbrev Qt : Type := Option Value → Heap → List Addr → Prop
def ushr (x y : Int32) : Int32 := (x.toUInt32 >>> (y &&& 31).toUInt32).toInt32
def ushrL (x : Int64) (y : Int32) : Int64 := (x.toUInt64 >>> (y &&& 0x3f).toInt64.toUInt64).toInt64
def Fx (K : Cx) (B : Bx) : Prop := K.p.tables.exec = Jvm.exec ∧ K.c.code = B.code ∧ K.c.maxLocals = B.ml ∧ K.meth.sig.returnType = B.ret ∧ K.meth.locks = false ∧ K.meth.name = B.y.name
def Sf (V : Vw) (vm : Vm) (h : Heap) (ps : List Addr) : Prop := ∀ x ∈ ps, x < h.size ∧ Safe V.Z V.EL vm h x
def Std (V : Vw) (K : Cx) (B : Bx) (T : State) (h : Heap) (ps : List Addr) (cs sl : Nat) : Prop :=
  ∃ (locs : List Loc) (vm0 : Vm) (k0 : Nat), Stand K.p V.l K.e B.R (K.s.setVm vm0) K.m K.args K.below K.meth K.c T locs cs sl ∧ T.heap = h ∧ V.Z.Warmed39 vm0 ∧ vm0.findClass B.y.cls = some K.m.cls ∧ K.s.Since vm0 k0 ∧ k0 ≤ h.size ∧
    Fr V.Z.heap.size locs ∧ Ext V.Z.heap h ∧ CHr V.Z V.EL K.s.vm K.s.heap vm0 h ∧ Sf V vm0 h ps ∧ EW V.Z V.a0 V.EL ∧ (V.nar = true → vm0 = K.s.vm ∧ V.EL = []) ∧ Fx K B
def Fnl (V : Vw) (K : Cx) (B : Bx) (Q : Qt) (o : Outcome) (t : State) : Prop :=
  ∃ (v : Option Value) (L : List Loc) (ps : List Addr), o = .returned v ∧ Fr V.Z.heap.size L ∧ Q v t.heap ps ∧ Ext V.Z.heap t.heap ∧ Sf V t.vm t.heap ps ∧ CHr V.Z V.EL K.s.vm K.s.heap t.vm t.heap ∧
    ReturnedEndW K.s o t L B.R.cells B.R.slots ∧ (V.nar = true → FrameEnd K.s o t L B.R.cells B.R.slots)
def Run (V : Vw) (K : Cx) (B : Bx) (Q : Qt) (h : Heap) (ps : List Addr) (cs sl pc : Nat) (L : List Slot) (S : List Value) : Prop :=
  ∀ T, Std V K B T h ps cs sl → ∃ t o, Steps K.p.tables K.e K.below (T.setTop (mkF K.m pc L.toArray S)) t ∧ t.status = .running ∧ Ended t K.below o ∧ Fnl V K B Q o t
/-- the contract of a body, at one heap and for one row of arguments -/
def Con (V : Vw) (B : Bx) (as' : Array Value) (h0 : Heap) (ps : List Addr) (Q : Qt) : Prop :=
  EW V.Z V.a0 V.EL → Ext V.Z.heap h0 → (V.nar = true → V.EL = []) → ∀ ws, MetFree V.l B.y (head1 (Jvm.Cond.code B.y B.code B.ml B.ret :: ws) B.R)
    (fun a U => a = as' ∧ V.Z.Warmed39 U.vm ∧ U.heap = h0 ∧ CHv V.Z V.EL U.vm h0 ∧ Sf V U.vm h0 ps) (fun _ _ _ _ _ => True)
    (fun _ U o U' => ∃ (v : Option Value) (L : List Loc) (ps' : List Addr), o = .returned v ∧ Fr V.Z.heap.size L ∧ Q v U'.heap ps' ∧ Ext V.Z.heap U'.heap ∧ Sf V U'.vm U'.heap ps' ∧ CHr V.Z V.EL U.vm U.heap U'.vm U'.heap ∧
      ReturnedEndW U o U' L B.R.cells B.R.slots ∧ (V.nar = true → FrameEnd U o U' L B.R.cells B.R.slots))
/-- what a call of y gives in the invocation K of B -/
def PreP (B : Bx) (as' : Array Value) (h : Heap) (nc ns : Nat) : Pt → Array Value → Prop := fun A a => a = as' ∧ A.U.heap = h ∧ A.cells + nc ≤ B.R.cells ∧ A.slots + ns ≤ B.R.slots
def PostP (V : Vw) (vm0 : Vm) (h : Heap) (nc ns : Nat) (Q : Qt) : Pt → Array Value → Option Value → Pt → Prop := fun A _ v C =>
  ∃ (L : List Loc) (ps : List Addr), Fr V.Z.heap.size L ∧ Q v C.U.heap ps ∧ Ext V.Z.heap C.U.heap ∧ h.size ≤ C.U.heap.size ∧ Sf V C.U.vm C.U.heap ps ∧ C.locs = A.locs ++ L ∧ C.cells = A.cells + nc ∧ C.slots = A.slots + ns ∧ CHr V.Z V.EL vm0 h C.U.vm C.U.heap
def Pays (V : Vw) (K : Cx) (B : Bx) (y : MethodName) (len W : Nat) (as' : Array Value) (h : Heap) (ps : List Addr) (nc ns : Nat) (Q : Qt) : Prop :=
  ∀ vm0, V.Z.Warmed39 vm0 → CHv V.Z V.EL vm0 h → Sf V vm0 h ps → EW V.Z V.a0 V.EL → Ext V.Z.heap h → (V.nar = true → V.EL = []) →
    (V.nar = true → Back V.l B.R K.p K.e K.below (K.s.setVm vm0) K.args y len W (PreP B as' h nc ns) (PostP V vm0 h nc ns Q)) ∧
    (V.nar = false → BackS V.l B.R K.p K.e K.below (K.s.setVm vm0) K.args y len W (PreP B as' h nc ns) (PostP V vm0 h nc ns Q))
theorem ltN {a n : Nat} (h : a < n) : a < n := h
theorem leN {a n : Nat} (h : a ≤ n) : a ≤ n := h
theorem neN {a b : Nat} (h : a ≠ b) : a < b ∨ b < a := Nat.lt_or_gt_of_ne h
theorem neA {a b : Nat} (h : a < b ∨ b < a) : a ≠ b := fun e => by omega
theorem leA {a b : Nat} (h : a ≤ b) : a ≤ b := h
theorem wd {V : Vw} {Ls : List Jvm.Cond} (hw : ∀ d ∈ Ls, d.before V.a0 V.Z = true) (i : Nat) {d : Jvm.Cond} (h : Ls[i]? = some d) : d.before V.a0 V.Z = true := hw d (List.mem_of_getElem? h)
section Basics
variable {V : Vw} {K : Cx} {B : Bx} {Q : Qt} {T : State} {h h' : Heap} {ps ps' : List Addr} {cs sl pc : Nat} {L : List Slot} {S : List Value}
theorem Sf.nil {vm : Vm} : Sf V vm h [] := fun _ q => nomatch q
theorem Sf.cons {vm : Vm} {x : Addr} (a : x < h.size) (b : Safe V.Z V.EL vm h x) (c : Sf V vm h ps) : Sf V vm h (x :: ps) := fun y q => by
  rcases List.mem_cons.mp q with rfl | q
  · exact ⟨a, b⟩
  · exact c y q
theorem Sf.app {vm : Vm} (c : Sf V vm h ps) (d : Sf V vm h ps') : Sf V vm h (ps ++ ps') := fun y q => (List.mem_append.mp q).elim (c y) (d y)
theorem Sf.sub {vm : Vm} (c : Sf V vm h ps) (d : ∀ x ∈ ps', x ∈ ps) : Sf V vm h ps' := fun y q => c y (d y q)
theorem Sf.go {vm vm1 : Vm} (c : Sf V vm h ps) (A : CHr V.Z V.EL vm h vm1 h') : Sf V vm1 h' ps := fun y q => ⟨Nat.lt_of_lt_of_le (c y q).1 A.2.1, A.safe (c y q).1 (c y q).2⟩
theorem chr0 {Z : State} {vm vm1 : Vm} (q : h.size ≤ h'.size) : CHr Z [] vm h vm1 h' := ⟨(fun _ hp => nomatch hp), q, (fun _ z => by obtain ⟨_, hp, _⟩ := z; exact nomatch hp)⟩
theorem oldWr {Z : State} {a : Addr} {j : Nat} {v : Value} (O : Ext Z.heap h) (W : Wr h h' a j v) (q : Z.heap.size ≤ a) : Ext Z.heap h' := (Old.wr (show Old Z Z.heap.size h from ⟨rfl, O⟩) W q).2
theorem oldKeep {Z : State} {ws : List Addr} (O : Ext Z.heap h) (W : Keep h h' ws) (q : ∀ x ∈ ws, Z.heap.size ≤ x) : Ext Z.heap h' := (Old.keep (show Old Z Z.heap.size h from ⟨rfl, O⟩) W q).2
theorem Ext.trans' {h1 h2 h3 : Heap} (A : Ext h1 h2) (C : Ext h2 h3) : Ext h1 h3 := ⟨Nat.le_trans A.1 C.1, fun a c q => C.2 a c (A.2 a c q)⟩
/-- a step that moves nothing of the heap -/
theorem Run.plain {pc' : Nat} {L' : List Slot} {S' : List Value} (r : Run V K B Q h ps cs sl pc' L' S')
    (st : ∀ T t, At T K.m K.c K.below → K.p.tables.exec = Jvm.exec → K.c.code = B.code → Steps K.p.tables K.e K.below (T.setTop (mkF K.m pc' L'.toArray S')) t → Steps K.p.tables K.e K.below (T.setTop (mkF K.m pc L.toArray S)) t) :
    Run V K B Q h ps cs sl pc L S := fun T hT => by
  obtain ⟨t, o, h1, h2⟩ := r T hT
  obtain ⟨locs, vm0, k0, X, -, -, -, -, -, -, -, -, -, -, -, G⟩ := hT
  exact ⟨t, o, st T t X.here G.1 G.2.1 h1, h2⟩
theorem Run.more {cs' sl' : Nat} (hc : cs ≤ cs') (hs : sl ≤ sl') (r : Run V K B Q h ps cs' sl' pc L S) : Run V K B Q h ps cs sl pc L S := fun T hT => by
  obtain ⟨locs, vm0, k0, X, rest⟩ := hT
  exact r T ⟨locs, vm0, k0, X.more hc hs, rest⟩
theorem Run.less (hs : ∀ x ∈ ps', x ∈ ps) (r : Run V K B Q h ps' cs sl pc L S) : Run V K B Q h ps cs sl pc L S := fun T hT => by
  obtain ⟨locs, vm0, k0, X, e1, e2, e3, e4, e5, e6, e7, e8, e9, e10⟩ := hT
  exact r T ⟨locs, vm0, k0, X, e1, e2, e3, e4, e5, e6, e7, e8, e9.sub hs, e10⟩
/-- what the walk knows at any time: all that stood at the case's start stands -/
theorem Run.old (r : Ext V.Z.heap h → Run V K B Q h ps cs sl pc L S) : Run V K B Q h ps cs sl pc L S := fun T hT => by
  have O : Ext V.Z.heap h := by obtain ⟨locs, vm0, k0, X, e1, e2, e3, e4, e5, e6, e7, e8, e9, e10⟩ := hT; exact e7
  exact r O T hT
/-- a step that moves the state but not the heap -/
theorem Run.still {pc' : Nat} {L' : List Slot} {S' : List Value} (r : Run V K B Q h ps cs sl pc' L' S')
    (st : ∀ T locs vm0, Stand K.p V.l K.e B.R (K.s.setVm vm0) K.m K.args K.below K.meth K.c T locs cs sl → T.heap = h → V.Z.Warmed39 (K.s.setVm vm0).vm → (K.s.setVm vm0).vm.findClass B.y.cls = some K.m.cls → Ext V.Z.heap h → Fx K B →
      ∃ T', Stand K.p V.l K.e B.R (K.s.setVm vm0) K.m K.args K.below K.meth K.c T' locs cs sl ∧ T'.heap = h ∧ ∀ t, Steps K.p.tables K.e K.below (T'.setTop (mkF K.m pc' L'.toArray S')) t → Steps K.p.tables K.e K.below (T.setTop (mkF K.m pc L.toArray S)) t) :
    Run V K B Q h ps cs sl pc L S := fun T hT => by
  obtain ⟨locs, vm0, k0, X, e1, e2, e3, e4, e5, e6, e7, e8, e9, e10, e11, e12⟩ := hT
  obtain ⟨T', X', e', st'⟩ := st T locs vm0 X e1 e2 e3 e7 e12
  obtain ⟨t, o, h1, h2⟩ := r T' ⟨locs, vm0, k0, X', e', e2, e3, e4, e5, e6, e7, e8, e9, e10, e11, e12⟩
  exact ⟨t, o, st' _ h1, h2⟩
/-- a step that writes one slot of a cell that the case has made -/
theorem Run.write {pc' : Nat} {L' : List Slot} {S' : List Value} {a : Addr} {v : Value} {j : Nat} (ha : V.Z.heap.size ≤ a) (hs : ∀ vm, V.Z.vm.Alike vm → Sf V vm h ps → Safe V.Z V.EL vm h a) (r : ∀ h', Wr h h' a j v → Run V K B Q h' ps cs sl pc' L' S')
    (st : ∀ T locs vm0, Stand K.p V.l K.e B.R (K.s.setVm vm0) K.m K.args K.below K.meth K.c T locs cs sl → T.heap = h → V.Z.Warmed39 (K.s.setVm vm0).vm → (K.s.setVm vm0).vm.findClass B.y.cls = some K.m.cls → Fx K B →
      ∃ T' h', Stand K.p V.l K.e B.R (K.s.setVm vm0) K.m K.args K.below K.meth K.c T' (locs ++ [⟨a, j⟩]) cs sl ∧ T'.heap = h' ∧ Wr h h' a j v ∧ ∀ t, Steps K.p.tables K.e K.below (T'.setTop (mkF K.m pc' L'.toArray S')) t → Steps K.p.tables K.e K.below (T.setTop (mkF K.m pc L.toArray S)) t) :
    Run V K B Q h ps cs sl pc L S := fun T hT => by
  obtain ⟨locs, vm0, k0, X, e1, e2, e3, e4, e5, e6, e7, e8, e9, e10, e11, e12⟩ := hT
  obtain ⟨T', h', X', e', W, st'⟩ := st T locs vm0 X e1 e2 e3 e12
  have C := CHr.wr W (hs vm0 e2.alike e9) e8.1
  obtain ⟨t, o, h1, h2⟩ := r h' W T' ⟨_, vm0, k0, X', e', e2, e3, e4, by rw [W.size]; exact e5, Fr.snoc X' e6 ha, oldWr e7 W ha, e8.trans C, e9.go C, e10, e11, e12⟩
  exact ⟨t, o, st' _ h1, h2⟩
/-- a step that makes one cell -/
theorem Run.make {pc' nn : Nat} {L' : List Slot} {S' : Addr → List Value} {P : Heap → Prop} (r : ∀ h', Ext h h' → V.Z.heap.size ≤ h.size → P h' → Run V K B Q h' (h.size :: ps) (cs + 1) (sl + nn) pc' L' (S' h.size))
    (st : ∀ T locs vm0, Stand K.p V.l K.e B.R (K.s.setVm vm0) K.m K.args K.below K.meth K.c T locs cs sl → T.heap = h → V.Z.Warmed39 (K.s.setVm vm0).vm → (K.s.setVm vm0).vm.findClass B.y.cls = some K.m.cls → Fx K B →
      ∃ T' h', Stand K.p V.l K.e B.R (K.s.setVm vm0) K.m K.args K.below K.meth K.c T' locs (cs + 1) (sl + nn) ∧ T'.heap = h' ∧ Ext h h' ∧ h.size < h'.size ∧ P h' ∧ ∀ t, Steps K.p.tables K.e K.below (T'.setTop (mkF K.m pc' L'.toArray (S' h.size))) t → Steps K.p.tables K.e K.below (T.setTop (mkF K.m pc L.toArray S)) t) :
    Run V K B Q h ps cs sl pc L S := fun T hT => by
  obtain ⟨locs, vm0, k0, X, e1, e2, e3, e4, e5, e6, e7, e8, e9, e10, e11, e12⟩ := hT
  obtain ⟨T', h', X', e', E, hlt, hP, st'⟩ := st T locs vm0 X e1 e2 e3 e12
  have C := CHr.ext E e8.1
  obtain ⟨t, o, h1, h2⟩ := r h' E e7.1 hP T' ⟨_, vm0, k0, X', e', e2, e3, e4, Nat.le_trans e5 E.1, e6, Ext.trans' e7 E, e8.trans C, Sf.cons hlt ((Safe.new (Nat.le_refl _)).ext E e8.1) (e9.go C), e10, e11, e12⟩
  exact ⟨t, o, st' _ h1, h2⟩
/-- the way into a body -/
theorem Con.of {as' : Array Value} (hp : plainFor B.y = true) (hl : argsToLocals as' B.ml = L.toArray) (body : ∀ K : Cx, Run V K B Q h ps 0 0 0 L []) : Con V B as' h ps Q := fun hE hO hN ws => by
  refine MetFree.of_bodySF hp hisR ?_
  intro p e s m args below meth c s₁ Bd hml0 hP hK
  obtain ⟨rfl, hZ, hh, hC, hS⟩ := hP
  have X0 : Stand p V.l e B.R s m args below meth c s₁ [] 0 0 := Stand.of_body Bd
  have e0 : s₁.heap = h := by rw [← hh, Bd.state]; rfl
  have hn := (name_of_methodNamed Bd.named Bd.method).1
  obtain ⟨t, o, h1, h2, h3, h4⟩ := body (p, e, s, m, args, below, meth, c) s₁
    ⟨[], s.vm, h.size, X0, e0, hZ, findClass_of_methodNamed Bd.named, (State.WarmedH.refl s).since _, Nat.le_refl _, Fr.nil _, hO, (by show CHr V.Z V.EL s.vm s.heap s.vm h; rw [hh]; exact CHr.refl hC), hS, hE, fun q => ⟨rfl, hN q⟩, Bd.exec, Bd.bytes, hml0, Bd.returns, BodyLoose.notSynchronized Bd, hn⟩
  refine ⟨t, o, ?_, h2, h3, h4⟩
  have q : entryFrame m args B.ml = mkF m 0 L.toArray [] := by simp only [entryFrame, mkF, hl]
  rw [q]; exact h1
/-- a contract pays a call -/
theorem Pays.con {B' : Bx} {as' : Array Value} {len W : Nat} (C : Con V B' as' h ps Q) (wc : (Jvm.Cond.code B'.y B'.code B'.ml B'.ret).before V.a0 V.Z = true) (wz : (Jvm.Cond.initialized B'.y.cls).before V.a0 V.Z = true)
    (hf : B'.R.frames + 1 ≤ B.R.frames) (hl : W + (B'.ml + 11) + B'.R.locals ≤ B.R.locals) : Pays V K B B'.y len W as' h ps B'.R.cells B'.R.slots Q := fun vm0 hZ hC hS hE hO hN => by
  have hM := C hE hO hN []
  refine ⟨fun hn => ?_, fun hn => ?_⟩
  · refine Back.of_free (bytes := B'.code) (maxL := B'.ml) (ret := B'.ret) (E := fun _ first o t L k n => k = B'.R.cells ∧ n = B'.R.slots ∧ ∃ v ps', o = .returned v ∧ Fr V.Z.heap.size L ∧ Q v t.heap ps' ∧ Ext V.Z.heap t.heap ∧ first.heap.size ≤ t.heap.size ∧ Sf V t.vm t.heap ps') hM hf hl
      (fun m meth c A a Y hp => have hU : V.Z.Warmed39 A.U.vm := wtrans (s := K.s.setVm vm0) hZ Y.warmed
        ⟨by show (Cond.and _ .tt).before a A.U = true; rw [Cond.before_and, mv hU wc]; rfl, mv hU wc, mv hU wz, hp.2.2.1, hp.2.2.2⟩)
      (fun m meth c A a g mk Y hp => ?_) (fun _ _ _ _ _ _ _ _ _ => trivial)
      (fun _ _ _ _ ⟨v, L, ps', h1, h2, h3, h4, h5, h6, h7, h8⟩ => ⟨L, _, _, h8 hn, rfl, rfl, v, ps', h1, h2, h3, h4, h6.2.1, h5⟩)
      (fun m meth c A a g mk v t L k n Y hp _ _ ⟨e1, e2, v', ps', e3, e4, e5, e6, e7, e8⟩ => ?_)
    · have A' := CHv.at Y hZ hE hC
      exact ⟨hp.1, wtrans (s := K.s.setVm vm0) hZ Y.warmed, hp.2.1, A'.1, hS.go A'⟩
    · cases e3; subst e1 e2
      have q : h.size ≤ t.heap.size := by rw [← hp.2.1]; exact e7
      exact ⟨L, ps', e4, e5, e6, q, e8, rfl, rfl, rfl, by rw [hN hn]; exact chr0 q⟩
  · refine BackS.of_freeW (bytes := B'.code) (maxL := B'.ml) (ret := B'.ret) (E := fun _ first o t L k n => k = B'.R.cells ∧ n = B'.R.slots ∧ (∃ v ps', o = .returned v ∧ Fr V.Z.heap.size L ∧ Q v t.heap ps' ∧ Ext V.Z.heap t.heap ∧ Sf V t.vm t.heap ps') ∧ CHr V.Z V.EL first.vm first.heap t.vm t.heap) hM hf hl
      (fun m meth c A a Y hp => have hU : V.Z.Warmed39 A.U.vm := wtrans (s := K.s.setVm vm0) hZ Y.warmed
        ⟨by show (Cond.and _ .tt).before a A.U = true; rw [Cond.before_and, mv hU wc]; rfl, mv hU wc, mv hU wz, hp.2.2.1, hp.2.2.2⟩)
      (fun m meth c A a g mk Y hp => ?_) (fun _ _ _ _ _ _ _ _ _ => trivial)
      (fun _ _ _ _ ⟨v, L, ps', h1, h2, h3, h4, h5, h6, h7, h8⟩ => ⟨L, _, _, h7, rfl, rfl, ⟨v, ps', h1, h2, h3, h4, h5⟩, h6⟩)
      (fun m meth c A a g mk v t L k n Y hp _ _ ⟨e1, e2, ⟨v', ps', e3, e4, e5, e6, e8⟩, e7⟩ => ?_)
    · have A' := CHv.at Y hZ hE hC
      exact ⟨hp.1, wtrans (s := K.s.setVm vm0) hZ Y.warmed, hp.2.1, A'.1, hS.go A'⟩
    · cases e3; subst e1 e2
      have q : CHr V.Z V.EL A.U.vm h t.vm t.heap := by rw [← hp.2.1]; exact e7
      exact ⟨L, ps', e4, e5, e6, q.2.1, e8, rfl, rfl, rfl, (CHv.at Y hZ hE hC).trans q⟩
/-- a law that says what it keeps (the pasted laws of the JDK) pays a call -/
theorem Pays.back {y : MethodName} {as' : Array Value} {len W nc ns : Nat} {ws : List Addr} {Q0 : Option Value → Heap → List Loc → Prop}
    (hB : ∀ s : State, V.Z.Warmed39 s.vm → Back V.l B.R K.p K.e K.below s K.args y len W (fun A a => a = as' ∧ A.U.heap = h ∧ A.cells + nc ≤ B.R.cells ∧ A.slots + ns ≤ B.R.slots) (fun A _ v C => ∃ L, Q0 v C.U.heap L ∧ C.locs = A.locs ++ L ∧ C.cells = A.cells + nc ∧ C.slots = A.slots + ns))
    (hQ : ∀ v h' L, Q0 v h' L → Fr V.Z.heap.size L ∧ Keep h h' ws ∧ Q v h' []) (hws : ∀ x ∈ ws, V.Z.heap.size ≤ x) (hsafe : ∀ vm, V.Z.vm.Alike vm → Sf V vm h ps → ∀ x ∈ ws, Safe V.Z V.EL vm h x) :
    Pays V K B y len W as' h ps nc ns Q := fun vm0 hZ hC hS hE hO hN => by
  have hb0 := hB (K.s.setVm vm0) hZ
  have post : ∀ m meth c A a v C, Stand K.p V.l K.e B.R (K.s.setVm vm0) m K.args K.below meth c (Pt.U C) (Pt.locs C) (Pt.cells C) (Pt.slots C) → (∃ L, Q0 v C.U.heap L ∧ C.locs = (Pt.locs A) ++ L ∧ C.cells = (Pt.cells A) + nc ∧ C.slots = (Pt.slots A) + ns) → PostP V vm0 h nc ns Q A a v C := fun m meth c A a v C Y ⟨L, q, r1, r2, r3⟩ => by
    obtain ⟨q1, q2, q3⟩ := hQ _ _ _ q
    have C1 := CHr.keep q2 (hsafe vm0 hZ.alike hS) hC
    exact ⟨L, [], q1, q3, oldKeep hO q2 hws, q2.1, Sf.nil, r1, r2, r3, C1.trans (CHv.at Y hZ hE C1.1)⟩
  refine ⟨fun hn => ?_, fun hn => ?_⟩
  · intro m meth c A g ig mk a X hg hsize hdg hW hn' hp
    obtain ⟨v, C, X', hpost, hst⟩ := hb0 m meth c A g ig mk a X hg hsize hdg hW hn' hp
    exact ⟨v, C, X', post m meth c A a v C X' hpost, hst⟩
  · intro m meth c A g ig mk a X hg hsize hdg hW hn' hp
    obtain ⟨v, C, X', hpost, hst⟩ := hb0 m meth c A g ig mk a X hg hsize hdg hW hn' hp
    have hpo := post m meth c A a v C X' hpost
    refine ⟨v, C, X'.retabled X'.warmed.wide, X'.warmed.since _, ?_, hpo, hst⟩
    rw [hp.2.1]; obtain ⟨L, ps1, -, -, -, q, -⟩ := hpo; exact q
/-- behind a call: the invocation stands again -/
theorem Run.behind {vm0 : Vm} {k0 : Nat} {locs : List Loc} {nc ns : Nat} {Q' : Qt} {v : Option Value} {vm₁ : Vm} {C : Pt} {pc' : Nat} {L' : List Slot} {S' : List Value} {a : Array Value}
    (e2 : V.Z.Warmed39 vm0) (e3 : vm0.findClass B.y.cls = some K.m.cls) (e4 : K.s.Since vm0 k0) (e5 : k0 ≤ h.size) (e6 : Fr V.Z.heap.size locs) (e8 : CHr V.Z V.EL K.s.vm K.s.heap vm0 h) (e9 : Sf V vm0 h ps) (e10 : EW V.Z V.a0 V.EL) (e11 : V.nar = true → vm0 = K.s.vm ∧ V.EL = []) (e12 : Fx K B)
    (X : (V.nar = true ∧ Stand K.p V.l K.e B.R (K.s.setVm vm0) K.m K.args K.below K.meth K.c C.U C.locs C.cells C.slots) ∨ (V.nar = false ∧ Stand K.p V.l K.e B.R ((K.s.setVm vm0).setVm C.U.vm) K.m K.args K.below K.meth K.c C.U C.locs C.cells C.slots ∧ (K.s.setVm vm0).Since C.U.vm C.U.heap.size))
    (hp : PostP V vm0 h nc ns Q' ⟨T.setVm vm₁, locs, cs, sl⟩ a v C) (r : ∀ v h' ps', Q' v h' ps' → h.size ≤ h'.size → Run V K B Q h' (ps' ++ ps) (cs + nc) (sl + ns) pc' L' (v.toList ++ S')) :
    ∃ t o, Steps K.p.tables K.e K.below (C.U.setTop (mkF K.m pc' L'.toArray (v.toList ++ S'))) t ∧ t.status = .running ∧ Ended t K.below o ∧ Fnl V K B Q o t := by
  obtain ⟨Lc, ps', q1, q2, q3, q4, q5, q6, q7, q8, q9⟩ := hp
  rcases X with ⟨hn, X⟩ | ⟨hn, X, hS⟩
  · refine r v _ ps' q2 q4 C.U ⟨_, vm0, k0, by rw [← q7, ← q8]; exact X, rfl, e2, e3, e4, Nat.le_trans e5 q4, by rw [q6]; exact e6.app q1, q3, ?_, ?_, e10, e11, e12⟩
    · rw [(e11 hn).2]; exact chr0 (Nat.le_trans e8.2.1 q4)
    · intro x hx
      refine ⟨?_, by rw [(e11 hn).2]; exact fun ⟨_, hp, _⟩ => nomatch hp⟩
      rcases List.mem_append.mp hx with hx | hx
      · exact (q5 x hx).1
      · exact Nat.lt_of_lt_of_le (e9 x hx).1 q4
  · obtain ⟨X1, S1, W1, F1⟩ := rebS (Z := V.Z) (own := B.y.cls) e4 e5 X hS q4 e2 e3
    exact r v _ ps' q2 q4 C.U ⟨_, C.U.vm, _, by rw [← q7, ← q8]; exact X1, rfl, W1, F1, S1, Nat.le_refl _, by rw [q6]; exact e6.app q1, q3, e8.trans q9, q5.app (e9.go q9), e10, fun q => absurd (hn.symm.trans q) (by decide), e12⟩
end Basics
end Jvm.Own
namespace Jvm.Own
open Jvm Jvm.ClassFile Sem Op Lib Jvm.Free Jvm.Stand Jvm.LawKit Jvm.RoadKit Bundle
section Rules
variable {V : Vw} {K : Cx} {B : Bx} {Q : Qt} {T : State} {h h' : Heap} {ps ps' : List Addr} {cs sl pc : Nat} {L : List Slot} {S : List Value}
theorem r_iload {k : Nat} {v : Int32} (pc' : Nat) (hp : pc + 2 = pc') (hd : decode B.code pc = .ok (.iload k, 2)) (hl : L[k]? = some (.val (.int v))) (r : Run V K B Q h ps cs sl pc' L (.int v :: S)) : Run V K B Q h ps cs sl pc L (S) := by
  subst hp; exact r.plain fun T t hA hx hc st => XS.iload hA hx rfl (hb hc hd) (by show L.toArray[_]? = _; rw [List.getElem?_toArray]; exact hl) st
theorem r_iloadN {k : Fin 4} {v : Int32} (pc' : Nat) (hp : pc + 1 = pc') (hd : decode B.code pc = .ok (.iload_n k, 1)) (hl : L[k.val]? = some (.val (.int v))) (r : Run V K B Q h ps cs sl pc' L (.int v :: S)) : Run V K B Q h ps cs sl pc L (S) := by
  subst hp; exact r.plain fun T t hA hx hc st => XS.iloadN hA hx rfl (hb hc hd) (by show L.toArray[_]? = _; rw [List.getElem?_toArray]; exact hl) st
theorem r_istore {k : Nat} {x : Int32} (L' : List Slot) (pc' : Nat) (hp : pc + 2 = pc') (hd : decode B.code pc = .ok (.istore k, 2)) (hl : storeLocals L.toArray k (.int x) = some L'.toArray) (r : Run V K B Q h ps cs sl pc' L' (S)) : Run V K B Q h ps cs sl pc L (.int x :: S) := by
  subst hp; exact r.plain fun T t hA hx hc st => XS.istore hA hx rfl (hb hc hd) rfl hl st
theorem r_istoreN {k : Fin 4} {x : Int32} (L' : List Slot) (pc' : Nat) (hp : pc + 1 = pc') (hd : decode B.code pc = .ok (.istore_n k, 1)) (hl : storeLocals L.toArray k.val (.int x) = some L'.toArray) (r : Run V K B Q h ps cs sl pc' L' (S)) : Run V K B Q h ps cs sl pc L (.int x :: S) := by
  subst hp; exact r.plain fun T t hA hx hc st => XS.istoreN hA hx rfl (hb hc hd) rfl hl st
theorem r_lload {k : Nat} {v : Int64} (pc' : Nat) (hp : pc + 2 = pc') (hd : decode B.code pc = .ok (.lload k, 2)) (hl : L[k]? = some (.val (.long v))) (r : Run V K B Q h ps cs sl pc' L (.long v :: S)) : Run V K B Q h ps cs sl pc L (S) := by
  subst hp; exact r.plain fun T t hA hx hc st => XS.lload hA hx rfl (hb hc hd) (by show L.toArray[_]? = _; rw [List.getElem?_toArray]; exact hl) st
theorem r_lloadN {k : Fin 4} {v : Int64} (pc' : Nat) (hp : pc + 1 = pc') (hd : decode B.code pc = .ok (.lload_n k, 1)) (hl : L[k.val]? = some (.val (.long v))) (r : Run V K B Q h ps cs sl pc' L (.long v :: S)) : Run V K B Q h ps cs sl pc L (S) := by
  subst hp; exact r.plain fun T t hA hx hc st => XS.lloadN hA hx rfl (hb hc hd) (by show L.toArray[_]? = _; rw [List.getElem?_toArray]; exact hl) st
theorem r_lstore {k : Nat} {x : Int64} (L' : List Slot) (pc' : Nat) (hp : pc + 2 = pc') (hd : decode B.code pc = .ok (.lstore k, 2)) (hl : storeLocals L.toArray k (.long x) = some L'.toArray) (r : Run V K B Q h ps cs sl pc' L' (S)) : Run V K B Q h ps cs sl pc L (.long x :: S) := by
  subst hp; exact r.plain fun T t hA hx hc st => XS.lstore hA hx rfl (hb hc hd) rfl hl st
theorem r_lstoreN {k : Fin 4} {x : Int64} (L' : List Slot) (pc' : Nat) (hp : pc + 1 = pc') (hd : decode B.code pc = .ok (.lstore_n k, 1)) (hl : storeLocals L.toArray k.val (.long x) = some L'.toArray) (r : Run V K B Q h ps cs sl pc' L' (S)) : Run V K B Q h ps cs sl pc L (.long x :: S) := by
  subst hp; exact r.plain fun T t hA hx hc st => XS.lstoreN hA hx rfl (hb hc hd) rfl hl st
theorem r_aload {k : Nat} {v : Value} (pc' : Nat) (hp : pc + 2 = pc') (hd : decode B.code pc = .ok (.aload k, 2)) (hl : L[k]? = some (.val v)) (hv : v.isRef = true) (r : Run V K B Q h ps cs sl pc' L (v :: S)) : Run V K B Q h ps cs sl pc L (S) := by
  subst hp; exact r.plain fun T t hA hx hc st => XS.aload hA hx rfl (hb hc hd) (by show L.toArray[_]? = _; rw [List.getElem?_toArray]; exact hl) hv st
theorem r_aloadN {k : Fin 4} {v : Value} (pc' : Nat) (hp : pc + 1 = pc') (hd : decode B.code pc = .ok (.aload_n k, 1)) (hl : L[k.val]? = some (.val v)) (hv : v.isRef = true) (r : Run V K B Q h ps cs sl pc' L (v :: S)) : Run V K B Q h ps cs sl pc L (S) := by
  subst hp; exact r.plain fun T t hA hx hc st => XS.aloadN hA hx rfl (hb hc hd) (by show L.toArray[_]? = _; rw [List.getElem?_toArray]; exact hl) hv st
theorem r_astore {k : Nat} {x : Value} (L' : List Slot) (pc' : Nat) (hp : pc + 2 = pc') (hd : decode B.code pc = .ok (.astore k, 2)) (hv : x.isRef = true) (hl : storeLocals L.toArray k x = some L'.toArray) (r : Run V K B Q h ps cs sl pc' L' (S)) : Run V K B Q h ps cs sl pc L (x :: S) := by
  subst hp; exact r.plain fun T t hA hx hc st => XS.astore hA hx rfl (hb hc hd) rfl hv hl st
theorem r_astoreN {k : Fin 4} {x : Value} (L' : List Slot) (pc' : Nat) (hp : pc + 1 = pc') (hd : decode B.code pc = .ok (.astore_n k, 1)) (hv : x.isRef = true) (hl : storeLocals L.toArray k.val x = some L'.toArray) (r : Run V K B Q h ps cs sl pc' L' (S)) : Run V K B Q h ps cs sl pc L (x :: S) := by
  subst hp; exact r.plain fun T t hA hx hc st => XS.astoreN hA hx rfl (hb hc hd) rfl hv hl st
theorem r_iconst {i : Int} (v : Int32) (pc' : Nat) (hp : pc + 1 = pc') (hd : decode B.code pc = .ok (.iconst i, 1)) (hv : Int32.ofInt i = v) (r : Run V K B Q h ps cs sl pc' L (.int v :: S)) : Run V K B Q h ps cs sl pc L (S) := by
  subst hp; exact r.plain fun T t hA hx hc st => XT.iconstV hA hx rfl v (hb hc hd) hv st
theorem r_bipush {i : Int} (v : Int32) (pc' : Nat) (hp : pc + 2 = pc') (hd : decode B.code pc = .ok (.bipush i, 2)) (hv : (Int8.ofInt i).toInt32 = v) (r : Run V K B Q h ps cs sl pc' L (.int v :: S)) : Run V K B Q h ps cs sl pc L (S) := by
  subst hp; exact r.plain fun T t hA hx hc st => XT.bipushV hA hx rfl v (hb hc hd) hv st
theorem r_sipush {i : Int} (v : Int32) (pc' : Nat) (hp : pc + 3 = pc') (hd : decode B.code pc = .ok (.sipush i, 3)) (hv : (Int16.ofInt i).toInt32 = v) (r : Run V K B Q h ps cs sl pc' L (.int v :: S)) : Run V K B Q h ps cs sl pc L (S) := by
  subst hp; exact r.plain fun T t hA hx hc st => XT.sipushV hA hx rfl v (hb hc hd) hv st
theorem r_lconst {k : Fin 2} (v : Int64) (pc' : Nat) (hp : pc + 1 = pc') (hd : decode B.code pc = .ok (.lconst k, 1)) (hv : Int64.ofNat k = v) (r : Run V K B Q h ps cs sl pc' L (.long v :: S)) : Run V K B Q h ps cs sl pc L (S) := by
  subst hp; exact r.plain fun T t hA hx hc st => XT.lconstV hA hx rfl v (hb hc hd) hv st
theorem r_null  (pc' : Nat) (hp : pc + 1 = pc') (hd : decode B.code pc = .ok (.aconst_null, 1)) (r : Run V K B Q h ps cs sl pc' L (.null :: S)) : Run V K B Q h ps cs sl pc L (S) := by
  subst hp; exact r.plain fun T t hA hx hc st => XS.aconstNull hA hx rfl (hb hc hd) st
theorem r_iadd {x y : Int32} (pc' : Nat) (hp : pc + 1 = pc') (hd : decode B.code pc = .ok (.iadd, 1)) (r : Run V K B Q h ps cs sl pc' L (.int (x + y) :: S)) : Run V K B Q h ps cs sl pc L (.int y :: .int x :: S) := by
  subst hp; exact r.plain fun T t hA hx hc st => XS.iadd hA hx rfl (hb hc hd) rfl st
theorem r_isub {x y : Int32} (pc' : Nat) (hp : pc + 1 = pc') (hd : decode B.code pc = .ok (.isub, 1)) (r : Run V K B Q h ps cs sl pc' L (.int (x - y) :: S)) : Run V K B Q h ps cs sl pc L (.int y :: .int x :: S) := by
  subst hp; exact r.plain fun T t hA hx hc st => XS.isub hA hx rfl (hb hc hd) rfl st
theorem r_imul {x y : Int32} (pc' : Nat) (hp : pc + 1 = pc') (hd : decode B.code pc = .ok (.imul, 1)) (r : Run V K B Q h ps cs sl pc' L (.int (x * y) :: S)) : Run V K B Q h ps cs sl pc L (.int y :: .int x :: S) := by
  subst hp; exact r.plain fun T t hA hx hc st => XS.imul hA hx rfl (hb hc hd) rfl st
theorem r_iand {x y : Int32} (pc' : Nat) (hp : pc + 1 = pc') (hd : decode B.code pc = .ok (.iand, 1)) (r : Run V K B Q h ps cs sl pc' L (.int (x &&& y) :: S)) : Run V K B Q h ps cs sl pc L (.int y :: .int x :: S) := by
  subst hp; exact r.plain fun T t hA hx hc st => XS.iand hA hx rfl (hb hc hd) rfl st
theorem r_ior {x y : Int32} (pc' : Nat) (hp : pc + 1 = pc') (hd : decode B.code pc = .ok (.ior, 1)) (r : Run V K B Q h ps cs sl pc' L (.int (x ||| y) :: S)) : Run V K B Q h ps cs sl pc L (.int y :: .int x :: S) := by
  subst hp; exact r.plain fun T t hA hx hc st => XS.ior hA hx rfl (hb hc hd) rfl st
theorem r_ixor {x y : Int32} (pc' : Nat) (hp : pc + 1 = pc') (hd : decode B.code pc = .ok (.ixor, 1)) (r : Run V K B Q h ps cs sl pc' L (.int (x ^^^ y) :: S)) : Run V K B Q h ps cs sl pc L (.int y :: .int x :: S) := by
  subst hp; exact r.plain fun T t hA hx hc st => XS.ixor hA hx rfl (hb hc hd) rfl st
theorem r_ishl {x y : Int32} (pc' : Nat) (hp : pc + 1 = pc') (hd : decode B.code pc = .ok (.ishl, 1)) (r : Run V K B Q h ps cs sl pc' L (.int (x <<< (y &&& 31)) :: S)) : Run V K B Q h ps cs sl pc L (.int y :: .int x :: S) := by
  subst hp; exact r.plain fun T t hA hx hc st => XS.ishl hA hx rfl (hb hc hd) rfl st
theorem r_ishr {x y : Int32} (pc' : Nat) (hp : pc + 1 = pc') (hd : decode B.code pc = .ok (.ishr, 1)) (r : Run V K B Q h ps cs sl pc' L (.int (x >>> (y &&& 31)) :: S)) : Run V K B Q h ps cs sl pc L (.int y :: .int x :: S) := by
  subst hp; exact r.plain fun T t hA hx hc st => XS.ishr hA hx rfl (hb hc hd) rfl st
theorem r_iushr {x y : Int32} (pc' : Nat) (hp : pc + 1 = pc') (hd : decode B.code pc = .ok (.iushr, 1)) (r : Run V K B Q h ps cs sl pc' L (.int (ushr x y) :: S)) : Run V K B Q h ps cs sl pc L (.int y :: .int x :: S) := by
  subst hp; exact r.plain fun T t hA hx hc st => XS.iushr hA hx rfl (hb hc hd) rfl st
theorem r_ladd {x y : Int64} (pc' : Nat) (hp : pc + 1 = pc') (hd : decode B.code pc = .ok (.ladd, 1)) (r : Run V K B Q h ps cs sl pc' L (.long (x + y) :: S)) : Run V K B Q h ps cs sl pc L (.long y :: .long x :: S) := by
  subst hp; exact r.plain fun T t hA hx hc st => XS.ladd hA hx rfl (hb hc hd) rfl st
theorem r_lsub {x y : Int64} (pc' : Nat) (hp : pc + 1 = pc') (hd : decode B.code pc = .ok (.lsub, 1)) (r : Run V K B Q h ps cs sl pc' L (.long (x - y) :: S)) : Run V K B Q h ps cs sl pc L (.long y :: .long x :: S) := by
  subst hp; exact r.plain fun T t hA hx hc st => XS.lsub hA hx rfl (hb hc hd) rfl st
theorem r_lmul {x y : Int64} (pc' : Nat) (hp : pc + 1 = pc') (hd : decode B.code pc = .ok (.lmul, 1)) (r : Run V K B Q h ps cs sl pc' L (.long (x * y) :: S)) : Run V K B Q h ps cs sl pc L (.long y :: .long x :: S) := by
  subst hp; exact r.plain fun T t hA hx hc st => XS.lmul hA hx rfl (hb hc hd) rfl st
theorem r_land {x y : Int64} (pc' : Nat) (hp : pc + 1 = pc') (hd : decode B.code pc = .ok (.land, 1)) (r : Run V K B Q h ps cs sl pc' L (.long (x &&& y) :: S)) : Run V K B Q h ps cs sl pc L (.long y :: .long x :: S) := by
  subst hp; exact r.plain fun T t hA hx hc st => XS.land hA hx rfl (hb hc hd) rfl st
theorem r_lor {x y : Int64} (pc' : Nat) (hp : pc + 1 = pc') (hd : decode B.code pc = .ok (.lor, 1)) (r : Run V K B Q h ps cs sl pc' L (.long (x ||| y) :: S)) : Run V K B Q h ps cs sl pc L (.long y :: .long x :: S) := by
  subst hp; exact r.plain fun T t hA hx hc st => XS.lor hA hx rfl (hb hc hd) rfl st
theorem r_lxor {x y : Int64} (pc' : Nat) (hp : pc + 1 = pc') (hd : decode B.code pc = .ok (.lxor, 1)) (r : Run V K B Q h ps cs sl pc' L (.long (x ^^^ y) :: S)) : Run V K B Q h ps cs sl pc L (.long y :: .long x :: S) := by
  subst hp; exact r.plain fun T t hA hx hc st => XS.lxor hA hx rfl (hb hc hd) rfl st
theorem r_lshl {x : Int64} {y : Int32} (pc' : Nat) (hp : pc + 1 = pc') (hd : decode B.code pc = .ok (.lshl, 1)) (r : Run V K B Q h ps cs sl pc' L (.long (x <<< (y &&& 0x3f).toInt64) :: S)) : Run V K B Q h ps cs sl pc L (.int y :: .long x :: S) := by
  subst hp; exact r.plain fun T t hA hx hc st => XS.lshl hA hx rfl (hb hc hd) rfl st
theorem r_lshr {x : Int64} {y : Int32} (pc' : Nat) (hp : pc + 1 = pc') (hd : decode B.code pc = .ok (.lshr, 1)) (r : Run V K B Q h ps cs sl pc' L (.long (x >>> (y &&& 0x3f).toInt64) :: S)) : Run V K B Q h ps cs sl pc L (.int y :: .long x :: S) := by
  subst hp; exact r.plain fun T t hA hx hc st => XS.lshr hA hx rfl (hb hc hd) rfl st
theorem r_lushr {x : Int64} {y : Int32} (pc' : Nat) (hp : pc + 1 = pc') (hd : decode B.code pc = .ok (.lushr, 1)) (r : Run V K B Q h ps cs sl pc' L (.long (ushrL x y) :: S)) : Run V K B Q h ps cs sl pc L (.int y :: .long x :: S) := by
  subst hp; exact r.plain fun T t hA hx hc st => XS.lushr hA hx rfl (hb hc hd) rfl st
theorem r_idiv {x y : Int32} (pc' : Nat) (hp : pc + 1 = pc') (hd : decode B.code pc = .ok (.idiv, 1)) (hy : y ≠ 0) (r : Run V K B Q h ps cs sl pc' L (.int (x / y) :: S)) : Run V K B Q h ps cs sl pc L (.int y :: .int x :: S) := by
  subst hp; exact r.plain fun T t hA hx hc st => XS.idiv hA hx rfl (hb hc hd) rfl hy st
theorem r_irem {x y : Int32} (pc' : Nat) (hp : pc + 1 = pc') (hd : decode B.code pc = .ok (.irem, 1)) (hy : y ≠ 0) (r : Run V K B Q h ps cs sl pc' L (.int (x % y) :: S)) : Run V K B Q h ps cs sl pc L (.int y :: .int x :: S) := by
  subst hp; exact r.plain fun T t hA hx hc st => XS.irem hA hx rfl (hb hc hd) rfl hy (by rw [irem_eq_mod]; exact st)
theorem r_ineg {x : Int32} (pc' : Nat) (hp : pc + 1 = pc') (hd : decode B.code pc = .ok (.ineg, 1)) (r : Run V K B Q h ps cs sl pc' L (.int (-x) :: S)) : Run V K B Q h ps cs sl pc L (.int x :: S) := by
  subst hp; exact r.plain fun T t hA hx hc st => XS.ineg hA hx rfl (hb hc hd) rfl st
theorem r_lneg {x : Int64} (pc' : Nat) (hp : pc + 1 = pc') (hd : decode B.code pc = .ok (.lneg, 1)) (r : Run V K B Q h ps cs sl pc' L (.long (-x) :: S)) : Run V K B Q h ps cs sl pc L (.long x :: S) := by
  subst hp; exact r.plain fun T t hA hx hc st => XS.lneg hA hx rfl (hb hc hd) rfl st
theorem r_lcmp {x y : Int64} (pc' : Nat) (hp : pc + 1 = pc') (hd : decode B.code pc = .ok (.lcmp, 1)) (r : Run V K B Q h ps cs sl pc' L (.int (XT.cmpL x y) :: S)) : Run V K B Q h ps cs sl pc L (.long y :: .long x :: S) := by
  subst hp; exact r.plain fun T t hA hx hc st => XT.lcmp hA hx rfl (hb hc hd) rfl st
theorem r_i2l {x : Int32} (pc' : Nat) (hp : pc + 1 = pc') (hd : decode B.code pc = .ok (.i2l, 1)) (r : Run V K B Q h ps cs sl pc' L (.long x.toInt64 :: S)) : Run V K B Q h ps cs sl pc L (.int x :: S) := by
  subst hp; exact r.plain fun T t hA hx hc st => XS.i2l hA hx rfl (hb hc hd) rfl st
theorem r_i2b {x : Int32} (pc' : Nat) (hp : pc + 1 = pc') (hd : decode B.code pc = .ok (.i2b, 1)) (r : Run V K B Q h ps cs sl pc' L (.int x.toInt8.toInt32 :: S)) : Run V K B Q h ps cs sl pc L (.int x :: S) := by
  subst hp; exact r.plain fun T t hA hx hc st => XS.i2b hA hx rfl (hb hc hd) rfl st
theorem r_i2c {x : Int32} (pc' : Nat) (hp : pc + 1 = pc') (hd : decode B.code pc = .ok (.i2c, 1)) (r : Run V K B Q h ps cs sl pc' L (.int x.toUInt32.toUInt16.toUInt32.toInt32 :: S)) : Run V K B Q h ps cs sl pc L (.int x :: S) := by
  subst hp; exact r.plain fun T t hA hx hc st => XS.i2c hA hx rfl (hb hc hd) rfl st
theorem r_i2s {x : Int32} (pc' : Nat) (hp : pc + 1 = pc') (hd : decode B.code pc = .ok (.i2s, 1)) (r : Run V K B Q h ps cs sl pc' L (.int x.toInt16.toInt32 :: S)) : Run V K B Q h ps cs sl pc L (.int x :: S) := by
  subst hp; exact r.plain fun T t hA hx hc st => XS.i2s hA hx rfl (hb hc hd) rfl st
theorem r_l2i {x : Int64} (pc' : Nat) (hp : pc + 1 = pc') (hd : decode B.code pc = .ok (.l2i, 1)) (r : Run V K B Q h ps cs sl pc' L (.int x.toInt32 :: S)) : Run V K B Q h ps cs sl pc L (.long x :: S) := by
  subst hp; exact r.plain fun T t hA hx hc st => XS.l2i hA hx rfl (hb hc hd) rfl st
theorem r_dup {x : Value} (pc' : Nat) (hp : pc + 1 = pc') (hd : decode B.code pc = .ok (.dup, 1)) (hv : x.category = 1) (r : Run V K B Q h ps cs sl pc' L (x :: x :: S)) : Run V K B Q h ps cs sl pc L (x :: S) := by
  subst hp; exact r.plain fun T t hA hx hc st => XS.dup hA hx rfl (hb hc hd) rfl hv st
theorem r_pop {x : Value} (pc' : Nat) (hp : pc + 1 = pc') (hd : decode B.code pc = .ok (.pop, 1)) (hv : x.category = 1) (r : Run V K B Q h ps cs sl pc' L (S)) : Run V K B Q h ps cs sl pc L (x :: S) := by
  subst hp; exact r.plain fun T t hA hx hc st => XS.pop hA hx rfl (hb hc hd) rfl hv st
theorem r_dup2 {x y : Value} (pc' : Nat) (hp : pc + 1 = pc') (hd : decode B.code pc = .ok (.dup2, 1)) (hv : x.category = 1) (hv' : y.category = 1) (r : Run V K B Q h ps cs sl pc' L (x :: y :: x :: y :: S)) : Run V K B Q h ps cs sl pc L (x :: y :: S) := by
  subst hp; exact r.plain fun T t hA hx hc st => XT.dup2 hA hx rfl (hb hc hd) rfl hv hv' st
theorem r_dup2L {x : Int64} (pc' : Nat) (hp : pc + 1 = pc') (hd : decode B.code pc = .ok (.dup2, 1)) (r : Run V K B Q h ps cs sl pc' L (.long x :: .long x :: S)) : Run V K B Q h ps cs sl pc L (.long x :: S) := by
  subst hp; exact r.plain fun T t hA hx hc st => XT.dup2L hA hx rfl (hb hc hd) rfl st
theorem r_dupX1 {x y : Value} (pc' : Nat) (hp : pc + 1 = pc') (hd : decode B.code pc = .ok (.dup_x1, 1)) (hv : x.category = 1) (hv' : y.category = 1) (r : Run V K B Q h ps cs sl pc' L (x :: y :: x :: S)) : Run V K B Q h ps cs sl pc L (x :: y :: S) := by
  subst hp; exact r.plain fun T t hA hx hc st => XT.dupX1 hA hx rfl (hb hc hd) rfl hv hv' st
theorem r_iinc {k : Nat} {cst : Int} {x : Int32} (v : Int32) (L' : List Slot) (pc' : Nat) (hp : pc + 3 = pc') (hd : decode B.code pc = .ok (.iinc k cst, 3)) (hv : Int32.ofInt cst = v) (hl : L[k]? = some (.val (.int x))) (hl' : storeLocals L.toArray k (.int (x + v)) = some L'.toArray) (r : Run V K B Q h ps cs sl pc' L' (S)) : Run V K B Q h ps cs sl pc L (S) := by
  subst hp; exact r.plain fun T t hA hx hc st => XT.iincV hA hx rfl v (hb hc hd) hv (by show L.toArray[_]? = _; rw [List.getElem?_toArray]; exact hl) hl' st
theorem r_goto {o : Int} (pc' : Nat) (hd : decode B.code pc = .ok (.goto o, 3)) (ho : 0 ≤ (pc : Int) + o) (hp : ((pc : Int) + o).toNat = pc') (r : Run V K B Q h ps cs sl pc' L S) : Run V K B Q h ps cs sl pc L S :=
  r.plain fun T t hA hx hc st => XS.goto hA hx rfl rfl (hb hc hd) ho hp st
theorem r_icmp_eq {o : Int} {x y : Int32} (pc' pc'' : Nat) (hd : decode B.code pc = .ok (.if_icmp .eq o, 3)) (ho : 0 ≤ (pc : Int) + o) (hp : ((pc : Int) + o).toNat = pc') (hp' : pc + 3 = pc'') (t : x = y → Run V K B Q h ps cs sl pc' L S) (f : ¬ x = y → Run V K B Q h ps cs sl pc'' L S) : Run V K B Q h ps cs sl pc L (.int y :: .int x :: S) := by
  subst hp'
  by_cases q : x = y
  · exact (t q).plain fun T t hA hx hc st => XS.icmpYes hA hx rfl rfl (hb hc hd) rfl (XT.ii_eq_t q) ho hp st
  · exact (f q).plain fun T t hA hx hc st => XS.icmpNo hA hx rfl (hb hc hd) rfl (XT.ii_eq_f q) st
theorem r_if_eq {o : Int} {x : Int32} (pc' pc'' : Nat) (hd : decode B.code pc = .ok (.ifCond .eq o, 3)) (ho : 0 ≤ (pc : Int) + o) (hp : ((pc : Int) + o).toNat = pc') (hp' : pc + 3 = pc'') (t : x = 0 → Run V K B Q h ps cs sl pc' L S) (f : ¬ x = 0 → Run V K B Q h ps cs sl pc'' L S) : Run V K B Q h ps cs sl pc L (.int x :: S) := by
  subst hp'
  by_cases q : x = 0
  · exact (t q).plain fun T t hA hx hc st => XS.ifYes hA hx rfl rfl (hb hc hd) rfl (XT.i0_eq_t q) ho hp st
  · exact (f q).plain fun T t hA hx hc st => XS.ifNo hA hx rfl (hb hc hd) rfl (XT.i0_eq_f q) st
theorem r_lcmp_eq {o : Int} {x y : Int64} (pc1 pc' pc'' : Nat) (hd0 : decode B.code pc = .ok (.lcmp, 1)) (h1 : pc + 1 = pc1) (hd : decode B.code pc1 = .ok (.ifCond .eq o, 3)) (ho : 0 ≤ (pc1 : Int) + o) (hp : ((pc1 : Int) + o).toNat = pc') (hp' : pc1 + 3 = pc'') (t : x = y → Run V K B Q h ps cs sl pc' L S) (f : ¬ x = y → Run V K B Q h ps cs sl pc'' L S) : Run V K B Q h ps cs sl pc L (.long y :: .long x :: S) := by
  refine r_lcmp _ h1 hd0 ?_
  subst hp'
  by_cases q : x = y
  · exact (t q).plain fun T t hA hx hc st => XS.ifYes hA hx rfl rfl (hb hc hd) rfl (XT.ll_eq_t q) ho hp st
  · exact (f q).plain fun T t hA hx hc st => XS.ifNo hA hx rfl (hb hc hd) rfl (XT.ll_eq_f q) st
theorem r_icmp_ne {o : Int} {x y : Int32} (pc' pc'' : Nat) (hd : decode B.code pc = .ok (.if_icmp .ne o, 3)) (ho : 0 ≤ (pc : Int) + o) (hp : ((pc : Int) + o).toNat = pc') (hp' : pc + 3 = pc'') (t : ¬ x = y → Run V K B Q h ps cs sl pc' L S) (f : x = y → Run V K B Q h ps cs sl pc'' L S) : Run V K B Q h ps cs sl pc L (.int y :: .int x :: S) := by
  subst hp'
  by_cases q : ¬ x = y
  · exact (t q).plain fun T t hA hx hc st => XS.icmpYes hA hx rfl rfl (hb hc hd) rfl (XT.ii_ne_t q) ho hp st
  · exact (f (Decidable.not_not.mp q)).plain fun T t hA hx hc st => XS.icmpNo hA hx rfl (hb hc hd) rfl (XT.ii_ne_f (Decidable.not_not.mp q)) st
theorem r_if_ne {o : Int} {x : Int32} (pc' pc'' : Nat) (hd : decode B.code pc = .ok (.ifCond .ne o, 3)) (ho : 0 ≤ (pc : Int) + o) (hp : ((pc : Int) + o).toNat = pc') (hp' : pc + 3 = pc'') (t : ¬ x = 0 → Run V K B Q h ps cs sl pc' L S) (f : x = 0 → Run V K B Q h ps cs sl pc'' L S) : Run V K B Q h ps cs sl pc L (.int x :: S) := by
  subst hp'
  by_cases q : ¬ x = 0
  · exact (t q).plain fun T t hA hx hc st => XS.ifYes hA hx rfl rfl (hb hc hd) rfl (XT.i0_ne_t q) ho hp st
  · exact (f (Decidable.not_not.mp q)).plain fun T t hA hx hc st => XS.ifNo hA hx rfl (hb hc hd) rfl (XT.i0_ne_f (Decidable.not_not.mp q)) st
theorem r_lcmp_ne {o : Int} {x y : Int64} (pc1 pc' pc'' : Nat) (hd0 : decode B.code pc = .ok (.lcmp, 1)) (h1 : pc + 1 = pc1) (hd : decode B.code pc1 = .ok (.ifCond .ne o, 3)) (ho : 0 ≤ (pc1 : Int) + o) (hp : ((pc1 : Int) + o).toNat = pc') (hp' : pc1 + 3 = pc'') (t : ¬ x = y → Run V K B Q h ps cs sl pc' L S) (f : x = y → Run V K B Q h ps cs sl pc'' L S) : Run V K B Q h ps cs sl pc L (.long y :: .long x :: S) := by
  refine r_lcmp _ h1 hd0 ?_
  subst hp'
  by_cases q : ¬ x = y
  · exact (t q).plain fun T t hA hx hc st => XS.ifYes hA hx rfl rfl (hb hc hd) rfl (XT.ll_ne_t q) ho hp st
  · exact (f (Decidable.not_not.mp q)).plain fun T t hA hx hc st => XS.ifNo hA hx rfl (hb hc hd) rfl (XT.ll_ne_f (Decidable.not_not.mp q)) st
theorem r_icmp_lt {o : Int} {x y : Int32} (pc' pc'' : Nat) (hd : decode B.code pc = .ok (.if_icmp .lt o, 3)) (ho : 0 ≤ (pc : Int) + o) (hp : ((pc : Int) + o).toNat = pc') (hp' : pc + 3 = pc'') (t : x < y → Run V K B Q h ps cs sl pc' L S) (f : ¬ x < y → Run V K B Q h ps cs sl pc'' L S) : Run V K B Q h ps cs sl pc L (.int y :: .int x :: S) := by
  subst hp'
  by_cases q : x < y
  · exact (t q).plain fun T t hA hx hc st => XS.icmpYes hA hx rfl rfl (hb hc hd) rfl (XT.ii_lt_t q) ho hp st
  · exact (f q).plain fun T t hA hx hc st => XS.icmpNo hA hx rfl (hb hc hd) rfl (XT.ii_lt_f q) st
theorem r_if_lt {o : Int} {x : Int32} (pc' pc'' : Nat) (hd : decode B.code pc = .ok (.ifCond .lt o, 3)) (ho : 0 ≤ (pc : Int) + o) (hp : ((pc : Int) + o).toNat = pc') (hp' : pc + 3 = pc'') (t : x < 0 → Run V K B Q h ps cs sl pc' L S) (f : ¬ x < 0 → Run V K B Q h ps cs sl pc'' L S) : Run V K B Q h ps cs sl pc L (.int x :: S) := by
  subst hp'
  by_cases q : x < 0
  · exact (t q).plain fun T t hA hx hc st => XS.ifYes hA hx rfl rfl (hb hc hd) rfl (XT.i0_lt_t q) ho hp st
  · exact (f q).plain fun T t hA hx hc st => XS.ifNo hA hx rfl (hb hc hd) rfl (XT.i0_lt_f q) st
theorem r_lcmp_lt {o : Int} {x y : Int64} (pc1 pc' pc'' : Nat) (hd0 : decode B.code pc = .ok (.lcmp, 1)) (h1 : pc + 1 = pc1) (hd : decode B.code pc1 = .ok (.ifCond .lt o, 3)) (ho : 0 ≤ (pc1 : Int) + o) (hp : ((pc1 : Int) + o).toNat = pc') (hp' : pc1 + 3 = pc'') (t : x < y → Run V K B Q h ps cs sl pc' L S) (f : ¬ x < y → Run V K B Q h ps cs sl pc'' L S) : Run V K B Q h ps cs sl pc L (.long y :: .long x :: S) := by
  refine r_lcmp _ h1 hd0 ?_
  subst hp'
  by_cases q : x < y
  · exact (t q).plain fun T t hA hx hc st => XS.ifYes hA hx rfl rfl (hb hc hd) rfl (XT.ll_lt_t q) ho hp st
  · exact (f q).plain fun T t hA hx hc st => XS.ifNo hA hx rfl (hb hc hd) rfl (XT.ll_lt_f q) st
theorem r_icmp_ge {o : Int} {x y : Int32} (pc' pc'' : Nat) (hd : decode B.code pc = .ok (.if_icmp .ge o, 3)) (ho : 0 ≤ (pc : Int) + o) (hp : ((pc : Int) + o).toNat = pc') (hp' : pc + 3 = pc'') (t : ¬ x < y → Run V K B Q h ps cs sl pc' L S) (f : x < y → Run V K B Q h ps cs sl pc'' L S) : Run V K B Q h ps cs sl pc L (.int y :: .int x :: S) := by
  subst hp'
  by_cases q : ¬ x < y
  · exact (t q).plain fun T t hA hx hc st => XS.icmpYes hA hx rfl rfl (hb hc hd) rfl (XT.ii_ge_t q) ho hp st
  · exact (f (Decidable.not_not.mp q)).plain fun T t hA hx hc st => XS.icmpNo hA hx rfl (hb hc hd) rfl (XT.ii_ge_f (Decidable.not_not.mp q)) st
theorem r_if_ge {o : Int} {x : Int32} (pc' pc'' : Nat) (hd : decode B.code pc = .ok (.ifCond .ge o, 3)) (ho : 0 ≤ (pc : Int) + o) (hp : ((pc : Int) + o).toNat = pc') (hp' : pc + 3 = pc'') (t : ¬ x < 0 → Run V K B Q h ps cs sl pc' L S) (f : x < 0 → Run V K B Q h ps cs sl pc'' L S) : Run V K B Q h ps cs sl pc L (.int x :: S) := by
  subst hp'
  by_cases q : ¬ x < 0
  · exact (t q).plain fun T t hA hx hc st => XS.ifYes hA hx rfl rfl (hb hc hd) rfl (XT.i0_ge_t q) ho hp st
  · exact (f (Decidable.not_not.mp q)).plain fun T t hA hx hc st => XS.ifNo hA hx rfl (hb hc hd) rfl (XT.i0_ge_f (Decidable.not_not.mp q)) st
theorem r_lcmp_ge {o : Int} {x y : Int64} (pc1 pc' pc'' : Nat) (hd0 : decode B.code pc = .ok (.lcmp, 1)) (h1 : pc + 1 = pc1) (hd : decode B.code pc1 = .ok (.ifCond .ge o, 3)) (ho : 0 ≤ (pc1 : Int) + o) (hp : ((pc1 : Int) + o).toNat = pc') (hp' : pc1 + 3 = pc'') (t : ¬ x < y → Run V K B Q h ps cs sl pc' L S) (f : x < y → Run V K B Q h ps cs sl pc'' L S) : Run V K B Q h ps cs sl pc L (.long y :: .long x :: S) := by
  refine r_lcmp _ h1 hd0 ?_
  subst hp'
  by_cases q : ¬ x < y
  · exact (t q).plain fun T t hA hx hc st => XS.ifYes hA hx rfl rfl (hb hc hd) rfl (XT.ll_ge_t q) ho hp st
  · exact (f (Decidable.not_not.mp q)).plain fun T t hA hx hc st => XS.ifNo hA hx rfl (hb hc hd) rfl (XT.ll_ge_f (Decidable.not_not.mp q)) st
theorem r_icmp_gt {o : Int} {x y : Int32} (pc' pc'' : Nat) (hd : decode B.code pc = .ok (.if_icmp .gt o, 3)) (ho : 0 ≤ (pc : Int) + o) (hp : ((pc : Int) + o).toNat = pc') (hp' : pc + 3 = pc'') (t : y < x → Run V K B Q h ps cs sl pc' L S) (f : ¬ y < x → Run V K B Q h ps cs sl pc'' L S) : Run V K B Q h ps cs sl pc L (.int y :: .int x :: S) := by
  subst hp'
  by_cases q : y < x
  · exact (t q).plain fun T t hA hx hc st => XS.icmpYes hA hx rfl rfl (hb hc hd) rfl (XT.ii_gt_t q) ho hp st
  · exact (f q).plain fun T t hA hx hc st => XS.icmpNo hA hx rfl (hb hc hd) rfl (XT.ii_gt_f q) st
theorem r_if_gt {o : Int} {x : Int32} (pc' pc'' : Nat) (hd : decode B.code pc = .ok (.ifCond .gt o, 3)) (ho : 0 ≤ (pc : Int) + o) (hp : ((pc : Int) + o).toNat = pc') (hp' : pc + 3 = pc'') (t : 0 < x → Run V K B Q h ps cs sl pc' L S) (f : ¬ 0 < x → Run V K B Q h ps cs sl pc'' L S) : Run V K B Q h ps cs sl pc L (.int x :: S) := by
  subst hp'
  by_cases q : 0 < x
  · exact (t q).plain fun T t hA hx hc st => XS.ifYes hA hx rfl rfl (hb hc hd) rfl (XT.i0_gt_t q) ho hp st
  · exact (f q).plain fun T t hA hx hc st => XS.ifNo hA hx rfl (hb hc hd) rfl (XT.i0_gt_f q) st
theorem r_lcmp_gt {o : Int} {x y : Int64} (pc1 pc' pc'' : Nat) (hd0 : decode B.code pc = .ok (.lcmp, 1)) (h1 : pc + 1 = pc1) (hd : decode B.code pc1 = .ok (.ifCond .gt o, 3)) (ho : 0 ≤ (pc1 : Int) + o) (hp : ((pc1 : Int) + o).toNat = pc') (hp' : pc1 + 3 = pc'') (t : y < x → Run V K B Q h ps cs sl pc' L S) (f : ¬ y < x → Run V K B Q h ps cs sl pc'' L S) : Run V K B Q h ps cs sl pc L (.long y :: .long x :: S) := by
  refine r_lcmp _ h1 hd0 ?_
  subst hp'
  by_cases q : y < x
  · exact (t q).plain fun T t hA hx hc st => XS.ifYes hA hx rfl rfl (hb hc hd) rfl (XT.ll_gt_t q) ho hp st
  · exact (f q).plain fun T t hA hx hc st => XS.ifNo hA hx rfl (hb hc hd) rfl (XT.ll_gt_f q) st
theorem r_icmp_le {o : Int} {x y : Int32} (pc' pc'' : Nat) (hd : decode B.code pc = .ok (.if_icmp .le o, 3)) (ho : 0 ≤ (pc : Int) + o) (hp : ((pc : Int) + o).toNat = pc') (hp' : pc + 3 = pc'') (t : ¬ y < x → Run V K B Q h ps cs sl pc' L S) (f : y < x → Run V K B Q h ps cs sl pc'' L S) : Run V K B Q h ps cs sl pc L (.int y :: .int x :: S) := by
  subst hp'
  by_cases q : ¬ y < x
  · exact (t q).plain fun T t hA hx hc st => XS.icmpYes hA hx rfl rfl (hb hc hd) rfl (XT.ii_le_t q) ho hp st
  · exact (f (Decidable.not_not.mp q)).plain fun T t hA hx hc st => XS.icmpNo hA hx rfl (hb hc hd) rfl (XT.ii_le_f (Decidable.not_not.mp q)) st
theorem r_if_le {o : Int} {x : Int32} (pc' pc'' : Nat) (hd : decode B.code pc = .ok (.ifCond .le o, 3)) (ho : 0 ≤ (pc : Int) + o) (hp : ((pc : Int) + o).toNat = pc') (hp' : pc + 3 = pc'') (t : ¬ 0 < x → Run V K B Q h ps cs sl pc' L S) (f : 0 < x → Run V K B Q h ps cs sl pc'' L S) : Run V K B Q h ps cs sl pc L (.int x :: S) := by
  subst hp'
  by_cases q : ¬ 0 < x
  · exact (t q).plain fun T t hA hx hc st => XS.ifYes hA hx rfl rfl (hb hc hd) rfl (XT.i0_le_t q) ho hp st
  · exact (f (Decidable.not_not.mp q)).plain fun T t hA hx hc st => XS.ifNo hA hx rfl (hb hc hd) rfl (XT.i0_le_f (Decidable.not_not.mp q)) st
theorem r_lcmp_le {o : Int} {x y : Int64} (pc1 pc' pc'' : Nat) (hd0 : decode B.code pc = .ok (.lcmp, 1)) (h1 : pc + 1 = pc1) (hd : decode B.code pc1 = .ok (.ifCond .le o, 3)) (ho : 0 ≤ (pc1 : Int) + o) (hp : ((pc1 : Int) + o).toNat = pc') (hp' : pc1 + 3 = pc'') (t : ¬ y < x → Run V K B Q h ps cs sl pc' L S) (f : y < x → Run V K B Q h ps cs sl pc'' L S) : Run V K B Q h ps cs sl pc L (.long y :: .long x :: S) := by
  refine r_lcmp _ h1 hd0 ?_
  subst hp'
  by_cases q : ¬ y < x
  · exact (t q).plain fun T t hA hx hc st => XS.ifYes hA hx rfl rfl (hb hc hd) rfl (XT.ll_le_t q) ho hp st
  · exact (f (Decidable.not_not.mp q)).plain fun T t hA hx hc st => XS.ifNo hA hx rfl (hb hc hd) rfl (XT.ll_le_f (Decidable.not_not.mp q)) st
theorem r_ifnull_t {o : Int} (pc' : Nat) (hd : decode B.code pc = .ok (.ifnull o, 3)) (ho : 0 ≤ (pc : Int) + o) (hp : ((pc : Int) + o).toNat = pc') (r : Run V K B Q h ps cs sl pc' L S) : Run V K B Q h ps cs sl pc L (.null :: S) :=
  r.plain fun T t hA hx hc st => XS.ifnullYes hA hx rfl rfl (hb hc hd) rfl ho hp st
theorem r_ifnull_f {o : Int} {b : Nat} (pc' : Nat) (hp : pc + 3 = pc') (hd : decode B.code pc = .ok (.ifnull o, 3)) (r : Run V K B Q h ps cs sl pc' L S) : Run V K B Q h ps cs sl pc L (.ref b :: S) := by
  subst hp; exact r.plain fun T t hA hx hc st => XS.ifnullNo hA hx rfl (hb hc hd) rfl st
theorem r_ifnonnull_t {o : Int} {b : Nat} (pc' : Nat) (hd : decode B.code pc = .ok (.ifnonnull o, 3)) (ho : 0 ≤ (pc : Int) + o) (hp : ((pc : Int) + o).toNat = pc') (r : Run V K B Q h ps cs sl pc' L S) : Run V K B Q h ps cs sl pc L (.ref b :: S) :=
  r.plain fun T t hA hx hc st => XS.ifnonnullYes hA hx rfl rfl (hb hc hd) rfl ho hp st
theorem r_ifnonnull_f {o : Int} (pc' : Nat) (hp : pc + 3 = pc') (hd : decode B.code pc = .ok (.ifnonnull o, 3)) (r : Run V K B Q h ps cs sl pc' L S) : Run V K B Q h ps cs sl pc L (.null :: S) := by
  subst hp; exact r.plain fun T t hA hx hc st => XS.ifnonnullNo hA hx rfl (hb hc hd) rfl st
theorem r_acmp_eq {o : Int} {x y : Value} (pc' pc'' : Nat) (hd : decode B.code pc = .ok (.if_acmp .eq o, 3)) (hx1 : x.isRef = true) (hy1 : y.isRef = true) (ho : 0 ≤ (pc : Int) + o) (hp : ((pc : Int) + o).toNat = pc') (hp' : pc + 3 = pc'') (t : x = y → Run V K B Q h ps cs sl pc' L S) (f : ¬ x = y → Run V K B Q h ps cs sl pc'' L S) : Run V K B Q h ps cs sl pc L (y :: x :: S) := by
  subst hp'
  by_cases q : x = y
  · exact (t q).plain fun T t hA hx hc st => XT.acmpYes hA hx rfl rfl (hb hc hd) rfl hx1 hy1 (XT.aa_eq_t q) ho hp st
  · exact (f q).plain fun T t hA hx hc st => XT.acmpNo hA hx rfl (hb hc hd) rfl hx1 hy1 (XT.aa_eq_f q) st
theorem r_acmp_ne {o : Int} {x y : Value} (pc' pc'' : Nat) (hd : decode B.code pc = .ok (.if_acmp .ne o, 3)) (hx1 : x.isRef = true) (hy1 : y.isRef = true) (ho : 0 ≤ (pc : Int) + o) (hp : ((pc : Int) + o).toNat = pc') (hp' : pc + 3 = pc'') (t : ¬ x = y → Run V K B Q h ps cs sl pc' L S) (f : x = y → Run V K B Q h ps cs sl pc'' L S) : Run V K B Q h ps cs sl pc L (y :: x :: S) := by
  subst hp'
  by_cases q : ¬ x = y
  · exact (t q).plain fun T t hA hx hc st => XT.acmpYes hA hx rfl rfl (hb hc hd) rfl hx1 hy1 (XT.aa_ne_t q) ho hp st
  · exact (f (Decidable.not_not.mp q)).plain fun T t hA hx hc st => XT.acmpNo hA hx rfl (hb hc hd) rfl hx1 hy1 (XT.aa_ne_f (Decidable.not_not.mp q)) st
theorem r_ldcI {i : Nat} {v : Int32} (pc' : Nat) (hp : pc + 2 = pc') (hd : decode B.code pc = .ok (.ldc i, 2)) (w : (Jvm.Cond.constant B.y.cls i v).before V.a0 V.Z = true) (r : Run V K B Q h ps cs sl pc' L (.int v :: S)) : Run V K B Q h ps cs sl pc L S := by
  subst hp; exact r.still fun T locs vm0 X eT hZ ho O G => ⟨T, X, eT, fun t st => Jvm.Stand.ldcI X G.1 ho (mv hZ w) rfl (hb G.2.1 hd) st⟩
theorem r_ldcWI {i : Nat} {v : Int32} (pc' : Nat) (hp : pc + 3 = pc') (hd : decode B.code pc = .ok (.ldc_w i, 3)) (w : (Jvm.Cond.constant B.y.cls i v).before V.a0 V.Z = true) (r : Run V K B Q h ps cs sl pc' L (.int v :: S)) : Run V K B Q h ps cs sl pc L S := by
  subst hp; exact r.still fun T locs vm0 X eT hZ ho O G => ⟨T, X, eT, fun t st => Jvm.Stand.ldcWI X G.1 ho (mv hZ w) rfl (hb G.2.1 hd) st⟩
theorem r_ldc2J {i : Nat} {v : Int64} (pc' : Nat) (hp : pc + 3 = pc') (hd : decode B.code pc = .ok (.ldc2_w i, 3)) (w : (Jvm.Cond.constantLong B.y.cls i v).before V.a0 V.Z = true) (r : Run V K B Q h ps cs sl pc' L (.long v :: S)) : Run V K B Q h ps cs sl pc L S := by
  subst hp; exact r.still fun T locs vm0 X eT hZ ho O G => ⟨T, X, eT, fun t st => Jvm.Stand.ldc2J X G.1 ho (mv hZ w) rfl (hb G.2.1 hd) st⟩
theorem r_getfield {i : Nat} {O n d : String} {a : Nat} {v : Value} (pc' : Nat) (hp : pc + 3 = pc') (hd : decode B.code pc = .ok (.getfield i, 3)) (w : (Jvm.Cond.fieldLink B.y.cls i O n d).before V.a0 V.Z = true) (F : Fld V.Z h a O n d v) (r : Run V K B Q h ps cs sl pc' L (v :: S)) : Run V K B Q h ps cs sl pc L (.ref a :: S) := by
  subst hp; exact r.still fun T locs vm0 X eT hZ ho O G => getF X G.1 hZ ho (host := "") (Or.inl w) Via.refl eT F (g := mkF K.m pc L.toArray (.ref a :: S)) rfl rfl (hb G.2.1 hd)
theorem r_getstatic {i : Nat} {O n d : String} {v : Value} (pc' : Nat) (hp : pc + 3 = pc') (hd : decode B.code pc = .ok (.getstatic i, 3)) (w : (Jvm.Cond.fieldLink B.y.cls i O n d).before V.a0 V.Z = true) (F : Sta V.Z V.Z.heap O n d v) (r : Run V K B Q h ps cs sl pc' L (v :: S)) : Run V K B Q h ps cs sl pc L S := by
  subst hp; exact r.still fun T locs vm0 X eT hZ ho O G => getS X G.1 hZ ho (host := "") w Via.refl eT (F.ext O) (g := mkF K.m pc L.toArray S) rfl (hb G.2.1 hd)
theorem r_putfield {i kk : Nat} {O n d C : String} {a : Nat} {v old : Value} {ty : FieldType} (pc' : Nat) (hp : pc + 3 = pc') (hd : decode B.code pc = .ok (.putfield i, 3)) (w : (Jvm.Cond.fieldLink B.y.cls i O n d).before V.a0 V.Z = true) (F : Fld V.Z h a O n d old) (E : Exa V.Z h a C)
    (Lw : (Jvm.Cond.lays C O n d).before V.a0 V.Z = true ∨ ((Jvm.Cond.laysFinal C O n d).before V.a0 V.Z = true ∧ B.y.cls = O ∧ B.y.name = "<init>")) (wi : (Jvm.Cond.instantiable C kk).before V.a0 V.Z = true) (hty : parseFieldDescriptor d = some ty) (hn : narrow ty v = v) (hf : fits ty v = true)
    (ha : V.Z.heap.size ≤ a) (hs : C ≠ "java/lang/String" ∧ C ≠ "[B" ∨ a ∈ ps) (r : ∀ h', Wr h h' a (RoadKit.slotOf V.Z O n d) v → Run V K B Q h' ps cs sl pc' L S) : Run V K B Q h ps cs sl pc L (v :: .ref a :: S) := by
  subst hp; exact Run.write ha (fun vm al P => hs.elim (fun q => Safe.exa al E q.1 q.2) (fun q => (P a q).2)) r fun T locs vm0 X eT hZ ho G => putF X G.1 hZ ho (host := "") (Or.inl w) Via.refl eT F E (Lw.imp id fun q => ⟨q.1, q.2.1, G.2.2.2.2.2.trans q.2.2⟩) wi hty hn hf (g := mkF K.m pc L.toArray (v :: .ref a :: S)) rfl rfl (hb G.2.1 hd)
theorem r_new {i n : Nat} {C : String} (pc' : Nat) (hp : pc + 3 = pc') (hd : decode B.code pc = .ok (.new i, 3)) (w : (Jvm.Cond.classLink B.y.cls i C).before V.a0 V.Z = true) (wi : (Jvm.Cond.instantiable C n).before V.a0 V.Z = true) (wz : (Jvm.Cond.initialized C).before V.a0 V.Z = true) (hc : cs + 1 ≤ B.R.cells) (hl : sl + n ≤ B.R.slots)
    (r : ∀ (a : Nat) h', a = h.size → V.Z.heap.size ≤ a → Ext h h' → Exa V.Z h' a C → (∀ {O nm d : String} {ty : FieldType}, RoadKit.Laid V.Z V.a0 C O nm d → parseFieldDescriptor d = some ty → Fld V.Z h' a O nm d (defaultValue ty)) → Run V K B Q h' (a :: ps) (cs + 1) (sl + n) pc' L (.ref a :: S)) : Run V K B Q h ps cs sl pc L S := by
  subst hp; refine Run.make (S' := fun a => .ref a :: S) (P := fun h' => Exa V.Z h' h.size C ∧ ∀ {O nm d : String} {ty : FieldType}, RoadKit.Laid V.Z V.a0 C O nm d → parseFieldDescriptor d = some ty → Fld V.Z h' h.size O nm d (defaultValue ty)) (fun h' E hz q => r _ h' rfl hz E q.1 q.2) fun T locs vm0 X eT hZ ho G => ?_
  obtain ⟨T', h', X', e', E, A, D, -, st⟩ := newO X G.1 hZ ho w wi wz eT (g := mkF K.m pc L.toArray S) rfl (hb G.2.1 hd) hc hl
  exact ⟨T', h', X', e', E, A.lt, ⟨A, D⟩, st⟩
theorem r_newarray {aty : ArrayType} {n : Int32} (cap : Nat) (pc' : Nat) (hp : pc + 2 = pc') (hd : decode B.code pc = .ok (.newarray aty, 2)) (w : (Jvm.Cond.arrayClass (newarray.typeOf aty)).before V.a0 V.Z = true) (hn : ¬ n < 0) (hcap : n.toNatClampNeg ≤ cap) (hbig : cap * 8 ≤ 536870912) (hc : cs + 1 ≤ B.R.cells) (hl : sl + cap ≤ B.R.slots)
    (r : ∀ (a : Nat) h' k, a = h.size → V.Z.heap.size ≤ a → Ext h h' → Arv V.Z h' a k (newarray.typeOf aty) n [] (defaultValue (newarray.typeOf aty)) → Run V K B Q h' (a :: ps) (cs + 1) (sl + cap) pc' L (.ref a :: S)) : Run V K B Q h ps cs sl pc L (.int n :: S) := by
  subst hp; refine Run.make (S' := fun a => .ref a :: S) (P := fun h' => ∃ k, Arv V.Z h' h.size k (newarray.typeOf aty) n [] (defaultValue (newarray.typeOf aty))) (fun h' E hz ⟨k, q⟩ => r _ h' k rfl hz E q) fun T locs vm0 X eT hZ ho G => ?_
  obtain ⟨T', h', cA, X', e', E, A, st⟩ := newP X G.1 hZ w eT (g := mkF K.m pc L.toArray (.int n :: S)) rfl (hb G.2.1 hd) rfl hn hcap hbig hc hl
  exact ⟨T', h', X', e', E, A.lt, ⟨cA, Arv.new A hn⟩, st⟩
theorem r_anewarray {i : Nat} {C : String} {n : Int32} (cap : Nat) (pc' : Nat) (hp : pc + 3 = pc') (hd : decode B.code pc = .ok (.anewarray i, 3)) (w1 : (Jvm.Cond.classLink B.y.cls i C).before V.a0 V.Z = true) (w2 : (Jvm.Cond.arrayOver (.object C)).before V.a0 V.Z = true) (hn : ¬ n < 0) (hcap : n.toNatClampNeg ≤ cap) (hbig : cap * 8 ≤ 536870912) (hc : cs + 1 ≤ B.R.cells) (hl : sl + cap ≤ B.R.slots)
    (r : ∀ (a : Nat) h' k, a = h.size → V.Z.heap.size ≤ a → Ext h h' → Arv V.Z h' a k (.object C) n [] .null → Ovr V.Z k C → Run V K B Q h' (a :: ps) (cs + 1) (sl + cap) pc' L (.ref a :: S)) : Run V K B Q h ps cs sl pc L (.int n :: S) := by
  subst hp; refine Run.make (S' := fun a => .ref a :: S) (P := fun h' => ∃ k, Arv V.Z h' h.size k (.object C) n [] .null ∧ Ovr V.Z k C) (fun h' E hz ⟨k, q, q'⟩ => r _ h' k rfl hz E q q') fun T locs vm0 X eT hZ ho G => ?_
  obtain ⟨T', h', cA, X', e', E, A, O, st⟩ := newR X G.1 hZ ho w1 w2 eT (g := mkF K.m pc L.toArray (.int n :: S)) rfl (hb G.2.1 hd) rfl hn hcap hbig hc hl
  exact ⟨T', h', X', e', E, A.lt, ⟨cA, Arv.new A hn, O⟩, st⟩
theorem r_iaload {a : Nat} {k : ClassId} {z j : Int32} {vs : List Value} {dv v : Value} (pc' : Nat) (hp : pc + 1 = pc') (hd : decode B.code pc = .ok (.iaload, 1)) (A : Arv V.Z h a k .int z vs dv) (hj : ¬ j < 0 ∧ j < z) (hv : vs.getD j.toNatClampNeg dv = v) (r : Run V K B Q h ps cs sl pc' L (v :: S)) : Run V K B Q h ps cs sl pc L (.int j :: .ref a :: S) := by
  subst hp; refine r.still fun T locs vm0 X eT hZ ho O G => ⟨T, X, eT, fun t st => ?_⟩
  obtain ⟨c, A1, q1, S1, N1, H1, G1⟩ := A
  exact X.iaload G.1 (by rw [eT]; exact A1.1) (State.isArrayOf_alike hZ.alike A1.2.1) A1.2.2 (inb_of S1 hj) (H1.at (inb_of S1 hj) hv) (g := mkF K.m pc L.toArray (.int j :: .ref a :: S)) rfl rfl (hb G.2.1 hd) _ st
theorem r_caload {a : Nat} {k : ClassId} {z j : Int32} {vs : List Value} {dv v : Value} (pc' : Nat) (hp : pc + 1 = pc') (hd : decode B.code pc = .ok (.caload, 1)) (A : Arv V.Z h a k .char z vs dv) (hj : ¬ j < 0 ∧ j < z) (hv : vs.getD j.toNatClampNeg dv = v) (r : Run V K B Q h ps cs sl pc' L (v :: S)) : Run V K B Q h ps cs sl pc L (.int j :: .ref a :: S) := by
  subst hp; refine r.still fun T locs vm0 X eT hZ ho O G => ⟨T, X, eT, fun t st => ?_⟩
  obtain ⟨c, A1, q1, S1, N1, H1, G1⟩ := A
  exact X.caload G.1 (by rw [eT]; exact A1.1) (State.isArrayOf_alike hZ.alike A1.2.1) A1.2.2 (inb_of S1 hj) (H1.at (inb_of S1 hj) hv) (g := mkF K.m pc L.toArray (.int j :: .ref a :: S)) rfl rfl (hb G.2.1 hd) _ st
theorem r_baload {a : Nat} {k : ClassId} {z j : Int32} {vs : List Value} {dv v : Value} (pc' : Nat) (hp : pc + 1 = pc') (hd : decode B.code pc = .ok (.baload, 1)) (A : Arv V.Z h a k .byte z vs dv) (hj : ¬ j < 0 ∧ j < z) (hv : vs.getD j.toNatClampNeg dv = v) (r : Run V K B Q h ps cs sl pc' L (v :: S)) : Run V K B Q h ps cs sl pc L (.int j :: .ref a :: S) := by
  subst hp; refine r.still fun T locs vm0 X eT hZ ho O G => ⟨T, X, eT, fun t st => ?_⟩
  obtain ⟨c, A1, q1, S1, N1, H1, G1⟩ := A
  exact X.baloadBytes G.1 (by rw [eT]; exact A1.1) (State.isArrayOf_alike hZ.alike A1.2.1) A1.2.2 (inb_of S1 hj) (H1.at (inb_of S1 hj) hv) (g := mkF K.m pc L.toArray (.int j :: .ref a :: S)) rfl rfl (hb G.2.1 hd) _ st
theorem r_saload {a : Nat} {k : ClassId} {z j : Int32} {vs : List Value} {dv v : Value} (pc' : Nat) (hp : pc + 1 = pc') (hd : decode B.code pc = .ok (.saload, 1)) (A : Arv V.Z h a k .short z vs dv) (hj : ¬ j < 0 ∧ j < z) (hv : vs.getD j.toNatClampNeg dv = v) (r : Run V K B Q h ps cs sl pc' L (v :: S)) : Run V K B Q h ps cs sl pc L (.int j :: .ref a :: S) := by
  subst hp; refine r.still fun T locs vm0 X eT hZ ho O G => ⟨T, X, eT, fun t st => ?_⟩
  obtain ⟨c, A1, q1, S1, N1, H1, G1⟩ := A
  exact X.saload G.1 (by rw [eT]; exact A1.1) (State.isArrayOf_alike hZ.alike A1.2.1) A1.2.2 (inb_of S1 hj) (H1.at (inb_of S1 hj) hv) (g := mkF K.m pc L.toArray (.int j :: .ref a :: S)) rfl rfl (hb G.2.1 hd) _ st
theorem r_laload {a : Nat} {k : ClassId} {z j : Int32} {vs : List Value} {dv v : Value} (pc' : Nat) (hp : pc + 1 = pc') (hd : decode B.code pc = .ok (.laload, 1)) (A : Arv V.Z h a k .long z vs dv) (hj : ¬ j < 0 ∧ j < z) (hv : vs.getD j.toNatClampNeg dv = v) (r : Run V K B Q h ps cs sl pc' L (v :: S)) : Run V K B Q h ps cs sl pc L (.int j :: .ref a :: S) := by
  subst hp; refine r.still fun T locs vm0 X eT hZ ho O G => ⟨T, X, eT, fun t st => ?_⟩
  obtain ⟨c, A1, q1, S1, N1, H1, G1⟩ := A
  exact X.laload G.1 (by rw [eT]; exact A1.1) (State.isArrayOf_alike hZ.alike A1.2.1) A1.2.2 (inb_of S1 hj) (H1.at (inb_of S1 hj) hv) (g := mkF K.m pc L.toArray (.int j :: .ref a :: S)) rfl rfl (hb G.2.1 hd) _ st
theorem r_aaload {a : Nat} {k : ClassId} {ty : FieldType} {z j : Int32} {vs : List Value} {dv v : Value} (pc' : Nat) (hp : pc + 1 = pc') (hd : decode B.code pc = .ok (.aaload, 1)) (A : Arv V.Z h a k ty z vs dv) (hty : ty.isReference = true) (hj : ¬ j < 0 ∧ j < z) (hv : vs.getD j.toNatClampNeg dv = v) (r : Run V K B Q h ps cs sl pc' L (v :: S)) : Run V K B Q h ps cs sl pc L (.int j :: .ref a :: S) := by
  subst hp; refine r.still fun T locs vm0 X eT hZ ho O G => ⟨T, X, eT, fun t st => ?_⟩
  obtain ⟨c, A1, q1, S1, N1, H1, G1⟩ := A
  exact X.aaload G.1 (by rw [eT]; exact A1.1) (State.isArrayOf_alike hZ.alike A1.2.1) hty A1.2.2 (inb_of S1 hj) (H1.at (inb_of S1 hj) hv) (g := mkF K.m pc L.toArray (.int j :: .ref a :: S)) rfl rfl (hb G.2.1 hd) _ st
theorem r_arraylength {a : Nat} {k : ClassId} {ty : FieldType} {z : Int32} {vs : List Value} {dv : Value} (pc' : Nat) (hp : pc + 1 = pc') (hd : decode B.code pc = .ok (.arraylength, 1)) (A : Arv V.Z h a k ty z vs dv) (r : Run V K B Q h ps cs sl pc' L (.int z :: S)) : Run V K B Q h ps cs sl pc L (.ref a :: S) := by
  subst hp; refine r.still fun T locs vm0 X eT hZ ho O G => ⟨T, X, eT, fun t st => ?_⟩
  obtain ⟨c, A1, q1, S1, N1, H1, G1⟩ := A
  exact X.arraylength G.1 (by rw [eT]; exact A1.1) (State.isArrayOf_alike hZ.alike A1.2.1) (g := mkF K.m pc L.toArray (.ref a :: S)) rfl rfl (hb G.2.1 hd) _ (by rw [len_of S1 N1]; exact st)
theorem r_castore {a : Nat} {k : ClassId} {z j x : Int32} {vs : List Value} {dv : Value} (i : Nat) (pc' : Nat) (hp : pc + 1 = pc') (hd : decode B.code pc = .ok (.castore, 1)) (A : Arv V.Z h a k .char z vs dv) (hj : ¬ j < 0 ∧ j < z) (ji : j.toNatClampNeg = i) (hi : i < vs.length) (ha : V.Z.heap.size ≤ a) (x' : Int32) (hx' : nar .char x = x')
    (r : ∀ h', Wr h h' a i (.int x') → Arv V.Z h' a k .char z (vs.set i (.int x')) dv → Run V K B Q h' ps cs sl pc' L S) : Run V K B Q h ps cs sl pc L (.int x :: .int j :: .ref a :: S) := by
  subst hp hx' ji; refine Run.write ha (fun vm al P => Safe.arr al A.choose_spec.1 (by decide)) (fun h' W => r h' W ?_) fun T locs vm0 X eT hZ ho G => ?_
  · obtain ⟨c, A1, q1, S1, N1, H1, G1⟩ := A
    exact Arv.set A1 q1 S1 N1 H1 G1 (fits_nar_char x) W _ rfl hi
  · obtain ⟨c, A1, q1, S1, N1, H1, G1⟩ := A
    exact stC X G.1 hZ eT A1 (inb_of S1 hj) (g := mkF K.m pc L.toArray (.int x :: .int j :: .ref a :: S)) rfl rfl (hb G.2.1 hd)
theorem r_bastore {a : Nat} {k : ClassId} {z j x : Int32} {vs : List Value} {dv : Value} (i : Nat) (pc' : Nat) (hp : pc + 1 = pc') (hd : decode B.code pc = .ok (.bastore, 1)) (A : Arv V.Z h a k .byte z vs dv) (hj : ¬ j < 0 ∧ j < z) (ji : j.toNatClampNeg = i) (hi : i < vs.length) (ha : V.Z.heap.size ≤ a) (hs : a ∈ ps) (x' : Int32) (hx' : x.toInt8.toInt32 = x')
    (r : ∀ h', Wr h h' a i (.int x') → Arv V.Z h' a k .byte z (vs.set i (.int x')) dv → Run V K B Q h' ps cs sl pc' L S) : Run V K B Q h ps cs sl pc L (.int x :: .int j :: .ref a :: S) := by
  subst hp hx' ji; refine Run.write ha (fun vm al P => (P a hs).2) (fun h' W => r h' W ?_) fun T locs vm0 X eT hZ ho G => ?_
  · obtain ⟨c, A1, q1, S1, N1, H1, G1⟩ := A
    exact Arv.set A1 q1 S1 N1 H1 G1 (fits_nar_byte x) W _ rfl hi
  · obtain ⟨c, A1, q1, S1, N1, H1, G1⟩ := A
    exact stB X G.1 hZ eT A1 (inb_of S1 hj) (g := mkF K.m pc L.toArray (.int x :: .int j :: .ref a :: S)) rfl rfl (hb G.2.1 hd)
theorem r_iastore {a : Nat} {k : ClassId} {z j x : Int32} {vs : List Value} {dv : Value} (i : Nat) (pc' : Nat) (hp : pc + 1 = pc') (hd : decode B.code pc = .ok (.iastore, 1)) (A : Arv V.Z h a k .int z vs dv) (hj : ¬ j < 0 ∧ j < z) (ji : j.toNatClampNeg = i) (hi : i < vs.length) (ha : V.Z.heap.size ≤ a) (x' : Int32) (hx' : x = x')
    (r : ∀ h', Wr h h' a i (.int x') → Arv V.Z h' a k .int z (vs.set i (.int x')) dv → Run V K B Q h' ps cs sl pc' L S) : Run V K B Q h ps cs sl pc L (.int x :: .int j :: .ref a :: S) := by
  subst hp hx' ji; refine Run.write ha (fun vm al P => Safe.arr al A.choose_spec.1 (by decide)) (fun h' W => r h' W ?_) fun T locs vm0 X eT hZ ho G => ?_
  · obtain ⟨c, A1, q1, S1, N1, H1, G1⟩ := A
    exact Arv.set A1 q1 S1 N1 H1 G1 (rfl) W _ rfl hi
  · obtain ⟨c, A1, q1, S1, N1, H1, G1⟩ := A
    exact stI X G.1 hZ eT A1 (inb_of S1 hj) (g := mkF K.m pc L.toArray (.int x :: .int j :: .ref a :: S)) rfl rfl (hb G.2.1 hd)
theorem r_aastore {a : Nat} {k : ClassId} {C : String} {z j : Int32} {x : Value} {vs : List Value} {dv : Value} (i : Nat) (pc' : Nat) (hp : pc + 1 = pc') (hd : decode B.code pc = .ok (.aastore, 1)) (A : Arv V.Z h a k (.object C) z vs dv) (F : ∀ c, Arr V.Z h a c (.object C) → c.cls = k → Sto V.Z h a x) (hj : ¬ j < 0 ∧ j < z) (ji : j.toNatClampNeg = i) (hi : i < vs.length) (ha : V.Z.heap.size ≤ a) (hfx : fits (.object C) x = true)
    (r : ∀ h', Wr h h' a i x → Arv V.Z h' a k (.object C) z (vs.set i x) dv → Run V K B Q h' ps cs sl pc' L S) : Run V K B Q h ps cs sl pc L (x :: .int j :: .ref a :: S) := by
  subst hp ji; refine Run.write ha (fun vm al P => Safe.arr al A.choose_spec.1 (by simp)) (fun h' W => r h' W ?_) fun T locs vm0 X eT hZ ho G => ?_
  · obtain ⟨c, A1, q1, S1, N1, H1, G1⟩ := A
    exact Arv.set A1 q1 S1 N1 H1 G1 hfx W _ rfl hi
  · obtain ⟨c, A1, q1, S1, N1, H1, G1⟩ := A
    exact stR X G.1 hZ eT A1 (inb_of S1 hj) rfl (F c A1 q1) (g := mkF K.m pc L.toArray (x :: .int j :: .ref a :: S)) rfl rfl (hb G.2.1 hd)
theorem r_instY {i : Nat} {C : String} {a : Nat} (pc' : Nat) (hp : pc + 3 = pc') (hd : decode B.code pc = .ok (.instanceof i, 3)) (w : (Jvm.Cond.classLink B.y.cls i C).before V.a0 V.Z = true) (F : Ins V.Z h a C true) (r : Run V K B Q h ps cs sl pc' L (.int 1 :: S)) : Run V K B Q h ps cs sl pc L (.ref a :: S) := by
  subst hp; exact r.still fun T locs vm0 X eT hZ ho O G => instY X G.1 hZ ho w eT F (g := mkF K.m pc L.toArray (.ref a :: S)) rfl rfl (hb G.2.1 hd)
theorem r_instNo {i : Nat} {C D : String} {a : Nat} (pc' : Nat) (hp : pc + 3 = pc') (hd : decode B.code pc = .ok (.instanceof i, 3)) (w : (Jvm.Cond.classLink B.y.cls i D).before V.a0 V.Z = true) (E : Exa V.Z h a C) (F : ∃ c t, V.Z.vm.findClass C = some c ∧ V.Z.vm.findClass D = some t ∧ V.Z.vm.assignable c t = false) (r : Run V K B Q h ps cs sl pc' L (.int 0 :: S)) : Run V K B Q h ps cs sl pc L (.ref a :: S) := by
  subst hp; exact r.still fun T locs vm0 X eT hZ ho O G => instNo X G.1 hZ ho w eT E F (g := mkF K.m pc L.toArray (.ref a :: S)) rfl rfl (hb G.2.1 hd)
theorem r_cast {i : Nat} {C : String} {a : Nat} (pc' : Nat) (hp : pc + 3 = pc') (hd : decode B.code pc = .ok (.checkcast i, 3)) (w : (Jvm.Cond.classLink B.y.cls i C).before V.a0 V.Z = true) (F : Ins V.Z h a C true) (r : Run V K B Q h ps cs sl pc' L (.ref a :: S)) : Run V K B Q h ps cs sl pc L (.ref a :: S) := by
  subst hp; exact r.still fun T locs vm0 X eT hZ ho O G => castY X G.1 hZ ho w eT F (g := mkF K.m pc L.toArray (.ref a :: S)) rfl rfl (hb G.2.1 hd)
theorem r_initO {i : Nat} {a : Nat} (W : Nat) (pc' : Nat) (hp : pc + 3 = pc') (hd : decode B.code pc = .ok (.invokespecial i, 3)) (w1 : (Jvm.Cond.methodLink B.y.cls i Lib.objectInit).before V.a0 V.Z = true) (w2 : (Jvm.Cond.instanceMethod Lib.objectInit).before V.a0 V.Z = true) (w3 : (Jvm.Cond.code Lib.objectInit ⟨#[0xb1]⟩ 1 none).before V.a0 V.Z = true) (hsz : L.length = B.ml) (hf : 1 ≤ B.R.frames) (hW : (S.map fun v => v.category).sum ≤ W) (hl : W + 12 ≤ B.R.locals) (r : Run V K B Q h ps cs sl pc' L S) : Run V K B Q h ps cs sl pc L (.ref a :: S) := by
  subst hp; exact r.still fun T locs vm0 X eT hZ ho O G => initO X G.1 hZ ho w1 w2 w3 eT (g := mkF K.m pc L.toArray (.ref a :: S)) rfl (by rw [G.2.2.1]; simpa using hsz) rfl (hb G.2.1 hd) hf (W := W) (by simpa using hW) hl
theorem Run.ret {v : Option Value} (hv : K.meth.sig.returnType = none → v = none) (hc : cs ≤ B.R.cells) (hs : sl ≤ B.R.slots) (qps : List Addr) (hq : ∀ x ∈ qps, x ∈ ps) (q : Q v h qps)
    (st : ∀ T locs vm0 fs, Stand K.p V.l K.e B.R (K.s.setVm vm0) K.m K.args K.below K.meth K.c T locs cs sl → Fx K B → (∀ (f : JFrame) (acts : List Action), f.method = K.m → f.locked = none → f.entered = [] → (doReturn K.e (T.setTop f) acts v).1 = T.setFrames fs) → Steps K.p.tables K.e K.below (T.setTop (mkF K.m pc L.toArray S)) (T.setFrames fs)) :
    Run V K B Q h ps cs sl pc L S := fun T hT => by
  obtain ⟨locs, vm0, k0, X, e1, e2, e3, e4, e5, e6, e7, e8, e9, e10, e11, e12⟩ := hT
  have hl : K.meth.locks = false := e12.2.2.2.2.1
  have C := e8.trans (CHv.at X e2 e10 e8.1)
  have A := CHv.at X e2 e10 e8.1
  cases hn : V.nar
  · obtain ⟨fs, hr, hrun, hend, w1, w2, w3, w4⟩ := X.leaveW e4 (by rw [e1]; exact e5) hv hl
    refine ⟨_, _, st T locs vm0 fs X e12 hr, hrun, hend, v, locs, qps, rfl, e6, by show Q v T.heap qps; rw [e1]; exact q, by show Ext V.Z.heap T.heap; rw [e1]; exact e7, by show Sf V T.vm T.heap qps; rw [e1]; exact (e9.sub hq).go A, by show CHr V.Z V.EL K.s.vm K.s.heap T.vm T.heap; rw [e1]; exact C, ⟨w1, w2, w3, w4.mono hc hs⟩, fun z => absurd (hn.symm.trans z) (by decide)⟩
  · obtain ⟨rfl, -⟩ := e11 hn
    obtain ⟨fs, hr, hrun, hend, w1, w2⟩ := X.leave hv hl
    refine ⟨_, _, st T locs _ fs X e12 hr, hrun, hend, v, locs, qps, rfl, e6, by show Q v T.heap qps; rw [e1]; exact q, by show Ext V.Z.heap T.heap; rw [e1]; exact e7, by show Sf V T.vm T.heap qps; rw [e1]; exact (e9.sub hq).go A, by show CHr V.Z V.EL K.s.vm K.s.heap T.vm T.heap; rw [e1]; exact C, ReturnedEndW.of_narrow ⟨v, rfl⟩ w1 (w2.mono hc hs), fun z => ⟨⟨v, rfl⟩, w1, w2.mono hc hs⟩⟩
theorem r_ret (hr : B.ret = none) (hd : decode B.code pc = .ok (.return_, 1)) (hc : cs ≤ B.R.cells) (hs : sl ≤ B.R.slots) (qps : List Addr) (hq : ∀ x ∈ qps, x ∈ ps) (q : Q none h qps) : Run V K B Q h ps cs sl pc L [] :=
  Run.ret (fun _ => rfl) hc hs qps hq q fun T locs vm0 fs X G hl => X.returnOut G.1 (G.2.2.2.1.trans hr) (hb G.2.1 hd) hl
theorem r_iret {z : Int32} (hr : B.ret = some .int) (hd : decode B.code pc = .ok (.ireturn, 1)) (hc : cs ≤ B.R.cells) (hs : sl ≤ B.R.slots) (qps : List Addr) (hq : ∀ x ∈ qps, x ∈ ps) (q : Q (some (.int z)) h qps) : Run V K B Q h ps cs sl pc L (.int z :: S) := by
  intro T hT; have G : Fx K B := by obtain ⟨locs, vm0, k0, X, e1, e2, e3, e4, e5, e6, e7, e8, e9, e10, e11, e12⟩ := hT; exact e12
  exact Run.ret (fun z => by rw [G.2.2.2.1.trans hr] at z; cases z) hc hs qps hq q (fun T locs vm0 fs X G hl => retOut X G.1 (G.2.2.2.1.trans hr) rfl (Or.inl ⟨rfl, Or.inl rfl, _, rfl⟩) (hb G.2.1 hd) hl) T hT
theorem r_nret {z : Int32} {t : FieldType} (z' : Int32) (hr : B.ret = some t) (ht : t = .boolean ∨ t = .byte ∨ t = .char ∨ t = .short) (hz : RoadKit.nar t z = z') (hd : decode B.code pc = .ok (.ireturn, 1)) (hc : cs ≤ B.R.cells) (hs : sl ≤ B.R.slots) (qps : List Addr) (hq : ∀ x ∈ qps, x ∈ ps) (q : Q (some (.int z')) h qps) : Run V K B Q h ps cs sl pc L (.int z :: S) := by
  subst hz; intro T hT; have G : Fx K B := by obtain ⟨locs, vm0, k0, X, e1, e2, e3, e4, e5, e6, e7, e8, e9, e10, e11, e12⟩ := hT; exact e12
  exact Run.ret (fun z => by rw [G.2.2.2.1.trans hr] at z; cases z) hc hs qps hq q (fun T locs vm0 fs X G hl => retN X G.1 (G.2.2.2.1.trans hr) ht (hb G.2.1 hd) hl) T hT
theorem r_lret {z : Int64} (hr : B.ret = some .long) (hd : decode B.code pc = .ok (.lreturn, 1)) (hc : cs ≤ B.R.cells) (hs : sl ≤ B.R.slots) (qps : List Addr) (hq : ∀ x ∈ qps, x ∈ ps) (q : Q (some (.long z)) h qps) : Run V K B Q h ps cs sl pc L (.long z :: S) := by
  intro T hT; have G : Fx K B := by obtain ⟨locs, vm0, k0, X, e1, e2, e3, e4, e5, e6, e7, e8, e9, e10, e11, e12⟩ := hT; exact e12
  exact Run.ret (fun z => by rw [G.2.2.2.1.trans hr] at z; cases z) hc hs qps hq q (fun T locs vm0 fs X G hl => retOut X G.1 (G.2.2.2.1.trans hr) rfl (Or.inr (Or.inl ⟨rfl, rfl, _, rfl⟩)) (hb G.2.1 hd) hl) T hT
theorem r_aret {x : Value} {t : FieldType} (hr : B.ret = some t) (ht : t.isReference = true) (hx : x.isRef = true) (hd : decode B.code pc = .ok (.areturn, 1)) (hc : cs ≤ B.R.cells) (hs : sl ≤ B.R.slots) (qps : List Addr) (hq : ∀ x ∈ qps, x ∈ ps) (q : Q (some x) h qps) : Run V K B Q h ps cs sl pc L (x :: S) := by
  intro T hT; have G : Fx K B := by obtain ⟨locs, vm0, k0, X, e1, e2, e3, e4, e5, e6, e7, e8, e9, e10, e11, e12⟩ := hT; exact e12
  have hn : narrow t x = x := by rcases ref_cases hx with rfl | ⟨a, rfl⟩ <;> cases t <;> first | rfl | cases ht
  exact Run.ret (fun z => by rw [G.2.2.2.1.trans hr] at z; cases z) hc hs qps hq q (fun T locs vm0 fs X G hl => retOut X G.1 (G.2.2.2.1.trans hr) hn (Or.inr (Or.inr (Or.inr (Or.inr ⟨rfl, ht, hx⟩)))) (hb G.2.1 hd) hl) T hT
theorem r_static {i W nc ns : Nat} {y : MethodName} {Q' : Qt} {bytes : ByteArray} {ml : Nat} {ret : Option FieldType} {argsL S0 : List Value} {as' : Array Value} (pc' : Nat) (hp : pc + 3 = pc') (hd : decode B.code pc = .ok (.invokestatic i, 3)) (w1 : (Jvm.Cond.methodLink B.y.cls i y).before V.a0 V.Z = true) (w2 : (Jvm.Cond.static y).before V.a0 V.Z = true) (w3 : (Jvm.Cond.initialized y.cls).before V.a0 V.Z = true) (w4 : (Jvm.Cond.code y bytes ml ret).before V.a0 V.Z = true)
    (hy : y.cls ≠ "java/lang/invoke/MethodHandle" ∧ y.cls ≠ "java/lang/invoke/VarHandle") (P : Pays V K B y 3 W as' h ps nc ns Q') (hlen : ∀ sig, parseMethodDescriptor y.desc = some sig → argsL.length = sig.parameters.length) (hS : S0 = argsL.reverse ++ S) (ha : argsL.toArray = as') (hsz : L.length = B.ml) (hW : (S.map fun v => v.category).sum ≤ W) (hc : cs + nc ≤ B.R.cells) (hs : sl + ns ≤ B.R.slots) (r : ∀ v h' ps', Q' v h' ps' → h.size ≤ h'.size → Run V K B Q h' (ps' ++ ps) (cs + nc) (sl + ns) pc' L (v.toList ++ S)) : Run V K B Q h ps cs sl pc L S0 := fun T hT => by
  subst hp hS ha
  obtain ⟨locs, vm0, k0, X, e1, e2, e3, e4, e5, e6, e7, e8, e9, e10, e11, e12⟩ := hT
  have P1 := P vm0 e2 e8.1 e9 e10 e7 fun q => (e11 q).2
  have hsize : (mkF K.m pc L.toArray (argsL.reverse ++ S)).locals.size = K.c.maxLocals := by rw [e12.2.2.1]; simpa using hsz
  have hZ : V.Z.Warmed39 (K.s.setVm vm0).vm := e2
  cases hn : V.nar
  · obtain ⟨v, vm₁, C, -, X', hS', -, hpo, st⟩ := callSS X e12.1 e3 (mvT hZ w1) (mvT hZ w2) (mvT hZ w3) (mvT hZ w4) hy (P1.2 hn) (g := mkF K.m pc L.toArray (argsL.reverse ++ S)) rfl hsize hlen rfl (by simpa using hW) (hb e12.2.1 hd) (fun vm₁ _ => ⟨rfl, e1, hc, hs⟩)
    obtain ⟨t, o, s1, s2⟩ := Run.behind e2 e3 e4 e5 e6 e8 e9 e10 e11 e12 (Or.inr ⟨hn, X', hS'⟩) hpo r
    exact ⟨t, o, st.trans s1, s2⟩
  · obtain ⟨v, vm₁, C, -, X', hpo, st⟩ := Jvm.LawKit.callS X e12.1 e3 (mvT hZ w1) (mvT hZ w2) (mvT hZ w3) (mvT hZ w4) hy (P1.1 hn) (g := mkF K.m pc L.toArray (argsL.reverse ++ S)) rfl hsize hlen rfl (by simpa using hW) (hb e12.2.1 hd) (fun vm₁ _ => ⟨rfl, e1, hc, hs⟩)
    obtain ⟨t, o, s1, s2⟩ := Run.behind e2 e3 e4 e5 e6 e8 e9 e10 e11 e12 (Or.inl ⟨hn, X'⟩) hpo r
    exact ⟨t, o, st _ s1, s2⟩
theorem r_special {i W nc ns : Nat} {y : MethodName} {Q' : Qt} {bytes : ByteArray} {ml : Nat} {argsL S0 : List Value} {a : Nat} {as' : Array Value} (pc' : Nat) (hp : pc + 3 = pc') (hd : decode B.code pc = .ok (.invokespecial i, 3)) (hy1 : y.name = "<init>") (w1 : (Jvm.Cond.methodLink B.y.cls i y).before V.a0 V.Z = true) (w2 : (Jvm.Cond.instanceMethod y).before V.a0 V.Z = true) (w4 : (Jvm.Cond.code y bytes ml none).before V.a0 V.Z = true)
    (hy : y.cls ≠ "java/lang/invoke/MethodHandle" ∧ y.cls ≠ "java/lang/invoke/VarHandle") (P : Pays V K B y 3 W as' h ps nc ns Q') (hlen : ∀ sig, parseMethodDescriptor y.desc = some sig → argsL.length = sig.parameters.length) (hS : S0 = argsL.reverse ++ .ref a :: S) (ha : (.ref a :: argsL).toArray = as') (hsz : L.length = B.ml) (hW : (S.map fun v => v.category).sum ≤ W) (hc : cs + nc ≤ B.R.cells) (hs : sl + ns ≤ B.R.slots) (r : ∀ v h' ps', Q' v h' ps' → h.size ≤ h'.size → Run V K B Q h' (ps' ++ ps) (cs + nc) (sl + ns) pc' L (v.toList ++ S)) : Run V K B Q h ps cs sl pc L S0 := fun T hT => by
  subst hp hS ha
  obtain ⟨locs, vm0, k0, X, e1, e2, e3, e4, e5, e6, e7, e8, e9, e10, e11, e12⟩ := hT
  have P1 := P vm0 e2 e8.1 e9 e10 e7 fun q => (e11 q).2
  have hsize : (mkF K.m pc L.toArray (argsL.reverse ++ .ref a :: S)).locals.size = K.c.maxLocals := by rw [e12.2.2.1]; simpa using hsz
  have hZ : V.Z.Warmed39 (K.s.setVm vm0).vm := e2
  cases hn : V.nar
  · obtain ⟨v, vm₁, C, -, X', hS', -, hpo, st⟩ := X.specialBackS e12.1 hy1 e3 (mvT hZ w1) (mvT hZ w2) (mvT hZ w4) hy (P1.2 hn) (g := mkF K.m pc L.toArray (argsL.reverse ++ .ref a :: S)) rfl hsize (Steps.refl _) hlen rfl (by simpa using hW) (hb e12.2.1 hd) (fun vm₁ _ => ⟨rfl, e1, hc, hs⟩)
    obtain ⟨t, o, s1, s2⟩ := Run.behind e2 e3 e4 e5 e6 e8 e9 e10 e11 e12 (Or.inr ⟨hn, X', hS'⟩) hpo r
    exact ⟨t, o, st.trans s1, s2⟩
  · obtain ⟨v, vm₁, C, -, X', hpo, st⟩ := X.specialBack e12.1 hy1 e3 (mvT hZ w1) (mvT hZ w2) (mvT hZ w4) hy (P1.1 hn) (g := mkF K.m pc L.toArray (argsL.reverse ++ .ref a :: S)) rfl hsize (Steps.refl _) hlen rfl (by simpa using hW) (hb e12.2.1 hd) (fun vm₁ _ => ⟨rfl, e1, hc, hs⟩)
    obtain ⟨t, o, s1, s2⟩ := Run.behind e2 e3 e4 e5 e6 e8 e9 e10 e11 e12 (Or.inl ⟨hn, X'⟩) hpo r
    exact ⟨t, o, st.trans s1, s2⟩
theorem nfS {C0 : String} {y : MethodName} (w : (Jvm.Cond.selects C0 y y).before V.a0 V.Z = true) : ∀ s : State, V.Z.Warmed39 s.vm → NotFace s y := fun s hZ => notFace_of_selects (args := #[]) (mvT hZ w)
theorem r_virtual {i W nc ns : Nat} {y : MethodName} {Q' : Qt} {z : MethodName} {C0 : String} {argsL S0 : List Value} {a : Nat} {as' : Array Value} (pc' : Nat) (hp : pc + 3 = pc') (hd : decode B.code pc = .ok (.invokevirtual i, 3)) (w1 : (Jvm.Cond.methodLink B.y.cls i y).before V.a0 V.Z = true) (w2 : (Jvm.Cond.declares y).before V.a0 V.Z = true) (w3 : (Jvm.Cond.selects C0 y z).before V.a0 V.Z = true) (w4 : (Jvm.Cond.instanceMethod z).before V.a0 V.Z = true)
    (hnf : ∀ s : State, V.Z.Warmed39 s.vm → NotFace s y) (hy : y.cls ≠ "java/lang/invoke/MethodHandle" ∧ y.cls ≠ "java/lang/invoke/VarHandle") (E : Exa V.Z h a C0) (P : Pays V K B z 3 W as' h ps nc ns Q') (hlen : ∀ sig, parseMethodDescriptor y.desc = some sig → argsL.length = sig.parameters.length) (hS : S0 = argsL.reverse ++ .ref a :: S) (ha : (.ref a :: argsL).toArray = as') (hsz : L.length = B.ml) (hW : (S.map fun v => v.category).sum ≤ W) (hc : cs + nc ≤ B.R.cells) (hs : sl + ns ≤ B.R.slots) (r : ∀ v h' ps', Q' v h' ps' → h.size ≤ h'.size → Run V K B Q h' (ps' ++ ps) (cs + nc) (sl + ns) pc' L (v.toList ++ S)) : Run V K B Q h ps cs sl pc L S0 := fun T hT => by
  subst hp hS ha
  obtain ⟨locs, vm0, k0, X, e1, e2, e3, e4, e5, e6, e7, e8, e9, e10, e11, e12⟩ := hT
  have P1 := P vm0 e2 e8.1 e9 e10 e7 fun q => (e11 q).2
  have hsize : (mkF K.m pc L.toArray (argsL.reverse ++ .ref a :: S)).locals.size = K.c.maxLocals := by rw [e12.2.2.1]; simpa using hsz
  have hZ : V.Z.Warmed39 (K.s.setVm vm0).vm := e2
  obtain ⟨cq, kq, q1, q2, q3⟩ := isOf (s := K.s.setVm vm0) hZ e1 E
  cases hn : V.nar
  · obtain ⟨v, vm₁, C, -, X', hS', -, hpo, st⟩ := X.virtualBackS e12.1 e3 (mvT hZ w1) (mvT hZ w2) (hnf _ hZ) (mvT hZ w3) (mvT hZ w4) hy (P1.2 hn) q1 q3 (g := mkF K.m pc L.toArray (argsL.reverse ++ .ref a :: S)) rfl hsize (Steps.refl _) hlen rfl (by simpa using hW) (hb e12.2.1 hd) (fun vm₁ _ => ⟨rfl, e1, hc, hs⟩)
    obtain ⟨t, o, s1, s2⟩ := Run.behind e2 e3 e4 e5 e6 e8 e9 e10 e11 e12 (Or.inr ⟨hn, X', hS'⟩) hpo r
    exact ⟨t, o, st.trans s1, s2⟩
  · obtain ⟨v, vm₁, C, -, X', hpo, st⟩ := X.virtualBack e12.1 e3 (mvT hZ w1) (mvT hZ w2) (hnf _ hZ) (mvT hZ w3) (mvT hZ w4) hy (P1.1 hn) q1 q3 (g := mkF K.m pc L.toArray (argsL.reverse ++ .ref a :: S)) rfl hsize (Steps.refl _) hlen rfl (by simpa using hW) (hb e12.2.1 hd) (fun vm₁ _ => ⟨rfl, e1, hc, hs⟩)
    obtain ⟨t, o, s1, s2⟩ := Run.behind e2 e3 e4 e5 e6 e8 e9 e10 e11 e12 (Or.inl ⟨hn, X'⟩) hpo r
    exact ⟨t, o, st.trans s1, s2⟩
theorem r_ldcS {i : Nat} {text : String} (vs : List Value) (z : Int32) (n : Nat) (pc' : Nat) (hp : pc + 2 = pc') (hd : decode B.code pc = .ok (.ldc i, 2)) (w : (Jvm.Cond.stringLink B.y.cls i text).before V.a0 V.Z = true) (wS : ∀ a ∈ Bundle.stringAtoms, a.before V.a0 V.Z = true) (hmem : (B.y.cls, i) ∈ V.EL) (hnar : V.nar = false)
    (ht : (∀ c ∈ text.toList, c.toNat < 256) ∧ text.toList.map (fun c => Value.int (Jvm.Lit.byteI c.toNat.toUInt16)) = vs) (hz : ¬ z < 0) (hl : z.toNatClampNeg = vs.length) (hn : 4 * text.toList.length ≤ n) (hbig : n ≤ 536870912) (hc : cs + 2 ≤ B.R.cells) (hl' : sl + (n + 4) ≤ B.R.slots)
    (r : ∀ (a b : Nat) k h', Ext h h' → Exa V.Z h' a "java/lang/String" → Fld V.Z h' a "java/lang/String" "coder" "B" (.int 0) → Fld V.Z h' a "java/lang/String" "value" "[B" (.ref b) → Arv V.Z h' b k .byte z vs (.int 0) → (∀ x ∈ ps, x ≠ a ∧ x ≠ b) → Run V K B Q h' ps (cs + 2) (sl + (n + 4)) pc' L (.ref a :: S)) : Run V K B Q h ps cs sl pc L S := fun T hT => by
  subst hp
  obtain ⟨locs, vm0, k0, X, e1, e2, e3, e4, e5, e6, e7, e8, e9, e10, e11, e12⟩ := hT
  obtain ⟨a, T', h', k1, b, k, X', q1, q2, q3, q4, q5, q6, q7, q8, q9, q10, q11, q12, q13, q14, q15, st⟩ := ldcCH X e12.1 e2 e3 w wS e1 e4 e5 e10 hmem e8.1 ht hz hl (g := mkF K.m pc L.toArray S) rfl (hb e12.2.1 hd) hn hbig hc hl'
  have S' : Sf V T'.vm h' ps := e9.go q13
  obtain ⟨t, o, s1, s2⟩ := r a b k h' q2 q7 q8 q9 q10 (fun x hx => q15 x (S' x hx).2) T' ⟨_, _, k1, X', q1, q5, q6, q3, q4, e6, Ext.trans' e7 q2, e8.trans q13, S', e10, fun q => absurd (hnar.symm.trans q) (by decide), e12⟩
  exact ⟨t, o, st _ s1, s2⟩
end Rules
end Jvm.Own
namespace Jvm.Own
open Jvm Jvm.ClassFile Sem Op Lib Jvm.Free Jvm.Stand Jvm.LawKit Jvm.RoadKit Bundle
section More
variable {V : Vw} {K : Cx} {B : Bx} {Q : Qt} {T : State} {h h' : Heap} {ps ps' : List Addr} {cs sl pc : Nat} {L : List Slot} {S : List Value}
theorem r_gen {x : Int32} (r : ∀ z, z = x → Run V K B Q h ps cs sl pc L (.int z :: S)) : Run V K B Q h ps cs sl pc L (.int x :: S) := r x rfl
theorem r_genL {x : Int64} (r : ∀ z, z = x → Run V K B Q h ps cs sl pc L (.long z :: S)) : Run V K B Q h ps cs sl pc L (.long x :: S) := r x rfl
theorem layL {as' : Array Value} {n : Nat} {L : List Slot} (h : Jvm.Sym.laidSlots as'.toList ++ List.replicate (n - (Jvm.Sym.laidSlots as'.toList).length) .unset = L) : argsToLocals as' n = L.toArray :=
  Array.toList_inj.mp (by rw [Jvm.Sym.argsToLocals_toList, h])
theorem nc16 (x : Int32) : RoadKit.nar .char x.toUInt32.toUInt16.toUInt32.toInt32 = x.toUInt32.toUInt16.toUInt32.toInt32 := by
  show x.toUInt32.toUInt16.toUInt32.toInt32.toUInt32.toUInt16.toUInt32.toInt32 = _
  simp only [UInt32.toUInt32_toInt32, UInt16.toUInt16_toUInt32]
theorem nc8 (x : Int32) : RoadKit.nar .char (x &&& 255).toUInt32.toUInt16.toUInt32.toInt32 = x &&& 255 := by rw [nc16, i2c_mask]
theorem ncm (x : Int32) : RoadKit.nar .char (x &&& 255) = x &&& 255 := i2c_mask x
/-- 0 to 255 -/
def By (x : Int32) : Prop := ¬ x < 0 ∧ ¬ 255 < x
theorem By.mask (x : Int32) : By (x &&& 255) := by
  have h := c_and x 255 (by decide)
  refine ⟨fun q => ?_, fun q => ?_⟩
  · rw [Int32.lt_iff_toInt_lt] at q; have : (0 : Int32).toInt = 0 := rfl; omega
  · rw [Int32.lt_iff_toInt_lt] at q; have : (255 : Int32).toInt = 255 := rfl; omega
end More
end Jvm.Own
namespace Jvm.Own
open Jvm Jvm.ClassFile Sem Op Lib Jvm.Free Jvm.Stand Jvm.LawKit Jvm.RoadKit Bundle
section More2
variable {V : Vw} {K : Cx} {B : Bx} {Q : Qt} {T : State} {h h' : Heap} {ps ps' : List Addr} {cs sl pc : Nat} {L : List Slot} {S : List Value}
theorem r_instNull {i : Nat} (pc' : Nat) (hp : pc + 3 = pc') (hd : decode B.code pc = .ok (.instanceof i, 3)) (r : Run V K B Q h ps cs sl pc' L (.int 0 :: S)) : Run V K B Q h ps cs sl pc L (.null :: S) := by
  subst hp; exact r.still fun T locs vm0 X eT hZ ho O G => ⟨T, X, eT, fun t st => X.instanceofNull G.1 (g := mkF K.m pc L.toArray (.null :: S)) rfl rfl (hb G.2.1 hd) _ st⟩
theorem noCast {Z : State} {a0 : Array Value} {C S K : String} {n : Nat} (w : (Jvm.Cond.superclass C S).before a0 Z = true) (w0 : (Jvm.Cond.noSuperclass S).before a0 Z = true) (wi : (Jvm.Cond.instantiable K n).before a0 Z = true) (h1 : C ≠ K) (h2 : S ≠ K) : ∃ c t, Z.vm.findClass C = some c ∧ Z.vm.findClass K = some t ∧ Z.vm.assignable c t = false := by
  obtain ⟨t, kt, i1, i2, i3, i4, -⟩ := Cond.instantiable_spec wi
  obtain ⟨cS, kS, s1, s2, s3, -, -⟩ := Cond.noSuperclass_spec w0
  have neS := ids_ne s1 i1 h2
  obtain ⟨c, h0⟩ := found_sup w
  obtain ⟨p, k, kp, q1, q2, q3, q4, q5, -, q7⟩ := Cond.superclass_spec h0 w
  cases q1.symm.trans s1
  have neC := ids_ne h0 i1 h1
  have nS : ∀ f, Z.vm.isSubclassAux f cS t = false := fun f => by
    cases f with
    | zero => rfl
    | succ f => simp [Vm.isSubclassAux, neS, s2, s3]
  have nC : ∀ f, Z.vm.isSubclassAux f c t = false := fun f => by
    cases f with
    | zero => rfl
    | succ f => simp [Vm.isSubclassAux, neC, q2, q4, nS]
  have i5 : kt.isInterface = false := by simp only [Bool.or_eq_false_iff] at i4; exact i4.1
  refine ⟨c, t, h0, i1, ?_⟩
  show Z.vm.assignableAux (255 + 1) c t = false
  simp [Vm.assignableAux, neC, q2, i2, q5, i3, i5, Vm.isSubclass, nC]
end More2
end Jvm.Own
namespace Jvm.Own
open Jvm Jvm.ClassFile Sem Op Lib Jvm.Free Jvm.Stand Jvm.LawKit Jvm.RoadKit Bundle
section More3
variable {V : Vw} {K : Cx} {B : Bx} {Q : Qt} {T : State} {h h' : Heap} {ps ps' : List Addr} {cs sl pc : Nat} {L : List Slot} {S : List Value}
/-- ldc of a String constant, opaque -/
theorem r_ldcO {i : Nat} {text : String} (n : Nat) (pc' : Nat) (hp : pc + 2 = pc') (hd : decode B.code pc = .ok (.ldc i, 2)) (w : (Jvm.Cond.stringLink B.y.cls i text).before V.a0 V.Z = true) (wS : ∀ a ∈ Bundle.stringAtoms, a.before V.a0 V.Z = true) (hnar : V.nar = false)
    (hn : 4 * text.toList.length ≤ n) (hbig : n ≤ 536870912) (hc : cs + 2 ≤ B.R.cells) (hl' : sl + (n + 4) ≤ B.R.slots) (r : ∀ (a : Nat) h', Ext h h' → Run V K B Q h' ps (cs + 2) (sl + (n + 4)) pc' L (.ref a :: S)) : Run V K B Q h ps cs sl pc L S := fun T hT => by
  subst hp
  obtain ⟨locs, vm0, k0, X, e1, e2, e3, e4, e5, e6, e7, e8, e9, e10, e11, e12⟩ := hT
  obtain ⟨a, T', h', k1, X', q1, q2, q3, q4, q5, q6, q13, q14, st⟩ := ldcOH X e12.1 e2 e3 w wS e1 e4 e5 e10 e8.1 (g := mkF K.m pc L.toArray S) rfl (hb e12.2.1 hd) hn hbig hc hl'
  obtain ⟨t, o, s1, s2⟩ := r a h' q2 T' ⟨_, _, k1, X', q1, q5, q6, q3, q4, e6, Ext.trans' e7 q2, e8.trans q13, e9.go q13, e10, fun q => absurd (hnar.symm.trans q) (by decide), e12⟩
  exact ⟨t, o, st _ s1, s2⟩
end More3
end Jvm.Own
namespace Jvm.Own
open Jvm Jvm.ClassFile Sem Op Lib Jvm.Free Jvm.Stand Jvm.LawKit Jvm.RoadKit Bundle
section Again
variable {V : Vw} {K : Cx} {B : Bx} {Q : Qt} {T : State} {h h' : Heap} {ps ps' : List Addr} {cs sl pc : Nat} {L : List Slot} {S : List Value}
/-- 'Std' at a table where the entry i of the body's class is booked as the String a -/
def StdL (V : Vw) (K : Cx) (B : Bx) (ix : Nat) (ad : Addr) (T : State) (h : Heap) (ps : List Addr) (cs sl : Nat) : Prop :=
  ∃ (locs : List Loc) (vm0 : Vm) (k0 : Nat), Stand K.p V.l K.e B.R (K.s.setVm vm0) K.m K.args K.below K.meth K.c T locs cs sl ∧ T.heap = h ∧ V.Z.Warmed39 vm0 ∧ vm0.findClass B.y.cls = some K.m.cls ∧ K.s.Since vm0 k0 ∧ k0 ≤ h.size ∧
    Fr V.Z.heap.size locs ∧ Ext V.Z.heap h ∧ CHr V.Z V.EL K.s.vm K.s.heap vm0 h ∧ Sf V vm0 h ps ∧ EW V.Z V.a0 V.EL ∧ (V.nar = true → vm0 = K.s.vm ∧ V.EL = []) ∧ Fx K B ∧ Lit (K.s.setVm vm0) B.y.cls ix ad
def RunL (V : Vw) (K : Cx) (B : Bx) (Q : Qt) (ix : Nat) (ad : Addr) (h : Heap) (ps : List Addr) (cs sl pc : Nat) (L : List Slot) (S : List Value) : Prop :=
  ∀ T, StdL V K B ix ad T h ps cs sl → ∃ t o, Steps K.p.tables K.e K.below (T.setTop (mkF K.m pc L.toArray S)) t ∧ t.status = .running ∧ Ended t K.below o ∧ Fnl V K B Q o t
theorem rL_aloadN {ix : Nat} {ad : Addr} {k : Fin 4} {v : Value} (pc' : Nat) (hp : pc + 1 = pc') (hd : decode B.code pc = .ok (.aload_n k, 1)) (hl : L[k.val]? = some (.val v)) (hv : v.isRef = true) (r : RunL V K B Q ix ad h ps cs sl pc' L (v :: S)) : RunL V K B Q ix ad h ps cs sl pc L (S) := fun T hT => by
  subst hp
  obtain ⟨t, o, h1, h2⟩ := r T hT
  obtain ⟨locs, vm0, k0, X, -, -, -, -, -, -, -, -, -, -, -, G, -⟩ := hT
  exact ⟨t, o, XS.aloadN X.here G.1 rfl (hb G.2.1 hd) (by show L.toArray[_]? = _; rw [List.getElem?_toArray]; exact hl) hv h1, h2⟩
theorem rL_getfield {ix : Nat} {ad : Addr} {i : Nat} {O n d : String} {a : Nat} {v : Value} (pc' : Nat) (hp : pc + 3 = pc') (hd : decode B.code pc = .ok (.getfield i, 3)) (w : (Jvm.Cond.fieldLink B.y.cls i O n d).before V.a0 V.Z = true) (F : Fld V.Z h a O n d v) (r : RunL V K B Q ix ad h ps cs sl pc' L (v :: S)) : RunL V K B Q ix ad h ps cs sl pc L (.ref a :: S) := fun T hT => by
  subst hp
  obtain ⟨locs, vm0, k0, X, e1, e2, e3, e4, e5, e6, e7, e8, e9, e10, e11, e12, e13⟩ := hT
  obtain ⟨T', X', e', st'⟩ := getF X e12.1 e2 e3 (host := "") (Or.inl w) Via.refl e1 F (g := mkF K.m pc L.toArray (.ref a :: S)) rfl rfl (hb e12.2.1 hd)
  obtain ⟨t, o, h1, h2⟩ := r T' ⟨locs, vm0, k0, X', e', e2, e3, e4, e5, e6, e7, e8, e9, e10, e11, e12, e13⟩
  exact ⟨t, o, st' _ h1, h2⟩
theorem rL_putfield {ix : Nat} {ad : Addr} {i kk : Nat} {O n d C : String} {a : Nat} {v old : Value} {ty : FieldType} (pc' : Nat) (hp : pc + 3 = pc') (hd : decode B.code pc = .ok (.putfield i, 3)) (w : (Jvm.Cond.fieldLink B.y.cls i O n d).before V.a0 V.Z = true) (F : Fld V.Z h a O n d old) (E : Exa V.Z h a C)
    (Lw : (Jvm.Cond.lays C O n d).before V.a0 V.Z = true ∨ ((Jvm.Cond.laysFinal C O n d).before V.a0 V.Z = true ∧ B.y.cls = O ∧ B.y.name = "<init>")) (wi : (Jvm.Cond.instantiable C kk).before V.a0 V.Z = true) (hty : parseFieldDescriptor d = some ty) (hn : narrow ty v = v) (hf : fits ty v = true)
    (ha : V.Z.heap.size ≤ a) (hs : C ≠ "java/lang/String" ∧ C ≠ "[B" ∨ a ∈ ps) (r : ∀ h', Wr h h' a (RoadKit.slotOf V.Z O n d) v → RunL V K B Q ix ad h' ps cs sl pc' L S) : RunL V K B Q ix ad h ps cs sl pc L (v :: .ref a :: S) := fun T hT => by
  subst hp
  obtain ⟨locs, vm0, k0, X, e1, e2, e3, e4, e5, e6, e7, e8, e9, e10, e11, e12, e13⟩ := hT
  obtain ⟨T', h', X', e', W, st'⟩ := putF X e12.1 e2 e3 (host := "") (Or.inl w) Via.refl e1 F E (Lw.imp id fun q => ⟨q.1, q.2.1, e12.2.2.2.2.2.trans q.2.2⟩) wi hty hn hf (g := mkF K.m pc L.toArray (v :: .ref a :: S)) rfl rfl (hb e12.2.1 hd)
  have C := CHr.wr W (hs.elim (fun q => Safe.exa e2.alike E q.1 q.2) (fun q => (e9 a q).2)) e8.1
  obtain ⟨t, o, h1, h2⟩ := r h' W T' ⟨_, vm0, k0, X', e', e2, e3, e4, by rw [W.size]; exact e5, Fr.snoc X' e6 ha, oldWr e7 W ha, e8.trans C, e9.go C, e10, e11, e12, e13⟩
  exact ⟨t, o, st' _ h1, h2⟩
theorem rL_again {ix : Nat} {ad : Nat} {text : String} (pc' : Nat) (hp : pc + 2 = pc') (hd : decode B.code pc = .ok (.ldc ix, 2)) (w : (Jvm.Cond.stringLink B.y.cls ix text).before V.a0 V.Z = true) (r : Run V K B Q h ps cs sl pc' L (.ref ad :: S)) : RunL V K B Q ix ad h ps cs sl pc L S := fun T hT => by
  subst hp
  obtain ⟨locs, vm0, k0, X, e1, e2, e3, e4, e5, e6, e7, e8, e9, e10, e11, e12, e13⟩ := hT
  obtain ⟨t, o, h1, h2⟩ := r T ⟨locs, vm0, k0, X, e1, e2, e3, e4, e5, e6, e7, e8, e9, e10, e11, e12⟩
  exact ⟨t, o, ldcAgain X e12.1 e2 e3 w e13 (g := mkF K.m pc L.toArray S) rfl (hb e12.2.1 hd) _ h1, h2⟩
theorem r_ldcSL {i : Nat} {text : String} (vs : List Value) (z : Int32) (n : Nat) (pc' : Nat) (hp : pc + 2 = pc') (hd : decode B.code pc = .ok (.ldc i, 2)) (w : (Jvm.Cond.stringLink B.y.cls i text).before V.a0 V.Z = true) (wS : ∀ a ∈ Bundle.stringAtoms, a.before V.a0 V.Z = true) (hmem : (B.y.cls, i) ∈ V.EL) (hnar : V.nar = false)
    (ht : (∀ c ∈ text.toList, c.toNat < 256) ∧ text.toList.map (fun c => Value.int (Jvm.Lit.byteI c.toNat.toUInt16)) = vs) (hz : ¬ z < 0) (hl : z.toNatClampNeg = vs.length) (hn : 4 * text.toList.length ≤ n) (hbig : n ≤ 536870912) (hc : cs + 2 ≤ B.R.cells) (hl' : sl + (n + 4) ≤ B.R.slots)
    (r : ∀ (a b : Nat) k h', Ext h h' → Exa V.Z h' a "java/lang/String" → Fld V.Z h' a "java/lang/String" "coder" "B" (.int 0) → Fld V.Z h' a "java/lang/String" "value" "[B" (.ref b) → Arv V.Z h' b k .byte z vs (.int 0) → (∀ x ∈ ps, x ≠ a ∧ x ≠ b) → RunL V K B Q i a h' ps (cs + 2) (sl + (n + 4)) pc' L (.ref a :: S)) : Run V K B Q h ps cs sl pc L S := fun T hT => by
  subst hp
  obtain ⟨locs, vm0, k0, X, e1, e2, e3, e4, e5, e6, e7, e8, e9, e10, e11, e12⟩ := hT
  obtain ⟨a, T', h', k1, b, k, X', q1, q2, q3, q4, q5, q6, q7, q8, q9, q10, q11, q12, q13, q14, q15, st⟩ := ldcCH X e12.1 e2 e3 w wS e1 e4 e5 e10 hmem e8.1 ht hz hl (g := mkF K.m pc L.toArray S) rfl (hb e12.2.1 hd) hn hbig hc hl'
  have S' : Sf V T'.vm h' ps := e9.go q13
  obtain ⟨t, o, s1, s2⟩ := r a b k h' q2 q7 q8 q9 q10 (fun x hx => q15 x (S' x hx).2) T' ⟨_, _, k1, X', q1, q5, q6, q3, q4, e6, Ext.trans' e7 q2, e8.trans q13, S', e10, fun q => absurd (hnar.symm.trans q) (by decide), e12, q14⟩
  exact ⟨t, o, st _ s1, s2⟩
end Again
end Jvm.Own
namespace Jvm.Own
open Jvm Jvm.ClassFile Sem Op Lib Jvm.Free Jvm.Stand Jvm.LawKit Jvm.RoadKit Bundle
section PaysMore
variable {V : Vw} {K : Cx} {B : Bx} {Q : Qt} {h : Heap} {ps : List Addr}
theorem Pays.more {y : MethodName} {as' : Array Value} {len W nc ns nc' ns' : Nat} (P : Pays V K B y len W as' h ps nc ns Q) (hc : nc ≤ nc') (hs : ns ≤ ns') : Pays V K B y len W as' h ps nc' ns' Q := fun vm0 hZ hC hS hE hO hN => by
  obtain ⟨p1, p2⟩ := P vm0 hZ hC hS hE hO hN
  refine ⟨fun hn => ?_, fun hn => ?_⟩
  · intro m meth c A g ig mk a X hg hsize hdg hW hn' hp
    have c1 := hp.2.2.1
    have c2 := hp.2.2.2
    obtain ⟨v, C, X', hpost, hst⟩ := p1 hn m meth c A g ig mk a X hg hsize hdg hW hn' ⟨hp.1, hp.2.1, Nat.le_trans (Nat.add_le_add_left hc _) c1, Nat.le_trans (Nat.add_le_add_left hs _) c2⟩
    obtain ⟨L, ps', q1, q2, q3, q4, q5, q6, q7, q8, q9⟩ := hpost
    exact ⟨v, ⟨C.U, C.locs, A.cells + nc', A.slots + ns'⟩, X'.more (show C.cells ≤ A.cells + nc' from by rw [q7]; exact Nat.add_le_add_left hc _) (show C.slots ≤ A.slots + ns' from by rw [q8]; exact Nat.add_le_add_left hs _), ⟨L, ps', q1, q2, q3, q4, q5, q6, rfl, rfl, q9⟩, hst⟩
  · intro m meth c A g ig mk a X hg hsize hdg hW hn' hp
    have c1 := hp.2.2.1
    have c2 := hp.2.2.2
    obtain ⟨v, C, X', k1, k2, hpost, hst⟩ := p2 hn m meth c A g ig mk a X hg hsize hdg hW hn' ⟨hp.1, hp.2.1, Nat.le_trans (Nat.add_le_add_left hc _) c1, Nat.le_trans (Nat.add_le_add_left hs _) c2⟩
    obtain ⟨L, ps', q1, q2, q3, q4, q5, q6, q7, q8, q9⟩ := hpost
    exact ⟨v, ⟨C.U, C.locs, A.cells + nc', A.slots + ns'⟩, X'.more (show C.cells ≤ A.cells + nc' from by rw [q7]; exact Nat.add_le_add_left hc _) (show C.slots ≤ A.slots + ns' from by rw [q8]; exact Nat.add_le_add_left hs _), k1, k2, ⟨L, ps', q1, q2, q3, q4, q5, q6, rfl, rfl, q9⟩, hst⟩
end PaysMore
end Jvm.Own
namespace Jvm.Own
open Jvm Jvm.ClassFile Sem Op Lib Jvm.Free Jvm.Stand Jvm.LawKit Jvm.RoadKit Bundle
section Copy
variable {V : Vw} {K : Cx} {B : Bx} {Q : Qt} {T : State} {h h' : Heap} {ps ps' : List Addr} {cs sl pc : Nat} {L : List Slot} {S : List Value}
theorem Arv.xt {Z : State} {h : Heap} {a : Addr} {k : ClassId} {ty : FieldType} {z : Int32} {vs : List Value} {d : Value} (A : RoadKit.Arv Z h a k ty z vs d) {T : State} (e : T.heap = h) (al : Z.vm.Alike T.vm) :
    ∃ c : Cell, Jvm.Free.XT.Arr ty a c T ∧ RoadKit.Arr Z h a c ty ∧ c.cls = k ∧ c.slots.size = z.toNatClampNeg ∧ ¬ z < 0 ∧ Has c vs d ∧ ∀ i, i < c.slots.size → fits ty (vs.getD i d) = true := by
  obtain ⟨c, A1, q1, q2, q3, q4, q5⟩ := A
  refine ⟨c, ⟨by rw [e]; exact A1.1, State.isArrayOf_alike al A1.2.1, A1.2.2, ?_⟩, A1, q1, q2, q3, q4, q5⟩
  rw [q2]; have := Int32.toInt_lt z; simp only [Int32.toNatClampNeg]; omega
theorem has_getD {c : Cell} {vs : List Value} {d : Value} (H : Has c vs d) {i : Nat} (hi : i < c.slots.size) (e : Value) : c.slots.getD i e = vs.getD i d := by
  have := H i hi; rw [Array.getD_eq_getD_getElem?, this]; rfl
/-- System.arraycopy of bytes, within -/
theorem r_acopy {i a b : Nat} {ka kb : ClassId} {za zb jo jq jn : Int32} {us vs : List Value} (o q n W : Nat) (vs' : List Value) (pc' : Nat) (hp : pc + 3 = pc') (hd : decode B.code pc = .ok (.invokestatic i, 3))
    (w1 : (Jvm.Cond.methodLink B.y.cls i acN).before V.a0 V.Z = true) (w2 : (Jvm.Cond.native acN).before V.a0 V.Z = true) (w3 : (Jvm.Cond.static acN).before V.a0 V.Z = true) (w4 : (Jvm.Cond.initialized "java/lang/System").before V.a0 V.Z = true)
    (A : RoadKit.Arv V.Z h a ka .byte za us (.int 0)) (D : RoadKit.Arv V.Z h b kb .byte zb vs (.int 0)) (ho : jo = Int32.ofNat o) (hq : jq = Int32.ofNat q) (hn : jn = Int32.ofNat n) (h4 : o + n ≤ za.toNatClampNeg) (h5 : q + n ≤ zb.toNatClampNeg)
    (hv : ∀ j, j < zb.toNatClampNeg → vs'.getD j (.int 0) = if q ≤ j ∧ j < q + n then us.getD (o + (j - q)) (.int 0) else vs.getD j (.int 0)) (hz : V.Z.heap.size ≤ b) (hs : b ∈ ps) (hsz : L.length = B.ml) (hf : 1 ≤ B.R.frames) (hW : (S.map fun v => v.category).sum ≤ W) (hl : W + 40 ≤ B.R.locals)
    (r : ∀ h', Keep h h' [b] → RoadKit.Arv V.Z h' b kb .byte zb vs' (.int 0) → Run V K B Q h' ps cs sl pc' L S) : Run V K B Q h ps cs sl pc L (.int jn :: .int jq :: .ref b :: .int jo :: .ref a :: S) := fun T hT => by
  subst hp
  obtain ⟨locs, vm0, k0, X, e1, e2, e3, e4, e5, e6, e7, e8, e9, e10, e11, e12⟩ := hT
  have al : V.Z.vm.Alike T.vm := e2.alike.trans X.warmed.alike
  obtain ⟨cA, XA, A1, a1, a2, a3, a4, a5⟩ := Arv.xt A e1 al
  obtain ⟨cD, XD, D1, d1, d2, d3, d4, d5⟩ := Arv.xt D e1 al
  obtain ⟨T', B', X', P, b1, b2, b3, b4, st⟩ := X.acopy e12.1 (own := B.y.cls) (index := i) e3 (fun w hw => by
      simp only [Jvm.Free.XT.acW, List.mem_cons, List.not_mem_nil, or_false] at hw
      rcases hw with rfl | rfl | rfl | rfl
      · exact mv (s := K.s.setVm vm0) e2 w1
      · exact mv (s := K.s.setVm vm0) e2 w2
      · exact mv (s := K.s.setVm vm0) e2 w3
      · exact mv (s := K.s.setVm vm0) e2 w4) XA XD (by decide) ho hq hn (by rw [a2]; exact h4) (by rw [d2]; exact h5)
    (fun j hj => ⟨by rw [has_getD a4 (by omega)]; exact a5 _ (by omega), fun q => absurd q (by decide)⟩)
    (g := mkF K.m pc L.toArray (.int jn :: .int jq :: .ref b :: .int jo :: .ref a :: S)) rfl (by rw [e12.2.2.1]; simpa using hsz) rfl (hb e12.2.1 hd) (W := W) (by simpa using hW) hf hl
  have KK : Keep h T'.heap [b] := by
    subst e1
    refine ⟨by rw [P.2.2]; exact Nat.le_refl _, fun x c hx hn => ?_, fun x c hx => ?_⟩
    · rw [P.2.1 x (fun e => hn (by simp [e]))]; exact hx
    · by_cases e : x = b
      · subst e; cases hx.symm.trans D1.1; exact ⟨B', P.1, b1, b2, b3⟩
      · exact ⟨c, by rw [P.2.1 x e]; exact hx, rfl, rfl, rfl⟩
  have AV : RoadKit.Arv V.Z T'.heap b kb .byte zb vs' (.int 0) := by
    obtain ⟨u1, uk, u2, u3⟩ := D1.2.1
    refine ⟨B', ⟨P.1, ⟨by rw [b2]; exact u1, uk, by rw [b1]; exact u2, u3⟩, by rw [b2]; exact D1.2.2⟩, b1.trans d1, b3.trans d2, d3, fun j hj => ?_, fun j hj => ?_⟩
    · rw [b3] at hj; rw [b4 j, hv j (by rw [← d2]; exact hj)]
      split
      · rw [has_getD a4 (by omega)]
      · exact d4 j hj
    · rw [b3] at hj; rw [hv j (by rw [← d2]; exact hj)]
      split
      · exact a5 _ (by omega)
      · exact d5 j hj
  have C := CHr.keep KK (fun x hx => by cases List.mem_singleton.mp hx; exact (e9 b hs).2) e8.1
  obtain ⟨t, o', s1, s2⟩ := r T'.heap KK AV T' ⟨_, vm0, k0, X', rfl, e2, e3, e4, Nat.le_trans e5 KK.1, e6.app (fun y hy => by rw [copyLocs_base hy]; exact hz), oldKeep e7 KK (fun x hx => by cases List.mem_singleton.mp hx; exact hz), e8.trans C, e9.go C, e10, e11, e12⟩
  exact ⟨t, o', st _ s1, s2⟩
end Copy
end Jvm.Own
namespace Jvm.Own
open Jvm Jvm.ClassFile Sem Op Lib Jvm.Free Jvm.Stand Jvm.LawKit Jvm.RoadKit Bundle
section Calls
variable {V : Vw} {K : Cx} {B : Bx} {Q : Qt} {T : State} {h h' : Heap} {ps ps' : List Addr} {cs sl pc : Nat} {L : List Slot} {S : List Value}
/-- a call, its linking step given -/
theorem Run.callG {y : MethodName} {ig : Instr} {W nc ns : Nat} {Q' : Qt} {as' : Array Value} {S0 : List Value} (pc' : Nat) (hp : pc + 3 = pc') (hd : decode B.code pc = .ok (ig, 3)) (P : Pays V K B y 3 W as' h ps nc ns Q') (hsz : L.length = B.ml) (hW : (S.map fun v => v.category).sum ≤ W) (hc : cs + nc ≤ B.R.cells) (hs : sl + ns ≤ B.R.slots)
    (step : ∀ T locs vm0, Stand K.p V.l K.e B.R (K.s.setVm vm0) K.m K.args K.below K.meth K.c T locs cs sl → T.heap = h → V.Z.Warmed39 (K.s.setVm vm0).vm → (K.s.setVm vm0).vm.findClass B.y.cls = some K.m.cls → Fx K B →
      ∃ (vm₁ : Vm) (mk : MethodId), Stand K.p V.l K.e B.R (K.s.setVm vm0) K.m K.args K.below K.meth K.c (T.setVm vm₁) locs cs sl ∧ (K.s.setVm vm0).methodNamed? y = some mk ∧
        Steps K.p.tables K.e K.below (T.setTop (mkF K.m pc L.toArray S0)) (doInvoke K.e ((T.setVm vm₁).setTop (mkF K.m pc L.toArray S)) [] mk as').1)
    (r : ∀ v h' ps', Q' v h' ps' → h.size ≤ h'.size → Run V K B Q h' (ps' ++ ps) (cs + nc) (sl + ns) pc' L (v.toList ++ S)) : Run V K B Q h ps cs sl pc L S0 := fun T hT => by
  subst hp
  obtain ⟨locs, vm0, k0, X, e1, e2, e3, e4, e5, e6, e7, e8, e9, e10, e11, e12⟩ := hT
  have P1 := P vm0 e2 e8.1 e9 e10 e7 fun q => (e11 q).2
  obtain ⟨vm₁, mk, X₁, hnm, st⟩ := step T locs vm0 X e1 e2 e3 e12
  have hsize : (mkF K.m pc L.toArray S).locals.size = K.c.maxLocals := by rw [e12.2.2.1]; simpa using hsz
  cases hn : V.nar
  · obtain ⟨v, C, X', hS', -, hpo, hst⟩ := P1.2 hn K.m K.meth K.c ⟨T.setVm vm₁, locs, cs, sl⟩ (mkF K.m pc L.toArray S) ig mk as' X₁ rfl hsize (hb e12.2.1 hd) (by simpa using hW) (X₁.named hnm) ⟨rfl, e1, hc, hs⟩
    obtain ⟨t, o, s1, s2⟩ := Run.behind e2 e3 e4 e5 e6 e8 e9 e10 e11 e12 (Or.inr ⟨hn, X', hS'⟩) hpo r
    exact ⟨t, o, (st.trans hst).trans s1, s2⟩
  · obtain ⟨v, C, X', hpo, hst⟩ := P1.1 hn K.m K.meth K.c ⟨T.setVm vm₁, locs, cs, sl⟩ (mkF K.m pc L.toArray S) ig mk as' X₁ rfl hsize (hb e12.2.1 hd) (by simpa using hW) (X₁.named hnm) ⟨rfl, e1, hc, hs⟩
    obtain ⟨t, o, s1, s2⟩ := Run.behind e2 e3 e4 e5 e6 e8 e9 e10 e11 e12 (Or.inl ⟨hn, X'⟩) hpo r
    exact ⟨t, o, (st.trans hst).trans s1, s2⟩
theorem r_private {i W nc ns : Nat} {y : MethodName} {Q' : Qt} {C0 : String} {bytes : ByteArray} {ml : Nat} {ret : Option FieldType} {argsL S0 : List Value} {a : Nat} {as' : Array Value} (pc' : Nat) (hp : pc + 3 = pc') (hd : decode B.code pc = .ok (.invokevirtual i, 3)) (w1 : (Jvm.Cond.methodLink B.y.cls i y).before V.a0 V.Z = true) (w2 : (Jvm.Cond.privateMethod y).before V.a0 V.Z = true) (w3 : (Jvm.Cond.selects C0 y y).before V.a0 V.Z = true) (w4 : (Jvm.Cond.instanceMethod y).before V.a0 V.Z = true) (w5 : (Jvm.Cond.code y bytes ml ret).before V.a0 V.Z = true)
    (hy : y.cls ≠ "java/lang/invoke/MethodHandle" ∧ y.cls ≠ "java/lang/invoke/VarHandle") (E : Exa V.Z h a C0) (P : Pays V K B y 3 W as' h ps nc ns Q') (hlen : ∀ sig, parseMethodDescriptor y.desc = some sig → argsL.length = sig.parameters.length) (hS : S0 = argsL.reverse ++ .ref a :: S) (ha : (.ref a :: argsL).toArray = as') (hsz : L.length = B.ml) (hW : (S.map fun v => v.category).sum ≤ W) (hc : cs + nc ≤ B.R.cells) (hs : sl + ns ≤ B.R.slots) (r : ∀ v h' ps', Q' v h' ps' → h.size ≤ h'.size → Run V K B Q h' (ps' ++ ps) (cs + nc) (sl + ns) pc' L (v.toList ++ S)) : Run V K B Q h ps cs sl pc L S0 := by
  subst ha
  refine Run.callG pc' hp hd P hsz hW hc hs (fun T locs vm0 X e1 hZ e3 e12 => ?_) r
  obtain ⟨mk, methM, hnamed, hmethM, hstM, habM⟩ := Cond.instanceMethod_spec (args := K.args) (mvT hZ w4)
  obtain ⟨methM', cM, hmethM', -, -, -, -, -, -, hsigM⟩ := Cond.code_spec (args := K.args) hnamed (mvT hZ w5)
  cases hmethM.symm.trans hmethM'
  obtain ⟨c2, r2, m2, -, -, q3, -, kP, hkP, hkPi⟩ := Cond.selects_spec (args := K.args) (mvT hZ w3)
  cases hnamed.symm.trans q3
  have hpriv := Cond.privateMethod_at (args := K.args) (mvP hZ w2)
  obtain ⟨cell, cT, h1, h2, h3⟩ := Ins.self E
  simp only [Bool.and_eq_true, Bool.not_eq_true'] at h3
  have hselP : selectMethod K.e.platform (K.s.setVm vm0).vm cell.cls mk = .method mk := selectMethod_private hmethM (hpriv mk methM hnamed hmethM)
  obtain ⟨vm₁, X₁, hstep₁⟩ := X.invokevirtual e12.1 e3 (mvT hZ w1) hnamed hmethM hstM hkP hkPi hy (a := a) (cell := cell) (by rw [e1]; exact h1) (fun q e => by rw [e] at h3; cases h3.1) hselP hmethM habM hkP hkPi (g := mkF K.m pc L.toArray S0) rfl (argsL := argsL) (rest := S) (hlen _ hsigM) hS (hb e12.2.1 hd)
  exact ⟨vm₁, mk, X₁, hnamed, hstep₁ _ fun acts => by rw [doInvoke_state]; exact Steps.refl _⟩
theorem r_super {i W nc ns : Nat} {y : MethodName} {Q' : Qt} {C0 : String} {bytes : ByteArray} {ml : Nat} {ret : Option FieldType} {argsL S0 : List Value} {a : Nat} {as' : Array Value} (pc' : Nat) (hp : pc + 3 = pc') (hd : decode B.code pc = .ok (.invokespecial i, 3)) (hn : y.name ≠ "<init>") (w1 : (Jvm.Cond.methodLink B.y.cls i y).before V.a0 V.Z = true) (w3 : (Jvm.Cond.superclass B.y.cls y.cls).before V.a0 V.Z = true) (w4 : (Jvm.Cond.instanceMethod y).before V.a0 V.Z = true) (w5 : (Jvm.Cond.code y bytes ml ret).before V.a0 V.Z = true) {y' : MethodName} {C1 : String} (w6 : (Jvm.Cond.selects C1 y' y').before V.a0 V.Z = true) (hy' : y'.cls = y.cls)
    (hy : y.cls ≠ "java/lang/invoke/MethodHandle" ∧ y.cls ≠ "java/lang/invoke/VarHandle") (E : Exa V.Z h a C0) (P : Pays V K B y 3 W as' h ps nc ns Q') (hlen : ∀ sig, parseMethodDescriptor y.desc = some sig → argsL.length = sig.parameters.length) (hS : S0 = argsL.reverse ++ .ref a :: S) (ha : (.ref a :: argsL).toArray = as') (hsz : L.length = B.ml) (hW : (S.map fun v => v.category).sum ≤ W) (hc : cs + nc ≤ B.R.cells) (hs : sl + ns ≤ B.R.slots) (r : ∀ v h' ps', Q' v h' ps' → h.size ≤ h'.size → Run V K B Q h' (ps' ++ ps) (cs + nc) (sl + ns) pc' L (v.toList ++ S)) : Run V K B Q h ps cs sl pc L S0 := by
  subst ha
  refine Run.callG pc' hp hd P hsz hW hc hs (fun T locs vm0 X e1 hZ hown e12 => ?_) r
  obtain ⟨mk, methM, hnamed, hmethM, hstM, habM⟩ := Cond.instanceMethod_spec (args := K.args) (mvT hZ w4)
  obtain ⟨methM', cM, hmethM', -, -, -, -, -, -, hsig⟩ := Cond.code_spec (args := K.args) hnamed (mvT hZ w5)
  cases hmethM.symm.trans hmethM'
  have hcn := findClass_of_methodNamed hnamed
  obtain ⟨dk, hdk, -⟩ := Vm.findClass_spec hown
  obtain ⟨kp, hkp, -⟩ := Vm.findClass_spec hcn
  have ws := mv (args := K.args) hZ w3
  simp only [Cond.before, Cond.holds, Cond.value, hown, hcn, hdk, hkp, Option.bind_some, Option.map_some] at ws
  have ws' : ((dk.super = some mk.cls ∧ dk.kind = .ordinary) ∧ kp.kind = .ordinary) ∧ dk.isInterface = false := by simpa using ws
  obtain ⟨cell, cT, h1, h2, h3⟩ := Ins.self E
  simp only [Bool.and_eq_true, Bool.not_eq_true'] at h3
  obtain ⟨k, hk⟩ := Vm.classAt_of_assignable h3.2 (Vm.classAt_of_findClass h2)
  obtain ⟨k', hk', -⟩ := hZ.alike.2.2 _ _ hk
  have hfound := State.methodFound?_of_named hnamed hy
  have hsame : (Jvm.Cond.sameMethod y.cls y.cls y.name y.desc).before K.args (K.s.setVm vm0) = true := by
    obtain ⟨c2, r2, m2, -, -, q3, -, kP, hkP, hkPi⟩ := Cond.selects_spec (args := K.args) (mvT hZ w6)
    have q4 := findClass_of_methodNamed q3
    rw [hy', hcn] at q4
    obtain rfl : kp = kP := by
      have q5 : mk.cls = m2.cls := Option.some.inj q4
      rw [← q5] at hkP; exact Option.some.inj (hkp.symm.trans hkP)
    simp only [Cond.before, Cond.holds, Cond.value, hcn, hfound, hnamed, hkp]
    simp [hkPi]
  obtain ⟨vm₁, X₁, hstep₁⟩ := X.invokespecialUp e12.1 (owner := y.cls) hown (mv hZ w1) hsame hnamed hmethM hstM habM hn hdk ws'.2 hcn ws'.1.1.1 (by simp [Vm.isSubclass, Vm.isSubclassAux]) (a := a) (by rw [e1]; exact h1) (fun q e => by rw [e] at h3; cases h3.1) hk' (g := mkF K.m pc L.toArray S0) rfl (hlen _ hsig) hS (hb e12.2.1 hd)
  exact ⟨vm₁, mk, X₁, hnamed, hstep₁ _ (Steps.refl _)⟩
theorem nfO {C0 : String} {y y' : MethodName} (w : (Jvm.Cond.selects C0 y' y').before V.a0 V.Z = true) (hc : y'.cls = y.cls) : ∀ s : State, V.Z.Warmed39 s.vm → NotFace s y := fun s hZ r0 hn => by
  obtain ⟨c2, r2, m2, -, -, q3, -, kP, hkP, hkPi⟩ := Cond.selects_spec (args := #[]) (mvT hZ w)
  have q4 := findClass_of_methodNamed q3
  rw [hc, findClass_of_methodNamed hn] at q4
  have q5 : r0.cls = m2.cls := Option.some.inj q4
  exact ⟨kP, by rw [q5]; exact hkP, hkPi⟩
end Calls
end Jvm.Own
namespace Jvm.Own
open Jvm Jvm.ClassFile Sem Op Lib Jvm.Free Jvm.Stand Jvm.LawKit Jvm.RoadKit Bundle
theorem shl0 (x : Int32) : x <<< ((0 : Int32) &&& 31) = x := by simp
theorem shr0 (x : Int32) : x >>> ((0 : Int32) &&& 31) = x := by simp
theorem sub0 (x : Int32) : x - 0 = x := by simp
theorem sub_nle {m c : Nat} (h : m ≤ c) (hc : c < 2 ^ 31) : ¬ 0 < Int32.ofNat m - Int32.ofNat c := fun q => by
  have e := c_isub (Int32.ofNat m) (Int32.ofNat c)
  have r := rng32 (Int32.ofNat m - Int32.ofNat c)
  rw [Int32.toInt_ofNat_small (by omega), Int32.toInt_ofNat_small hc] at e
  rw [Int32.lt_iff_toInt_lt] at q
  have e0 : (0 : Int32).toInt = 0 := rfl
  omega
theorem appG (f : Int32 → Value) (cs ds : List Int32) (d : Value) (j : Nat) : ((cs ++ ds).map f).getD j d = if cs.length ≤ j ∧ j < cs.length + ds.length then (ds.map f).getD (0 + (j - cs.length)) d else (cs.map f).getD j d := by
  simp only [List.getD_eq_getElem?_getD, List.map_append, Nat.zero_add]
  by_cases q : j < cs.length
  · rw [List.getElem?_append_left (by simpa using q), if_neg (by omega)]
  · rw [List.getElem?_append_right (by simpa using q), List.length_map]
    split
    · rfl
    · rw [List.getElem?_eq_none (by simp; omega), List.getElem?_eq_none (by simp; omega)]
theorem cpyG (f : Int32 → Value) (cs : List Int32) (d : Value) (j : Nat) (h : j < cs.length) : (cs.map f).getD j d = if 0 ≤ j ∧ j < 0 + cs.length then (cs.map f).getD (0 + (j - 0)) d else ([] : List Value).getD j d := by
  rw [if_pos (by omega)]; simp
end Jvm.Own
/- laws to paste: Road.backV, Road.lenW, Road.chN, Road.codOf (cut by pick.py; bodies as the Statement names them) -/
namespace Jvm.Pilot.@@N@@
namespace StrChars
open Jvm Sem ClassFile Op Lib Jvm.Stand Jvm.Free.XT Jvm.Free.ALB Jvm.Free.JM Jvm.Free
open Jvm.Lib.Cold (StaticIs)
/-- a char array whose places are chars -/
def Ch (a : Addr) (A : Cell) (U : State) : Prop := Arr .char a A U ∧ Typed .char A
theorem Ch.mv {a : Addr} {A : Cell} {U U' : State} (h : Ch a A U) (hal : U.vm.Alike U'.vm) (hh : U'.heap = U.heap) : Ch a A U' := ⟨h.1.mv hal hh, h.2⟩
theorem Ch.keep {a : Addr} {A : Cell} {U U' : State} (h : Ch a A U) (hal : U.vm.Alike U'.vm) (hk : U'.heap[a]? = some A) : Ch a A U' := ⟨h.1.keep hal hk, h.2⟩
/-- what place i of a char[]'s cell holds -/
def cv (A : Cell) (i : Nat) : Int32 := match A.slots[i]? with | some (.int x) => x | _ => 0
theorem Ch.get {a : Addr} {A : Cell} {U : State} (h : Ch a A U) {i : Nat} (hi : i < A.slots.size) : A.slots[i]? = some (.int (cv A i)) := by
  have e := Array.getElem?_eq_getElem hi
  have f := h.2 i _ e
  unfold cv; rw [e]
  generalize A.slots[i] = v at f
  cases v <;> simp [fits] at f ⊢
/-- the byte that i2b leaves of a char -/
def lo8 (x : Int32) : Int32 := x.toInt8.toInt32
theorem fits_lo8 (y : Int32) : fits .byte (.int (lo8 y)) = true := by
  have h1 := y.toInt8.le_toInt
  have h2 := y.toInt8.toInt_lt
  simp only [lo8, fits, Bool.and_eq_true, decide_eq_true_eq, Int32.le_iff_toInt_le, Int8.toInt_toInt32, show (-128 : Int32).toInt = -128 from by decide, show (127 : Int32).toInt = 127 from by decide]
  omega
/-- A' is A but that each place j of lo .. hi - 1 holds f j -/
def Laid (A A' : Cell) (lo hi : Nat) (f : Nat → Value) : Prop := A'.cls = A.cls ∧ A'.vm = A.vm ∧ A'.slots.size = A.slots.size ∧ ∀ i, A'.slots[i]? = if lo ≤ i ∧ i < hi then some (f i) else A.slots[i]?
theorem Laid.zero (A : Cell) (lo : Nat) (f : Nat → Value) : Laid A A lo (lo + 0) f := ⟨rfl, rfl, rfl, fun i => by rw [if_neg (by omega)]⟩
theorem Laid.step {A Ak : Cell} {lo k : Nat} {f : Nat → Value} {v : Value} (h : Laid A Ak lo k f) (hlo : lo ≤ k) (hk : k < Ak.slots.size) (hv : v = f k) : Laid A (Ak.setSlot k v) lo (k + 1) f := by
  refine ⟨h.1, h.2.1, by simpa [Cell.setSlot] using h.2.2.1, fun i => ?_⟩
  by_cases e : k = i
  · subst e; rw [Cell.slots_setSlot_self v hk, if_pos (by omega), hv]
  · rw [Cell.slots_setSlot_ne v e, h.2.2.2 i]
    by_cases q : lo ≤ i ∧ i < k
    · rw [if_pos q, if_pos (by omega)]
    · rw [if_neg q, if_neg (by omega)]
def U16 : String := "java/lang/StringUTF16"
namespace Cmp5
def yN : MethodName := ⟨"java/lang/StringUTF16", "compress", "([CI[BII)I"⟩
abbrev yB : ByteArray := jdk_52_method_21_code
theorem d0 : decode yB 0 = .ok (.iconst 0, 1) := by decide +kernel
theorem d1 : decode yB 1 = .ok (.istore 5, 2) := by decide +kernel
theorem d3 : decode yB 3 = .ok (.iload 5, 2) := by decide +kernel
theorem d5 : decode yB 5 = .ok (.iload 4, 2) := by decide +kernel
theorem d7 : decode yB 7 = .ok (.if_icmp (.ge) 37, 3) := by decide +kernel
theorem d10 : decode yB 10 = .ok (.aload_n 0, 1) := by decide +kernel
theorem d11 : decode yB 11 = .ok (.iload_n 1, 1) := by decide +kernel
theorem d12 : decode yB 12 = .ok (.caload, 1) := by decide +kernel
theorem d13 : decode yB 13 = .ok (.istore 6, 2) := by decide +kernel
theorem d15 : decode yB 15 = .ok (.iload 6, 2) := by decide +kernel
theorem d17 : decode yB 17 = .ok (.sipush 255, 3) := by decide +kernel
theorem d20 : decode yB 20 = .ok (.if_icmp (.le) 6, 3) := by decide +kernel
theorem d26 : decode yB 26 = .ok (.aload_n 2, 1) := by decide +kernel
theorem d27 : decode yB 27 = .ok (.iload_n 3, 1) := by decide +kernel
theorem d28 : decode yB 28 = .ok (.iload 6, 2) := by decide +kernel
theorem d30 : decode yB 30 = .ok (.i2b, 1) := by decide +kernel
theorem d31 : decode yB 31 = .ok (.bastore, 1) := by decide +kernel
theorem d32 : decode yB 32 = .ok (.iinc 1 1, 3) := by decide +kernel
theorem d35 : decode yB 35 = .ok (.iinc 3 1, 3) := by decide +kernel
theorem d38 : decode yB 38 = .ok (.iinc 5 1, 3) := by decide +kernel
theorem d41 : decode yB 41 = .ok (.goto (-38), 3) := by decide +kernel
theorem d44 : decode yB 44 = .ok (.iload 4, 2) := by decide +kernel
theorem d46 : decode yB 46 = .ok (.ireturn, 1) := by decide +kernel
def site : List Cond := []
def tab : Cond := tabOf yN yB 7 (some .int) site
def P (b : Addr) (A : Cell) (d : Addr) (B : Cell) (o q len : Nat) (args : Array Value) (s : State) : Prop := args = #[.ref b, .int (Int32.ofNat o), .ref d, .int (Int32.ofNat q), .int (Int32.ofNat len)] ∧ Ch b A s ∧ Arr .byte d B s ∧ b ≠ d ∧ o + len ≤ A.slots.size ∧ q + len ≤ B.slots.size ∧ ∀ i, i < len → ¬ 255 < cv A (o + i)
def E (b : Addr) (A : Cell) (d : Addr) (B : Cell) (o q len : Nat) (r : Option Value) (s u : State) : Prop := r = some (.int (Int32.ofNat len)) ∧ ∃ B', Put d B' s u ∧ Laid B B' q (q + len) (fun j => Value.int (lo8 (cv A (o + (j - q)))))
/-- no char of the range above 255: len; the places written hold each char's low byte -/
theorem law (l : Launch) (b : Addr) (A : Cell) (d : Addr) (B : Cell) (o q len : Nat) : Law l yN 5 5 0 0 yB 7 (some .int) site (P b A d B o q len) (E b A d B o q len) (copyLocs d q len) 0 0 := by
  refine Law.of_walk (plainFor_of_name (by decide +kernel)) (by decide +kernel) (by decide +kernel) (by decide) (fun _ _ h => by rw [h.1]; rfl) (fun _ U U' hal hh h => ⟨h.1, h.2.1.mv hal hh, h.2.2.1.mv hal hh, h.2.2.2⟩) (fun r U U' V V' h1 hal h2 h => ⟨h.1, h.2.elim fun B' q => ⟨B', q.1.mv h1 h2, q.2⟩⟩) ?_
  intro p e s m args below meth c s₁ X0 hexec hbytes hml hret hlk hnm hown hh0 W hP
  obtain ⟨rfl, hA, hB, hne, l1, l2, hp⟩ := hP
  have c1 : Steps p.tables e below (s₁.setTop (entryFrame m #[.ref b, .int (Int32.ofNat o), .ref d, .int (Int32.ofNat q), .int (Int32.ofNat len)] 7)) (s₁.setTop (mkF m 0 #[.val (.ref b), .val (.int (Int32.ofNat o)), .val (.ref d), .val (.int (Int32.ofNat q)), .val (.int (Int32.ofNat len)), .unset, .unset] [])) := entry rfl
  have hA0 := hA.1.mv X0.warmed.alike hh0
  have hB0 := hB.mv X0.warmed.alike hh0
  have a31 := hA.1.2.2.2
  have c2 : Steps p.tables e below (s₁.setTop (entryFrame m #[.ref b, .int (Int32.ofNat o), .ref d, .int (Int32.ofNat q), .int (Int32.ofNat len)] 7)) (s₁.setTop (mkF m 3 #[.val (.ref b), .val (.int (Int32.ofNat o)), .val (.ref d), .val (.int (Int32.ofNat q)), .val (.int (Int32.ofNat len)), .val (.int 0), .unset] [])) := c1.trans (by
    refine iconstV X0.here hexec rfl 0 (hb hbytes d0) (by decide) ?_
    refine XS.istore X0.here hexec rfl (hb hbytes d1) rfl rfl ?_
    exact Steps.refl _)
  have loop : ∀ (r i : Nat), i + r = len → ∀ (z : Slot), (z = .unset ∨ ∃ w, z = .val w ∧ w.category = 1) → ∀ (Tl : State) (Bk : Cell), Stand p l e { frames := 0, locals := 0, cells := 0, slots := 0 } s m #[.ref b, .int (Int32.ofNat o), .ref d, .int (Int32.ofNat q), .int (Int32.ofNat len)] below meth c Tl ([] ++ copyLocs d q i) 0 0 → Put d Bk s₁ Tl → Laid B Bk q (q + i) (fun j => Value.int (lo8 (cv A (o + (j - q))))) →
      Steps p.tables e below (s₁.setTop (entryFrame m #[.ref b, .int (Int32.ofNat o), .ref d, .int (Int32.ofNat q), .int (Int32.ofNat len)] 7)) (Tl.setTop (mkF m 3 #[.val (.ref b), .val (.int (Int32.ofNat (o + i))), .val (.ref d), .val (.int (Int32.ofNat (q + i))), .val (.int (Int32.ofNat len)), .val (.int (Int32.ofNat i)), z] [])) → ∃ (T' : State) (B' : Cell) (z' : Slot), Stand p l e { frames := 0, locals := 0, cells := 0, slots := 0 } s m #[.ref b, .int (Int32.ofNat o), .ref d, .int (Int32.ofNat q), .int (Int32.ofNat len)] below meth c T' ([] ++ copyLocs d q len) 0 0 ∧ Put d B' s₁ T' ∧ Laid B B' q (q + len) (fun j => Value.int (lo8 (cv A (o + (j - q))))) ∧
      Steps p.tables e below (s₁.setTop (entryFrame m #[.ref b, .int (Int32.ofNat o), .ref d, .int (Int32.ofNat q), .int (Int32.ofNat len)] 7)) (T'.setTop (mkF m 3 #[.val (.ref b), .val (.int (Int32.ofNat (o + len))), .val (.ref d), .val (.int (Int32.ofNat (q + len))), .val (.int (Int32.ofNat len)), .val (.int (Int32.ofNat len)), z'] [])) := by
    intro r
    induction r with
    | zero =>
      intro i hi z hz Tl Bk Xl pl fl cl
      have hil : i = len := by omega
      rw [hil] at Xl fl cl
      exact ⟨Tl, Bk, z, Xl, pl, fl, cl⟩
    | succ r ih =>
      intro i hi z hz Tl Bk Xl pl fl cl
      have all := X0.warmed.alike.symm.trans Xl.warmed.alike
      have hAl := hA0.keep all (pl.other hne hA0.1)
      have hBk := hB0.like all pl.1 fl.1 fl.2.1 fl.2.2.1
      have hlt : q + i < Bk.slots.size := by rw [fl.2.2.1]; omega
      have c3 : Steps p.tables e below (s₁.setTop (entryFrame m #[.ref b, .int (Int32.ofNat o), .ref d, .int (Int32.ofNat q), .int (Int32.ofNat len)] 7)) (Tl.setTop (mkF m 12 #[.val (.ref b), .val (.int (Int32.ofNat (o + i))), .val (.ref d), .val (.int (Int32.ofNat (q + i))), .val (.int (Int32.ofNat len)), .val (.int (Int32.ofNat i)), z] [.int (Int32.ofNat (o + i)), .ref b])) := cl.trans (by
        refine XS.iload Xl.here hexec rfl (hb hbytes d3) rfl ?_
        refine XS.iload Xl.here hexec rfl (hb hbytes d5) rfl ?_
        refine XS.icmpNo Xl.here hexec rfl (hb hbytes d7) rfl (ii_ge_f (lt32 (by omega) (by omega))) ?_
        refine XS.aloadN Xl.here hexec rfl (hb hbytes d10) rfl rfl ?_
        refine XS.iloadN Xl.here hexec rfl (hb hbytes d11) rfl ?_
        exact Steps.refl _)
      have c4 : Steps p.tables e below (s₁.setTop (entryFrame m #[.ref b, .int (Int32.ofNat o), .ref d, .int (Int32.ofNat q), .int (Int32.ofNat len)] 7)) (Tl.setTop (mkF m 13 #[.val (.ref b), .val (.int (Int32.ofNat (o + i))), .val (.ref d), .val (.int (Int32.ofNat (q + i))), .val (.int (Int32.ofNat len)), .val (.int (Int32.ofNat i)), z] [.int (cv A (o + i))])) := c3.trans (by
        refine Xl.aget hexec hAl rfl (hA.get (i := o + i) (by omega)) rfl rfl (hb hbytes d12) ?_
        exact Steps.refl _)
      have c5 : Steps p.tables e below (s₁.setTop (entryFrame m #[.ref b, .int (Int32.ofNat o), .ref d, .int (Int32.ofNat q), .int (Int32.ofNat len)] 7)) (Tl.setTop (mkF m 15 #[.val (.ref b), .val (.int (Int32.ofNat (o + i))), .val (.ref d), .val (.int (Int32.ofNat (q + i))), .val (.int (Int32.ofNat len)), .val (.int (Int32.ofNat i)), .val (.int (cv A (o + i)))] [])) := c4.trans (by
        refine XS.istoreS Xl.here hexec rfl (hb hbytes d13) rfl rfl hz ?_
        exact Steps.refl _)
      have c6 : Steps p.tables e below (s₁.setTop (entryFrame m #[.ref b, .int (Int32.ofNat o), .ref d, .int (Int32.ofNat q), .int (Int32.ofNat len)] 7)) (Tl.setTop (mkF m 31 #[.val (.ref b), .val (.int (Int32.ofNat (o + i))), .val (.ref d), .val (.int (Int32.ofNat (q + i))), .val (.int (Int32.ofNat len)), .val (.int (Int32.ofNat i)), .val (.int (cv A (o + i)))] [.int (lo8 (cv A (o + i))), .int (Int32.ofNat (q + i)), .ref d])) := c5.trans (by
        refine XS.iload Xl.here hexec rfl (hb hbytes d15) rfl ?_
        refine sipushV Xl.here hexec rfl 255 (hb hbytes d17) (by decide) ?_
        refine XS.icmpYes Xl.here hexec rfl (pc0 := 20) rfl (hb hbytes d20) rfl (ii_le_t (hp i (by omega))) (by decide) rfl ?_
        refine XS.aloadN Xl.here hexec rfl (hb hbytes d26) rfl rfl ?_
        refine XS.iloadN Xl.here hexec rfl (hb hbytes d27) rfl ?_
        refine XS.iload Xl.here hexec rfl (hb hbytes d28) rfl ?_
        refine i2b Xl.here hexec rfl (hb hbytes d30) rfl ?_
        exact Steps.refl _)
      obtain ⟨T7, X7, p7, st7⟩ := Xl.aput hexec hBk rfl hlt rfl (fits_lo8 (cv A (o + i))) (g := (mkF m 31 #[.val (.ref b), .val (.int (Int32.ofNat (o + i))), .val (.ref d), .val (.int (Int32.ofNat (q + i))), .val (.int (Int32.ofNat len)), .val (.int (Int32.ofNat i)), .val (.int (cv A (o + i)))] [.int (lo8 (cv A (o + i))), .int (Int32.ofNat (q + i)), .ref d])) rfl (rest := []) rfl (hb hbytes d31)
      have c8 : Steps p.tables e below (s₁.setTop (entryFrame m #[.ref b, .int (Int32.ofNat o), .ref d, .int (Int32.ofNat q), .int (Int32.ofNat len)] 7)) (T7.setTop (mkF m 32 #[.val (.ref b), .val (.int (Int32.ofNat (o + i))), .val (.ref d), .val (.int (Int32.ofNat (q + i))), .val (.int (Int32.ofNat len)), .val (.int (Int32.ofNat i)), .val (.int (cv A (o + i)))] [])) := c6.trans (st7 _ (Steps.refl _))
      have c9 : Steps p.tables e below (s₁.setTop (entryFrame m #[.ref b, .int (Int32.ofNat o), .ref d, .int (Int32.ofNat q), .int (Int32.ofNat len)] 7)) (T7.setTop (mkF m 3 #[.val (.ref b), .val (.int (Int32.ofNat (o + i) + 1)), .val (.ref d), .val (.int (Int32.ofNat (q + i) + 1)), .val (.int (Int32.ofNat len)), .val (.int (Int32.ofNat i + 1)), .val (.int (cv A (o + i)))] [])) := c8.trans (by
        refine iincV X7.here hexec rfl 1 (hb hbytes d32) (by decide) rfl rfl ?_
        refine iincV X7.here hexec rfl 1 (hb hbytes d35) (by decide) rfl rfl ?_
        refine iincV X7.here hexec rfl 1 (hb hbytes d38) (by decide) rfl rfl ?_
        refine XS.goto X7.here hexec rfl (pc0 := 41) rfl (hb hbytes d41) (by decide) rfl ?_
        exact Steps.refl _)
      have c10 : Steps p.tables e below (s₁.setTop (entryFrame m #[.ref b, .int (Int32.ofNat o), .ref d, .int (Int32.ofNat q), .int (Int32.ofNat len)] 7)) (T7.setTop (mkF m 3 #[.val (.ref b), .val (.int (Int32.ofNat (o + (i + 1)))), .val (.ref d), .val (.int (Int32.ofNat (q + (i + 1)))), .val (.int (Int32.ofNat len)), .val (.int (Int32.ofNat (i + 1))), .val (.int (cv A (o + i)))] [])) := by
        have := c9
        rw [succ32, succ32, succ32] at this
        exact this
      exact ih (i + 1) (by omega) _ (Or.inr ⟨_, rfl, rfl⟩) T7 _ (by rw [copyLocs_step, ← List.append_assoc]; exact X7) (pl.trans p7) (fl.step (by omega) hlt (by simp)) c10
  obtain ⟨T9, B9, z9, X9, p9, f9, g9⟩ := loop len 0 (by omega) .unset (Or.inl rfl) s₁ B (by simpa [copyLocs] using X0) ⟨hB0.1, fun _ _ => rfl, rfl⟩ (Laid.zero _ _ _) c2
  have c11 : Steps p.tables e below (s₁.setTop (entryFrame m #[.ref b, .int (Int32.ofNat o), .ref d, .int (Int32.ofNat q), .int (Int32.ofNat len)] 7)) (T9.setTop (mkF m 46 #[.val (.ref b), .val (.int (Int32.ofNat (o + len))), .val (.ref d), .val (.int (Int32.ofNat (q + len))), .val (.int (Int32.ofNat len)), .val (.int (Int32.ofNat len)), z9] [.int (Int32.ofNat len)])) := g9.trans (by
    refine XS.iload X9.here hexec rfl (hb hbytes d3) rfl ?_
    refine XS.iload X9.here hexec rfl (hb hbytes d5) rfl ?_
    refine XS.icmpYes X9.here hexec rfl (pc0 := 7) rfl (hb hbytes d7) rfl (ii_ge_t (nlt32 (by omega) (Nat.le_refl _))) (by decide) rfl ?_
    refine XS.iload X9.here hexec rfl (hb hbytes d44) rfl ?_
    exact Steps.refl _)
  exact ⟨T9, some (.int (Int32.ofNat len)), _, _, _, X9, by simp, rfl, rfl, (fun h => by cases h), ⟨rfl, B9, p9.from hh0, f9⟩, fun fs hl => c11.trans (X9.ireturnOut hexec hret rfl (Or.inl rfl) (hb hbytes d46) hl)⟩
end Cmp5
namespace Cmp3
def yN : MethodName := ⟨"java/lang/StringUTF16", "compress", "([CII)[B"⟩
abbrev yB : ByteArray := jdk_52_method_16_code
theorem d0 : decode yB 0 = .ok (.iload_n 2, 1) := by decide +kernel
theorem d1 : decode yB 1 = .ok (.newarray .byte, 2) := by decide +kernel
theorem d3 : decode yB 3 = .ok (.astore_n 3, 1) := by decide +kernel
theorem d4 : decode yB 4 = .ok (.aload_n 0, 1) := by decide +kernel
theorem d5 : decode yB 5 = .ok (.iload_n 1, 1) := by decide +kernel
theorem d6 : decode yB 6 = .ok (.aload_n 3, 1) := by decide +kernel
theorem d7 : decode yB 7 = .ok (.iconst 0, 1) := by decide +kernel
theorem d8 : decode yB 8 = .ok (.iload_n 2, 1) := by decide +kernel
theorem d9 : decode yB 9 = .ok (.invokestatic 115, 3) := by decide +kernel
theorem d12 : decode yB 12 = .ok (.istore 4, 2) := by decide +kernel
theorem d14 : decode yB 14 = .ok (.iload 4, 2) := by decide +kernel
theorem d16 : decode yB 16 = .ok (.iload_n 2, 1) := by decide +kernel
theorem d17 : decode yB 17 = .ok (.if_icmp (.eq) 40, 3) := by decide +kernel
theorem d57 : decode yB 57 = .ok (.aload_n 3, 1) := by decide +kernel
theorem d58 : decode yB 58 = .ok (.areturn, 1) := by decide +kernel
def site : List Cond := [.arrayClass .byte, Cmp5.tab] ++ staticW U16 115 Cmp5.yN
def tab : Cond := tabOf yN yB 6 (some (.array .byte)) site
def P (b : Addr) (A : Cell) (o len : Nat) (args : Array Value) (s : State) : Prop := args = #[.ref b, .int (Int32.ofNat o), .int (Int32.ofNat len)] ∧ Ch b A s ∧ o + len ≤ A.slots.size ∧ len ≤ 536870912 ∧ ∀ i, i < len → ¬ 255 < cv A (o + i)
def E (b : Addr) (A : Cell) (o len : Nat) (r : Option Value) (s u : State) : Prop := NewArr .byte "[B" len (fun j => .int (lo8 (cv A (o + j)))) r s u ∧ u.heap.size = s.heap.size + 1
/-- no char of the range above 255: a new byte[] of their low bytes -/
theorem law (l : Launch) (b : Addr) (A : Cell) (o len : Nat) : Law l yN 3 3 1 18 yB 6 (some (.array .byte)) site (P b A o len) (E b A o len) [] 1 len := by
  refine Law.of_walk (plainFor_of_name (by decide +kernel)) (by decide +kernel) (by decide +kernel) (by decide) (fun _ _ h => by rw [h.1]; rfl) (fun _ U U' hal hh h => ⟨h.1, h.2.1.mv hal hh, h.2.2⟩) (fun r U U' V V' h1 hal h2 h => ⟨NewArr.mv r U U' V V' h1 hal h2 h.1, by rw [h1, h2]; exact h.2⟩) ?_
  intro p e s m args below meth c s₁ X0 hexec hbytes hml hret hlk hnm hown hh0 W hP
  obtain ⟨rfl, hA, l1, l2, hp⟩ := hP
  have a31 := hA.1.2.2.2
  have c1 : Steps p.tables e below (s₁.setTop (entryFrame m #[.ref b, .int (Int32.ofNat o), .int (Int32.ofNat len)] 6)) (s₁.setTop (mkF m 0 #[.val (.ref b), .val (.int (Int32.ofNat o)), .val (.int (Int32.ofNat len)), .unset, .unset, .unset] [])) := entry rfl
  have c2 : Steps p.tables e below (s₁.setTop (entryFrame m #[.ref b, .int (Int32.ofNat o), .int (Int32.ofNat len)] 6)) (s₁.setTop (mkF m 1 #[.val (.ref b), .val (.int (Int32.ofNat o)), .val (.int (Int32.ofNat len)), .unset, .unset, .unset] [.int (Int32.ofNat len)])) := c1.trans (by
    refine XS.iloadN X0.here hexec rfl (hb hbytes d0) rfl ?_
    exact Steps.refl _)
  obtain ⟨T3, B3, X3, ba3, bs3, bv3, bh3, bf3, st3⟩ := X0.anew hexec (atype := .byte) (wk W (.arrayClass .byte)) rfl (by show len * 1 ≤ _; omega) (by omega) (g := (mkF m 1 #[.val (.ref b), .val (.int (Int32.ofNat o)), .val (.int (Int32.ofNat len)), .unset, .unset, .unset] [.int (Int32.ofNat len)])) rfl (hb hbytes d1) (rest := []) rfl (Nat.le_refl _) (by show 0 + len ≤ len; omega)
  rw [hh0] at ba3 st3
  have kp3 : XT.Kept s T3 := (XT.Kept.of_eq hh0).push bh3
  have hA3 := hA.keep X3.warmed.alike (kp3 _ _ hA.1.1)
  have hne : b ≠ s.heap.size := hA.1.ne
  have c4 : Steps p.tables e below (s₁.setTop (entryFrame m #[.ref b, .int (Int32.ofNat o), .int (Int32.ofNat len)] 6)) (T3.setTop (mkF m 3 #[.val (.ref b), .val (.int (Int32.ofNat o)), .val (.int (Int32.ofNat len)), .unset, .unset, .unset] [.ref s.heap.size])) := c2.trans (st3 _ (Steps.refl _))
  have c5 : Steps p.tables e below (s₁.setTop (entryFrame m #[.ref b, .int (Int32.ofNat o), .int (Int32.ofNat len)] 6)) (T3.setTop (mkF m 9 #[.val (.ref b), .val (.int (Int32.ofNat o)), .val (.int (Int32.ofNat len)), .val (.ref s.heap.size), .unset, .unset] [.int (Int32.ofNat len), .int 0, .ref s.heap.size, .int (Int32.ofNat o), .ref b])) := c4.trans (by
    refine XS.astoreN X3.here hexec rfl (hb hbytes d3) rfl rfl rfl ?_
    refine XS.aloadN X3.here hexec rfl (hb hbytes d4) rfl rfl ?_
    refine XS.iloadN X3.here hexec rfl (hb hbytes d5) rfl ?_
    refine XS.aloadN X3.here hexec rfl (hb hbytes d6) rfl rfl ?_
    refine iconstV X3.here hexec rfl 0 (hb hbytes d7) (by decide) ?_
    refine XS.iloadN X3.here hexec rfl (hb hbytes d8) rfl ?_
    exact Steps.refl _)
  obtain ⟨v6, T6, X6, E6, g6⟩ := X3.callS hexec (Cmp5.law l b A s.heap.size B3 o 0 len) hown (wks W (staticW U16 115 Cmp5.yN)) (wk W Cmp5.tab) (W := 0) (Nat.le_of_ble_eq_true rfl) (Nat.le_of_ble_eq_true rfl) (Nat.le_refl _) (by show 0 + len + 0 ≤ len; omega) (g := (mkF m 9 #[.val (.ref b), .val (.int (Int32.ofNat o)), .val (.int (Int32.ofNat len)), .val (.ref s.heap.size), .unset, .unset] [.int (Int32.ofNat len), .int (Int32.ofNat 0), .ref s.heap.size, .int (Int32.ofNat o), .ref b])) rfl (by rw [hml]; rfl) c5 (argsL := [.ref b, .int (Int32.ofNat o), .ref s.heap.size, .int (Int32.ofNat 0), .int (Int32.ofNat len)]) (rest := []) rfl rfl (by show 2 * 0 + 0 ≤ _; decide) (hb hbytes d9) (⟨rfl, hA3, ba3, hne, l1, by rw [bs3]; simp, hp⟩)
  obtain ⟨rfl, B6, p6, f6⟩ := E6
  have c7 : Steps p.tables e below (s₁.setTop (entryFrame m #[.ref b, .int (Int32.ofNat o), .int (Int32.ofNat len)] 6)) (T6.setTop (mkF m 12 #[.val (.ref b), .val (.int (Int32.ofNat o)), .val (.int (Int32.ofNat len)), .val (.ref s.heap.size), .unset, .unset] [.int (Int32.ofNat len)])) := g6
  have c8 : Steps p.tables e below (s₁.setTop (entryFrame m #[.ref b, .int (Int32.ofNat o), .int (Int32.ofNat len)] 6)) (T6.setTop (mkF m 58 #[.val (.ref b), .val (.int (Int32.ofNat o)), .val (.int (Int32.ofNat len)), .val (.ref s.heap.size), .val (.int (Int32.ofNat len)), .unset] [.ref s.heap.size])) := c7.trans (by
    refine XS.istore X6.here hexec rfl (hb hbytes d12) rfl rfl ?_
    refine XS.iload X6.here hexec rfl (hb hbytes d14) rfl ?_
    refine XS.iloadN X6.here hexec rfl (hb hbytes d16) rfl ?_
    refine XS.icmpYes X6.here hexec rfl (pc0 := 17) rfl (hb hbytes d17) rfl (ii_eq_t rfl) (by decide) rfl ?_
    refine XS.aloadN X6.here hexec rfl (hb hbytes d57) rfl rfl ?_
    exact Steps.refl _)
  have X8 := X6.wide (L' := []) (cells' := 1) (slots' := len) (fun x hx hlt => by
    simp only [List.nil_append, copyLocs, List.mem_map, List.mem_range] at hx
    obtain ⟨i, -, rfl⟩ := hx
    exact absurd hlt (Nat.lt_irrefl _)) (Nat.le_refl _) (by omega)
  exact ⟨T6, some (.ref s.heap.size), _, _, _, X8, rfl, rfl, rfl, (fun h => by cases h), ⟨⟨rfl, B6, ba3.like (X3.warmed.alike.symm.trans X6.warmed.alike) p6.1 f6.1 f6.2.1 f6.2.2.1, f6.2.1.trans bv3, by rw [X6.warmed.alike.findClass, f6.1]; exact bf3, by rw [f6.2.2.1, bs3]; simp, fun j hj => by rw [f6.2.2.2 j, if_pos (by omega)]; rfl, kp3.put p6 (Nat.le_refl _)⟩, by rw [p6.2.2, bh3, hh0]; simp⟩, fun fs hl => c8.trans (X8.areturnOut hexec rfl hret rfl (hb hbytes d58) hl)⟩
end Cmp3
namespace CodL
def yN : MethodName := ⟨"java/lang/StringUTF16", "coderFromArrayLen", "([BI)B"⟩
abbrev yB : ByteArray := jdk_52_method_15_code
theorem d0 : decode yB 0 = .ok (.iload_n 1, 1) := by decide +kernel
theorem d1 : decode yB 1 = .ok (.aload_n 0, 1) := by decide +kernel
theorem d2 : decode yB 2 = .ok (.arraylength, 1) := by decide +kernel
theorem d3 : decode yB 3 = .ok (.isub, 1) := by decide +kernel
theorem d4 : decode yB 4 = .ok (.bipush 31, 2) := by decide +kernel
theorem d6 : decode yB 6 = .ok (.iushr, 1) := by decide +kernel
theorem d7 : decode yB 7 = .ok (.i2b, 1) := by decide +kernel
theorem d8 : decode yB 8 = .ok (.ireturn, 1) := by decide +kernel
def site : List Cond := []
def tab : Cond := tabOf yN yB 2 (some .byte) site
def P (d : Addr) (B : Cell) (args : Array Value) (s : State) : Prop := args = #[.ref d, .int (Int32.ofNat B.slots.size)] ∧ Arr .byte d B s
def E (r : Option Value) (s u : State) : Prop := XT.PureE (some (.int 0)) r s u
/-- an array as long as the number of chars: LATIN1 -/
theorem law (l : Launch) (d : Addr) (B : Cell) : Law l yN 2 2 0 0 yB 2 (some .byte) site (P d B) E [] 0 0 := by
  refine Law.of_walk (plainFor_of_name (by decide +kernel)) (by decide +kernel) (by decide +kernel) (by decide) (fun _ _ h => by rw [h.1]; rfl) (fun _ U U' hal hh h => ⟨h.1, h.2.mv hal hh⟩) (fun r U U' V V' h1 hal h2 h => XT.PureE.mv r U U' V V' h1 hal h2 h) ?_
  intro p e s m args below meth c s₁ X0 hexec hbytes hml hret hlk hnm hown hh0 W hP
  obtain ⟨rfl, hB⟩ := hP
  have hB0 := hB.mv X0.warmed.alike hh0
  have c1 : Steps p.tables e below (s₁.setTop (entryFrame m #[.ref d, .int (Int32.ofNat B.slots.size)] 2)) (s₁.setTop (mkF m 0 #[.val (.ref d), .val (.int (Int32.ofNat B.slots.size))] [])) := entry rfl
  have c2 : Steps p.tables e below (s₁.setTop (entryFrame m #[.ref d, .int (Int32.ofNat B.slots.size)] 2)) (s₁.setTop (mkF m 2 #[.val (.ref d), .val (.int (Int32.ofNat B.slots.size))] [.ref d, .int (Int32.ofNat B.slots.size)])) := c1.trans (by
    refine XS.iloadN X0.here hexec rfl (hb hbytes d0) rfl ?_
    refine XS.aloadN X0.here hexec rfl (hb hbytes d1) rfl rfl ?_
    exact Steps.refl _)
  have c3 : Steps p.tables e below (s₁.setTop (entryFrame m #[.ref d, .int (Int32.ofNat B.slots.size)] 2)) (s₁.setTop (mkF m 8 #[.val (.ref d), .val (.int (Int32.ofNat B.slots.size))] [.int (lo8 (ushr (Int32.ofNat B.slots.size - Int32.ofNat B.slots.size) 31))])) := c2.trans (by
    refine X0.alen hexec hB0 rfl rfl (hb hbytes d2) ?_
    refine XS.isub X0.here hexec rfl (hb hbytes d3) rfl ?_
    refine bipushV X0.here hexec rfl 31 (hb hbytes d4) (by decide) ?_
    refine iushr X0.here hexec rfl (hb hbytes d6) rfl ?_
    refine i2b X0.here hexec rfl (hb hbytes d7) rfl ?_
    exact Steps.refl _)
  have e0 : lo8 (ushr (Int32.ofNat B.slots.size - Int32.ofNat B.slots.size) 31) = 0 := by rw [Int32.sub_self]; decide
  rw [e0] at c3
  exact ⟨s₁, some (.int 0), _, _, _, X0, rfl, rfl, rfl, (fun h => by cases h), ⟨rfl, hh0⟩, fun fs hl => c3.trans (X0.ireturnOut hexec hret rfl (Or.inr (Or.inr (Or.inl rfl))) (hb hbytes d8) hl)⟩
end CodL
/-- the String at a is Latin-1 over a new byte[] (the heap's one new cell): the low bytes of the len chars of A from o on; every cell but a is kept -/
def Got (a : Addr) (D : Cell) (fV fC : Field) (A : Cell) (o len : Nat) (r : Option Value) (s u : State) : Prop := r = none ∧ ∃ D' V : Cell, Blank "java/lang/String" a D' u ∧ Same D D' [fV.slot, fC.slot] ∧ D'.slots[fV.slot]? = some (.ref s.heap.size) ∧ D'.slots[fC.slot]? = some (.int 0) ∧ Arr .byte s.heap.size V u ∧ V.vm = .none ∧ u.vm.findClass "[B" = some V.cls ∧ V.slots.size = len ∧ (∀ j, j < len → V.slots[j]? = some (.int (lo8 (cv A (o + j))))) ∧ (∀ (y : Addr) (c : Cell), y ≠ a → s.heap[y]? = some c → u.heap[y]? = some c) ∧ u.heap.size = s.heap.size + 1
theorem Got.mv {a : Addr} {D A : Cell} {fV fC : Field} {o len : Nat} : ∀ r (U U' V V' : State), U'.heap = U.heap → V.vm.Alike V'.vm → V'.heap = V.heap → Got a D fV fC A o len r U V → Got a D fV fC A o len r U' V' :=
  fun r U U' V V' h1 hal h2 ⟨e0, D', X, a1, a2, a3, a4, a5, a6, a7, a8, a9, a10, a11⟩ => ⟨e0, D', X, a1.mv hal h2, a2, by rw [h1]; exact a3, a4, by rw [h1]; exact a5.mv hal h2, a6, by rw [hal.findClass]; exact a7, a8, a9, by rw [h1, h2]; exact a10, by rw [h1, h2]; exact a11⟩
namespace New4
def yN : MethodName := ⟨"java/lang/String", "<init>", "([CIILjava/lang/Void;)V"⟩
abbrev yB : ByteArray := jdk_42_method_149_code
theorem d0 : decode yB 0 = .ok (.aload_n 0, 1) := by decide +kernel
theorem d1 : decode yB 1 = .ok (.invokespecial 1, 3) := by decide +kernel
theorem d4 : decode yB 4 = .ok (.iload_n 3, 1) := by decide +kernel
theorem d5 : decode yB 5 = .ok (.ifCond (.ne) 22, 3) := by decide +kernel
theorem d27 : decode yB 27 = .ok (.getstatic 38, 3) := by decide +kernel
theorem d30 : decode yB 30 = .ok (.ifCond (.eq) 28, 3) := by decide +kernel
theorem d33 : decode yB 33 = .ok (.aload_n 1, 1) := by decide +kernel
theorem d34 : decode yB 34 = .ok (.iload_n 2, 1) := by decide +kernel
theorem d35 : decode yB 35 = .ok (.iload_n 3, 1) := by decide +kernel
theorem d36 : decode yB 36 = .ok (.invokestatic 177, 3) := by decide +kernel
theorem d39 : decode yB 39 = .ok (.astore 5, 2) := by decide +kernel
theorem d41 : decode yB 41 = .ok (.aload_n 0, 1) := by decide +kernel
theorem d42 : decode yB 42 = .ok (.aload 5, 2) := by decide +kernel
theorem d44 : decode yB 44 = .ok (.iload_n 3, 1) := by decide +kernel
theorem d45 : decode yB 45 = .ok (.invokestatic 47, 3) := by decide +kernel
theorem d48 : decode yB 48 = .ok (.putfield 15, 3) := by decide +kernel
theorem d51 : decode yB 51 = .ok (.aload_n 0, 1) := by decide +kernel
theorem d52 : decode yB 52 = .ok (.aload 5, 2) := by decide +kernel
theorem d54 : decode yB 54 = .ok (.putfield 9, 3) := by decide +kernel
theorem d57 : decode yB 57 = .ok (.return_, 1) := by decide +kernel
def site : List Cond := [.fieldLink "java/lang/String" 38 "java/lang/String" "COMPACT_STRINGS" "Z", Cmp3.tab, CodL.tab, .laysFinal "java/lang/String" "java/lang/String" "value" "[B", .fieldLink "java/lang/String" 9 "java/lang/String" "value" "[B", .laysFinal "java/lang/String" "java/lang/String" "coder" "B", .fieldLink "java/lang/String" 15 "java/lang/String" "coder" "B"] ++ objW "java/lang/String" 1 ++ staticW "java/lang/String" 177 Cmp3.yN ++ staticW "java/lang/String" 47 CodL.yN
def tab : Cond := tabOf yN yB 6 none site
def P (a : Addr) (D : Cell) (fV fC : Field) (b : Addr) (A : Cell) (z : Int32) (o len : Nat) (args : Array Value) (s : State) : Prop := args = #[.ref a, .ref b, .int (Int32.ofNat o), .int (Int32.ofNat len), .null] ∧ Blank "java/lang/String" a D s ∧ Found "java/lang/String" "value" "[B" fV s ∧ Found "java/lang/String" "coder" "B" fC s ∧ Ch b A s ∧ StaticIs s "java/lang/String" "COMPACT_STRINGS" "Z" (.int z) ∧ ¬ z = 0 ∧ 0 < len ∧ o + len ≤ A.slots.size ∧ len ≤ 536870912 ∧ ∀ i, i < len → ¬ 255 < cv A (o + i)
def E (a : Addr) (D : Cell) (fV fC : Field) (A : Cell) (o len : Nat) (r : Option Value) (s u : State) : Prop := Got a D fV fC A o len r s u
/-- len > 0, no char of the range above 255: a Latin-1 String of their low bytes -/
theorem law (l : Launch) (a : Addr) (D : Cell) (fV fC : Field) (b : Addr) (A : Cell) (z : Int32) (o len : Nat) : Law l yN 5 4 2 35 yB 6 none site (P a D fV fC b A z o len) (E a D fV fC A o len) [⟨a, fC.slot⟩, ⟨a, fV.slot⟩] 1 len := by
  refine Law.of_walk (plainFor_of_name (by decide +kernel)) (by decide +kernel) (by decide +kernel) (by decide) (fun _ _ h => by rw [h.1]; rfl) (fun _ U U' hal hh h => ⟨h.1, h.2.1.mv hal hh, h.2.2.1.al hal, h.2.2.2.1.al hal, h.2.2.2.2.1.mv hal hh, h.2.2.2.2.2.1.there hal hh, h.2.2.2.2.2.2⟩) (fun r U U' V V' h1 hal h2 h => Got.mv r U U' V V' h1 hal h2 h) ?_
  intro p e s m args below meth c s₁ X0 hexec hbytes hml hret hlk hnm hown hh0 W hP
  obtain ⟨rfl, hB, f1, f2, hA, s1, hz, l0, l1, l2, hp⟩ := hP
  have a31 := hA.1.2.2.2
  have c1 : Steps p.tables e below (s₁.setTop (entryFrame m #[.ref a, .ref b, .int (Int32.ofNat o), .int (Int32.ofNat len), .null] 6)) (s₁.setTop (mkF m 0 #[.val (.ref a), .val (.ref b), .val (.int (Int32.ofNat o)), .val (.int (Int32.ofNat len)), .val .null, .unset] [])) := entry rfl
  have c2 : Steps p.tables e below (s₁.setTop (entryFrame m #[.ref a, .ref b, .int (Int32.ofNat o), .int (Int32.ofNat len), .null] 6)) (s₁.setTop (mkF m 1 #[.val (.ref a), .val (.ref b), .val (.int (Int32.ofNat o)), .val (.int (Int32.ofNat len)), .val .null, .unset] [.ref a])) := c1.trans (by
    refine XS.aloadN X0.here hexec rfl (hb hbytes d0) rfl rfl ?_
    exact Steps.refl _)
  obtain ⟨T3, X3, q3, st3⟩ := X0.oinit hexec hown (wks W (objW "java/lang/String" 1)) (g := (mkF m 1 #[.val (.ref a), .val (.ref b), .val (.int (Int32.ofNat o)), .val (.int (Int32.ofNat len)), .val .null, .unset] [.ref a])) rfl (by rw [hml]; rfl) (rest := []) rfl (hb hbytes d1) (W := 0) (by show 2 * 0 + 0 ≤ _; decide) (Nat.le_of_ble_eq_true rfl) (Nat.le_of_ble_eq_true rfl)
  have hh3 := q3.trans hh0
  have c4 : Steps p.tables e below (s₁.setTop (entryFrame m #[.ref a, .ref b, .int (Int32.ofNat o), .int (Int32.ofNat len), .null] 6)) (T3.setTop (mkF m 27 #[.val (.ref a), .val (.ref b), .val (.int (Int32.ofNat o)), .val (.int (Int32.ofNat len)), .val .null, .unset] [])) := (c2.trans (st3 _ (Steps.refl _))).trans (by
    refine XS.iloadN X3.here hexec rfl (hb hbytes d4) rfl ?_
    refine XS.ifYes X3.here hexec rfl (pc0 := 5) rfl (hb hbytes d5) rfl (i0_ne_t (nz32 (by omega) l0)) (by decide) rfl ?_
    exact Steps.refl _)
  obtain ⟨T5, X5, q5, st5⟩ := X3.sget hexec hown (wk W (.fieldLink "java/lang/String" 38 "java/lang/String" "COMPACT_STRINGS" "Z")) s1 (fun _ _ h => by rw [hh3]; exact h) (g := (mkF m 27 #[.val (.ref a), .val (.ref b), .val (.int (Int32.ofNat o)), .val (.int (Int32.ofNat len)), .val .null, .unset] [])) rfl (hb hbytes d27)
  have hh5 := q5.trans hh3
  have c6 : Steps p.tables e below (s₁.setTop (entryFrame m #[.ref a, .ref b, .int (Int32.ofNat o), .int (Int32.ofNat len), .null] 6)) (T5.setTop (mkF m 30 #[.val (.ref a), .val (.ref b), .val (.int (Int32.ofNat o)), .val (.int (Int32.ofNat len)), .val .null, .unset] [.int z])) := c4.trans (st5 _ (Steps.refl _))
  have c7 : Steps p.tables e below (s₁.setTop (entryFrame m #[.ref a, .ref b, .int (Int32.ofNat o), .int (Int32.ofNat len), .null] 6)) (T5.setTop (mkF m 36 #[.val (.ref a), .val (.ref b), .val (.int (Int32.ofNat o)), .val (.int (Int32.ofNat len)), .val .null, .unset] [.int (Int32.ofNat len), .int (Int32.ofNat o), .ref b])) := c6.trans (by
    refine XS.ifNo X5.here hexec rfl (hb hbytes d30) rfl (i0_eq_f hz) ?_
    refine XS.aloadN X5.here hexec rfl (hb hbytes d33) rfl rfl ?_
    refine XS.iloadN X5.here hexec rfl (hb hbytes d34) rfl ?_
    refine XS.iloadN X5.here hexec rfl (hb hbytes d35) rfl ?_
    exact Steps.refl _)
  obtain ⟨v8, T8, X8, E8, g8⟩ := X5.callS hexec (Cmp3.law l b A o len) hown (wks W (staticW "java/lang/String" 177 Cmp3.yN)) (wk W Cmp3.tab) (W := 0) (Nat.le_of_ble_eq_true rfl) (Nat.le_of_ble_eq_true rfl) (Nat.le_refl _) (by show 0 + len ≤ len; omega) (g := (mkF m 36 #[.val (.ref a), .val (.ref b), .val (.int (Int32.ofNat o)), .val (.int (Int32.ofNat len)), .val .null, .unset] [.int (Int32.ofNat len), .int (Int32.ofNat o), .ref b])) rfl (by rw [hml]; rfl) c7 (argsL := [.ref b, .int (Int32.ofNat o), .int (Int32.ofNat len)]) (rest := []) rfl rfl (by show 2 * 0 + 0 ≤ _; decide) (hb hbytes d36) (⟨rfl, hA.mv X5.warmed.alike hh5, l1, l2, hp⟩)
  obtain ⟨e8, z8⟩ := E8
  obtain ⟨rfl, N, n1, n2, n3, n4, n5, n6⟩ := NewArr.mv _ T5 s _ _ hh5.symm (Vm.Alike.refl _) rfl e8
  rw [hh5] at z8
  have hB1 := hB.keep X8.warmed.alike (n6 _ _ hB.1)
  have hne : s.heap.size ≠ a := (Nat.ne_of_lt (Array.getElem?_eq_some_iff.mp hB.1).1).symm
  have c9 : Steps p.tables e below (s₁.setTop (entryFrame m #[.ref a, .ref b, .int (Int32.ofNat o), .int (Int32.ofNat len), .null] 6)) (T8.setTop (mkF m 39 #[.val (.ref a), .val (.ref b), .val (.int (Int32.ofNat o)), .val (.int (Int32.ofNat len)), .val .null, .unset] [.ref s.heap.size])) := g8
  have c10 : Steps p.tables e below (s₁.setTop (entryFrame m #[.ref a, .ref b, .int (Int32.ofNat o), .int (Int32.ofNat len), .null] 6)) (T8.setTop (mkF m 45 #[.val (.ref a), .val (.ref b), .val (.int (Int32.ofNat o)), .val (.int (Int32.ofNat len)), .val .null, .val (.ref s.heap.size)] [.int (Int32.ofNat N.slots.size), .ref s.heap.size, .ref a])) := by
    have hc : Steps p.tables e below (s₁.setTop (entryFrame m #[.ref a, .ref b, .int (Int32.ofNat o), .int (Int32.ofNat len), .null] 6)) (T8.setTop (mkF m 45 #[.val (.ref a), .val (.ref b), .val (.int (Int32.ofNat o)), .val (.int (Int32.ofNat len)), .val .null, .val (.ref s.heap.size)] [.int (Int32.ofNat len), .ref s.heap.size, .ref a])) := c9.trans (by
      refine XS.astore X8.here hexec rfl (hb hbytes d39) rfl rfl rfl ?_
      refine XS.aloadN X8.here hexec rfl (hb hbytes d41) rfl rfl ?_
      refine XS.aload X8.here hexec rfl (hb hbytes d42) rfl rfl ?_
      refine XS.iloadN X8.here hexec rfl (hb hbytes d44) rfl ?_
      exact Steps.refl _)
    rw [n4]; exact hc
  obtain ⟨v11, T11, X11, E11, g11⟩ := X8.callS hexec (CodL.law l s.heap.size N) hown (wks W (staticW "java/lang/String" 47 CodL.yN)) (wk W CodL.tab) (W := 1) (Nat.le_of_ble_eq_true rfl) (Nat.le_of_ble_eq_true rfl) (Nat.le_refl _) (by show 0 + len + 0 ≤ len; omega) (g := (mkF m 45 #[.val (.ref a), .val (.ref b), .val (.int (Int32.ofNat o)), .val (.int (Int32.ofNat len)), .val .null, .val (.ref s.heap.size)] [.int (Int32.ofNat N.slots.size), .ref s.heap.size, .ref a])) rfl (by rw [hml]; rfl) c10 (argsL := [.ref s.heap.size, .int (Int32.ofNat N.slots.size)]) (rest := [.ref a]) rfl rfl (by show 2 * 0 + (1 + 0) ≤ _; decide) (hb hbytes d45) (⟨rfl, n1⟩)
  obtain ⟨rfl, q11⟩ := E11
  have hB11 := hB1.mv (X8.warmed.alike.symm.trans X11.warmed.alike) q11
  have c12 : Steps p.tables e below (s₁.setTop (entryFrame m #[.ref a, .ref b, .int (Int32.ofNat o), .int (Int32.ofNat len), .null] 6)) (T11.setTop (mkF m 48 #[.val (.ref a), .val (.ref b), .val (.int (Int32.ofNat o)), .val (.int (Int32.ofNat len)), .val .null, .val (.ref s.heap.size)] [.int 0, .ref a])) := g11
  obtain ⟨T13, X13, p13, bl13, sl13, st13⟩ := X11.finit hexec hown (wk W (.fieldLink "java/lang/String" 15 "java/lang/String" "coder" "B")) (Or.inr ⟨_, (wk W (.laysFinal "java/lang/String" "java/lang/String" "coder" "B"))⟩) (Or.inl ⟨rfl, hnm⟩) f2 (Or.inl rfl) hB11 (t := .byte) (by decide +kernel) rfl (g := (mkF m 48 #[.val (.ref a), .val (.ref b), .val (.int (Int32.ofNat o)), .val (.int (Int32.ofNat len)), .val .null, .val (.ref s.heap.size)] [.int 0, .ref a])) rfl (rest := []) rfl (hb hbytes d48)
  have c14 : Steps p.tables e below (s₁.setTop (entryFrame m #[.ref a, .ref b, .int (Int32.ofNat o), .int (Int32.ofNat len), .null] 6)) (T13.setTop (mkF m 54 #[.val (.ref a), .val (.ref b), .val (.int (Int32.ofNat o)), .val (.int (Int32.ofNat len)), .val .null, .val (.ref s.heap.size)] [.ref s.heap.size, .ref a])) := (c12.trans (st13 _ (Steps.refl _))).trans (by
    refine XS.aloadN X13.here hexec rfl (hb hbytes d51) rfl rfl ?_
    refine XS.aload X13.here hexec rfl (hb hbytes d52) rfl rfl ?_
    exact Steps.refl _)
  obtain ⟨T15, X15, p15, bl15, sl15, st15⟩ := X13.finit hexec hown (wk W (.fieldLink "java/lang/String" 9 "java/lang/String" "value" "[B")) (Or.inr ⟨_, (wk W (.laysFinal "java/lang/String" "java/lang/String" "value" "[B"))⟩) (Or.inl ⟨rfl, hnm⟩) f1 (Or.inl rfl) bl13 (t := (.array .byte)) (by decide +kernel) rfl (g := (mkF m 54 #[.val (.ref a), .val (.ref b), .val (.int (Int32.ofNat o)), .val (.int (Int32.ofNat len)), .val .null, .val (.ref s.heap.size)] [.ref s.heap.size, .ref a])) rfl (rest := []) rfl (hb hbytes d54)
  have c16 : Steps p.tables e below (s₁.setTop (entryFrame m #[.ref a, .ref b, .int (Int32.ofNat o), .int (Int32.ofNat len), .null] 6)) (T15.setTop (mkF m 57 #[.val (.ref a), .val (.ref b), .val (.int (Int32.ofNat o)), .val (.int (Int32.ofNat len)), .val .null, .val (.ref s.heap.size)] [])) := c14.trans (st15 _ (Steps.refl _))
  have ap := apart (Or.inr ⟨_, (wk W (.laysFinal "java/lang/String" "java/lang/String" "value" "[B"))⟩) (Or.inr ⟨_, (wk W (.laysFinal "java/lang/String" "java/lang/String" "coder" "B"))⟩) f1 f2 (t₁ := .array .byte) (t₂ := .byte) (by decide +kernel) (by decide +kernel) (by decide)
  have al := X8.warmed.alike.symm.trans X15.warmed.alike
  have n7 : T11.heap[s.heap.size]? = some N := by rw [q11]; exact n1.1
  exact ⟨T15, none, _, _, _, X15, by simp, rfl, by omega, (fun _ => rfl), ⟨rfl, _, N, bl15, ((Same.refl D _).set _ (by simp)).set _ (by simp), sl15, (Cell.slots_setSlot_ne _ ap).trans sl13, n1.keep al (p15.other hne (p13.other hne n7)), n2, by rw [al.findClass]; exact n3, n4, n5, fun y c h1 h2 => p15.other h1 (p13.other h1 (by rw [q11]; exact n6 y c h2)), by rw [p15.2.2, p13.2.2, q11]; exact z8⟩, fun fs hl => c16.trans (X15.returnOut hexec hret (hb hbytes d57) hl)⟩
end New4
namespace New1
def yN : MethodName := ⟨"java/lang/String", "<init>", "([C)V"⟩
abbrev yB : ByteArray := jdk_42_method_3_code
theorem d0 : decode yB 0 = .ok (.aload_n 0, 1) := by decide +kernel
theorem d1 : decode yB 1 = .ok (.aload_n 1, 1) := by decide +kernel
theorem d2 : decode yB 2 = .ok (.iconst 0, 1) := by decide +kernel
theorem d3 : decode yB 3 = .ok (.aload_n 1, 1) := by decide +kernel
theorem d4 : decode yB 4 = .ok (.arraylength, 1) := by decide +kernel
theorem d5 : decode yB 5 = .ok (.aconst_null, 1) := by decide +kernel
theorem d6 : decode yB 6 = .ok (.invokespecial 27, 3) := by decide +kernel
theorem d9 : decode yB 9 = .ok (.return_, 1) := by decide +kernel
def site : List Cond := [New4.tab] ++ initW "java/lang/String" 27 New4.yN
def tab : Cond := tabOf yN yB 2 none site
def P (a : Addr) (D : Cell) (fV fC : Field) (b : Addr) (A : Cell) (z : Int32) (args : Array Value) (s : State) : Prop := args = #[.ref a, .ref b] ∧ Blank "java/lang/String" a D s ∧ Found "java/lang/String" "value" "[B" fV s ∧ Found "java/lang/String" "coder" "B" fC s ∧ Ch b A s ∧ StaticIs s "java/lang/String" "COMPACT_STRINGS" "Z" (.int z) ∧ ¬ z = 0 ∧ 0 < A.slots.size ∧ A.slots.size ≤ 536870912 ∧ ∀ i, i < A.slots.size → ¬ 255 < cv A i
def E (a : Addr) (D : Cell) (fV fC : Field) (A : Cell) (r : Option Value) (s u : State) : Prop := Got a D fV fC A 0 A.slots.size r s u
/-- new String(chars), not empty, no char above 255: a Latin-1 String of their low bytes -/
theorem law (l : Launch) (a : Addr) (D : Cell) (fV fC : Field) (b : Addr) (A : Cell) (z : Int32) : Law l yN 2 1 3 52 yB 2 none site (P a D fV fC b A z) (E a D fV fC A) [⟨a, fC.slot⟩, ⟨a, fV.slot⟩] 1 A.slots.size := by
  refine Law.of_walk (plainFor_of_name (by decide +kernel)) (by decide +kernel) (by decide +kernel) (by decide) (fun _ _ h => by rw [h.1]; rfl) (fun _ U U' hal hh h => ⟨h.1, h.2.1.mv hal hh, h.2.2.1.al hal, h.2.2.2.1.al hal, h.2.2.2.2.1.mv hal hh, h.2.2.2.2.2.1.there hal hh, h.2.2.2.2.2.2⟩) (fun r U U' V V' h1 hal h2 h => Got.mv r U U' V V' h1 hal h2 h) ?_
  intro p e s m args below meth c s₁ X0 hexec hbytes hml hret hlk hnm hown hh0 W hP
  obtain ⟨rfl, hB, f1, f2, hA, s1, hz, l0, l2, hp⟩ := hP
  have c1 : Steps p.tables e below (s₁.setTop (entryFrame m #[.ref a, .ref b] 2)) (s₁.setTop (mkF m 0 #[.val (.ref a), .val (.ref b)] [])) := entry rfl
  have c2 : Steps p.tables e below (s₁.setTop (entryFrame m #[.ref a, .ref b] 2)) (s₁.setTop (mkF m 6 #[.val (.ref a), .val (.ref b)] [.null, .int (Int32.ofNat A.slots.size), .int 0, .ref b, .ref a])) := c1.trans (by
    refine XS.aloadN X0.here hexec rfl (hb hbytes d0) rfl rfl ?_
    refine XS.aloadN X0.here hexec rfl (hb hbytes d1) rfl rfl ?_
    refine iconstV X0.here hexec rfl 0 (hb hbytes d2) (by decide) ?_
    refine XS.aloadN X0.here hexec rfl (hb hbytes d3) rfl rfl ?_
    refine X0.alen hexec (hA.1.mv X0.warmed.alike hh0) rfl rfl (hb hbytes d4) ?_
    refine XS.aconstNull X0.here hexec rfl (hb hbytes d5) ?_
    exact Steps.refl _)
  obtain ⟨v3, T3, X3, E3, g3⟩ := X0.callN hexec (New4.law l a D fV fC b A z 0 A.slots.size) rfl hown (wks W (initW "java/lang/String" 27 New4.yN)) (W New4.tab (by simp only [site, List.mem_cons, List.mem_append, true_or, or_true])) (W := 0) (Nat.le_of_ble_eq_true rfl) (Nat.le_of_ble_eq_true rfl) (Nat.le_refl _) (by show 0 + A.slots.size ≤ A.slots.size; omega) (g := (mkF m 6 #[.val (.ref a), .val (.ref b)] [.null, .int (Int32.ofNat A.slots.size), .int (Int32.ofNat 0), .ref b, .ref a])) rfl (by rw [hml]; rfl) c2 (argsL := [.ref b, .int (Int32.ofNat 0), .int (Int32.ofNat A.slots.size), .null]) (rest := []) rfl rfl (by show 2 * 0 + 0 ≤ _; decide) (hb hbytes d6) (⟨rfl, hB.mv X0.warmed.alike hh0, f1.al X0.warmed.alike, f2.al X0.warmed.alike, hA.mv X0.warmed.alike hh0, s1.there X0.warmed.alike hh0, hz, l0, by omega, l2, fun i hi => by rw [Nat.zero_add]; exact hp i hi⟩)
  have e0 := Got.mv _ s₁ s _ _ hh0.symm (Vm.Alike.refl _) rfl E3
  obtain rfl := e0.1
  have c4 : Steps p.tables e below (s₁.setTop (entryFrame m #[.ref a, .ref b] 2)) (T3.setTop (mkF m 9 #[.val (.ref a), .val (.ref b)] [])) := g3
  exact ⟨T3, none, _, _, _, X3, by simp, rfl, by omega, (fun _ => rfl), e0, fun fs hl => c4.trans (X3.returnOut hexec hret (hb hbytes d9) hl)⟩
theorem pays {l : Launch} {R : Room} {p : Program} {e : Env} {below : List Frame} {s : State} {sargs : Array Value} {len W : Nat} (a : Addr) (D : Cell) (fV fC : Field) (b : Addr) (A : Cell) (z : Int32) (htab : tab.before sargs s = true) (hfr : 4 ≤ R.frames) (hlo : W + 65 ≤ R.locals) :
    Back l R p e below s sargs yN len W (fun A₁ a₁ => A₁.cells + 1 ≤ R.cells ∧ A₁.slots + A.slots.size ≤ R.slots ∧ P a D fV fC b A z a₁ A₁.U) (fun A₁ _ v₁ B₁ => E a D fV fC A v₁ A₁.U B₁.U ∧ B₁.locs = A₁.locs ++ [⟨a, fC.slot⟩, ⟨a, fV.slot⟩] ∧ B₁.cells = A₁.cells + 1 ∧ B₁.slots = A₁.slots + A.slots.size) :=
  (law l a D fV fC b A z).pays htab hfr (by omega)
end New1
/-- the byte, read back as charAt reads it, is the char -/
theorem lo8_mask {x : Int32} (h0 : ¬ x < 0) (h1 : ¬ 255 < x) : lo8 x &&& 255 = x := by
  have t : ∀ k : Fin 256, lo8 (Int32.ofNat k.val) &&& 255 = Int32.ofNat k.val := by decide +kernel
  rw [Int32.lt_iff_toInt_lt] at h0 h1
  have e0 : (0 : Int32).toInt = 0 := rfl
  have e1 : (255 : Int32).toInt = 255 := rfl
  obtain ⟨k, hk⟩ : ∃ k : Nat, x.toInt = k := ⟨x.toInt.toNat, by omega⟩
  have hx : x = Int32.ofNat k := Int32.toInt_inj.mp (by rw [hk, Int32.toInt_ofNat_small (by omega)])
  rw [hx]
  exact t ⟨k, by omega⟩
end StrChars
namespace StrChars.Road
open Jvm Sem ClassFile Op Lib Jvm.Stand Jvm.Free Jvm.Free.XT
open Jvm.Lib.Cold (StaticIs)
abbrev ST : String := "java/lang/String"
/-- every table word that New1's law asks, flat -/
abbrev words : List Jvm.Cond := [.code New1.yN New1.yB 2 none, .initialized ST, .methodLink ST 27 New4.yN, .instanceMethod New4.yN,
  .code New4.yN New4.yB 6 none, .fieldLink ST 38 ST "COMPACT_STRINGS" "Z", .laysFinal ST ST "value" "[B", .fieldLink ST 9 ST "value" "[B", .laysFinal ST ST "coder" "B", .fieldLink ST 15 ST "coder" "B",
  .methodLink ST 1 Lib.objectInit, .instanceMethod Lib.objectInit, .code Lib.objectInit ⟨#[0xb1]⟩ 1 none, .methodLink ST 177 Cmp3.yN, .static Cmp3.yN, .methodLink ST 47 CodL.yN, .static CodL.yN,
  .code Cmp3.yN Cmp3.yB 6 (some (.array .byte)), .initialized U16, .arrayClass .byte, .methodLink U16 115 Cmp5.yN, .static Cmp5.yN, .code Cmp5.yN Cmp5.yB 7 (some .int), .code CodL.yN CodL.yB 2 (some .byte)]
theorem tab_of {a : Array Value} {s : State} (h : ∀ w ∈ words, w.before a s = true) : New1.tab.before a s = true := by
  have h5 : Cmp5.tab.before a s = true := unparts (wk h (.code Cmp5.yN Cmp5.yB 7 (some .int))) (wks h (.initialized Cmp5.yN.cls :: Cmp5.site))
  have hc : CodL.tab.before a s = true := unparts (wk h (.code CodL.yN CodL.yB 2 (some .byte))) (wks h (.initialized CodL.yN.cls :: CodL.site))
  have q5 : ∀ w ∈ Cmp5.tab :: words, w.before a s = true := fun w hw => (List.mem_cons.mp hw).elim (fun e => e ▸ h5) (h w)
  have h3 : Cmp3.tab.before a s = true := unparts (wk q5 (.code Cmp3.yN Cmp3.yB 6 (some (.array .byte)))) (wks q5 (.initialized Cmp3.yN.cls :: Cmp3.site))
  have q3 : ∀ w ∈ Cmp3.tab :: CodL.tab :: words, w.before a s = true := fun w hw => (List.mem_cons.mp hw).elim (fun e => e ▸ h3) fun hw => (List.mem_cons.mp hw).elim (fun e => e ▸ hc) (h w)
  have h4 : New4.tab.before a s = true := unparts (wk q3 (.code New4.yN New4.yB 6 none)) (wks q3 (.initialized New4.yN.cls :: New4.site))
  have q4 : ∀ w ∈ New4.tab :: words, w.before a s = true := fun w hw => (List.mem_cons.mp hw).elim (fun e => e ▸ h4) (h w)
  exact unparts (wk q4 (.code New1.yN New1.yB 2 none)) (wks q4 (.initialized New1.yN.cls :: New1.site))
/-- the words ride from the start Z to the walk's own state -/
theorem moved {Z s : State} {a0 args : Array Value} (hZ : Z.Warmed39 s.vm) (hw : ∀ d ∈ words, d.before a0 Z = true) : ∀ d ∈ words, d.before args s = true := fun d hd => by
  have q := hw d hd
  have t : ∀ d ∈ words, d = .arrayClass .byte ∨ (d.onTables && d.keepsFace) = true := by decide +kernel
  rcases t d hd with rfl | t
  · exact RoadKit.mvA hZ q
  · exact RoadKit.mv hZ q t
/-- WHAT COMES BACK, over the tables of the start Z: h the heap at the call, h' behind it -/
def Q (Z : State) (x : Addr) (A : Cell) (h : Heap) (v : Option Value) (h' : Heap) (L : List Loc) : Prop := v = none ∧ (∀ y ∈ L, y.base = x) ∧ RoadKit.Keep h h' [x] ∧ h'.size = h.size + 1 ∧ RoadKit.Exa Z h' x ST ∧ RoadKit.Fld Z h' x ST "value" "[B" (.ref h.size) ∧ RoadKit.Fld Z h' x ST "coder" "B" (.int 0) ∧
  (∃ V : Cell, RoadKit.Arr Z h' h.size V .byte ∧ V.vm = .none ∧ Z.vm.findClass "[B" = some V.cls ∧ V.slots.size = A.slots.size ∧ ∀ j, j < A.slots.size → V.slots[j]? = some (.int (lo8 (cv A j)))) ∧
  ∀ (O n d : String) (w : Value), RoadKit.Fld Z h x O n d w → RoadKit.slotOf Z O n d ≠ RoadKit.slotOf Z ST "value" "[B" → RoadKit.slotOf Z O n d ≠ RoadKit.slotOf Z ST "coder" "B" → RoadKit.Fld Z h' x O n d w
/-- **new String(chars) AT A CALL, IN THE ROAD'S FORM**: for specialBack behind newO: x the fresh String, b the char[] with the cell A -/
theorem back {p : Program} {l : Launch} {e : Env} {R : Room} {s : State} {args : Array Value} {below : List Frame} {len W : Nat} {Z : State} {a0 : Array Value} {h : Heap} (hZ : Z.Warmed39 s.vm) (hw : ∀ d ∈ words, d.before a0 Z = true) {kI : Nat} (wi : (Jvm.Cond.instantiable ST kI).before a0 Z = true)
    {x b : Addr} {A : Cell} {z : Int32} {v0 c0 : Value} (E : RoadKit.Exa Z h x ST) (V : RoadKit.Fld Z h x ST "value" "[B" v0) (C : RoadKit.Fld Z h x ST "coder" "B" c0) (K : RoadKit.Arr Z h b A .char) (hty : Typed .char A) (S : RoadKit.Sta Z h ST "COMPACT_STRINGS" "Z" (.int z)) (hz : ¬ z = 0)
    (l0 : 0 < A.slots.size) (l2 : A.slots.size ≤ 536870912) (hp : ∀ i, i < A.slots.size → ¬ 255 < cv A i) (hfr : 4 ≤ R.frames) (hlo : W + 65 ≤ R.locals) :
    Back l R p e below s args New1.yN len W (fun P a => a = #[.ref x, .ref b] ∧ P.U.heap = h ∧ P.cells + 1 ≤ R.cells ∧ P.slots + A.slots.size ≤ R.slots)
      (fun P _ v B => ∃ L, Q Z x A h v B.U.heap L ∧ B.locs = P.locs ++ L ∧ B.cells = P.cells + 1 ∧ B.slots = P.slots + A.slots.size) := by
  intro m meth c P g ig mk a X hg hsize hdg hW hn hp'
  obtain ⟨rfl, rfl, r1, r2⟩ := hp'
  have al : Z.vm.Alike P.U.vm := hZ.alike.trans X.warmed.alike
  obtain ⟨D, cfV, kV, iV, fV, hD, gV, stV, knV, obV, asV, slV⟩ := id V
  obtain ⟨D', cfC, kC, iC, fC, hD', gC, stC, -, -, asC, slC⟩ := id C
  cases hD.symm.trans hD'
  obtain ⟨D2, kD, e1, e2, e3, e4, e5⟩ := id E
  cases hD.symm.trans e1
  obtain ⟨c2, k2, i1, i2, i3, -⟩ := Cond.instantiable_spec wi
  cases e2.symm.trans i1
  cases e3.symm.trans i2
  obtain ⟨kU, u1, u2⟩ := al.2.2 _ _ e3
  have hB : Blank ST x D P.U := ⟨hD, ⟨knV, fun q hq => by rw [hq] at obV; cases obV⟩, by rw [al.findClass]; exact e2, kU, u1, by rw [u2]; exact i3, by rw [u2]; exact e5 i3⟩
  have F1 : Found ST "value" "[B" fV P.U := ⟨SBG.found_only al ⟨cfV, kV, iV, gV⟩, stV⟩
  have F2 : Found ST "coder" "B" fC P.U := ⟨SBG.found_only al ⟨cfC, kC, iC, gC⟩, stC⟩
  have hA : Ch b A P.U := ⟨⟨K.1, State.isArrayOf_alike al K.2.1, K.2.2, by omega⟩, hty⟩
  have hS : StaticIs P.U ST "COMPACT_STRINGS" "Z" (.int z) := by
    obtain ⟨cfS, iS, kS, fS, st, cS, t1, t2, t3, t4, t5, t6, t7⟩ := S
    exact StaticIs.there (s := { Z with heap := P.U.heap }) ⟨cfS, iS, kS, fS, st, cS, t1, t2, t3, t4, t5, (fun q => by rw [q] at t6; cases t6), t7⟩ al rfl
  obtain ⟨v, B, X', ⟨⟨hv, E', V', q1, q2, q3, q4, q5, q6, q7, q8, q9, q10, q11⟩, hl, hc, hs⟩, st⟩ := New1.pays x D fV fC b A z (tab_of (moved hZ hw)) hfr hlo m meth c P g ig mk _ X hg hsize hdg hW hn ⟨r1, r2, rfl, hB, F1, F2, hA, hS, hz, l0, l2, hp⟩
  have al' : Z.vm.Alike B.U.vm := hZ.alike.trans X'.warmed.alike
  have hsz : E'.slots.size = D.slots.size := by
    obtain ⟨-, -, -, kB, w1, w2, w3⟩ := q1
    obtain ⟨kB', y1, y2⟩ := al'.2.2 _ _ e3
    rw [q2.2.1] at w1
    cases w1.symm.trans y1
    rw [w3, e5 i3, y2]
  refine ⟨v, B, X', ⟨_, ⟨hv, ?_, ⟨by omega, fun y cy hy hn' => q10 y cy (by simpa using hn') hy, fun y cy hy => ?_⟩, q11, ⟨E', _, q1.1, by rw [q2.2.1]; exact e2, by rw [q2.2.1]; exact e3, by rw [q2.1]; exact obV, fun _ => by rw [hsz]; exact e5 i3⟩,
    ⟨E', cfV, kV, iV, fV, q1.1, gV, stV, by rw [q2.1]; exact knV, by rw [q2.1]; exact obV, by rw [q2.2.1]; exact asV, q3⟩, ⟨E', cfC, kC, iC, fC, q1.1, gC, stC, by rw [q2.1]; exact knV, by rw [q2.1]; exact obV, by rw [q2.2.1]; exact asC, q4⟩,
    ⟨V', ⟨q5.1, State.isArrayOf_alike al'.symm q5.2.1, q5.2.2.1⟩, q6, by rw [← al'.findClass]; exact q7, q8, fun j hj => by have := q9 j hj; rwa [Nat.zero_add] at this⟩, fun O n d w F n1 n2 => ?_⟩, hl, hc, hs⟩, st⟩
  · intro y hy
    simp only [List.mem_cons, List.not_mem_nil, or_false] at hy
    rcases hy with rfl | rfl <;> rfl
  · by_cases q : y = x
    · subst q
      cases hD.symm.trans hy
      exact ⟨E', q1.1, q2.2.1, q2.1, hsz⟩
    · exact ⟨cy, q10 y cy q hy, rfl, rfl, rfl⟩
  · obtain ⟨D3, cf, k, i, f, g1, g2, g3, g4, g5, g6, g7⟩ := F
    cases hD.symm.trans g1
    simp only [RoadKit.slotOf, g2, gV, gC, Option.map_some, Option.getD_some] at n1 n2
    exact ⟨E', cf, k, i, f, q1.1, g2, g3, by rw [q2.1]; exact g4, by rw [q2.1]; exact g5, by rw [q2.2.1]; exact g6, by rw [q2.2.2 f.slot (by simp [n1, n2])]; exact g7⟩
end StrChars.Road
namespace StrChars.Road
open Jvm Sem ClassFile Op Lib Jvm.Stand Jvm.Free Jvm.Free.XT
/-- WHAT COMES BACK, the byte[] as a list of values -/
def QA (Z : State) (x : Addr) (zn : Int32) (cs : List Int32) (h : Heap) (v : Option Value) (h' : Heap) (L : List Loc) : Prop := v = none ∧ (∀ y ∈ L, y.base = x) ∧ RoadKit.Keep h h' [x] ∧ h'.size = h.size + 1 ∧ RoadKit.Exa Z h' x ST ∧ RoadKit.Fld Z h' x ST "value" "[B" (.ref h.size) ∧ RoadKit.Fld Z h' x ST "coder" "B" (.int 0) ∧
  (∃ kb, Z.vm.findClass "[B" = some kb ∧ RoadKit.Arv Z h' h.size kb .byte zn (cs.map fun c => .int (lo8 c)) (.int 0)) ∧
  ∀ (O n d : String) (w : Value), RoadKit.Fld Z h x O n d w → RoadKit.slotOf Z O n d ≠ RoadKit.slotOf Z ST "value" "[B" → RoadKit.slotOf Z O n d ≠ RoadKit.slotOf Z ST "coder" "B" → RoadKit.Fld Z h' x O n d w
/-- **new String(chars) AT A CALL, THE ARRAYS AS LISTS**: the char[] at b holds cs, not empty, no char above 255 -/
theorem backArv {p : Program} {l : Launch} {e : Env} {R : Room} {s : State} {args : Array Value} {below : List Frame} {len W : Nat} {Z : State} {a0 : Array Value} {h : Heap} (hZ : Z.Warmed39 s.vm) (hw : ∀ d ∈ words, d.before a0 Z = true) {kI : Nat} (wi : (Jvm.Cond.instantiable ST kI).before a0 Z = true)
    {x b : Addr} {k : ClassId} {zn z : Int32} {cs : List Int32} {dv v0 c0 : Value} (E : RoadKit.Exa Z h x ST) (V : RoadKit.Fld Z h x ST "value" "[B" v0) (C : RoadKit.Fld Z h x ST "coder" "B" c0) (K : RoadKit.Arv Z h b k .char zn (cs.map Value.int) dv) (S : RoadKit.Sta Z h ST "COMPACT_STRINGS" "Z" (.int z)) (hz : ¬ z = 0)
    (hlen : zn.toNatClampNeg = cs.length) (h0 : 0 < cs.length) (hbig : cs.length ≤ 536870912) (hall : ∀ c ∈ cs, ¬ 255 < c) (hfr : 4 ≤ R.frames) (hlo : W + 65 ≤ R.locals) :
    Back l R p e below s args New1.yN len W (fun P a => a = #[.ref x, .ref b] ∧ P.U.heap = h ∧ P.cells + 1 ≤ R.cells ∧ P.slots + cs.length ≤ R.slots)
      (fun P _ v B => ∃ L, QA Z x zn cs h v B.U.heap L ∧ B.locs = P.locs ++ L ∧ B.cells = P.cells + 1 ∧ B.slots = P.slots + cs.length) := by
  obtain ⟨A, K1, K2, K3, K4, K5, K6⟩ := K
  have e : A.slots.size = cs.length := K3.trans hlen
  have hat : ∀ (i : Nat) (hi : i < cs.length), A.slots[i]? = some (.int cs[i]) := fun i hi => by rw [K5 i (by omega)]; simp [List.getD_eq_getElem?_getD, hi]
  have hcv : ∀ (i : Nat) (hi : i < cs.length), cv A i = cs[i] := fun i hi => by unfold cv; rw [hat i hi]
  have hty : Typed .char A := fun i v hv => by
    have hi : i < A.slots.size := (Array.getElem?_eq_some_iff.mp hv).1
    have q := K5 i hi
    rw [hv] at q
    rw [Option.some.inj q]
    exact K6 i hi
  refine Back.mono (back hZ hw wi E V C K1 hty S hz (by omega) (by omega) (fun i hi => by rw [hcv i (by omega)]; exact hall _ (List.getElem_mem _)) hfr hlo) (fun P a hp => ⟨hp.1, hp.2.1, hp.2.2.1, by rw [e]; exact hp.2.2.2⟩) (fun P a v B hp hq => ?_)
  obtain ⟨L, ⟨q1, q2, q3, q4, q5, q6, q7, ⟨V', v1, v2, v3, v4, v5⟩, q9⟩, hl, hc, hs⟩ := hq
  refine ⟨L, ⟨q1, q2, q3, q4, q5, q6, q7, ⟨V'.cls, v3, V', v1, rfl, by rw [v4, e, hlen], K4, fun i hi => ?_, fun i hi => ?_⟩, q9⟩, hl, hc, by rw [hs, e]⟩
  · have hi' : i < cs.length := by omega
    rw [v5 i (by omega), hcv i hi']; simp [List.getD_eq_getElem?_getD, hi']
  · have hi' : i < cs.length := by omega
    simp only [List.getD_eq_getElem?_getD, List.getElem?_map, List.getElem?_eq_getElem hi', Option.map_some, Option.getD_some]
    exact fits_lo8 _
end StrChars.Road
namespace StrChars.Road
open Jvm Sem ClassFile Op Lib Jvm.Stand Jvm.Free Jvm.Free.XT
/-- WHAT COMES BACK, in the writer's own shape -/
def QV (Z : State) (x : Addr) (N : Int32) (bs : List Int32) (h : Heap) (n0 : Nat) (v : Option Value) (h' : Heap) (L : List Loc) : Prop := v = none ∧ RoadKit.Fr n0 L ∧ RoadKit.Keep h h' [x] ∧ RoadKit.Exa Z h' x ST ∧ RoadKit.Fld Z h' x ST "coder" "B" (.int 0) ∧
  ∃ (t : Addr) (kb : ClassId), n0 ≤ t ∧ h.size ≤ t ∧ ¬ t = x ∧ RoadKit.Fld Z h' x ST "value" "[B" (.ref t) ∧ RoadKit.Arv Z h' t kb .byte N (bs.map Value.int) (.int 0)
/-- **new String(chars) AT A CALL, FOR THE WRITER**: a char[] of n known ints, each 0 to 255 -/
theorem backV {p : Program} {l : Launch} {e : Env} {R : Room} {s : State} {args : Array Value} {below : List Frame} {len W : Nat} {Z : State} {a0 : Array Value} {h : Heap} (hZ : Z.Warmed39 s.vm) (hw : ∀ d ∈ words, d.before a0 Z = true) {kI : Nat} (wi : (Jvm.Cond.instantiable ST kI).before a0 Z = true)
    {x b : Addr} {kC : ClassId} {cs bs : List Int32} {d v0 c0 : Value} {z N : Int32} {n n0 : Nat} (hx0 : n0 ≤ x) (hh0 : n0 ≤ h.size) (E : RoadKit.Exa Z h x ST) (V : RoadKit.Fld Z h x ST "value" "[B" v0) (C : RoadKit.Fld Z h x ST "coder" "B" c0) (K : RoadKit.Arv Z h b kC .char N (cs.map Value.int) d) (S : RoadKit.Sta Z h ST "COMPACT_STRINGS" "Z" (.int z)) (hz : ¬ z = 0)
    (hn : cs.length = n) (hN : N = Int32.ofNat n) (l0 : 0 < n) (l2 : n ≤ 4000) (hp : ∀ c ∈ cs, ¬ c < 0 ∧ ¬ (255 : Int32) < c) (hb : bs = cs.map (fun c => c.toInt8.toInt32)) (hfr : 4 ≤ R.frames) (hlo : W + 65 ≤ R.locals) :
    Back l R p e below s args (⟨"java/lang/String", "<init>", "([C)V"⟩ : MethodName) len W (fun P a => a = #[.ref x, .ref b] ∧ P.U.heap = h ∧ P.cells + 1 ≤ R.cells ∧ P.slots + n ≤ R.slots)
      (fun P _ v B => ∃ L, QV Z x N bs h n0 v B.U.heap L ∧ B.locs = P.locs ++ L ∧ B.cells = P.cells + 1 ∧ B.slots = P.slots + n) := by
  subst hn hN hb
  refine Back.mono (backArv hZ hw wi E V C K S hz (n32 (by omega)) l0 (by omega) (fun c hc => (hp c hc).2) hfr hlo) (fun P a hp => hp) (fun P a v B hp hq => ?_)
  obtain ⟨L, ⟨q1, q2, q3, q4, q5, q6, q7, ⟨kb, v1, v2⟩, q9⟩, hl, hc, hs⟩ := hq
  exact ⟨L, ⟨q1, fun y hy => by rw [q2 y hy]; exact hx0, q3, q5, q7, h.size, kb, hh0, Nat.le_refl _, Nat.ne_of_gt E.lt, q6, by rw [List.map_map]; exact v2⟩, hl, hc, hs⟩
end StrChars.Road
namespace StrChars
open Jvm Sem ClassFile Op Lib Jvm.Stand Jvm.Free.XT Jvm.Free.ALB Jvm.Free.JM Jvm.Free
open Jvm.Lib.Cold (StaticIs)
def hi8 (x : Int32) : Int32 := lo8 (x >>> ((8 : Int32) &&& 31))
/-- what StringUTF16.getChar makes of two bytes -/
def pairCh (u v : Int32) : Int32 := (((u &&& 255) <<< ((0 : Int32) &&& 31)) ||| ((v &&& 255) <<< ((8 : Int32) &&& 31))).toUInt32.toUInt16.toUInt32.toInt32
theorem shr0 (c : Int32) : c >>> ((0 : Int32) &&& 31) = c := by
  have e : ((0 : Int32) &&& 31) = 0 := by decide
  rw [e]
  apply Int32.toBitVec_inj.mp
  rw [Int32.toBitVec_shiftRight]
  have e1 : ((0 : Int32).toBitVec.smod 32) = 0#32 := by decide
  rw [e1, BitVec.sshiftRight_eq']
  exact BitVec.sshiftRight_zero
theorem lo8_and (x : Int32) : (lo8 x &&& 255).toBitVec.toNat = x.toBitVec.toNat % 256 := by
  have h : (lo8 x).toBitVec = (x.toBitVec.signExtend 8).signExtend 32 := by rw [lo8, Int8.toBitVec_toInt32, Int32.toBitVec_toInt8]
  rw [Int32.toBitVec_and, BitVec.toNat_and, h]
  have e : ((x.toBitVec.signExtend 8).signExtend 32).toNat % 256 = x.toBitVec.toNat % 256 := by
    rw [BitVec.toNat_signExtend]
    have hlt := x.toBitVec.isLt
    simp only [BitVec.toNat_setWidth, BitVec.toNat_signExtend]
    split <;> split <;> omega
  rw [← e]
  exact Nat.and_two_pow_sub_one_eq_mod _ 8
theorem pair_says {c : Int32} (h0 : ¬ c < 0) (h1 : ¬ 65535 < c) : pairCh (lo8 c) (hi8 c) = c := by
  rw [Int32.lt_iff_toInt_lt] at h0 h1
  have e0 : (0 : Int32).toInt = 0 := rfl
  have e1 : (65535 : Int32).toInt = 65535 := rfl
  have hc : c.toInt = c.toBitVec.toNat := by
    have := c.toBitVec.isLt
    have e : c.toInt = c.toBitVec.toInt := rfl
    rw [e] at h0 h1
    rw [e]
    rw [BitVec.toInt_eq_toNat_cond] at h0 h1 ⊢
    split at h0 <;> split <;> omega
  have hn : c.toBitVec.toNat < 65536 := by omega
  have a1 := lo8_and c
  have a2 : (hi8 c &&& 255).toBitVec.toNat = c.toBitVec.toNat / 256 := by
    rw [hi8, lo8_and]
    have e : ((8 : Int32) &&& 31) = 8 := by decide
    rw [e, Int32.toBitVec_shiftRight]
    have e2 : ((8 : Int32).toBitVec.smod 32) = 8#32 := by decide
    rw [e2, BitVec.sshiftRight_eq', BitVec.toNat_sshiftRight_of_msb_false (by rw [BitVec.msb_eq_false_iff_two_mul_lt]; omega)]
    show c.toBitVec.toNat >>> 8 % 256 = _
    rw [Nat.shiftRight_eq_div_pow]
    omega
  unfold pairCh
  apply Int32.toBitVec_inj.mp
  apply BitVec.eq_of_toNat_eq
  have f0 : ((0 : Int32) &&& 31) = 0 := by decide
  have f8 : ((8 : Int32) &&& 31) = 8 := by decide
  rw [f0, f8]
  have g : (((lo8 c &&& 255) <<< (0 : Int32)) ||| ((hi8 c &&& 255) <<< (8 : Int32))).toBitVec.toNat = c.toBitVec.toNat := by
    rw [Int32.toBitVec_or, Int32.toBitVec_shiftLeft, Int32.toBitVec_shiftLeft]
    have s0 : ((0 : Int32).toBitVec.smod 32) = 0#32 := by decide
    have s8 : ((8 : Int32).toBitVec.smod 32) = 8#32 := by decide
    rw [s0, s8, BitVec.toNat_or]
    simp only [BitVec.shiftLeft_eq', BitVec.toNat_shiftLeft, a1, a2]
    show (c.toBitVec.toNat % 256) <<< 0 % 2 ^ 32 ||| (c.toBitVec.toNat / 256) <<< 8 % 2 ^ 32 = _
    rw [Nat.shiftLeft_zero, Nat.mod_eq_of_lt (show c.toBitVec.toNat % 256 < 2 ^ 32 by omega), Nat.mod_eq_of_lt (show (c.toBitVec.toNat / 256) <<< 8 < 2 ^ 32 by rw [Nat.shiftLeft_eq]; omega), Nat.or_comm, ← Nat.shiftLeft_add_eq_or_of_lt (by omega), Nat.shiftLeft_eq]
    omega
  show BitVec.toNat (((((lo8 c &&& 255) <<< (0 : Int32)) ||| ((hi8 c &&& 255) <<< (8 : Int32))).toBitVec.setWidth 16).setWidth 32) = _
  rw [BitVec.toNat_setWidth, BitVec.toNat_setWidth, g]
  omega
end StrChars
namespace StrChars
open Jvm Sem ClassFile Op Lib Jvm.Stand Jvm.Free.XT Jvm.Free.ALB Jvm.Free.JM Jvm.Free
open Jvm.Lib.Cold (StaticIs)
theorem shr1 {n : Nat} (h : 2 * n < 2 ^ 31) : Int32.ofNat (2 * n) >>> ((1 : Int32) &&& 31) = Int32.ofNat n := by
  have e : ((1 : Int32) &&& 31) = 1 := by decide
  rw [e]
  apply Int32.toBitVec_inj.mp
  rw [Int32.toBitVec_shiftRight]
  have e1 : ((1 : Int32).toBitVec.smod 32) = 1#32 := by decide
  have hm : (BitVec.ofNat 32 (2 * n)).toNat = 2 * n := by rw [BitVec.toNat_ofNat, Nat.mod_eq_of_lt (by omega)]
  rw [e1, BitVec.sshiftRight_eq']
  apply BitVec.eq_of_toNat_eq
  show ((BitVec.ofNat 32 (2 * n)).sshiftRight 1).toNat = (BitVec.ofNat 32 n).toNat
  rw [BitVec.toNat_sshiftRight_of_msb_false (by rw [BitVec.msb_eq_false_iff_two_mul_lt, hm]; omega), hm, BitVec.toNat_ofNat, Nat.shiftRight_eq_div_pow]
  omega
/-- charAt's cast of a byte read back -/
def chr8 (u : Int32) : Int32 := (u &&& 255).toUInt32.toUInt16.toUInt32.toInt32
theorem chr8_lo8 {c : Int32} (h0 : ¬ c < 0) (h1 : ¬ 255 < c) : chr8 (lo8 c) = c := by
  have t : ∀ k : Fin 256, (Int32.ofNat k.val).toUInt32.toUInt16.toUInt32.toInt32 = Int32.ofNat k.val := by decide +kernel
  unfold chr8
  rw [lo8_mask h0 h1]
  rw [Int32.lt_iff_toInt_lt] at h0 h1
  have e0 : (0 : Int32).toInt = 0 := rfl
  have e1 : (255 : Int32).toInt = 255 := rfl
  obtain ⟨k, hk⟩ : ∃ k : Nat, c.toInt = k := ⟨c.toInt.toNat, by omega⟩
  have hx : c = Int32.ofNat k := Int32.toInt_inj.mp (by rw [hk, Int32.toInt_ofNat_small (by omega)])
  rw [hx]
  exact t ⟨k, by omega⟩
theorem narrow_ch {c : Int32} (h0 : ¬ c < 0) (h1 : ¬ 65535 < c) : narrow .char (.int c) = .int c := by
  have q : narrow .char (.int (pairCh (lo8 c) (hi8 c))) = .int (pairCh (lo8 c) (hi8 c)) := narrow_c _
  rwa [pair_says h0 h1] at q
/-- the array's cell V codes the n chars f 0 .. f (n - 1) by the coder cd, as the JDK does: coder 1 just where some char is above 255 -/
def Cod (cd : Int32) (n : Nat) (f : Nat → Int32) (V : Cell) : Prop := (cd = 0 ∧ V.slots.size = n ∧ ∀ j, j < n → V.slots[j]? = some (.int (lo8 (f j))) ∧ ¬ 255 < f j) ∨ (cd = 1 ∧ V.slots.size = 2 * n ∧ (∀ j, j < n → V.slots[2 * j]? = some (.int (lo8 (f j))) ∧ V.slots[2 * j + 1]? = some (.int (hi8 (f j)))) ∧ ∃ j, j < n ∧ 255 < f j)
theorem Cod.cd {cd : Int32} {n : Nat} {f : Nat → Int32} {V : Cell} (h : Cod cd n f V) : cd = 0 ∨ cd = 1 := h.imp (fun q => q.1) fun q => q.1
theorem Cod.len {cd : Int32} {n : Nat} {f : Nat → Int32} {V : Cell} (h : Cod cd n f V) (hs : V.slots.size < 2 ^ 31) : Int32.ofNat V.slots.size >>> (cd &&& 31) = Int32.ofNat n := by
  rcases h with ⟨rfl, h, -⟩ | ⟨rfl, h, -⟩
  · rw [shr0, h]
  · rw [h, shr1 (by omega)]
/-- **x is a String of the n chars f 0 .. f (n - 1)**, Latin-1 or UTF-16; its array at t has the cell V -/
def Txt (x t : Addr) (V : Cell) (cd : Int32) (n : Nat) (f : Nat → Int32) (U : State) : Prop := Exact "java/lang/String" x U ∧ Has x "java/lang/String" "value" "[B" (.ref t) U ∧ Has x "java/lang/String" "coder" "B" (.int cd) U ∧ XT.Arr .byte t V U ∧ Cod cd n f V ∧ ∀ j, j < n → ¬ f j < 0 ∧ ¬ 65535 < f j
theorem Txt.mv {x t : Addr} {V : Cell} {cd : Int32} {n : Nat} {f : Nat → Int32} {U U' : State} (h : Txt x t V cd n f U) (hal : U.vm.Alike U'.vm) (hh : U'.heap = U.heap) : Txt x t V cd n f U' := ⟨h.1.mv hal hh, h.2.1.mv hal hh, h.2.2.1.mv hal hh, h.2.2.2.1.mv hal hh, h.2.2.2.2⟩
namespace Cdr
def yN : MethodName := ⟨"java/lang/String", "coder", "()B"⟩
abbrev yB : ByteArray := jdk_42_method_152_code
theorem d0 : decode yB 0 = .ok (.getstatic 38, 3) := by decide +kernel
theorem d3 : decode yB 3 = .ok (.ifCond (.eq) 10, 3) := by decide +kernel
theorem d6 : decode yB 6 = .ok (.aload_n 0, 1) := by decide +kernel
theorem d7 : decode yB 7 = .ok (.getfield 15, 3) := by decide +kernel
theorem d10 : decode yB 10 = .ok (.goto 4, 3) := by decide +kernel
theorem d14 : decode yB 14 = .ok (.ireturn, 1) := by decide +kernel
def site : List Cond := [.fieldLink "java/lang/String" 38 "java/lang/String" "COMPACT_STRINGS" "Z", .fieldLink "java/lang/String" 15 "java/lang/String" "coder" "B"]
def tab : Cond := tabOf yN yB 1 (some .byte) site
def P (x : Addr) (cd z : Int32) (args : Array Value) (s : State) : Prop := args = #[.ref x] ∧ Has x "java/lang/String" "coder" "B" (.int cd) s ∧ (cd = 0 ∨ cd = 1) ∧ StaticIs s "java/lang/String" "COMPACT_STRINGS" "Z" (.int z) ∧ ¬ z = 0
def E (cd : Int32) (r : Option Value) (s u : State) : Prop := XT.PureE (some (.int cd)) r s u
theorem law (l : Launch) (x : Addr) (cd z : Int32) : Law l yN 1 0 0 0 yB 1 (some .byte) site (P x cd z) (E cd) [] 0 0 := by
  refine Law.of_walk (plainFor_of_name (by decide +kernel)) (by decide +kernel) (by decide +kernel) (by decide) (fun _ _ h => by rw [h.1]; rfl) (fun _ U U' hal hh h => ⟨h.1, h.2.1.mv hal hh, h.2.2.1, h.2.2.2.1.there hal hh, h.2.2.2.2⟩) (fun r U U' V V' h1 hal h2 h => XT.PureE.mv r U U' V V' h1 hal h2 h) ?_
  intro p e s m args below meth c s₁ X0 hexec hbytes hml hret hlk hnm hown hh0 W hP
  obtain ⟨rfl, hx, hc, s1, hz⟩ := hP
  have c1 : Steps p.tables e below (s₁.setTop (entryFrame m #[.ref x] 1)) (s₁.setTop (mkF m 0 #[.val (.ref x)] [])) := entry rfl
  obtain ⟨T2, X2, q2, st2⟩ := X0.sget hexec hown (wk W (.fieldLink "java/lang/String" 38 "java/lang/String" "COMPACT_STRINGS" "Z")) s1 (fun _ _ h => by rw [hh0]; exact h) (g := (mkF m 0 #[.val (.ref x)] [])) rfl (hb hbytes d0)
  have hh2 := q2.trans hh0
  have c3 : Steps p.tables e below (s₁.setTop (entryFrame m #[.ref x] 1)) (T2.setTop (mkF m 7 #[.val (.ref x)] [.ref x])) := (c1.trans (st2 _ (Steps.refl _))).trans (by
    refine XS.ifNo X2.here hexec rfl (hb hbytes d3) rfl (i0_eq_f hz) ?_
    refine XS.aloadN X2.here hexec rfl (hb hbytes d6) rfl rfl ?_
    exact Steps.refl _)
  obtain ⟨T4, X4, q4, st4⟩ := X2.hget hexec hown (wk W (.fieldLink "java/lang/String" 15 "java/lang/String" "coder" "B")) (hx.mv X2.warmed.alike hh2) (g := (mkF m 7 #[.val (.ref x)] [.ref x])) rfl (rest := []) rfl (hb hbytes d7)
  have c5 : Steps p.tables e below (s₁.setTop (entryFrame m #[.ref x] 1)) (T4.setTop (mkF m 14 #[.val (.ref x)] [.int cd])) := (c3.trans (st4 _ (Steps.refl _))).trans (by
    refine XS.goto X4.here hexec rfl (pc0 := 10) rfl (hb hbytes d10) (by decide) rfl ?_
    exact Steps.refl _)
  exact ⟨T4, some (.int cd), _, _, _, X4, rfl, rfl, rfl, (fun h => by cases h), ⟨rfl, q4.trans hh2⟩, fun fs hl => c5.trans (X4.ireturnOut hexec hret (by rcases hc with rfl | rfl <;> rfl) (Or.inr (Or.inr (Or.inl rfl))) (hb hbytes d14) hl)⟩
end Cdr
namespace Len
def yN : MethodName := ⟨"java/lang/String", "length", "()I"⟩
abbrev yB : ByteArray := jdk_42_method_54_code
theorem d0 : decode yB 0 = .ok (.aload_n 0, 1) := by decide +kernel
theorem d1 : decode yB 1 = .ok (.getfield 9, 3) := by decide +kernel
theorem d4 : decode yB 4 = .ok (.arraylength, 1) := by decide +kernel
theorem d5 : decode yB 5 = .ok (.aload_n 0, 1) := by decide +kernel
theorem d6 : decode yB 6 = .ok (.invokevirtual 335, 3) := by decide +kernel
theorem d9 : decode yB 9 = .ok (.ishr, 1) := by decide +kernel
theorem d10 : decode yB 10 = .ok (.ireturn, 1) := by decide +kernel
def site : List Cond := [.fieldLink "java/lang/String" 9 "java/lang/String" "value" "[B", Cdr.tab] ++ virtW "java/lang/String" 335 "java/lang/String" Cdr.yN Cdr.yN
def tab : Cond := tabOf yN yB 1 (some .int) site
def P (x t : Addr) (V : Cell) (cd : Int32) (n : Nat) (f : Nat → Int32) (z : Int32) (args : Array Value) (s : State) : Prop := args = #[.ref x] ∧ Txt x t V cd n f s ∧ StaticIs s "java/lang/String" "COMPACT_STRINGS" "Z" (.int z) ∧ ¬ z = 0
def E (n : Nat) (r : Option Value) (s u : State) : Prop := XT.PureE (some (.int (Int32.ofNat n))) r s u
/-- length() of a String of n chars, in either coding -/
theorem law (l : Launch) (x t : Addr) (V : Cell) (cd : Int32) (n : Nat) (f : Nat → Int32) (z : Int32) : Law l yN 1 0 1 13 yB 1 (some .int) site (P x t V cd n f z) (E n) [] 0 0 := by
  refine Law.of_walk (plainFor_of_name (by decide +kernel)) (by decide +kernel) (by decide +kernel) (by decide) (fun _ _ h => by rw [h.1]; rfl) (fun _ U U' hal hh h => ⟨h.1, h.2.1.mv hal hh, h.2.2.1.there hal hh, h.2.2.2⟩) (fun r U U' V V' h1 hal h2 h => XT.PureE.mv r U U' V V' h1 hal h2 h) ?_
  intro p e s m args below meth c s₁ X0 hexec hbytes hml hret hlk hnm hown hh0 W hP
  obtain ⟨rfl, hx, s1, hz⟩ := hP
  have v31 := hx.2.2.2.1.2.2.2
  have c1 : Steps p.tables e below (s₁.setTop (entryFrame m #[.ref x] 1)) (s₁.setTop (mkF m 1 #[.val (.ref x)] [.ref x])) := Steps.trans (entry rfl) (by
    show Steps p.tables e below (s₁.setTop (mkF m 0 #[.val (.ref x)] [])) _
    refine XS.aloadN X0.here hexec rfl (hb hbytes d0) rfl rfl ?_
    exact Steps.refl _)
  obtain ⟨T2, X2, q2, st2⟩ := X0.hget hexec hown (wk W (.fieldLink "java/lang/String" 9 "java/lang/String" "value" "[B")) (hx.mv X0.warmed.alike hh0).2.1 (g := (mkF m 1 #[.val (.ref x)] [.ref x])) rfl (rest := []) rfl (hb hbytes d1)
  have hh2 := q2.trans hh0
  have hx2 := hx.mv X2.warmed.alike hh2
  have c3 : Steps p.tables e below (s₁.setTop (entryFrame m #[.ref x] 1)) (T2.setTop (mkF m 6 #[.val (.ref x)] [.ref x, .int (Int32.ofNat V.slots.size)])) := (c1.trans (st2 _ (Steps.refl _))).trans (by
    refine X2.alen hexec hx2.2.2.2.1 rfl rfl (hb hbytes d4) ?_
    refine XS.aloadN X2.here hexec rfl (hb hbytes d5) rfl rfl ?_
    exact Steps.refl _)
  obtain ⟨v4, T4, X4, E4, g4⟩ := X2.callV hexec (Cdr.law l x cd z) hown (wks W (virtW "java/lang/String" 335 "java/lang/String" Cdr.yN Cdr.yN)) rfl (by decide) (wk W Cdr.tab) (W := 1) (Nat.le_of_ble_eq_true rfl) (Nat.le_of_ble_eq_true rfl) (Nat.le_refl _) (Nat.le_refl _) (hx2.1.fc X2.warmed.alike) hx2.1.is (g := (mkF m 6 #[.val (.ref x)] [.ref x, .int (Int32.ofNat V.slots.size)])) rfl (by rw [hml]; rfl) c3 (argsL := []) (rest := [.int (Int32.ofNat V.slots.size)]) rfl rfl (by show 2 * 0 + (1 + 0) ≤ _; decide) (hb hbytes d6) (⟨rfl, hx2.2.2.1, hx.2.2.2.2.1.cd, s1.there X2.warmed.alike hh2, hz⟩)
  obtain ⟨rfl, q4⟩ := E4
  have c5 : Steps p.tables e below (s₁.setTop (entryFrame m #[.ref x] 1)) (T4.setTop (mkF m 10 #[.val (.ref x)] [.int (Int32.ofNat V.slots.size >>> (cd &&& 31))])) := Steps.trans g4 (by
    refine ishr X4.here hexec rfl (hb hbytes d9) rfl ?_
    exact Steps.refl _)
  rw [hx.2.2.2.2.1.len v31] at c5
  exact ⟨T4, some (.int (Int32.ofNat n)), _, _, _, X4, rfl, rfl, rfl, (fun h => by cases h), ⟨rfl, q4.trans hh2⟩, fun fs hl => c5.trans (X4.ireturnOut hexec hret rfl (Or.inl rfl) (hb hbytes d10) hl)⟩
theorem pays {l : Launch} {R : Room} {p : Program} {e : Env} {below : List Frame} {s : State} {sargs : Array Value} {len W : Nat} (x t : Addr) (V : Cell) (cd : Int32) (n : Nat) (f : Nat → Int32) (z : Int32) (htab : tab.before sargs s = true) (hfr : 2 ≤ R.frames) (hlo : W + 25 ≤ R.locals) :
    Back l R p e below s sargs yN len W (fun A₁ a₁ => A₁.cells + 0 ≤ R.cells ∧ A₁.slots + 0 ≤ R.slots ∧ P x t V cd n f z a₁ A₁.U) (fun A₁ _ v₁ B₁ => E n v₁ A₁.U B₁.U ∧ B₁.locs = A₁.locs ++ [] ∧ B₁.cells = A₁.cells + 0 ∧ B₁.slots = A₁.slots + 0) :=
  (law l x t V cd n f z).pays htab hfr (by omega)
end Len
namespace IsL
def yN : MethodName := ⟨"java/lang/String", "isLatin1", "()Z"⟩
abbrev yB : ByteArray := jdk_42_method_154_code
theorem d0 : decode yB 0 = .ok (.getstatic 38, 3) := by decide +kernel
theorem d3 : decode yB 3 = .ok (.ifCond (.eq) 14, 3) := by decide +kernel
theorem d6 : decode yB 6 = .ok (.aload_n 0, 1) := by decide +kernel
theorem d7 : decode yB 7 = .ok (.getfield 15, 3) := by decide +kernel
theorem d10 : decode yB 10 = .ok (.ifCond (.ne) 7, 3) := by decide +kernel
theorem d13 : decode yB 13 = .ok (.iconst 1, 1) := by decide +kernel
theorem d14 : decode yB 14 = .ok (.goto 4, 3) := by decide +kernel
theorem d17 : decode yB 17 = .ok (.iconst 0, 1) := by decide +kernel
theorem d18 : decode yB 18 = .ok (.ireturn, 1) := by decide +kernel
def site : List Cond := [.fieldLink "java/lang/String" 38 "java/lang/String" "COMPACT_STRINGS" "Z", .fieldLink "java/lang/String" 15 "java/lang/String" "coder" "B"]
def tab : Cond := tabOf yN yB 1 (some .boolean) site
def P (x : Addr) (cd z : Int32) (args : Array Value) (s : State) : Prop := args = #[.ref x] ∧ Has x "java/lang/String" "coder" "B" (.int cd) s ∧ (cd = 0 ∨ cd = 1) ∧ StaticIs s "java/lang/String" "COMPACT_STRINGS" "Z" (.int z) ∧ ¬ z = 0
def E (cd : Int32) (r : Option Value) (s u : State) : Prop := XT.PureE (some (.int (1 - cd))) r s u
theorem law (l : Launch) (x : Addr) (cd z : Int32) : Law l yN 1 0 0 0 yB 1 (some .boolean) site (P x cd z) (E cd) [] 0 0 := by
  refine Law.of_walk (plainFor_of_name (by decide +kernel)) (by decide +kernel) (by decide +kernel) (by decide) (fun _ _ h => by rw [h.1]; rfl) (fun _ U U' hal hh h => ⟨h.1, h.2.1.mv hal hh, h.2.2.1, h.2.2.2.1.there hal hh, h.2.2.2.2⟩) (fun r U U' V V' h1 hal h2 h => XT.PureE.mv r U U' V V' h1 hal h2 h) ?_
  intro p e s m args below meth c s₁ X0 hexec hbytes hml hret hlk hnm hown hh0 W hP
  obtain ⟨rfl, hx, hc, s1, hz⟩ := hP
  have c1 : Steps p.tables e below (s₁.setTop (entryFrame m #[.ref x] 1)) (s₁.setTop (mkF m 0 #[.val (.ref x)] [])) := entry rfl
  obtain ⟨T2, X2, q2, st2⟩ := X0.sget hexec hown (wk W (.fieldLink "java/lang/String" 38 "java/lang/String" "COMPACT_STRINGS" "Z")) s1 (fun _ _ h => by rw [hh0]; exact h) (g := (mkF m 0 #[.val (.ref x)] [])) rfl (hb hbytes d0)
  have hh2 := q2.trans hh0
  have c3 : Steps p.tables e below (s₁.setTop (entryFrame m #[.ref x] 1)) (T2.setTop (mkF m 7 #[.val (.ref x)] [.ref x])) := (c1.trans (st2 _ (Steps.refl _))).trans (by
    refine XS.ifNo X2.here hexec rfl (hb hbytes d3) rfl (i0_eq_f hz) ?_
    refine XS.aloadN X2.here hexec rfl (hb hbytes d6) rfl rfl ?_
    exact Steps.refl _)
  obtain ⟨T4, X4, q4, st4⟩ := X2.hget hexec hown (wk W (.fieldLink "java/lang/String" 15 "java/lang/String" "coder" "B")) (hx.mv X2.warmed.alike hh2) (g := (mkF m 7 #[.val (.ref x)] [.ref x])) rfl (rest := []) rfl (hb hbytes d7)
  have c5 : Steps p.tables e below (s₁.setTop (entryFrame m #[.ref x] 1)) (T4.setTop (mkF m 10 #[.val (.ref x)] [.int cd])) := c3.trans (st4 _ (Steps.refl _))
  have c6 : Steps p.tables e below (s₁.setTop (entryFrame m #[.ref x] 1)) (T4.setTop (mkF m 18 #[.val (.ref x)] [.int (1 - cd)])) := by
    rcases hc with rfl | rfl
    · exact c5.trans (by
        refine XS.ifNo X4.here hexec rfl (hb hbytes d10) rfl (i0_ne_f rfl) ?_
        refine iconstV X4.here hexec rfl 1 (hb hbytes d13) (by decide) ?_
        refine XS.goto X4.here hexec rfl (pc0 := 14) rfl (hb hbytes d14) (by decide) rfl ?_
        exact Steps.refl _)
    · exact c5.trans (by
        refine XS.ifYes X4.here hexec rfl (pc0 := 10) rfl (hb hbytes d10) rfl (i0_ne_t (by decide)) (by decide) rfl ?_
        refine iconstV X4.here hexec rfl 0 (hb hbytes d17) (by decide) ?_
        exact Steps.refl _)
  exact ⟨T4, some (.int (1 - cd)), _, _, _, X4, rfl, rfl, rfl, (fun h => by cases h), ⟨rfl, q4.trans hh2⟩, fun fs hl => c6.trans (X4.ireturnOut hexec hret (by rcases hc with rfl | rfl <;> rfl) (Or.inr (Or.inl rfl)) (hb hbytes d18) hl)⟩
end IsL
namespace LChA
def yN : MethodName := ⟨"java/lang/StringLatin1", "charAt", "([BI)C"⟩
abbrev yB : ByteArray := jdk_43_method_2_code
theorem d0 : decode yB 0 = .ok (.iload_n 1, 1) := by decide +kernel
theorem d1 : decode yB 1 = .ok (.aload_n 0, 1) := by decide +kernel
theorem d2 : decode yB 2 = .ok (.arraylength, 1) := by decide +kernel
theorem d3 : decode yB 3 = .ok (.invokestatic 9, 3) := by decide +kernel
theorem d6 : decode yB 6 = .ok (.aload_n 0, 1) := by decide +kernel
theorem d7 : decode yB 7 = .ok (.iload_n 1, 1) := by decide +kernel
theorem d8 : decode yB 8 = .ok (.baload, 1) := by decide +kernel
theorem d9 : decode yB 9 = .ok (.sipush 255, 3) := by decide +kernel
theorem d12 : decode yB 12 = .ok (.iand, 1) := by decide +kernel
theorem d13 : decode yB 13 = .ok (.i2c, 1) := by decide +kernel
theorem d14 : decode yB 14 = .ok (.ireturn, 1) := by decide +kernel
def site : List Cond := [JO.Str_checkIndex.tab] ++ staticW "java/lang/StringLatin1" 9 JO.Str_checkIndex.yN
def tab : Cond := tabOf yN yB 2 (some .char) site
def P (t : Addr) (V : Cell) (i : Nat) (u : Int32) (fm : Value) (args : Array Value) (s : State) : Prop := args = #[.ref t, .int (Int32.ofNat i)] ∧ XT.Arr .byte t V s ∧ V.slots[i]? = some (.int u) ∧ (StaticIs s "jdk/internal/util/Preconditions" "SIOOBE_FORMATTER" "Ljava/util/function/BiFunction;" fm ∧ fm.isRef = true)
def E (u : Int32) (r : Option Value) (s w : State) : Prop := XT.PureE (some (.int (chr8 u))) r s w
theorem law (l : Launch) (t : Addr) (V : Cell) (i : Nat) (u : Int32) (fm : Value) : Law l yN 2 2 2 27 yB 2 (some .char) site (P t V i u fm) (E u) [] 0 0 := by
  refine Law.of_walk (plainFor_of_name (by decide +kernel)) (by decide +kernel) (by decide +kernel) (by decide) (fun _ _ h => by rw [h.1]; rfl) (fun _ U U' hal hh h => ⟨h.1, h.2.1.mv hal hh, h.2.2.1, h.2.2.2.1.there hal hh, h.2.2.2.2⟩) (fun r U U' V V' h1 hal h2 h => XT.PureE.mv r U U' V V' h1 hal h2 h) ?_
  intro p e s m args below meth c s₁ X0 hexec hbytes hml hret hlk hnm hown hh0 W hP
  obtain ⟨rfl, hV, hu, s1, rf⟩ := hP
  have v31 := hV.2.2.2
  have hi : i < V.slots.size := (Array.getElem?_eq_some_iff.mp hu).1
  have c1 : Steps p.tables e below (s₁.setTop (entryFrame m #[.ref t, .int (Int32.ofNat i)] 2)) (s₁.setTop (mkF m 0 #[.val (.ref t), .val (.int (Int32.ofNat i))] [])) := entry rfl
  have c2 : Steps p.tables e below (s₁.setTop (entryFrame m #[.ref t, .int (Int32.ofNat i)] 2)) (s₁.setTop (mkF m 3 #[.val (.ref t), .val (.int (Int32.ofNat i))] [.int (Int32.ofNat V.slots.size), .int (Int32.ofNat i)])) := c1.trans (by
    refine XS.iloadN X0.here hexec rfl (hb hbytes d0) rfl ?_
    refine XS.aloadN X0.here hexec rfl (hb hbytes d1) rfl rfl ?_
    refine X0.alen hexec (hV.mv X0.warmed.alike hh0) rfl rfl (hb hbytes d2) ?_
    exact Steps.refl _)
  obtain ⟨v3, T3, X3, E3, g3⟩ := X0.callS hexec (JO.Str_checkIndex.law l (Int32.ofNat i) (Int32.ofNat V.slots.size) fm) hown (wks W (staticW "java/lang/StringLatin1" 9 JO.Str_checkIndex.yN)) (wk W JO.Str_checkIndex.tab) (W := 0) (Nat.le_of_ble_eq_true rfl) (Nat.le_of_ble_eq_true rfl) (Nat.le_refl _) (Nat.le_refl _) (g := (mkF m 3 #[.val (.ref t), .val (.int (Int32.ofNat i))] [.int (Int32.ofNat V.slots.size), .int (Int32.ofNat i)])) rfl (by rw [hml]; rfl) c2 (argsL := [.int (Int32.ofNat i), .int (Int32.ofNat V.slots.size)]) (rest := []) rfl rfl (by show 2 * 0 + 0 ≤ _; decide) (hb hbytes d3) (⟨rfl, rf, s1.there X0.warmed.alike hh0, Int32.ofNat_not_neg (by omega), lt32 v31 hi⟩)
  obtain ⟨rfl, q3⟩ := E3
  have hh3 := q3.trans hh0
  have c4 : Steps p.tables e below (s₁.setTop (entryFrame m #[.ref t, .int (Int32.ofNat i)] 2)) (T3.setTop (mkF m 14 #[.val (.ref t), .val (.int (Int32.ofNat i))] [.int (chr8 u)])) := Steps.trans g3 (by
    refine XS.aloadN X3.here hexec rfl (hb hbytes d6) rfl rfl ?_
    refine XS.iloadN X3.here hexec rfl (hb hbytes d7) rfl ?_
    refine X3.aget hexec (hV.mv X3.warmed.alike hh3) rfl hu rfl rfl (hb hbytes d8) ?_
    refine sipushV X3.here hexec rfl 255 (hb hbytes d9) (by decide) ?_
    refine XS.iand X3.here hexec rfl (hb hbytes d12) rfl ?_
    refine i2c X3.here hexec rfl (hb hbytes d13) rfl ?_
    exact Steps.refl _)
  exact ⟨T3, some (.int (chr8 u)), _, _, _, X3, rfl, rfl, rfl, (fun h => by cases h), ⟨rfl, hh3⟩, fun fs hl => c4.trans (X3.ireturnOut hexec hret (narrow_c _) (Or.inr (Or.inr (Or.inr (Or.inl rfl)))) (hb hbytes d14) hl)⟩
end LChA
end StrChars
namespace StrChars.Road
open Jvm Sem ClassFile Op Lib Jvm.Stand Jvm.Free Jvm.Free.XT
open Jvm.Lib.Cold (StaticIs)
theorem consq {a : Array Value} {s : State} {c : Jvm.Cond} {L : List Jvm.Cond} (h0 : c.before a s = true) (h : ∀ w ∈ L, w.before a s = true) : ∀ w ∈ c :: L, w.before a s = true := fun w hw => (List.mem_cons.mp hw).elim (fun e => e ▸ h0) (h w)
/-- the words of String.length(), either coding -/
abbrev wordsLen : List Jvm.Cond := [.code Len.yN Len.yB 1 (some .int), .initialized ST, .fieldLink ST 9 ST "value" "[B", .fieldLink ST 38 ST "COMPACT_STRINGS" "Z", .fieldLink ST 15 ST "coder" "B", .code Cdr.yN Cdr.yB 1 (some .byte), .methodLink ST 335 Cdr.yN, .declares Cdr.yN, .selects ST Cdr.yN Cdr.yN, .instanceMethod Cdr.yN]
theorem tabLen_of {a : Array Value} {s : State} (h : ∀ w ∈ wordsLen, w.before a s = true) : Len.tab.before a s = true := by
  have hc : Cdr.tab.before a s = true := unparts (wk h (.code Cdr.yN Cdr.yB 1 (some .byte))) (wks h (.initialized Cdr.yN.cls :: Cdr.site))
  have q := consq hc h
  exact unparts (wk q (.code Len.yN Len.yB 1 (some .int))) (wks q (.initialized Len.yN.cls :: Len.site))
theorem movedLen {Z s : State} {a0 args : Array Value} (hZ : Z.Warmed39 s.vm) (hw : ∀ d ∈ wordsLen, d.before a0 Z = true) : ∀ d ∈ wordsLen, d.before args s = true := fun d hd => by
  have q := hw d hd
  have t : ∀ d ∈ wordsLen, d = .arrayClass .byte ∨ (d.onTables && d.keepsFace) = true := by decide +kernel
  rcases t d hd with rfl | t
  · exact RoadKit.mvA hZ q
  · exact RoadKit.mv hZ q t
/-- the bytes of the chars cs, low before high -/
def wideBytes : List Int32 → List Value
  | [] => []
  | c :: cs => .int (lo8 c) :: .int (hi8 c) :: wideBytes cs
theorem wide_lo (d : Value) : ∀ (cs : List Int32) (j : Nat), j < cs.length → (wideBytes cs).getD (2 * j) d = .int (lo8 (cs.getD j 0))
  | [], j, h => absurd h (Nat.not_lt_zero j)
  | c :: cs, 0, _ => rfl
  | c :: cs, j + 1, h => by
    have q := wide_lo d cs j (by simpa using h)
    rw [show 2 * (j + 1) = 2 * j + 1 + 1 from by omega]
    simpa [wideBytes] using q
theorem wide_hi (d : Value) : ∀ (cs : List Int32) (j : Nat), j < cs.length → (wideBytes cs).getD (2 * j + 1) d = .int (hi8 (cs.getD j 0))
  | [], j, h => absurd h (Nat.not_lt_zero j)
  | c :: cs, 0, _ => rfl
  | c :: cs, j + 1, h => by
    have q := wide_hi d cs j (by simpa using h)
    rw [show 2 * (j + 1) + 1 = 2 * j + 1 + 1 + 1 from by omega]
    simpa [wideBytes] using q
theorem low_at (d : Value) (cs : List Int32) (j : Nat) (h : j < cs.length) : (cs.map fun c => Value.int (lo8 c)).getD j d = .int (lo8 (cs.getD j 0)) := by
  simp [List.getD_eq_getElem?_getD, h]
/-- an array of N2 bytes vs codes the chars cs by the coder cd -/
def CodA (cs : List Int32) (cd N2 : Int32) (vs : List Value) : Prop := (cd = 0 ∧ N2 = Int32.ofNat cs.length ∧ vs = (cs.map fun c => Value.int (lo8 c)) ∧ ∀ c ∈ cs, ¬ 255 < c) ∨ (cd = 1 ∧ N2 = Int32.ofNat (2 * cs.length) ∧ vs = wideBytes cs ∧ ∃ c ∈ cs, 255 < c)
theorem CodA.cod {cs : List Int32} {cd N2 : Int32} {vs : List Value} {V : Cell} (h : CodA cs cd N2 vs) (hn : 2 * cs.length < 2 ^ 31) (hs : V.slots.size = N2.toNatClampNeg) (hv : RoadKit.Has V vs (.int 0)) : Cod cd cs.length (fun j => cs.getD j 0) V := by
  rcases h with ⟨rfl, rfl, rfl, h⟩ | ⟨rfl, rfl, rfl, c, hc, hw⟩
  · rw [n32 (by omega)] at hs
    exact Or.inl ⟨rfl, hs, fun j hj => ⟨by rw [hv j (by omega), low_at _ _ _ hj], by
      have e : cs.getD j 0 = cs[j] := by simp [List.getD_eq_getElem?_getD, hj]
      show ¬ 255 < cs.getD j 0
      rw [e]; exact h _ (List.getElem_mem _)⟩⟩
  · rw [n32 (by omega)] at hs
    obtain ⟨j, hj, rfl⟩ := List.getElem_of_mem hc
    exact Or.inr ⟨rfl, hs, fun j hj => ⟨by rw [hv _ (by omega), wide_lo _ _ _ hj], by rw [hv _ (by omega), wide_hi _ _ _ hj]⟩, j, hj, by
      have e : cs.getD j 0 = cs[j] := by simp [List.getD_eq_getElem?_getD, hj]
      show 255 < cs.getD j 0
      rw [e]; exact hw⟩
/-- an object of exactly java/lang/String, its two fields found: as the laws ask it -/
theorem strObj {Z U : State} {a0 : Array Value} {kI : Nat} (wi : (Jvm.Cond.instantiable ST kI).before a0 Z = true) (al : Z.vm.Alike U.vm) {x : Addr} {v0 c0 : Value} (E : RoadKit.Exa Z U.heap x ST) (V : RoadKit.Fld Z U.heap x ST "value" "[B" v0) (C : RoadKit.Fld Z U.heap x ST "coder" "B" c0) :
    ∃ (D : Cell) (fV fC : Field), Blank ST x D U ∧ Found ST "value" "[B" fV U ∧ Found ST "coder" "B" fC U ∧ D.slots[fV.slot]? = some v0 ∧ D.slots[fC.slot]? = some c0 ∧ RoadKit.slotOf Z ST "value" "[B" = fV.slot ∧ RoadKit.slotOf Z ST "coder" "B" = fC.slot := by
  obtain ⟨D, cfV, kV, iV, fV, hD, gV, stV, knV, obV, asV, slV⟩ := V
  obtain ⟨D', cfC, kC, iC, fC, hD', gC, stC, -, -, asC, slC⟩ := C
  cases hD.symm.trans hD'
  obtain ⟨D2, kD, e1, e2, e3, e4, e5⟩ := E
  cases hD.symm.trans e1
  obtain ⟨c2, k2, i1, i2, i3, -⟩ := Cond.instantiable_spec wi
  cases e2.symm.trans i1
  cases e3.symm.trans i2
  obtain ⟨kU, u1, u2⟩ := al.2.2 _ _ e3
  exact ⟨D, fV, fC, ⟨hD, ⟨knV, fun q hq => by rw [hq] at obV; cases obV⟩, by rw [al.findClass]; exact e2, kU, u1, by rw [u2]; exact i3, by rw [u2]; exact e5 i3⟩, ⟨SBG.found_only al ⟨cfV, kV, iV, gV⟩, stV⟩, ⟨SBG.found_only al ⟨cfC, kC, iC, gC⟩, stC⟩, slV, slC, by simp [RoadKit.slotOf, gV], by simp [RoadKit.slotOf, gC]⟩
theorem sta_is {Z U : State} (al : Z.vm.Alike U.vm) {C n d : String} {v : Value} (S : RoadKit.Sta Z U.heap C n d v) : StaticIs U C n d v := by
  obtain ⟨cfS, iS, kS, fS, st, cS, t1, t2, t3, t4, t5, t6, t7⟩ := S
  exact StaticIs.there (s := { Z with heap := U.heap }) ⟨cfS, iS, kS, fS, st, cS, t1, t2, t3, t4, t5, (fun q => by rw [q] at t6; cases t6), t7⟩ al rfl
/-- **length() OF SUCH A STRING** -/
theorem lenW {p : Program} {l : Launch} {e : Env} {R : Room} {s : State} {args : Array Value} {below : List Frame} {len W : Nat} {Z : State} {a0 : Array Value} {h : Heap} (hZ : Z.Warmed39 s.vm) (hw : ∀ d ∈ wordsLen, d.before a0 Z = true) {kI : Nat} (wi : (Jvm.Cond.instantiable ST kI).before a0 Z = true)
    {x t : Addr} {kb : ClassId} {cs : List Int32} {cd N2 z : Int32} {vs : List Value} (E : RoadKit.Exa Z h x ST) (V : RoadKit.Fld Z h x ST "value" "[B" (.ref t)) (C : RoadKit.Fld Z h x ST "coder" "B" (.int cd)) (K : RoadKit.Arv Z h t kb .byte N2 vs (.int 0)) (hc : CodA cs cd N2 vs) (hb : ∀ c ∈ cs, ¬ c < 0 ∧ ¬ (65535 : Int32) < c)
    (S : RoadKit.Sta Z h ST "COMPACT_STRINGS" "Z" (.int z)) (hz : ¬ z = 0) (l2 : cs.length ≤ 4000) (hfr : 2 ≤ R.frames) (hlo : W + 25 ≤ R.locals) :
    Back l R p e below s args (⟨"java/lang/String", "length", "()I"⟩ : MethodName) len W (fun P a => a = #[.ref x] ∧ P.U.heap = h ∧ P.cells + 0 ≤ R.cells ∧ P.slots + 0 ≤ R.slots)
      (fun P _ v B => ∃ L, (v = some (.int (Int32.ofNat cs.length)) ∧ L = [] ∧ B.U.heap = h) ∧ B.locs = P.locs ++ L ∧ B.cells = P.cells + 0 ∧ B.slots = P.slots + 0) := by
  obtain ⟨A, K1, K2, K3, K4, K5, K6⟩ := K
  have hcod := hc.cod (by omega) K3 K5
  intro m meth c P g ig mk a X hg hsize hdg hW hn hp'
  obtain ⟨rfl, rfl, r1, r2⟩ := hp'
  have al : Z.vm.Alike P.U.vm := hZ.alike.trans X.warmed.alike
  obtain ⟨D, fV, fC, hB, F1, F2, g1, g2, -, -⟩ := strObj wi al E V C
  have hx : Txt x t A cd cs.length (fun j => cs.getD j 0) P.U := ⟨⟨_, hB.2.2.1, D, hB.1, rfl, by cases q : D.vm <;> first | rfl | exact absurd q (hB.2.1.2 _)⟩, Has.of hB F1 g1, Has.of hB F2 g2, ⟨K1.1, State.isArrayOf_alike al K1.2.1, K1.2.2, by rcases hcod with ⟨-, q, -⟩ | ⟨-, q, -⟩ <;> omega⟩, hcod, fun j hj => by
    have e : cs.getD j 0 = cs[j] := by simp [List.getD_eq_getElem?_getD, hj]
    show ¬ cs.getD j 0 < 0 ∧ ¬ 65535 < cs.getD j 0
    rw [e]; exact hb _ (List.getElem_mem _)⟩
  obtain ⟨v, B, X', ⟨⟨hv, hh⟩, hl, hk, hs⟩, st⟩ := Len.pays x t A cd cs.length (fun j => cs.getD j 0) z (tabLen_of (movedLen hZ hw)) hfr hlo m meth c P g ig mk _ X hg hsize hdg hW hn ⟨r1, r2, rfl, hx, sta_is al S, hz⟩
  exact ⟨v, B, X', ⟨[], ⟨hv, rfl, hh⟩, hl, hk, hs⟩, st⟩
end StrChars.Road
namespace StrChars.Road
open Jvm Sem ClassFile Op Lib Jvm.Stand Jvm.Free Jvm.Free.XT
open Jvm.Lib.Cold (StaticIs)
/-- the road's facts of a String, as the laws ask it -/
theorem txt_of {Z U : State} {a0 : Array Value} {kI : Nat} (wi : (Jvm.Cond.instantiable ST kI).before a0 Z = true) (al : Z.vm.Alike U.vm) {x t : Addr} {kb : ClassId} {cs : List Int32} {cd N2 : Int32} {vs : List Value} (E : RoadKit.Exa Z U.heap x ST) (V : RoadKit.Fld Z U.heap x ST "value" "[B" (.ref t)) (C : RoadKit.Fld Z U.heap x ST "coder" "B" (.int cd)) (K : RoadKit.Arv Z U.heap t kb .byte N2 vs (.int 0)) (hc : CodA cs cd N2 vs) (hb : ∀ c ∈ cs, ¬ c < 0 ∧ ¬ (65535 : Int32) < c) (l2 : cs.length ≤ 4000) :
    ∃ A, Txt x t A cd cs.length (fun j => cs.getD j 0) U := by
  obtain ⟨A, K1, K2, K3, K4, K5, K6⟩ := K
  have hcod := hc.cod (by omega) K3 K5
  obtain ⟨D, fV, fC, hB, F1, F2, g1, g2, -, -⟩ := strObj wi al E V C
  exact ⟨A, ⟨_, hB.2.2.1, D, hB.1, rfl, by cases q : D.vm <;> first | rfl | exact absurd q (hB.2.1.2 _)⟩, Has.of hB F1 g1, Has.of hB F2 g2, ⟨K1.1, State.isArrayOf_alike al K1.2.1, K1.2.2, by rcases hcod with ⟨-, q, -⟩ | ⟨-, q, -⟩ <;> omega⟩, hcod, fun j hj => by
    have e : cs.getD j 0 = cs[j] := by simp [List.getD_eq_getElem?_getD, hj]
    show ¬ cs.getD j 0 < 0 ∧ ¬ 65535 < cs.getD j 0
    rw [e]; exact hb _ (List.getElem_mem _)⟩
end StrChars.Road
namespace StrChars
open Jvm Sem ClassFile Op Lib Jvm.Stand Jvm.Free.XT Jvm.Free.ALB Jvm.Free.JM Jvm.Free
open Jvm.Lib.Cold (StaticIs)
namespace ChN
def yN : MethodName := ⟨"java/lang/String", "charAt", "(I)C"⟩
abbrev yB : ByteArray := jdk_42_method_56_code
theorem d0 : decode yB 0 = .ok (.aload_n 0, 1) := by decide +kernel
theorem d1 : decode yB 1 = .ok (.invokevirtual 492, 3) := by decide +kernel
theorem d4 : decode yB 4 = .ok (.ifCond (.eq) 12, 3) := by decide +kernel
theorem d7 : decode yB 7 = .ok (.aload_n 0, 1) := by decide +kernel
theorem d8 : decode yB 8 = .ok (.getfield 9, 3) := by decide +kernel
theorem d11 : decode yB 11 = .ok (.iload_n 1, 1) := by decide +kernel
theorem d12 : decode yB 12 = .ok (.invokestatic 495, 3) := by decide +kernel
theorem d15 : decode yB 15 = .ok (.ireturn, 1) := by decide +kernel
def site : List Cond := [.fieldLink "java/lang/String" 9 "java/lang/String" "value" "[B", IsL.tab, LChA.tab] ++ virtW "java/lang/String" 492 "java/lang/String" IsL.yN IsL.yN ++ staticW "java/lang/String" 495 LChA.yN
def tab : Cond := tabOf yN yB 2 (some .char) site
def P (x t : Addr) (V : Cell) (n : Nat) (f : Nat → Int32) (z : Int32) (fm : Value) (i : Nat) (args : Array Value) (s : State) : Prop := args = #[.ref x, .int (Int32.ofNat i)] ∧ Txt x t V 0 n f s ∧ i < n ∧ StaticIs s "java/lang/String" "COMPACT_STRINGS" "Z" (.int z) ∧ ¬ z = 0 ∧ StaticIs s "jdk/internal/util/Preconditions" "SIOOBE_FORMATTER" "Ljava/util/function/BiFunction;" fm ∧ fm.isRef = true
def E (f : Nat → Int32) (i : Nat) (r : Option Value) (s u : State) : Prop := XT.PureE (some (.int (f i))) r s u
/-- charAt(i) of a Latin-1 String of n chars, i < n: f i -/
theorem law (l : Launch) (x t : Addr) (V : Cell) (n : Nat) (f : Nat → Int32) (z : Int32) (fm : Value) (i : Nat) : Law l yN 2 1 3 40 yB 2 (some .char) site (P x t V n f z fm i) (E f i) [] 0 0 := by
  refine Law.of_walk (plainFor_of_name (by decide +kernel)) (by decide +kernel) (by decide +kernel) (by decide) (fun _ _ h => by rw [h.1]; rfl) (fun _ U U' hal hh h => ⟨h.1, h.2.1.mv hal hh, h.2.2.1, h.2.2.2.1.there hal hh, h.2.2.2.2.1, h.2.2.2.2.2.1.there hal hh, h.2.2.2.2.2.2⟩) (fun r U U' V V' h1 hal h2 h => XT.PureE.mv r U U' V V' h1 hal h2 h) ?_
  intro p e s m args below meth c s₁ X0 hexec hbytes hml hret hlk hnm hown hh0 W hP
  obtain ⟨rfl, hx, hi, s1, hz, s3, rf⟩ := hP
  have v31 := hx.2.2.2.1.2.2.2
  have hr := hx.2.2.2.2.2 i hi
  have hx0 := hx.mv X0.warmed.alike hh0
  have c1 : Steps p.tables e below (s₁.setTop (entryFrame m #[.ref x, .int (Int32.ofNat i)] 2)) (s₁.setTop (mkF m 1 #[.val (.ref x), .val (.int (Int32.ofNat i))] [.ref x])) := Steps.trans (entry rfl) (by
    show Steps p.tables e below (s₁.setTop (mkF m 0 #[.val (.ref x), .val (.int (Int32.ofNat i))] [])) _
    refine XS.aloadN X0.here hexec rfl (hb hbytes d0) rfl rfl ?_
    exact Steps.refl _)
  obtain ⟨v2, T2, X2, E2, g2⟩ := X0.callV hexec (IsL.law l x 0 z) hown (wks W (virtW "java/lang/String" 492 "java/lang/String" IsL.yN IsL.yN)) rfl (by decide) (wk W IsL.tab) (W := 0) (Nat.le_of_ble_eq_true rfl) (Nat.le_of_ble_eq_true rfl) (Nat.le_refl _) (Nat.le_refl _) (hx0.1.fc X0.warmed.alike) hx0.1.is (g := (mkF m 1 #[.val (.ref x), .val (.int (Int32.ofNat i))] [.ref x])) rfl (by rw [hml]; rfl) c1 (argsL := []) (rest := []) rfl rfl (by show 2 * 0 + 0 ≤ _; decide) (hb hbytes d1) (⟨rfl, hx0.2.2.1, hx.2.2.2.2.1.cd, s1.there X0.warmed.alike hh0, hz⟩)
  obtain ⟨rfl, q2⟩ := E2
  have hh2 := q2.trans hh0
  have hx2 := hx.mv X2.warmed.alike hh2
  obtain ⟨-, k1, k2⟩ | ⟨k0, -⟩ := hx.2.2.2.2.1
  · have c3 : Steps p.tables e below (s₁.setTop (entryFrame m #[.ref x, .int (Int32.ofNat i)] 2)) (T2.setTop (mkF m 8 #[.val (.ref x), .val (.int (Int32.ofNat i))] [.ref x])) := Steps.trans g2 (by
      refine XS.ifNo X2.here hexec rfl (hb hbytes d4) rfl (i0_eq_f (by decide)) ?_
      refine XS.aloadN X2.here hexec rfl (hb hbytes d7) rfl rfl ?_
      exact Steps.refl _)
    obtain ⟨T4, X4, q4, st4⟩ := X2.hget hexec hown (wk W (.fieldLink "java/lang/String" 9 "java/lang/String" "value" "[B")) hx2.2.1 (g := (mkF m 8 #[.val (.ref x), .val (.int (Int32.ofNat i))] [.ref x])) rfl (rest := []) rfl (hb hbytes d8)
    have hh4 := q4.trans hh2
    have c5 : Steps p.tables e below (s₁.setTop (entryFrame m #[.ref x, .int (Int32.ofNat i)] 2)) (T4.setTop (mkF m 12 #[.val (.ref x), .val (.int (Int32.ofNat i))] [.int (Int32.ofNat i), .ref t])) := (c3.trans (st4 _ (Steps.refl _))).trans (by
      refine XS.iloadN X4.here hexec rfl (hb hbytes d11) rfl ?_
      exact Steps.refl _)
    obtain ⟨v6, T6, X6, E6, g6⟩ := X4.callS hexec (LChA.law l t V i (lo8 (f i)) fm) hown (wks W (staticW "java/lang/String" 495 LChA.yN)) (wk W LChA.tab) (W := 0) (Nat.le_of_ble_eq_true rfl) (Nat.le_of_ble_eq_true rfl) (Nat.le_refl _) (Nat.le_refl _) (g := (mkF m 12 #[.val (.ref x), .val (.int (Int32.ofNat i))] [.int (Int32.ofNat i), .ref t])) rfl (by rw [hml]; rfl) c5 (argsL := [.ref t, .int (Int32.ofNat i)]) (rest := []) rfl rfl (by show 2 * 0 + 0 ≤ _; decide) (hb hbytes d12) (⟨rfl, hx.2.2.2.1.mv X4.warmed.alike hh4, (k2 i hi).1, s3.there X4.warmed.alike hh4, rf⟩)
    obtain ⟨rfl, q6⟩ := E6
    rw [chr8_lo8 hr.1 (k2 i hi).2] at g6
    exact ⟨T6, some (.int (f i)), _, _, _, X6, rfl, rfl, rfl, (fun h => by cases h), ⟨rfl, q6.trans hh4⟩, fun fs hl => Steps.trans g6 (X6.ireturnOut hexec hret (narrow_ch hr.1 hr.2) (Or.inr (Or.inr (Or.inr (Or.inl rfl)))) (hb hbytes d15) hl)⟩
  · exact absurd k0 (by decide)
theorem pays {l : Launch} {R : Room} {p : Program} {e : Env} {below : List Frame} {s : State} {sargs : Array Value} {len W : Nat} (x t : Addr) (V : Cell) (n : Nat) (f : Nat → Int32) (z : Int32) (fm : Value) (i : Nat) (htab : tab.before sargs s = true) (hfr : 4 ≤ R.frames) (hlo : W + 53 ≤ R.locals) :
    Back l R p e below s sargs yN len W (fun A₁ a₁ => A₁.cells + 0 ≤ R.cells ∧ A₁.slots + 0 ≤ R.slots ∧ P x t V n f z fm i a₁ A₁.U) (fun A₁ _ v₁ B₁ => E f i v₁ A₁.U B₁.U ∧ B₁.locs = A₁.locs ++ [] ∧ B₁.cells = A₁.cells + 0 ∧ B₁.slots = A₁.slots + 0) :=
  (law l x t V n f z fm i).pays htab hfr (by omega)
end ChN
end StrChars
namespace StrChars.Road
open Jvm Sem ClassFile Op Lib Jvm.Stand Jvm.Free Jvm.Free.XT
open Jvm.Lib.Cold (StaticIs)
/-- the words of String.charAt(int), the Latin-1 road alone -/
abbrev wordsChN : List Jvm.Cond := [.code ChN.yN ChN.yB 2 (some .char), .initialized ST, .fieldLink ST 9 ST "value" "[B", .fieldLink ST 38 ST "COMPACT_STRINGS" "Z", .fieldLink ST 15 ST "coder" "B", .code IsL.yN IsL.yB 1 (some .boolean), .methodLink ST 492 IsL.yN, .declares IsL.yN, .selects ST IsL.yN IsL.yN, .instanceMethod IsL.yN,
  .methodLink ST 495 LChA.yN, .static LChA.yN, .code LChA.yN LChA.yB 2 (some .char), .initialized "java/lang/StringLatin1", .methodLink "java/lang/StringLatin1" 9 JO.Str_checkIndex.yN, .static JO.Str_checkIndex.yN, .code JO.Str_checkIndex.yN JO.Str_checkIndex.yB 2 none,
  .fieldLink ST 1053 "jdk/internal/util/Preconditions" "SIOOBE_FORMATTER" "Ljava/util/function/BiFunction;", .methodLink ST 1059 JC.PreCheck.yN, .static JC.PreCheck.yN, .code JC.PreCheck.yN JC.PreCheck.yB 3 (some .int), .initialized "jdk/internal/util/Preconditions"]
theorem tabChN_of {a : Array Value} {s : State} (h : ∀ w ∈ wordsChN, w.before a s = true) : ChN.tab.before a s = true := by
  have hp : JC.PreCheck.tab.before a s = true := unparts (wk h (.code JC.PreCheck.yN JC.PreCheck.yB 3 (some .int))) (wks h (.initialized JC.PreCheck.yN.cls :: JC.PreCheck.site))
  have qk := consq hp h
  have hk : JO.Str_checkIndex.tab.before a s = true := unparts (wk qk (.code JO.Str_checkIndex.yN JO.Str_checkIndex.yB 2 none)) (wks qk (.initialized JO.Str_checkIndex.yN.cls :: JO.Str_checkIndex.site))
  have ql := consq hk h
  have hl : LChA.tab.before a s = true := unparts (wk ql (.code LChA.yN LChA.yB 2 (some .char))) (wks ql (.initialized LChA.yN.cls :: LChA.site))
  have hi : IsL.tab.before a s = true := unparts (wk h (.code IsL.yN IsL.yB 1 (some .boolean))) (wks h (.initialized IsL.yN.cls :: IsL.site))
  have q := consq hi (consq hl h)
  exact unparts (wk q (.code ChN.yN ChN.yB 2 (some .char))) (wks q (.initialized ChN.yN.cls :: ChN.site))
theorem movedChN {Z s : State} {a0 args : Array Value} (hZ : Z.Warmed39 s.vm) (hw : ∀ d ∈ wordsChN, d.before a0 Z = true) : ∀ d ∈ wordsChN, d.before args s = true := fun d hd => by
  have t : ∀ d ∈ wordsChN, (d.onTables && d.keepsFace) = true := by decide +kernel
  exact RoadKit.mv hZ (hw d hd) (t d hd)
/-- **charAt(i) OF A LATIN-1 STRING**, i < n: the char -/
theorem chN {p : Program} {l : Launch} {e : Env} {R : Room} {s : State} {args : Array Value} {below : List Frame} {len W : Nat} {Z : State} {a0 : Array Value} {h : Heap} (hZ : Z.Warmed39 s.vm) (hw : ∀ d ∈ wordsChN, d.before a0 Z = true) {kI : Nat} (wi : (Jvm.Cond.instantiable ST kI).before a0 Z = true)
    {x t : Addr} {kb : ClassId} {cs : List Int32} {N2 z : Int32} {vs : List Value} {fm : Value} {i : Nat} {j : Int32} (E : RoadKit.Exa Z h x ST) (V : RoadKit.Fld Z h x ST "value" "[B" (.ref t)) (C : RoadKit.Fld Z h x ST "coder" "B" (.int 0)) (K : RoadKit.Arv Z h t kb .byte N2 vs (.int 0)) (hc : CodA cs 0 N2 vs) (hb : ∀ c ∈ cs, ¬ c < 0 ∧ ¬ (65535 : Int32) < c)
    (S : RoadKit.Sta Z h ST "COMPACT_STRINGS" "Z" (.int z)) (hz : ¬ z = 0) (F : RoadKit.Sta Z h "jdk/internal/util/Preconditions" "SIOOBE_FORMATTER" "Ljava/util/function/BiFunction;" fm) (rf : fm.isRef = true) (l2 : cs.length ≤ 4000) (hi : i < cs.length) (hj : j = Int32.ofNat i) (hfr : 4 ≤ R.frames) (hlo : W + 53 ≤ R.locals) :
    Back l R p e below s args (⟨"java/lang/String", "charAt", "(I)C"⟩ : MethodName) len W (fun P a => a = #[.ref x, .int j] ∧ P.U.heap = h ∧ P.cells + 0 ≤ R.cells ∧ P.slots + 0 ≤ R.slots)
      (fun P _ v B => ∃ L, (v = some (.int (cs.getD i 0)) ∧ L = [] ∧ B.U.heap = h) ∧ B.locs = P.locs ++ L ∧ B.cells = P.cells + 0 ∧ B.slots = P.slots + 0) := by
  subst hj
  intro m meth c P g ig mk a X hg hsize hdg hW hn hp'
  obtain ⟨rfl, rfl, r1, r2⟩ := hp'
  have al : Z.vm.Alike P.U.vm := hZ.alike.trans X.warmed.alike
  obtain ⟨A, hx⟩ := txt_of wi al E V C K hc hb l2
  obtain ⟨v, B, X', ⟨⟨hv, hh⟩, hl, hk, hs⟩, st⟩ := ChN.pays x t A cs.length (fun j => cs.getD j 0) z fm i (tabChN_of (movedChN hZ hw)) hfr hlo m meth c P g ig mk _ X hg hsize hdg hW hn ⟨r1, r2, rfl, hx, hi, sta_is al S, hz, sta_is al F, rf⟩
  exact ⟨v, B, X', ⟨[], ⟨hv, rfl, hh⟩, hl, hk, hs⟩, st⟩
/-- what backV says of its String, as the contracts of this text ask it: cs's low bytes, coder 0 -/
theorem codOf {cs : List Int32} {n : Nat} (hn : cs.length = n) (hb : ∀ c ∈ cs, ¬ 255 < c) : CodA cs 0 (Int32.ofNat n) ((cs.map lo8).map Value.int) := Or.inl ⟨rfl, by rw [hn], by simp [List.map_map, Function.comp_def], hb⟩
end StrChars.Road
end Jvm.Pilot.@@N@@
set_option maxRecDepth 65536
set_option maxHeartbeats 40000000
namespace Jvm.Pilot.@@N@@
open Jvm Jvm.ClassFile Sem Op Lib Jvm.Free Jvm.Stand Jvm.LawKit Jvm.RoadKit Bundle Jvm.Own Jvm.Pilot.@@N@@.Jvm.D
theorem pn_0 : plainName "java/lang/String" = true := by first | (simp [plainName, overriddenIn]; done) | decide +kernel
theorem pd_0 : parseMethodDescriptor "([CIILjava/lang/Void;)V" = some ⟨[(.array .char), .int, .int, (.object "java/lang/Void")], none⟩ := by decide +kernel
theorem pd_1 : parseMethodDescriptor "([C)V" = some ⟨[(.array .char)], none⟩ := by decide +kernel
theorem pn_1 : plainName "java/lang/StringLatin1" = true := by first | (simp [plainName, overriddenIn]; done) | decide +kernel
theorem pd_2 : parseMethodDescriptor "(C)Z" = some ⟨[.char], some .boolean⟩ := by decide +kernel
theorem pd_3 : parseMethodDescriptor "(C)[B" = some ⟨[.char], some (.array .byte)⟩ := by decide +kernel
theorem pd_4 : parseMethodDescriptor "([BB)V" = some ⟨[(.array .byte), .byte], none⟩ := by decide +kernel
theorem pd_5 : parseMethodDescriptor "(C)Ljava/lang/String;" = some ⟨[.char], some (.object "java/lang/String")⟩ := by decide +kernel
theorem pn_2 : plainName "java/lang/AbstractStringBuilder" = true := by first | (simp [plainName, overriddenIn]; done) | decide +kernel
theorem pd_6 : parseMethodDescriptor "(I)V" = some ⟨[.int], none⟩ := by decide +kernel
theorem pn_3 : plainName "java/lang/StringBuilder" = true := by first | (simp [plainName, overriddenIn]; done) | decide +kernel
theorem pd_7 : parseMethodDescriptor "()V" = some ⟨[], none⟩ := by decide +kernel
theorem pd_8 : parseMethodDescriptor "()B" = some ⟨[], some .byte⟩ := by decide +kernel
theorem pd_9 : parseMethodDescriptor "(Ljava/lang/String;)V" = some ⟨[(.object "java/lang/String")], none⟩ := by decide +kernel
theorem pd_10 : parseMethodDescriptor "([BIB)V" = some ⟨[(.array .byte), .int, .byte], none⟩ := by decide +kernel
theorem pd_11 : parseMethodDescriptor "(ILjava/lang/String;)V" = some ⟨[.int, (.object "java/lang/String")], none⟩ := by decide +kernel
theorem pd_12 : parseMethodDescriptor "(Ljava/lang/String;)Ljava/lang/AbstractStringBuilder;" = some ⟨[(.object "java/lang/String")], some (.object "java/lang/AbstractStringBuilder")⟩ := by decide +kernel
theorem pd_13 : parseMethodDescriptor "()I" = some ⟨[], some .int⟩ := by decide +kernel
theorem pd_14 : parseMethodDescriptor "(Ljava/lang/String;)Ljava/lang/StringBuilder;" = some ⟨[(.object "java/lang/String")], some (.object "java/lang/StringBuilder")⟩ := by decide +kernel
theorem pd_15 : parseMethodDescriptor "()[B" = some ⟨[], some (.array .byte)⟩ := by decide +kernel
theorem pd_16 : parseMethodDescriptor "()Z" = some ⟨[], some .boolean⟩ := by decide +kernel
theorem pn_4 : plainName "java/util/Arrays" = true := by first | (simp [plainName, overriddenIn]; done) | decide +kernel
theorem pd_17 : parseMethodDescriptor "(II)V" = some ⟨[.int, .int], none⟩ := by decide +kernel
theorem pd_18 : parseMethodDescriptor "(II)I" = some ⟨[.int, .int], some .int⟩ := by decide +kernel
theorem pd_19 : parseMethodDescriptor "([BII)[B" = some ⟨[(.array .byte), .int, .int], some (.array .byte)⟩ := by decide +kernel
theorem pd_20 : parseMethodDescriptor "(Ljava/lang/AbstractStringBuilder;Ljava/lang/Void;)V" = some ⟨[(.object "java/lang/AbstractStringBuilder"), (.object "java/lang/Void")], none⟩ := by decide +kernel
theorem pd_21 : parseMethodDescriptor "(Ljava/lang/StringBuilder;)V" = some ⟨[(.object "java/lang/StringBuilder")], none⟩ := by decide +kernel
theorem pd_22 : parseMethodDescriptor "()Ljava/lang/String;" = some ⟨[], some (.object "java/lang/String")⟩ := by decide +kernel
theorem pn_5 : plainName "com/example/lazo/lazo/mapping/SqlNameSuffixedPinLaw" = true := by first | (simp [plainName, overriddenIn]; done) | decide +kernel
theorem pd_23 : parseMethodDescriptor "(CCI)Ljava/lang/String;" = some ⟨[.char, .char, .int], some (.object "java/lang/String")⟩ := by decide +kernel
theorem pn_6 : plainName "java/lang/Record" = true := by first | (simp [plainName, overriddenIn]; done) | decide +kernel
theorem pn_7 : plainName "com/example/lazo/lazo/mapping/SqlName" = true := by first | (simp [plainName, overriddenIn]; done) | decide +kernel
theorem pd_24 : parseMethodDescriptor "(Ljava/lang/String;Z)V" = some ⟨[(.object "java/lang/String"), .boolean], none⟩ := by decide +kernel
theorem pd_25 : parseMethodDescriptor "(Ljava/lang/String;)Lcom/example/lazo/lazo/mapping/SqlName;" = some ⟨[(.object "java/lang/String")], some (.object "com/example/lazo/lazo/mapping/SqlName")⟩ := by decide +kernel
theorem pd_26 : parseMethodDescriptor "(I)C" = some ⟨[.int], some .char⟩ := by decide +kernel

def Str (V : Vw) (h : Heap) (m : Nat) (x : Nat) (cs : List Int32) : Prop := ∃ (t : Nat) (kb : ClassId) (cd N2 : Int32) (vs : List Value), x < m ∧ t < m ∧ m ≤ h.size ∧ Exa V.Z h x "java/lang/String" ∧ Fld V.Z h x "java/lang/String" "value" "[B" (.ref t) ∧ Fld V.Z h x "java/lang/String" "coder" "B" (.int cd) ∧ Arv V.Z h t kb .byte N2 vs (.int 0) ∧ StrChars.Road.CodA cs cd N2 vs ∧ (∀ c ∈ cs, ¬ c < 0 ∧ ¬ (65535 : Int32) < c) ∧ cs.length ≤ 4000
theorem Str.ext {V : Vw} {h h' : Heap} {m : Nat} {x : Nat} {cs : List Int32} (E : Ext h h') (S : Str V h m x cs) : Str V h' m x cs := by
  obtain ⟨t, kb, cd, N2, vs, a1, a2, a3, a4, a5, a6, a7, a8⟩ := S
  exact ⟨t, kb, cd, N2, vs, a1, a2, Nat.le_trans a3 E.1, a4.ext E, a5.ext E, a6.ext E, a7.ext E, a8⟩
theorem Str.up {V : Vw} {h : Heap} {m m' : Nat} {x : Nat} {cs : List Int32} (S : Str V h m x cs) (q : m ≤ m') (r : m' ≤ h.size) : Str V h m' x cs := by
  obtain ⟨t, kb, cd, N2, vs, a1, a2, a3, a8⟩ := S
  exact ⟨t, kb, cd, N2, vs, by omega, by omega, r, a8⟩
theorem Str.keep {V : Vw} {h h' : Heap} {ws : List Addr} {m : Nat} {x : Nat} {cs : List Int32} (K : Keep h h' ws) (q : ∀ w ∈ ws, m ≤ w) (S : Str V h m x cs) : Str V h' m x cs := by
  obtain ⟨t, kb, cd, N2, vs, a1, a2, a3, a4, a5, a6, a7, a8⟩ := S
  have nx : x ∉ ws := fun z => absurd (q x z) (by omega)
  have nt : t ∉ ws := fun z => absurd (q t z) (by omega)
  exact ⟨t, kb, cd, N2, vs, a1, a2, Nat.le_trans a3 K.1, a4.keep K, a5.keep K nx, a6.keep K nx, a7.keep K nt, a8⟩
theorem Str.keepE {V : Vw} {h h' : Heap} {a : Nat} {C : String} {n m : Nat} {x : Nat} {cs : List Int32} (K : Keep h h' [a]) (E : Exa V.Z h a C) (hC : C ≠ "java/lang/String") (wi : (Jvm.Cond.instantiable C n).before V.a0 V.Z = true) (S : Str V h m x cs) : Str V h' m x cs := by
  obtain ⟨t, kb, cd, N2, vs, a1, a2, a3, a4, a5, a6, a7, a8⟩ := S
  have nx : x ∉ [a] := ninS (a4.ne E (Ne.symm hC)) nin0
  have nt : t ∉ [a] := ninS (Ne.symm (E.neArv a7 wi)) nin0
  exact ⟨t, kb, cd, N2, vs, a1, a2, Nat.le_trans a3 K.1, a4.keep K, a5.keep K nx, a6.keep K nx, a7.keep K nt, a8⟩
theorem Arr.neTy {Z : State} {h : Heap} {a b : Nat} {c d : Cell} {ty ty' : FieldType} (A : RoadKit.Arr Z h a c ty) (D : RoadKit.Arr Z h b d ty') (q : ty ≠ ty') : a ≠ b := fun e => by
  subst e
  cases A.1.symm.trans D.1
  obtain ⟨-, k1, h1, c1, g1⟩ := A.2.1
  obtain ⟨-, k2, h2, c2, g2⟩ := D.2.1
  cases h1.symm.trans h2
  rw [g1] at g2
  injection g2 with _ g3
  exact q g3
theorem Str.keepA {V : Vw} {h h' : Heap} {a : Nat} {k : ClassId} {ty : FieldType} {z : Int32} {us : List Value} {dv : Value} {n m : Nat} {x : Nat} {cs : List Int32} (K : Keep h h' [a]) (A : Arv V.Z h a k ty z us dv) (hty : ty ≠ .byte) (wi : (Jvm.Cond.instantiable "java/lang/String" n).before V.a0 V.Z = true) (S : Str V h m x cs) : Str V h' m x cs := by
  obtain ⟨t, kb, cd, N2, vs, a1, a2, a3, a4, a5, a6, a7, a8⟩ := S
  have nx : x ∉ [a] := ninS (a4.neArv A wi) nin0
  have nt : t ∉ [a] := ninS (fun e => by obtain ⟨c1, A1, -⟩ := A; obtain ⟨c2, A2, -⟩ := a7; exact Arr.neTy A1 A2 hty e.symm) nin0
  exact ⟨t, kb, cd, N2, vs, a1, a2, Nat.le_trans a3 K.1, a4.keep K, a5.keep K nx, a6.keep K nx, a7.keep K nt, a8⟩
theorem Str.exa {V : Vw} {h : Heap} {m : Nat} {x : Nat} {cs : List Int32} (S : Str V h m x cs) : Exa V.Z h x "java/lang/String" := by
  obtain ⟨t, kb, cd, N2, vs, a1, a2, a3, a4, -⟩ := S; exact a4
theorem Str.lt {V : Vw} {h : Heap} {m : Nat} {x : Nat} {cs : List Int32} (S : Str V h m x cs) : x < m ∧ m ≤ h.size := by
  obtain ⟨t, kb, cd, N2, vs, a1, a2, a3, a4, -⟩ := S; exact ⟨a1, a3⟩
theorem up16 {cs : List Int32} (h : ∀ c ∈ cs, By c) : ∀ c ∈ cs, ¬ c < 0 ∧ ¬ (65535 : Int32) < c := fun c hc => ⟨(h c hc).1, fun q => (h c hc).2 (by
  rw [Int32.lt_iff_toInt_lt] at q ⊢; have e1 : (65535 : Int32).toInt = 65535 := rfl; have e2 : (255 : Int32).toInt = 255 := rfl; omega)⟩

def Qsm (q : Prop) (h0 : Heap) : Qt := fun v h _ => ∃ b : Int32, v = some (.int b) ∧ h = h0 ∧ (b = 1 ∧ q ∨ b = 0 ∧ ¬ q)
theorem bt {b : Int32} {q : Prop} (h : b = 1 ∧ q ∨ b = 0 ∧ ¬ q) (c : ¬ b = 0) : q := h.elim (fun x => x.2) (fun x => absurd x.1 c)
theorem bf {b : Int32} {q : Prop} (h : b = 1 ∧ q ∨ b = 0 ∧ ¬ q) (c : b = 0) : ¬ q := h.elim (fun x => absurd (x.1.symm.trans c) (by decide)) (fun x => x.2)
theorem beq {b c : Int32} {q r : Prop} (h : b = 1 ∧ q ∨ b = 0 ∧ ¬ q) (k : c = 1 ∧ r ∨ c = 0 ∧ ¬ r) (e : q ↔ r) : b = c := by
  rcases h with ⟨rfl, x⟩ | ⟨rfl, x⟩ <;> rcases k with ⟨rfl, y⟩ | ⟨rfl, y⟩ <;> first | rfl | exact absurd (e.mp x) y | exact absurd (e.mpr y) x
theorem bnar {b : Int32} {q : Prop} (h : b = 1 ∧ q ∨ b = 0 ∧ ¬ q) : RoadKit.nar .boolean b = b := by rcases h with ⟨rfl, x⟩ | ⟨rfl, x⟩ <;> rfl
def Qmk (V : Vw) (cs : List Int32) (h0 : Heap) : Qt := fun v h _ => ∃ x : Nat, v = some (.ref x) ∧ Ext h0 h ∧ Str V h h.size x cs
theorem Keep.ext0 {h h1 h2 : Heap} {ws : List Addr} (E : Ext h h1) (K : Keep h1 h2 ws) (q : ∀ w ∈ ws, h.size ≤ w) : Ext h h2 := ⟨Nat.le_trans E.1 K.1, fun a c hc => K.2.1 a c (E.2 a c hc) fun z => absurd (Array.getElem?_eq_some_iff.mp hc).1 (Nat.not_lt.mpr (q a z))⟩
theorem Ext.wr0 {h h1 h2 : Heap} {a : Nat} {j : Nat} {v : Value} (E : Ext h h1) (W : Wr h1 h2 a j v) (q : h.size ≤ a) : Ext h h2 := Keep.ext0 E (Keep.of_wr W) (fun w hw => by cases List.mem_singleton.mp hw; exact q)
theorem Ext.refl0 (h : Heap) : Ext h h := ⟨Nat.le_refl _, fun _ _ q => q⟩
theorem nby {c : Int32} (h : By c) : RoadKit.nar .char c = c := by
  have f := c_i2c c
  obtain ⟨a, b⟩ := h
  rw [Int32.lt_iff_toInt_lt] at a b
  have e0 : (0 : Int32).toInt = 0 := rfl
  have e1 : (255 : Int32).toInt = 255 := rfl
  show c.toUInt32.toUInt16.toUInt32.toInt32 = c
  rw [← Int32.toInt_inj]; omega
theorem by0 : ∀ c ∈ ([] : List Int32), By c := fun _ q => nomatch q
theorem by1 {a : Int32} (h : By a) : ∀ c ∈ [a], By c := fun c hc => by cases List.mem_singleton.mp hc; exact h
theorem byS {a : Int32} {l : List Int32} (h : By a) (t : ∀ c ∈ l, By c) : ∀ c ∈ a :: l, By c := fun c hc => by rcases List.mem_cons.mp hc with rfl | hc; exact h; exact t c hc
def Qn (V : Vw) (x : Nat) (cs : List Int32) (h0 : Heap) : Qt := fun v h _ => v = none ∧ Keep h0 h [x] ∧ Str V h h.size x cs
theorem wds (V : Vw) (hw : ∀ d ∈ tables_1, d.before V.a0 V.Z = true) (ws : List Jvm.Cond) (h : ∀ d ∈ ws, d ∈ tables_1) : ∀ d ∈ ws, d.before V.a0 V.Z = true := fun d hd => hw d (h d hd)
theorem pay_newN (V : Vw) (hw : ∀ d ∈ tables_1, d.before V.a0 V.Z = true) (K : Cx) (B : Bx) (W : Nat) (x b : Nat) (kC : ClassId) (cs : List Int32) (N : Int32) (h : Heap) (ps : List Addr) (d v0 c0 : Value) (zx : V.Z.heap.size ≤ x) (zh : V.Z.heap.size ≤ h.size) (E : Exa V.Z h x "java/lang/String") (Fv : Fld V.Z h x "java/lang/String" "value" "[B" v0) (Fc : Fld V.Z h x "java/lang/String" "coder" "B" c0) (A : Arv V.Z h b kC .char N (cs.map Value.int) d) (O : Ext V.Z.heap h) (cz : Int32) (hCS : Sta V.Z V.Z.heap "java/lang/String" "COMPACT_STRINGS" "Z" (.int cz)) (hcz : ¬ cz = 0) (hN : N = Int32.ofNat cs.length) (l0 : 0 < cs.length) (l2 : cs.length ≤ 4000) (hp : ∀ c ∈ cs, By c) (hxp : x ∈ ps) (hfr : 4 ≤ B.R.frames) (hlo : W + 65 ≤ B.R.locals) :
    Pays V K B (⟨"java/lang/String", "<init>", "([C)V"⟩ : MethodName) 3 W #[.ref x, .ref b] h ps 1 cs.length (Qn V x cs h) :=
  Pays.back (ws := [x]) (fun s hZ => StrChars.Road.backV (W := W) hZ (wds V hw _ (by decide +kernel)) (kI := 4) (wd hw 5 rfl) (cs := cs) (bs := cs.map (fun c => c.toInt8.toInt32)) (n := cs.length) zx zh E Fv Fc A (hCS.ext O) hcz rfl hN l0 l2 hp rfl hfr hlo)
    (fun v h' L q => by
      obtain ⟨q1, q2, q3, q4, q5, t, kb, q6, q7, q8, q9, q10⟩ := q
      exact ⟨q2, q3, q1, q3, t, kb, 0, N, _, q4.lt, q10.lt, Nat.le_refl _, q4, q9, q5, q10, Or.inl ⟨rfl, hN, by simp [List.map_map, Function.comp_def, StrChars.lo8], fun c hc => (hp c hc).2⟩, up16 hp, l2⟩)
    (by simpa using zx) (fun vm al P y hy => by cases List.mem_singleton.mp hy; exact (P _ hxp).2)
theorem satoms (V : Vw) (hw : ∀ d ∈ tables_1, d.before V.a0 V.Z = true) : ∀ a ∈ Bundle.stringAtoms, a.before V.a0 V.Z = true := wds V hw _ (by decide +kernel)
theorem d0_0 : decode jdk_42_method_149_code 0 = .ok (.aload_n 0, 1) := by decide +kernel
theorem d0_1 : decode jdk_42_method_149_code 1 = .ok (.invokespecial 1, 3) := by decide +kernel
theorem d0_4 : decode jdk_42_method_149_code 4 = .ok (.iload_n 3, 1) := by decide +kernel
theorem d0_5 : decode jdk_42_method_149_code 5 = .ok (.ifCond .ne 22, 3) := by decide +kernel
theorem d0_8 : decode jdk_42_method_149_code 8 = .ok (.aload_n 0, 1) := by decide +kernel
theorem d0_9 : decode jdk_42_method_149_code 9 = .ok (.ldc 7, 2) := by decide +kernel
theorem d0_11 : decode jdk_42_method_149_code 11 = .ok (.getfield 9, 3) := by decide +kernel
theorem d0_14 : decode jdk_42_method_149_code 14 = .ok (.putfield 9, 3) := by decide +kernel
theorem d0_17 : decode jdk_42_method_149_code 17 = .ok (.aload_n 0, 1) := by decide +kernel
theorem d0_18 : decode jdk_42_method_149_code 18 = .ok (.ldc 7, 2) := by decide +kernel
theorem d0_20 : decode jdk_42_method_149_code 20 = .ok (.getfield 15, 3) := by decide +kernel
theorem d0_23 : decode jdk_42_method_149_code 23 = .ok (.putfield 15, 3) := by decide +kernel
theorem d0_26 : decode jdk_42_method_149_code 26 = .ok (.return_, 1) := by decide +kernel
theorem d0_27 : decode jdk_42_method_149_code 27 = .ok (.getstatic 38, 3) := by decide +kernel
theorem d0_30 : decode jdk_42_method_149_code 30 = .ok (.ifCond .eq 28, 3) := by decide +kernel
theorem d0_33 : decode jdk_42_method_149_code 33 = .ok (.aload_n 1, 1) := by decide +kernel
theorem d0_34 : decode jdk_42_method_149_code 34 = .ok (.iload_n 2, 1) := by decide +kernel
theorem d0_35 : decode jdk_42_method_149_code 35 = .ok (.iload_n 3, 1) := by decide +kernel
theorem d0_36 : decode jdk_42_method_149_code 36 = .ok (.invokestatic 177, 3) := by decide +kernel
theorem d0_39 : decode jdk_42_method_149_code 39 = .ok (.astore 5, 2) := by decide +kernel
theorem d0_41 : decode jdk_42_method_149_code 41 = .ok (.aload_n 0, 1) := by decide +kernel
theorem d0_42 : decode jdk_42_method_149_code 42 = .ok (.aload 5, 2) := by decide +kernel
theorem d0_44 : decode jdk_42_method_149_code 44 = .ok (.iload_n 3, 1) := by decide +kernel
theorem d0_45 : decode jdk_42_method_149_code 45 = .ok (.invokestatic 47, 3) := by decide +kernel
theorem d0_48 : decode jdk_42_method_149_code 48 = .ok (.putfield 15, 3) := by decide +kernel
theorem d0_51 : decode jdk_42_method_149_code 51 = .ok (.aload_n 0, 1) := by decide +kernel
theorem d0_52 : decode jdk_42_method_149_code 52 = .ok (.aload 5, 2) := by decide +kernel
theorem d0_54 : decode jdk_42_method_149_code 54 = .ok (.putfield 9, 3) := by decide +kernel
theorem d0_57 : decode jdk_42_method_149_code 57 = .ok (.return_, 1) := by decide +kernel
theorem d0_58 : decode jdk_42_method_149_code 58 = .ok (.aload_n 0, 1) := by decide +kernel
theorem d0_59 : decode jdk_42_method_149_code 59 = .ok (.iconst 1, 1) := by decide +kernel
theorem d0_60 : decode jdk_42_method_149_code 60 = .ok (.putfield 15, 3) := by decide +kernel
theorem d0_63 : decode jdk_42_method_149_code 63 = .ok (.aload_n 0, 1) := by decide +kernel
theorem d0_64 : decode jdk_42_method_149_code 64 = .ok (.aload_n 1, 1) := by decide +kernel
theorem d0_65 : decode jdk_42_method_149_code 65 = .ok (.iload_n 2, 1) := by decide +kernel
theorem d0_66 : decode jdk_42_method_149_code 66 = .ok (.iload_n 3, 1) := by decide +kernel
theorem d0_67 : decode jdk_42_method_149_code 67 = .ok (.invokestatic 180, 3) := by decide +kernel
theorem d0_70 : decode jdk_42_method_149_code 70 = .ok (.putfield 9, 3) := by decide +kernel
theorem d0_73 : decode jdk_42_method_149_code 73 = .ok (.return_, 1) := by decide +kernel
abbrev b_new4 : Bx := (⟨"java/lang/String", "<init>", "([CIILjava/lang/Void;)V"⟩, jdk_42_method_149_code, 6, none, { frames := 1, cells := 4, slots := 8, locals := 24 })
theorem c_new4e (V : Vw) (hw : ∀ d ∈ tables_1, d.before V.a0 V.Z = true) (hm : ("java/lang/String", 7) ∈ V.EL) (hn : V.nar = false) (x b : Nat) (h : Heap) (ps : List Addr) (zx : V.Z.heap.size ≤ x) (hxp : x ∈ ps) (E : Exa V.Z h x "java/lang/String") (Fv : Fld V.Z h x "java/lang/String" "value" "[B" .null) (Fc : Fld V.Z h x "java/lang/String" "coder" "B" (.int 0)) : Con V b_new4 #[.ref x, .ref b, .int 0, .int 0, .null] h ps (Qn V x [] h) := Con.of (plainFor_of_name pn_0) (L := [.val (.ref x), .val (.ref b), .val (.int (0 : Int32)), .val (.int (0 : Int32)), .val (.null), .unset]) rfl fun K => by
  have lx := ltN E.lt
  refine r_aloadN 1 rfl d0_0 rfl rfl ?_
  refine r_initO 0 4 rfl d0_1 (wd hw 15 rfl) (wd hw 16 rfl) (wd hw 17 rfl) rfl (by decide) (Nat.le_of_eq rfl) (by decide) ?_
  refine r_iloadN 5 rfl d0_4 rfl ?_
  refine r_if_ne 27 8 d0_5 (by decide) rfl rfl (fun c1 => ?_) (fun c1 => ?_)
  · exact absurd rfl c1
  refine r_aloadN 9 rfl d0_8 rfl rfl ?_
  refine r_ldcS [] (0 : Int32) 0 11 rfl d0_9 (wd hw 34 rfl) (satoms V hw) hm hn (by decide) (by decide) rfl (by decide) (by decide) (by decide) (by decide) fun a2 b3 k4 h5 Eh5 Xh5 Ch5 Yh5 Ah5 Nh5 => ?_
  have f6 := Exa.ext Eh5 E
  have f7 := Fld.ext Eh5 Fv
  have f8 := Fld.ext Eh5 Fc
  have sh5 := Eh5.1
  have la2 := ltN Xh5.lt
  have lb3 := ltN Ah5.lt
  have n1xh5 := neN (Nh5 _ hxp).1
  have n2xh5 := neN (Nh5 _ hxp).2
  refine r_getfield 14 rfl d0_11 (wd hw 32 rfl) Yh5 ?_
  refine r_putfield 17 rfl d0_14 (wd hw 32 rfl) f7 f6 (Or.inr ⟨wd hw 33 rfl, rfl, rfl⟩) (wd hw 5 rfl) (ty := (.array .byte)) (by decide) rfl rfl zx (Or.inr hxp) fun h9 Wh9 => ?_
  have sh9 := Wh9.size
  have f10 := Exa.wr Wh9 f6
  have f11 := Fld.same Wh9 f7
  have f12 := Fld.other Wh9 f8 (Or.inr (slot_ne (C := "java/lang/String") (Or.inr (wd hw 31 rfl)) (Or.inr (wd hw 33 rfl)) (by decide) (t := .byte) (by decide) (t' := (.array .byte)) (by decide)))
  have f13 := Exa.wr Wh9 Xh5
  have f14 := Fld.other Wh9 Ch5 (Or.inl (neA (by omega)))
  have f15 := Fld.other Wh9 Yh5 (Or.inl (neA (by omega)))
  have f16 := Arv.other Ah5 Wh9 (neA (by omega))
  refine r_aloadN 18 rfl d0_17 rfl rfl ?_
  refine r_ldcS [] (0 : Int32) 0 20 rfl d0_18 (wd hw 34 rfl) (satoms V hw) hm hn (by decide) (by decide) rfl (by decide) (by decide) (by decide) (by decide) fun a17 b18 k19 h20 Eh20 Xh20 Ch20 Yh20 Ah20 Nh20 => ?_
  have f21 := Exa.ext Eh20 f10
  have f22 := Fld.ext Eh20 f11
  have f23 := Fld.ext Eh20 f12
  have f24 := Exa.ext Eh20 f13
  have f25 := Fld.ext Eh20 f14
  have f26 := Fld.ext Eh20 f15
  have f27 := f16.ext Eh20
  have sh20 := Eh20.1
  have la17 := ltN Xh20.lt
  have lb18 := ltN Ah20.lt
  have n1xh20 := neN (Nh20 _ hxp).1
  have n2xh20 := neN (Nh20 _ hxp).2
  refine r_getfield 23 rfl d0_20 (wd hw 30 rfl) Ch20 ?_
  refine r_putfield 26 rfl d0_23 (wd hw 30 rfl) f23 f21 (Or.inr ⟨wd hw 31 rfl, rfl, rfl⟩) (wd hw 5 rfl) (ty := .byte) (by decide) (by decide) (by decide) zx (Or.inr hxp) fun h28 Wh28 => ?_
  have sh28 := Wh28.size
  have f29 := Exa.wr Wh28 f21
  have f30 := Fld.other Wh28 f22 (Or.inr (slot_ne (C := "java/lang/String") (Or.inr (wd hw 33 rfl)) (Or.inr (wd hw 31 rfl)) (by decide) (t := (.array .byte)) (by decide) (t' := .byte) (by decide)))
  have f31 := Fld.same Wh28 f23
  have f32 := Exa.wr Wh28 f24
  have f33 := Fld.other Wh28 f25 (Or.inl (neA (by omega)))
  have f34 := Fld.other Wh28 f26 (Or.inl (neA (by omega)))
  have f35 := Arv.other f27 Wh28 (neA (by omega))
  have f36 := Exa.wr Wh28 Xh20
  have f37 := Fld.other Wh28 Ch20 (Or.inl (neA (by omega)))
  have f38 := Fld.other Wh28 Yh20 (Or.inl (neA (by omega)))
  have f39 := Arv.other Ah20 Wh28 (neA (by omega))
  have KK : Keep h h28 [x] := ((((Keep.refl _ _).ext Eh5).wr Wh9 (Or.inl (by simp))).ext Eh20).wr Wh28 (Or.inl (by simp))
  refine r_ret rfl d0_26 (by decide) (by decide) [] (fun _ q => nomatch q) ?_
  exact ⟨rfl, KK, b3, _, 0, 0, [], f29.lt, f35.lt, Nat.le_refl _, f29, f30, f31, f35, Or.inl ⟨rfl, rfl, rfl, fun _ q => nomatch q⟩, (fun _ q => nomatch q), by decide⟩
theorem d1_0 : decode jdk_42_method_3_code 0 = .ok (.aload_n 0, 1) := by decide +kernel
theorem d1_1 : decode jdk_42_method_3_code 1 = .ok (.aload_n 1, 1) := by decide +kernel
theorem d1_2 : decode jdk_42_method_3_code 2 = .ok (.iconst 0, 1) := by decide +kernel
theorem d1_3 : decode jdk_42_method_3_code 3 = .ok (.aload_n 1, 1) := by decide +kernel
theorem d1_4 : decode jdk_42_method_3_code 4 = .ok (.arraylength, 1) := by decide +kernel
theorem d1_5 : decode jdk_42_method_3_code 5 = .ok (.aconst_null, 1) := by decide +kernel
theorem d1_6 : decode jdk_42_method_3_code 6 = .ok (.invokespecial 27, 3) := by decide +kernel
theorem d1_9 : decode jdk_42_method_3_code 9 = .ok (.return_, 1) := by decide +kernel
abbrev b_new1 : Bx := (⟨"java/lang/String", "<init>", "([C)V"⟩, jdk_42_method_3_code, 2, none, { frames := 2, cells := 4, slots := 8, locals := 44 })
theorem c_new1e (V : Vw) (hw : ∀ d ∈ tables_1, d.before V.a0 V.Z = true) (hm : ("java/lang/String", 7) ∈ V.EL) (hn : V.nar = false) (x b : Nat) (kC : ClassId) (vs : List Value) (d : Value) (h : Heap) (ps : List Addr) (zx : V.Z.heap.size ≤ x) (hxp : x ∈ ps) (E : Exa V.Z h x "java/lang/String") (Fv : Fld V.Z h x "java/lang/String" "value" "[B" .null) (Fc : Fld V.Z h x "java/lang/String" "coder" "B" (.int 0)) (A : Arv V.Z h b kC .char 0 vs d) : Con V b_new1 #[.ref x, .ref b] h ps (Qn V x [] h) := Con.of (plainFor_of_name pn_0) (L := [.val (.ref x), .val (.ref b)]) rfl fun K => by
  refine r_aloadN 1 rfl d1_0 rfl rfl ?_
  refine r_aloadN 2 rfl d1_1 rfl rfl ?_
  refine r_iconst (0 : Int32) 3 rfl d1_2 rfl ?_
  refine r_aloadN 4 rfl d1_3 rfl rfl ?_
  refine r_arraylength 5 rfl d1_4 A ?_
  refine r_null 6 rfl d1_5 ?_
  refine r_special 9 rfl d1_6 rfl (wd hw 11 rfl) (wd hw 12 rfl) (wd hw 14 rfl) (by decide) (Pays.con (K := K) (B := b_new1) (c_new4e V hw hm hn x b h _ zx hxp E Fv Fc) (wd hw 14 rfl) (wd hw 6 rfl) (by decide) (by decide)) (W := 0) (argsL := [.ref b, .int (0 : Int32), .int (0 : Int32), .null]) (lenOf pd_0 rfl) rfl rfl rfl (Nat.le_of_eq rfl) (Nat.le_of_ble_eq_true rfl) (Nat.le_of_ble_eq_true rfl) fun v43 h44 ps40 q42 z41 => ?_
  obtain ⟨rfl, K1, S1⟩ := q42
  show Own.Run V K b_new1 _ h44 _ 4 8 9 [.val (.ref x), .val (.ref b)] []
  refine r_ret rfl d1_9 (by decide) (by decide) [] (fun _ q => nomatch q) ?_
  exact ⟨rfl, K1, S1⟩
theorem pay_newE (V : Vw) (hw : ∀ d ∈ tables_1, d.before V.a0 V.Z = true) (K : Cx) (B : Bx) (W : Nat) (hm : ("java/lang/String", 7) ∈ V.EL) (hn : V.nar = false) (x b : Nat) (kC : ClassId) (vs : List Value) (d : Value) (h : Heap) (ps : List Addr) (zx : V.Z.heap.size ≤ x) (hxp : x ∈ ps) (E : Exa V.Z h x "java/lang/String") (Fv : Fld V.Z h x "java/lang/String" "value" "[B" .null) (Fc : Fld V.Z h x "java/lang/String" "coder" "B" (.int 0)) (A : Arv V.Z h b kC .char 0 vs d) (hfr : 3 ≤ B.R.frames) (hlo : W + 57 ≤ B.R.locals) :
    Pays V K B (⟨"java/lang/String", "<init>", "([C)V"⟩ : MethodName) 3 W #[.ref x, .ref b] h ps 4 8 (Qn V x [] h) := Pays.con (B' := b_new1) (c_new1e V hw hm hn x b kC vs d h ps zx hxp E Fv Fc A) (wd hw 10 rfl) (wd hw 6 rfl) hfr (by show W + (2 + 11) + 44 ≤ _; omega)
theorem pay_len (V : Vw) (hw : ∀ d ∈ tables_1, d.before V.a0 V.Z = true) (K : Cx) (B : Bx) (W : Nat) (x : Nat) (m : Nat) (cs : List Int32) (h : Heap) (ps : List Addr) (S : Str V h m x cs) (O : Ext V.Z.heap h) (cz : Int32) (hCS : Sta V.Z V.Z.heap "java/lang/String" "COMPACT_STRINGS" "Z" (.int cz)) (hcz : ¬ cz = 0) (hfr : 2 ≤ B.R.frames) (hlo : W + 25 ≤ B.R.locals) : Pays V K B (⟨"java/lang/String", "length", "()I"⟩ : MethodName) 3 W #[.ref x] h ps 0 0 (fun v h' _ => v = some (.int (Int32.ofNat cs.length)) ∧ h' = h) := by
  obtain ⟨t, kb, cd, N2, vs, a1, a2, a3, a4, a5, a6, a7, a8, a9, a10⟩ := S
  exact Pays.back (ws := []) (Q0 := fun v h' L => v = some (.int (Int32.ofNat cs.length)) ∧ L = [] ∧ h' = h) (fun s hZ => StrChars.Road.lenW (W := W) hZ (wds V hw _ (by decide +kernel)) (kI := 4) (wd hw 5 rfl) a4 a5 a6 a7 a8 a9 (hCS.ext O) hcz a10 hfr hlo) (fun v h' L q => ⟨by rw [q.2.1]; exact Fr.nil _, by rw [q.2.2]; exact Keep.refl _ _, q.1, q.2.2⟩) all0 (fun vm al P => all0)
theorem pay_ch (V : Vw) (hw : ∀ d ∈ tables_1, d.before V.a0 V.Z = true) (K : Cx) (B : Bx) (W : Nat) (x : Nat) (m i : Nat) (j : Int32) (cs : List Int32) (h : Heap) (ps : List Addr) (S : Str V h m x cs) (hby : ∀ c ∈ cs, ¬ 255 < c) (O : Ext V.Z.heap h) (cz : Int32) (hCS : Sta V.Z V.Z.heap "java/lang/String" "COMPACT_STRINGS" "Z" (.int cz)) (hcz : ¬ cz = 0) (fm : Value) (hFM : Sta V.Z V.Z.heap "jdk/internal/util/Preconditions" "SIOOBE_FORMATTER" "Ljava/util/function/BiFunction;" fm) (rf : fm.isRef = true) (hi : i < cs.length) (hj : j = Int32.ofNat i) (hfr : 4 ≤ B.R.frames) (hlo : W + 53 ≤ B.R.locals) : Pays V K B (⟨"java/lang/String", "charAt", "(I)C"⟩ : MethodName) 3 W #[.ref x, .int j] h ps 0 0 (fun v h' _ => v = some (.int (cs.getD i 0)) ∧ h' = h) := by
  obtain ⟨t, kb, cd, N2, vs, a1, a2, a3, a4, a5, a6, a7, a8, a9, a10⟩ := S
  have hcd : cd = 0 := by rcases a8 with q | ⟨-, -, -, c, hc, hq⟩; exact q.1; exact absurd hq (hby c hc)
  subst hcd
  exact Pays.back (ws := []) (Q0 := fun v h' L => v = some (.int (cs.getD i 0)) ∧ L = [] ∧ h' = h) (fun s hZ => StrChars.Road.chN (W := W) hZ (wds V hw _ (by decide +kernel)) (kI := 4) (wd hw 5 rfl) a4 a5 a6 a7 a8 a9 (hCS.ext O) hcz (hFM.ext O) rf a10 hi hj hfr hlo) (fun v h' L q => ⟨by rw [q.2.1]; exact Fr.nil _, by rw [q.2.2]; exact Keep.refl _ _, q.1, q.2.2⟩) all0 (fun vm al P => all0)
theorem d2_0 : decode jdk_43_method_3_code 0 = .ok (.iload_n 0, 1) := by decide +kernel
theorem d2_1 : decode jdk_43_method_3_code 1 = .ok (.sipush 255, 3) := by decide +kernel
theorem d2_4 : decode jdk_43_method_3_code 4 = .ok (.if_icmp .gt 7, 3) := by decide +kernel
theorem d2_7 : decode jdk_43_method_3_code 7 = .ok (.iconst 1, 1) := by decide +kernel
theorem d2_8 : decode jdk_43_method_3_code 8 = .ok (.goto 4, 3) := by decide +kernel
theorem d2_11 : decode jdk_43_method_3_code 11 = .ok (.iconst 0, 1) := by decide +kernel
theorem d2_12 : decode jdk_43_method_3_code 12 = .ok (.ireturn, 1) := by decide +kernel
abbrev b_canEnc : Bx := (⟨"java/lang/StringLatin1", "canEncode", "(C)Z"⟩, jdk_43_method_3_code, 1, some .boolean, { frames := 0, cells := 0, slots := 0, locals := 0 })
theorem c_canEnc (V : Vw) (hw : ∀ d ∈ tables_1, d.before V.a0 V.Z = true) (c : Int32) (hc : By c) (h : Heap) (ps : List Addr) : Con V b_canEnc #[.int c] h ps (fun v h' _ => v = some (.int 1) ∧ h' = h) := Con.of (plainFor_of_name pn_1) (L := [.val (.int c)]) rfl fun K => by
  refine r_iloadN 1 rfl d2_0 rfl ?_
  refine r_sipush (255 : Int32) 4 rfl d2_1 rfl ?_
  refine r_icmp_gt 11 7 d2_4 (by decide) rfl rfl (fun c45 => ?_) (fun c45 => ?_)
  · exact absurd c45 hc.2
  refine r_iconst (1 : Int32) 8 rfl d2_7 rfl ?_
  refine r_goto 12 d2_8 (by decide) rfl ?_
  refine r_nret (t := .boolean) (1 : Int32) rfl (by simp) rfl d2_12 (by decide) (by decide) [] (fun _ q => nomatch q) ?_
  exact ⟨rfl, rfl⟩
theorem d3_0 : decode jdk_43_method_46_code 0 = .ok (.iconst 1, 1) := by decide +kernel
theorem d3_1 : decode jdk_43_method_46_code 1 = .ok (.newarray .byte, 2) := by decide +kernel
theorem d3_3 : decode jdk_43_method_46_code 3 = .ok (.dup, 1) := by decide +kernel
theorem d3_4 : decode jdk_43_method_46_code 4 = .ok (.iconst 0, 1) := by decide +kernel
theorem d3_5 : decode jdk_43_method_46_code 5 = .ok (.iload_n 0, 1) := by decide +kernel
theorem d3_6 : decode jdk_43_method_46_code 6 = .ok (.i2b, 1) := by decide +kernel
theorem d3_7 : decode jdk_43_method_46_code 7 = .ok (.bastore, 1) := by decide +kernel
theorem d3_8 : decode jdk_43_method_46_code 8 = .ok (.areturn, 1) := by decide +kernel
abbrev b_toB : Bx := (⟨"java/lang/StringLatin1", "toBytes", "(C)[B"⟩, jdk_43_method_46_code, 1, some (.array .byte), { frames := 0, cells := 1, slots := 1, locals := 0 })
theorem c_toB (V : Vw) (hw : ∀ d ∈ tables_1, d.before V.a0 V.Z = true) (c : Int32) (h : Heap) (ps : List Addr) : Con V b_toB #[.int c] h ps (fun v h' _ => ∃ (t : Nat) (k : ClassId), v = some (.ref t) ∧ Ext h h' ∧ h.size ≤ t ∧ Arv V.Z h' t k .byte 1 [.int c.toInt8.toInt32] (.int 0)) := Con.of (plainFor_of_name pn_1) (L := [.val (.int c)]) rfl fun K => by
  refine r_iconst (1 : Int32) 1 rfl d3_0 rfl ?_
  refine r_newarray 1 3 rfl d3_1 (wd hw 23 rfl) (by decide) (by decide) (by decide) (by decide) (by decide) fun a46 h47 k48 ga46 za46 Eh47 Aa46 => ?_
  have sh47 := Eh47.1
  have la46 := ltN Aa46.lt
  have f49 : Arv V.Z h47 a46 k48 .byte (1 : Int32) [.int 0] (.int 0) := Arv.pad Aa46 (pad_rep [] (.int 0) 1)
  refine r_dup 4 rfl d3_3 rfl ?_
  refine r_iconst (0 : Int32) 5 rfl d3_4 rfl ?_
  refine r_iloadN 6 rfl d3_5 rfl ?_
  refine r_i2b 7 rfl d3_6 ?_
  refine r_bastore 0 8 rfl d3_7 f49 (by decide) rfl (Nat.le_of_ble_eq_true rfl) za46 (by simp) c.toInt8.toInt32 (by simp) fun h50 Wh50 f51 => ?_
  have sh50 := Wh50.size
  replace f51 : Arv V.Z h50 a46 k48 .byte (1 : Int32) [.int c.toInt8.toInt32] (.int 0) := f51
  refine r_aret (t := (.array .byte)) rfl rfl rfl d3_8 (by decide) (by decide) [] (fun _ q => nomatch q) ?_
  exact ⟨_, _, rfl, Ext.wr0 Eh47 Wh50 (by omega), by omega, f51⟩
theorem d4_0 : decode jdk_42_method_151_code 0 = .ok (.aload_n 0, 1) := by decide +kernel
theorem d4_1 : decode jdk_42_method_151_code 1 = .ok (.invokespecial 1, 3) := by decide +kernel
theorem d4_4 : decode jdk_42_method_151_code 4 = .ok (.aload_n 0, 1) := by decide +kernel
theorem d4_5 : decode jdk_42_method_151_code 5 = .ok (.aload_n 1, 1) := by decide +kernel
theorem d4_6 : decode jdk_42_method_151_code 6 = .ok (.putfield 9, 3) := by decide +kernel
theorem d4_9 : decode jdk_42_method_151_code 9 = .ok (.aload_n 0, 1) := by decide +kernel
theorem d4_10 : decode jdk_42_method_151_code 10 = .ok (.iload_n 2, 1) := by decide +kernel
theorem d4_11 : decode jdk_42_method_151_code 11 = .ok (.putfield 15, 3) := by decide +kernel
theorem d4_14 : decode jdk_42_method_151_code 14 = .ok (.return_, 1) := by decide +kernel
abbrev b_sBB : Bx := (⟨"java/lang/String", "<init>", "([BB)V"⟩, jdk_42_method_151_code, 3, none, { frames := 1, cells := 0, slots := 0, locals := 12 })
theorem c_sBB (V : Vw) (hw : ∀ d ∈ tables_1, d.before V.a0 V.Z = true) (x t : Nat) (h : Heap) (ps : List Addr) (zx : V.Z.heap.size ≤ x) (hxp : x ∈ ps) (E : Exa V.Z h x "java/lang/String") (Fv : Fld V.Z h x "java/lang/String" "value" "[B" .null) (Fc : Fld V.Z h x "java/lang/String" "coder" "B" (.int 0)) : Con V b_sBB #[.ref x, .ref t, .int 0] h ps (fun v h' _ => v = none ∧ Keep h h' [x] ∧ Exa V.Z h' x "java/lang/String" ∧ Fld V.Z h' x "java/lang/String" "value" "[B" (.ref t) ∧ Fld V.Z h' x "java/lang/String" "coder" "B" (.int 0)) := Con.of (plainFor_of_name pn_0) (L := [.val (.ref x), .val (.ref t), .val (.int (0 : Int32))]) rfl fun K => by
  refine r_aloadN 1 rfl d4_0 rfl rfl ?_
  refine r_initO 0 4 rfl d4_1 (wd hw 15 rfl) (wd hw 16 rfl) (wd hw 17 rfl) rfl (by decide) (Nat.le_of_eq rfl) (by decide) ?_
  refine r_aloadN 5 rfl d4_4 rfl rfl ?_
  refine r_aloadN 6 rfl d4_5 rfl rfl ?_
  refine r_putfield 9 rfl d4_6 (wd hw 32 rfl) Fv E (Or.inr ⟨wd hw 33 rfl, rfl, rfl⟩) (wd hw 5 rfl) (ty := (.array .byte)) (by decide) rfl rfl zx (Or.inr hxp) fun h52 Wh52 => ?_
  have sh52 := Wh52.size
  have f53 := Exa.wr Wh52 E
  have f54 := Fld.same Wh52 Fv
  have f55 := Fld.other Wh52 Fc (Or.inr (slot_ne (C := "java/lang/String") (Or.inr (wd hw 31 rfl)) (Or.inr (wd hw 33 rfl)) (by decide) (t := .byte) (by decide) (t' := (.array .byte)) (by decide)))
  refine r_aloadN 10 rfl d4_9 rfl rfl ?_
  refine r_iloadN 11 rfl d4_10 rfl ?_
  refine r_putfield 14 rfl d4_11 (wd hw 30 rfl) f55 f53 (Or.inr ⟨wd hw 31 rfl, rfl, rfl⟩) (wd hw 5 rfl) (ty := .byte) (by decide) (by decide) (by decide) zx (Or.inr hxp) fun h56 Wh56 => ?_
  have sh56 := Wh56.size
  have f57 := Exa.wr Wh56 f53
  have f58 := Fld.other Wh56 f54 (Or.inr (slot_ne (C := "java/lang/String") (Or.inr (wd hw 33 rfl)) (Or.inr (wd hw 31 rfl)) (by decide) (t := (.array .byte)) (by decide) (t' := .byte) (by decide)))
  have f59 := Fld.same Wh56 f55
  refine r_ret rfl d4_14 (by decide) (by decide) [] (fun _ q => nomatch q) ?_
  exact ⟨rfl, ((Keep.refl _ _).wr Wh52 (Or.inl (by simp))).wr Wh56 (Or.inl (by simp)), f57, f58, f59⟩
theorem d5_0 : decode jdk_42_method_139_code 0 = .ok (.getstatic 38, 3) := by decide +kernel
theorem d5_3 : decode jdk_42_method_139_code 3 = .ok (.ifCond .eq 23, 3) := by decide +kernel
theorem d5_6 : decode jdk_42_method_139_code 6 = .ok (.iload_n 0, 1) := by decide +kernel
theorem d5_7 : decode jdk_42_method_139_code 7 = .ok (.invokestatic 1015, 3) := by decide +kernel
theorem d5_10 : decode jdk_42_method_139_code 10 = .ok (.ifCond .eq 16, 3) := by decide +kernel
theorem d5_13 : decode jdk_42_method_139_code 13 = .ok (.new 10, 3) := by decide +kernel
theorem d5_16 : decode jdk_42_method_139_code 16 = .ok (.dup, 1) := by decide +kernel
theorem d5_17 : decode jdk_42_method_139_code 17 = .ok (.iload_n 0, 1) := by decide +kernel
theorem d5_18 : decode jdk_42_method_139_code 18 = .ok (.invokestatic 1018, 3) := by decide +kernel
theorem d5_21 : decode jdk_42_method_139_code 21 = .ok (.iconst 0, 1) := by decide +kernel
theorem d5_22 : decode jdk_42_method_139_code 22 = .ok (.invokespecial 209, 3) := by decide +kernel
theorem d5_25 : decode jdk_42_method_139_code 25 = .ok (.areturn, 1) := by decide +kernel
theorem d5_26 : decode jdk_42_method_139_code 26 = .ok (.new 10, 3) := by decide +kernel
theorem d5_29 : decode jdk_42_method_139_code 29 = .ok (.dup, 1) := by decide +kernel
theorem d5_30 : decode jdk_42_method_139_code 30 = .ok (.iload_n 0, 1) := by decide +kernel
theorem d5_31 : decode jdk_42_method_139_code 31 = .ok (.invokestatic 1021, 3) := by decide +kernel
theorem d5_34 : decode jdk_42_method_139_code 34 = .ok (.iconst 1, 1) := by decide +kernel
theorem d5_35 : decode jdk_42_method_139_code 35 = .ok (.invokespecial 209, 3) := by decide +kernel
theorem d5_38 : decode jdk_42_method_139_code 38 = .ok (.areturn, 1) := by decide +kernel
abbrev b_valueOf : Bx := (⟨"java/lang/String", "valueOf", "(C)Ljava/lang/String;"⟩, jdk_42_method_139_code, 1, some (.object "java/lang/String"), { frames := 2, cells := 2, slots := 5, locals := 40 })
theorem c_valueOf (V : Vw) (hw : ∀ d ∈ tables_1, d.before V.a0 V.Z = true) (cz : Int32) (hCS : Sta V.Z V.Z.heap "java/lang/String" "COMPACT_STRINGS" "Z" (.int cz)) (hcz : ¬ cz = 0) (c : Int32) (hc : By c) (h : Heap) (ps : List Addr) : Con V b_valueOf #[.int c] h ps (Qmk V [c] h) := Con.of (plainFor_of_name pn_0) (L := [.val (.int c)]) rfl fun K => by
  refine r_getstatic 3 rfl d5_0 (wd hw 18 rfl) hCS ?_
  refine r_if_eq 26 6 d5_3 (by decide) rfl rfl (fun c60 => ?_) (fun c60 => ?_)
  · exact absurd c60 hcz
  refine r_iloadN 7 rfl d5_6 rfl ?_
  refine r_static 10 rfl d5_7 (wd hw 206 rfl) (wd hw 207 rfl) (wd hw 193 rfl) (wd hw 208 rfl) (by decide) (Pays.con (K := K) (B := b_valueOf) (c_canEnc V hw c hc h _) (wd hw 208 rfl) (wd hw 193 rfl) (by decide) (by decide)) (W := 0) (argsL := [.int c]) (lenOf pd_2 rfl) rfl rfl rfl (Nat.le_of_eq rfl) (Nat.le_of_ble_eq_true rfl) (Nat.le_of_ble_eq_true rfl) fun v64 h65 ps61 q63 z62 => ?_
  obtain ⟨rfl, es66⟩ := q63
  subst h65
  show Own.Run V K b_valueOf _ h _ 0 0 10 [.val (.int c)] [.int (1 : Int32)]
  refine r_if_eq 26 13 d5_10 (by decide) rfl rfl (fun c67 => ?_) (fun c67 => ?_)
  · exact absurd c67 (by decide)
  refine r_new 16 rfl d5_13 (wd hw 209 rfl) (wd hw 5 rfl) (wd hw 6 rfl) (by decide) (by decide) fun a68 h69 ga68 za68 Eh69 Xa68 Da68 => ?_
  have sh69 := Eh69.1
  have la68 := ltN Xa68.lt
  have f70 : Fld V.Z h69 a68 "java/lang/String" "value" "[B" (.null) := Da68 (Or.inr (wd hw 33 rfl)) (ty := (.array .byte)) (by decide)
  have f71 : Fld V.Z h69 a68 "java/lang/String" "coder" "B" (.int (0 : Int32)) := Da68 (Or.inr (wd hw 31 rfl)) (ty := .byte) (by decide)
  refine r_dup 17 rfl d5_16 rfl ?_
  refine r_iloadN 18 rfl d5_17 rfl ?_
  refine r_static 21 rfl d5_18 (wd hw 210 rfl) (wd hw 211 rfl) (wd hw 193 rfl) (wd hw 212 rfl) (by decide) (Pays.con (K := K) (B := b_valueOf) (c_toB V hw c h69 _) (wd hw 212 rfl) (wd hw 193 rfl) (by decide) (by decide)) (W := 2) (argsL := [.int c]) (lenOf pd_3 rfl) rfl rfl rfl (Nat.le_of_eq rfl) (Nat.le_of_ble_eq_true rfl) (Nat.le_of_ble_eq_true rfl) fun v75 h76 ps72 q74 z73 => ?_
  obtain ⟨t, kt, rfl, Et, gt, At⟩ := q74
  have f77 := Exa.ext Et Xa68
  have f78 := Fld.ext Et f70
  have f79 := Fld.ext Et f71
  have sh76 := Et.1
  show Own.Run V K b_valueOf _ h76 _ 2 5 21 [.val (.int c)] [.ref t, .ref a68, .ref a68]
  have lt := ltN At.lt
  refine r_iconst (0 : Int32) 22 rfl d5_21 rfl ?_
  refine r_special 25 rfl d5_22 rfl (wd hw 213 rfl) (wd hw 214 rfl) (wd hw 215 rfl) (by decide) (Pays.con (K := K) (B := b_valueOf) (c_sBB V hw a68 t h76 _ za68 (by simp) f77 f78 f79) (wd hw 215 rfl) (wd hw 6 rfl) (by decide) (by decide)) (W := 1) (argsL := [.ref t, .int (0 : Int32)]) (lenOf pd_4 rfl) rfl rfl rfl (Nat.le_of_eq rfl) (Nat.le_of_ble_eq_true rfl) (Nat.le_of_ble_eq_true rfl) fun v83 h84 ps80 q82 z81 => ?_
  obtain ⟨rfl, K1, X1, G1, G2⟩ := q82
  have f85 := Exa.keep f77 K1
  have f86 := Arv.keep At K1 (ninS (neA (by omega)) nin0)
  show Own.Run V K b_valueOf _ h84 _ 2 5 25 [.val (.int c)] [.ref a68]
  refine r_aret (t := (.object "java/lang/String")) rfl rfl rfl d5_25 (by decide) (by decide) [] (fun _ q => nomatch q) ?_
  exact ⟨_, rfl, Keep.ext0 (Ext.trans' Eh69 Et) K1 (fun w hw' => by cases List.mem_singleton.mp hw'; exact leA (by omega)), t, _, 0, 1, _, X1.lt, f86.lt, Nat.le_refl _, X1, G1, G2, f86, Or.inl ⟨rfl, rfl, rfl, fun c' hc' => by cases List.mem_singleton.mp hc'; exact hc.2⟩, up16 (by1 hc), Nat.le_of_ble_eq_true rfl⟩
theorem ofN_nat {n : Nat} (h : n < 2 ^ 31) : (Int32.ofNat n).toNatClampNeg = n := by
  have q : (Int32.ofNat n).toInt = n := Int32.toInt_ofNat_small h
  simp only [Int32.toNatClampNeg, q]; omega
theorem ofN_lt {n k : Nat} (h : n < 2 ^ 31) (g : k < 2 ^ 31) : Int32.ofNat n < Int32.ofNat k ↔ n < k := by
  have q : (Int32.ofNat n).toInt = n := Int32.toInt_ofNat_small h
  have r : (Int32.ofNat k).toInt = k := Int32.toInt_ofNat_small g
  rw [Int32.lt_iff_toInt_lt, q, r]; omega
theorem ofN_nn {n : Nat} (h : n < 2 ^ 31) : ¬ Int32.ofNat n < 0 := by
  have q : (Int32.ofNat n).toInt = n := Int32.toInt_ofNat_small h
  rw [Int32.lt_iff_toInt_lt, q]; have : (0 : Int32).toInt = 0 := rfl; omega
theorem ofN_s (n : Nat) : Int32.ofNat n + 1 = Int32.ofNat (n + 1) := (Int32.ofNat_add n 1).symm
theorem by_int {x : Int32} (h : By x) : 0 ≤ x.toInt ∧ x.toInt ≤ 255 := by
  obtain ⟨a, b⟩ := h
  rw [Int32.lt_iff_toInt_lt] at a b
  have e0 : (0 : Int32).toInt = 0 := rfl
  have e1 : (255 : Int32).toInt = 255 := rfl
  omega
theorem lo8_by {x y : Int32} (hx : By x) (hy : By y) (e : x.toInt8.toInt32 = y.toInt8.toInt32) : x = y := by
  have a := c_i2b x
  have b := c_i2b y
  have c := by_int hx
  have d := by_int hy
  rw [e] at a
  rw [← Int32.toInt_inj]; omega
theorem vsGet (cs : List Int32) (i : Nat) (h : i < cs.length) : ((cs.map fun c => Value.int (StrChars.lo8 c))).getD i (.int 0) = .int ((cs.getD i 0).toInt8.toInt32) := by
  simp [List.getD_eq_getElem?_getD, h, StrChars.lo8]

def Qi (z : Int32) (h0 : Heap) : Qt := fun v h _ => v = some (.int z) ∧ h = h0
def Qu (h0 : Heap) : Qt := fun v h _ => v = none ∧ h = h0

def Sb (V : Vw) (h : Heap) (s t cap : Nat) (cs : List Int32) : Prop := ∃ kb : ClassId, V.Z.heap.size ≤ s ∧ V.Z.heap.size ≤ t ∧ Exa V.Z h s "java/lang/StringBuilder" ∧ Fld V.Z h s "java/lang/AbstractStringBuilder" "value" "[B" (.ref t) ∧ Fld V.Z h s "java/lang/AbstractStringBuilder" "coder" "B" (.int 0) ∧ Fld V.Z h s "java/lang/AbstractStringBuilder" "count" "I" (.int (Int32.ofNat cs.length)) ∧ Arv V.Z h t kb .byte (Int32.ofNat cap) (cs.map fun c => Value.int (StrChars.lo8 c)) (.int 0) ∧ cs.length ≤ cap ∧ cap ≤ 4000
theorem Sb.ext {V : Vw} {h h' : Heap} {s t cap : Nat} {cs : List Int32} (E : Ext h h') (S : Sb V h s t cap cs) : Sb V h' s t cap cs := by
  obtain ⟨kb, zs, zt, X, Fv, Fc, Fn, A, r⟩ := S
  exact ⟨kb, zs, zt, X.ext E, Fv.ext E, Fc.ext E, Fn.ext E, A.ext E, r⟩
theorem Keep.wide {h h' : Heap} {ws ws' : List Addr} (K : Keep h h' ws) (q : ∀ x ∈ ws, x ∈ ws') : Keep h h' ws' := (Keep.refl h ws').trans K (fun x hx => Or.inl (q x hx))
theorem Sb.exa {V : Vw} {h : Heap} {s t cap : Nat} {cs : List Int32} (S : Sb V h s t cap cs) : Exa V.Z h s "java/lang/StringBuilder" := by
  obtain ⟨kb, zs, zt, X, r⟩ := S; exact X
theorem Sb.zt {V : Vw} {h : Heap} {s t cap : Nat} {cs : List Int32} (S : Sb V h s t cap cs) : V.Z.heap.size ≤ t := by
  obtain ⟨kb, zs, zt, X, r⟩ := S; exact zt

def Qsi (V : Vw) (s cap : Nat) (h0 : Heap) : Qt := fun v h ps => v = none ∧ ∃ t : Nat, t ∈ ps ∧ h0.size ≤ t ∧ Keep h0 h [s] ∧ Sb V h s t cap []
theorem d6_0 : decode jdk_68_method_2_code 0 = .ok (.aload_n 0, 1) := by decide +kernel
theorem d6_1 : decode jdk_68_method_2_code 1 = .ok (.invokespecial 3, 3) := by decide +kernel
theorem d6_4 : decode jdk_68_method_2_code 4 = .ok (.getstatic 18, 3) := by decide +kernel
theorem d6_7 : decode jdk_68_method_2_code 7 = .ok (.ifCond .eq 18, 3) := by decide +kernel
theorem d6_10 : decode jdk_68_method_2_code 10 = .ok (.aload_n 0, 1) := by decide +kernel
theorem d6_11 : decode jdk_68_method_2_code 11 = .ok (.iload_n 1, 1) := by decide +kernel
theorem d6_12 : decode jdk_68_method_2_code 12 = .ok (.newarray .byte, 2) := by decide +kernel
theorem d6_14 : decode jdk_68_method_2_code 14 = .ok (.putfield 15, 3) := by decide +kernel
theorem d6_17 : decode jdk_68_method_2_code 17 = .ok (.aload_n 0, 1) := by decide +kernel
theorem d6_18 : decode jdk_68_method_2_code 18 = .ok (.iconst 0, 1) := by decide +kernel
theorem d6_19 : decode jdk_68_method_2_code 19 = .ok (.putfield 22, 3) := by decide +kernel
theorem d6_22 : decode jdk_68_method_2_code 22 = .ok (.goto 16, 3) := by decide +kernel
theorem d6_25 : decode jdk_68_method_2_code 25 = .ok (.aload_n 0, 1) := by decide +kernel
theorem d6_26 : decode jdk_68_method_2_code 26 = .ok (.iload_n 1, 1) := by decide +kernel
theorem d6_27 : decode jdk_68_method_2_code 27 = .ok (.invokestatic 26, 3) := by decide +kernel
theorem d6_30 : decode jdk_68_method_2_code 30 = .ok (.putfield 15, 3) := by decide +kernel
theorem d6_33 : decode jdk_68_method_2_code 33 = .ok (.aload_n 0, 1) := by decide +kernel
theorem d6_34 : decode jdk_68_method_2_code 34 = .ok (.iconst 1, 1) := by decide +kernel
theorem d6_35 : decode jdk_68_method_2_code 35 = .ok (.putfield 22, 3) := by decide +kernel
theorem d6_38 : decode jdk_68_method_2_code 38 = .ok (.return_, 1) := by decide +kernel
abbrev b_asbi : Bx := (⟨"java/lang/AbstractStringBuilder", "<init>", "(I)V"⟩, jdk_68_method_2_code, 2, none, { frames := 1, cells := 1, slots := 16, locals := 12 })
theorem c_asbi (V : Vw) (hw : ∀ d ∈ tables_1, d.before V.a0 V.Z = true) (cz : Int32) (hCS : Sta V.Z V.Z.heap "java/lang/String" "COMPACT_STRINGS" "Z" (.int cz)) (hcz : ¬ cz = 0) (s cap : Nat) (hcap : cap ≤ 16) (h : Heap) (ps : List Addr) (zs : V.Z.heap.size ≤ s) (X : Exa V.Z h s "java/lang/StringBuilder") (Fv : Fld V.Z h s "java/lang/AbstractStringBuilder" "value" "[B" .null) (Fc : Fld V.Z h s "java/lang/AbstractStringBuilder" "coder" "B" (.int 0)) (Fn : Fld V.Z h s "java/lang/AbstractStringBuilder" "count" "I" (.int 0)) : Con V b_asbi #[.ref s, .int (Int32.ofNat cap)] h ps (Qsi V s cap h) := Con.of (plainFor_of_name pn_2) (L := [.val (.ref s), .val (.int (Int32.ofNat cap))]) rfl fun K => by
  have ls := ltN X.lt
  refine r_aloadN 1 rfl d6_0 rfl rfl ?_
  refine r_initO 0 4 rfl d6_1 (wd hw 71 rfl) (wd hw 16 rfl) (wd hw 17 rfl) rfl (by decide) (Nat.le_of_eq rfl) (by decide) ?_
  refine r_getstatic 7 rfl d6_4 (wd hw 72 rfl) hCS ?_
  refine r_if_eq 25 10 d6_7 (by decide) rfl rfl (fun c87 => ?_) (fun c87 => ?_)
  · exact absurd c87 hcz
  refine r_aloadN 11 rfl d6_10 rfl rfl ?_
  refine r_iloadN 12 rfl d6_11 rfl ?_
  refine r_newarray 16 14 rfl d6_12 (wd hw 23 rfl) (ofN_nn (by omega)) (by rw [ofN_nat (by omega)]; exact hcap) (by decide) (by decide) (by decide) fun a88 h89 k90 ga88 za88 Eh89 Aa88 => ?_
  have f91 := Exa.ext Eh89 X
  have f92 := Fld.ext Eh89 Fv
  have f93 := Fld.ext Eh89 Fc
  have f94 := Fld.ext Eh89 Fn
  have sh89 := Eh89.1
  have la88 := ltN Aa88.lt
  refine r_putfield 17 rfl d6_14 (wd hw 73 rfl) f92 f91 (Or.inl (wd hw 74 rfl)) (wd hw 60 rfl) (ty := (.array .byte)) (by decide) rfl rfl zs (Or.inl (by decide)) fun h95 Wh95 => ?_
  have sh95 := Wh95.size
  have f96 := Exa.wr Wh95 f91
  have f97 := Fld.same Wh95 f92
  have f98 := Fld.other Wh95 f93 (Or.inr (slot_ne (C := "java/lang/StringBuilder") (Or.inl (wd hw 76 rfl)) (Or.inl (wd hw 74 rfl)) (by decide) (t := .byte) (by decide) (t' := (.array .byte)) (by decide)))
  have f99 := Fld.other Wh95 f94 (Or.inr (slot_ne (C := "java/lang/StringBuilder") (Or.inl (wd hw 98 rfl)) (Or.inl (wd hw 74 rfl)) (by decide) (t := .int) (by decide) (t' := (.array .byte)) (by decide)))
  have f100 := Arv.other Aa88 Wh95 (neA (by omega))
  refine r_aloadN 18 rfl d6_17 rfl rfl ?_
  refine r_iconst (0 : Int32) 19 rfl d6_18 rfl ?_
  refine r_putfield 22 rfl d6_19 (wd hw 75 rfl) f98 f96 (Or.inl (wd hw 76 rfl)) (wd hw 60 rfl) (ty := .byte) (by decide) (by decide) (by decide) zs (Or.inl (by decide)) fun h101 Wh101 => ?_
  have sh101 := Wh101.size
  have f102 := Exa.wr Wh101 f96
  have f103 := Fld.other Wh101 f97 (Or.inr (slot_ne (C := "java/lang/StringBuilder") (Or.inl (wd hw 74 rfl)) (Or.inl (wd hw 76 rfl)) (by decide) (t := (.array .byte)) (by decide) (t' := .byte) (by decide)))
  have f104 := Fld.same Wh101 f98
  have f105 := Fld.other Wh101 f99 (Or.inr (slot_ne (C := "java/lang/StringBuilder") (Or.inl (wd hw 98 rfl)) (Or.inl (wd hw 76 rfl)) (by decide) (t := .int) (by decide) (t' := .byte) (by decide)))
  have f106 := Arv.other f100 Wh101 (neA (by omega))
  refine r_goto 38 d6_22 (by decide) rfl ?_
  refine r_ret rfl d6_38 (by decide) (by decide) [a88] (fun y hy => by cases List.mem_singleton.mp hy; simp) ?_
  exact ⟨rfl, a88, List.mem_singleton.mpr rfl, by omega, ((((Keep.refl _ _).ext Eh89).wr Wh95 (Or.inl (by simp))).wr Wh101 (Or.inl (by simp))), _, zs, za88, f102, f103, f104, f105, f106, Nat.zero_le _, by omega⟩
theorem d7_0 : decode jdk_67_method_1_code 0 = .ok (.aload_n 0, 1) := by decide +kernel
theorem d7_1 : decode jdk_67_method_1_code 1 = .ok (.bipush 16, 2) := by decide +kernel
theorem d7_3 : decode jdk_67_method_1_code 3 = .ok (.invokespecial 1, 3) := by decide +kernel
theorem d7_6 : decode jdk_67_method_1_code 6 = .ok (.return_, 1) := by decide +kernel
abbrev b_sbi : Bx := (⟨"java/lang/StringBuilder", "<init>", "()V"⟩, jdk_67_method_1_code, 1, none, { frames := 2, cells := 1, slots := 16, locals := 28 })
theorem c_sbi (V : Vw) (hw : ∀ d ∈ tables_1, d.before V.a0 V.Z = true) (cz : Int32) (hCS : Sta V.Z V.Z.heap "java/lang/String" "COMPACT_STRINGS" "Z" (.int cz)) (hcz : ¬ cz = 0) (s : Nat) (h : Heap) (ps : List Addr) (zs : V.Z.heap.size ≤ s) (X : Exa V.Z h s "java/lang/StringBuilder") (Fv : Fld V.Z h s "java/lang/AbstractStringBuilder" "value" "[B" .null) (Fc : Fld V.Z h s "java/lang/AbstractStringBuilder" "coder" "B" (.int 0)) (Fn : Fld V.Z h s "java/lang/AbstractStringBuilder" "count" "I" (.int 0)) : Con V b_sbi #[.ref s] h ps (Qsi V s 16 h) := Con.of (plainFor_of_name pn_3) (L := [.val (.ref s)]) rfl fun K => by
  refine r_aloadN 1 rfl d7_0 rfl rfl ?_
  refine r_bipush (16 : Int32) 3 rfl d7_1 rfl ?_
  refine r_special 6 rfl d7_3 rfl (wd hw 65 rfl) (wd hw 66 rfl) (wd hw 70 rfl) (by decide) (Pays.con (K := K) (B := b_sbi) (c_asbi V hw cz hCS hcz s 16 (by decide) h _ zs X Fv Fc Fn) (wd hw 70 rfl) (wd hw 69 rfl) (by decide) (by decide)) (W := 0) (argsL := [.int (16 : Int32)]) (lenOf pd_6 rfl) rfl rfl rfl (Nat.le_of_eq rfl) (Nat.le_of_ble_eq_true rfl) (Nat.le_of_ble_eq_true rfl) fun v109 h110 psx q108 z107 => ?_
  obtain ⟨rfl, t, ht, lt, K1, S1⟩ := q108
  show Own.Run V K b_sbi _ h110 _ 1 16 6 [.val (.ref s)] []
  refine r_ret rfl d7_6 (by decide) (by decide) psx (fun y hy => List.mem_append_left _ hy) ?_
  exact ⟨rfl, t, ht, lt, K1, S1⟩
theorem d8_0 : decode jdk_68_method_9_code 0 = .ok (.aload_n 0, 1) := by decide +kernel
theorem d8_1 : decode jdk_68_method_9_code 1 = .ok (.getfield 15, 3) := by decide +kernel
theorem d8_4 : decode jdk_68_method_9_code 4 = .ok (.arraylength, 1) := by decide +kernel
theorem d8_5 : decode jdk_68_method_9_code 5 = .ok (.aload_n 0, 1) := by decide +kernel
theorem d8_6 : decode jdk_68_method_9_code 6 = .ok (.getfield 22, 3) := by decide +kernel
theorem d8_9 : decode jdk_68_method_9_code 9 = .ok (.ishr, 1) := by decide +kernel
theorem d8_10 : decode jdk_68_method_9_code 10 = .ok (.istore_n 2, 1) := by decide +kernel
theorem d8_11 : decode jdk_68_method_9_code 11 = .ok (.iload_n 1, 1) := by decide +kernel
theorem d8_12 : decode jdk_68_method_9_code 12 = .ok (.iload_n 2, 1) := by decide +kernel
theorem d8_13 : decode jdk_68_method_9_code 13 = .ok (.isub, 1) := by decide +kernel
theorem d8_14 : decode jdk_68_method_9_code 14 = .ok (.ifCond .le 24, 3) := by decide +kernel
theorem d8_17 : decode jdk_68_method_9_code 17 = .ok (.aload_n 0, 1) := by decide +kernel
theorem d8_18 : decode jdk_68_method_9_code 18 = .ok (.aload_n 0, 1) := by decide +kernel
theorem d8_19 : decode jdk_68_method_9_code 19 = .ok (.getfield 15, 3) := by decide +kernel
theorem d8_22 : decode jdk_68_method_9_code 22 = .ok (.aload_n 0, 1) := by decide +kernel
theorem d8_23 : decode jdk_68_method_9_code 23 = .ok (.iload_n 1, 1) := by decide +kernel
theorem d8_24 : decode jdk_68_method_9_code 24 = .ok (.invokevirtual 104, 3) := by decide +kernel
theorem d8_27 : decode jdk_68_method_9_code 27 = .ok (.aload_n 0, 1) := by decide +kernel
theorem d8_28 : decode jdk_68_method_9_code 28 = .ok (.getfield 22, 3) := by decide +kernel
theorem d8_31 : decode jdk_68_method_9_code 31 = .ok (.ishl, 1) := by decide +kernel
theorem d8_32 : decode jdk_68_method_9_code 32 = .ok (.invokestatic 108, 3) := by decide +kernel
theorem d8_35 : decode jdk_68_method_9_code 35 = .ok (.putfield 15, 3) := by decide +kernel
theorem d8_38 : decode jdk_68_method_9_code 38 = .ok (.return_, 1) := by decide +kernel
abbrev b_ens : Bx := (⟨"java/lang/AbstractStringBuilder", "ensureCapacityInternal", "(I)V"⟩, jdk_68_method_9_code, 3, none, { frames := 0, cells := 0, slots := 0, locals := 0 })
theorem c_ens (V : Vw) (hw : ∀ d ∈ tables_1, d.before V.a0 V.Z = true) (n : Nat) (s t cap : Nat) (cs : List Int32) (h : Heap) (ps : List Addr) (S : Sb V h s t cap cs) (hn : n ≤ cap) : Con V b_ens #[.ref s, .int (Int32.ofNat n)] h ps (Qu h) := Con.of (plainFor_of_name pn_2) (L := [.val (.ref s), .val (.int (Int32.ofNat n)), .unset]) rfl fun K => by
  obtain ⟨kb, zs, zt, X, Fv, Fc, Fn, A, lc, lcap⟩ := id S
  refine r_aloadN 1 rfl d8_0 rfl rfl ?_
  refine r_getfield 4 rfl d8_1 (wd hw 73 rfl) Fv ?_
  refine r_arraylength 5 rfl d8_4 A ?_
  refine r_aloadN 6 rfl d8_5 rfl rfl ?_
  refine r_getfield 9 rfl d8_6 (wd hw 75 rfl) Fc ?_
  refine r_ishr 10 rfl d8_9 ?_
  rw [shr0]
  refine r_istoreN [.val (.ref s), .val (.int (Int32.ofNat n)), .val (.int (Int32.ofNat cap))] 11 rfl d8_10 rfl ?_
  refine r_iloadN 12 rfl d8_11 rfl ?_
  refine r_iloadN 13 rfl d8_12 rfl ?_
  refine r_isub 14 rfl d8_13 ?_
  refine r_if_le 38 17 d8_14 (by decide) rfl rfl (fun c111 => ?_) (fun c111 => ?_)
  rotate_left
  · exact absurd c111 (sub_nle hn (by omega))
  refine r_ret rfl d8_38 (by decide) (by decide) [] (fun _ q => nomatch q) ?_
  exact ⟨rfl, rfl⟩
theorem d9_0 : decode jdk_42_method_152_code 0 = .ok (.getstatic 38, 3) := by decide +kernel
theorem d9_3 : decode jdk_42_method_152_code 3 = .ok (.ifCond .eq 10, 3) := by decide +kernel
theorem d9_6 : decode jdk_42_method_152_code 6 = .ok (.aload_n 0, 1) := by decide +kernel
theorem d9_7 : decode jdk_42_method_152_code 7 = .ok (.getfield 15, 3) := by decide +kernel
theorem d9_10 : decode jdk_42_method_152_code 10 = .ok (.goto 4, 3) := by decide +kernel
theorem d9_13 : decode jdk_42_method_152_code 13 = .ok (.iconst 1, 1) := by decide +kernel
theorem d9_14 : decode jdk_42_method_152_code 14 = .ok (.ireturn, 1) := by decide +kernel
abbrev b_coder : Bx := (⟨"java/lang/String", "coder", "()B"⟩, jdk_42_method_152_code, 1, some .byte, { frames := 0, cells := 0, slots := 0, locals := 0 })
theorem c_coder (V : Vw) (hw : ∀ d ∈ tables_1, d.before V.a0 V.Z = true) (cz : Int32) (hCS : Sta V.Z V.Z.heap "java/lang/String" "COMPACT_STRINGS" "Z" (.int cz)) (hcz : ¬ cz = 0) (x : Nat) (h : Heap) (ps : List Addr) (F : Fld V.Z h x "java/lang/String" "coder" "B" (.int 0)) : Con V b_coder #[.ref x] h ps (Qi 0 h) := Con.of (plainFor_of_name pn_0) (L := [.val (.ref x)]) rfl fun K => by
  refine r_getstatic 3 rfl d9_0 (wd hw 18 rfl) hCS ?_
  refine r_if_eq 13 6 d9_3 (by decide) rfl rfl (fun c112 => ?_) (fun c112 => ?_)
  · exact absurd c112 hcz
  refine r_aloadN 7 rfl d9_6 rfl rfl ?_
  refine r_getfield 10 rfl d9_7 (wd hw 30 rfl) F ?_
  refine r_goto 14 d9_10 (by decide) rfl ?_
  refine r_nret (t := .byte) (0 : Int32) rfl (by simp) rfl d9_14 (by decide) (by decide) [] (fun _ q => nomatch q) ?_
  exact ⟨rfl, rfl⟩
theorem d10_0 : decode jdk_68_method_71_code 0 = .ok (.getstatic 18, 3) := by decide +kernel
theorem d10_3 : decode jdk_68_method_71_code 3 = .ok (.ifCond .eq 18, 3) := by decide +kernel
theorem d10_6 : decode jdk_68_method_71_code 6 = .ok (.aload_n 0, 1) := by decide +kernel
theorem d10_7 : decode jdk_68_method_71_code 7 = .ok (.getfield 22, 3) := by decide +kernel
theorem d10_10 : decode jdk_68_method_71_code 10 = .ok (.aload_n 1, 1) := by decide +kernel
theorem d10_11 : decode jdk_68_method_71_code 11 = .ok (.invokevirtual 40, 3) := by decide +kernel
theorem d10_14 : decode jdk_68_method_71_code 14 = .ok (.if_icmp .eq 7, 3) := by decide +kernel
theorem d10_17 : decode jdk_68_method_71_code 17 = .ok (.aload_n 0, 1) := by decide +kernel
theorem d10_18 : decode jdk_68_method_71_code 18 = .ok (.invokevirtual 195, 3) := by decide +kernel
theorem d10_21 : decode jdk_68_method_71_code 21 = .ok (.return_, 1) := by decide +kernel
abbrev b_infl : Bx := (⟨"java/lang/AbstractStringBuilder", "inflateIfNeededFor", "(Ljava/lang/String;)V"⟩, jdk_68_method_71_code, 2, none, { frames := 1, cells := 0, slots := 0, locals := 16 })
theorem c_infl (V : Vw) (hw : ∀ d ∈ tables_1, d.before V.a0 V.Z = true) (cz : Int32) (hCS : Sta V.Z V.Z.heap "java/lang/String" "COMPACT_STRINGS" "Z" (.int cz)) (hcz : ¬ cz = 0) (x : Nat) (s t cap : Nat) (cs : List Int32) (h : Heap) (ps : List Addr) (S : Sb V h s t cap cs) (Ex : Exa V.Z h x "java/lang/String") (F : Fld V.Z h x "java/lang/String" "coder" "B" (.int 0)) : Con V b_infl #[.ref s, .ref x] h ps (Qu h) := Con.of (plainFor_of_name pn_2) (L := [.val (.ref s), .val (.ref x)]) rfl fun K => by
  obtain ⟨kb, zs, zt, X, Fv, Fc, Fn, A, lc, lcap⟩ := id S
  refine r_getstatic 3 rfl d10_0 (wd hw 72 rfl) hCS ?_
  refine r_if_eq 21 6 d10_3 (by decide) rfl rfl (fun c113 => ?_) (fun c113 => ?_)
  · exact absurd c113 hcz
  refine r_aloadN 7 rfl d10_6 rfl rfl ?_
  refine r_getfield 10 rfl d10_7 (wd hw 75 rfl) Fc ?_
  refine r_aloadN 11 rfl d10_10 rfl rfl ?_
  refine r_virtual 14 rfl d10_11 (wd hw 114 rfl) (wd hw 93 rfl) (wd hw 95 rfl) (wd hw 94 rfl) (nfS (wd hw 95 rfl)) (by decide) Ex (Pays.con (K := K) (B := b_infl) (c_coder V hw cz hCS hcz x h _ F) (wd hw 96 rfl) (wd hw 6 rfl) (by decide) (by decide)) (W := 1) (argsL := []) (lenOf pd_8 rfl) rfl rfl rfl (Nat.le_of_eq rfl) (Nat.le_of_ble_eq_true rfl) (Nat.le_of_ble_eq_true rfl) fun v117 h118 ps114 q116 z115 => ?_
  obtain ⟨rfl, es119⟩ := q116
  subst h118
  show Own.Run V K b_infl _ h _ 0 0 14 [.val (.ref s), .val (.ref x)] [.int (0 : Int32), .int (0 : Int32)]
  refine r_icmp_eq 21 17 d10_14 (by decide) rfl rfl (fun c120 => ?_) (fun c120 => ?_)
  rotate_left
  · exact absurd rfl c120
  refine r_ret rfl d10_21 (by decide) (by decide) [] (fun _ q => nomatch q) ?_
  exact ⟨rfl, rfl⟩
theorem d11_0 : decode jdk_42_method_147_code 0 = .ok (.aload_n 0, 1) := by decide +kernel
theorem d11_1 : decode jdk_42_method_147_code 1 = .ok (.invokevirtual 335, 3) := by decide +kernel
theorem d11_4 : decode jdk_42_method_147_code 4 = .ok (.iload_n 3, 1) := by decide +kernel
theorem d11_5 : decode jdk_42_method_147_code 5 = .ok (.if_icmp .ne 23, 3) := by decide +kernel
theorem d11_8 : decode jdk_42_method_147_code 8 = .ok (.aload_n 0, 1) := by decide +kernel
theorem d11_9 : decode jdk_42_method_147_code 9 = .ok (.getfield 9, 3) := by decide +kernel
theorem d11_12 : decode jdk_42_method_147_code 12 = .ok (.iconst 0, 1) := by decide +kernel
theorem d11_13 : decode jdk_42_method_147_code 13 = .ok (.aload_n 1, 1) := by decide +kernel
theorem d11_14 : decode jdk_42_method_147_code 14 = .ok (.iload_n 2, 1) := by decide +kernel
theorem d11_15 : decode jdk_42_method_147_code 15 = .ok (.iload_n 3, 1) := by decide +kernel
theorem d11_16 : decode jdk_42_method_147_code 16 = .ok (.ishl, 1) := by decide +kernel
theorem d11_17 : decode jdk_42_method_147_code 17 = .ok (.aload_n 0, 1) := by decide +kernel
theorem d11_18 : decode jdk_42_method_147_code 18 = .ok (.getfield 9, 3) := by decide +kernel
theorem d11_21 : decode jdk_42_method_147_code 21 = .ok (.arraylength, 1) := by decide +kernel
theorem d11_22 : decode jdk_42_method_147_code 22 = .ok (.invokestatic 212, 3) := by decide +kernel
theorem d11_25 : decode jdk_42_method_147_code 25 = .ok (.goto 18, 3) := by decide +kernel
theorem d11_28 : decode jdk_42_method_147_code 28 = .ok (.aload_n 0, 1) := by decide +kernel
theorem d11_29 : decode jdk_42_method_147_code 29 = .ok (.getfield 9, 3) := by decide +kernel
theorem d11_32 : decode jdk_42_method_147_code 32 = .ok (.iconst 0, 1) := by decide +kernel
theorem d11_33 : decode jdk_42_method_147_code 33 = .ok (.aload_n 1, 1) := by decide +kernel
theorem d11_34 : decode jdk_42_method_147_code 34 = .ok (.iload_n 2, 1) := by decide +kernel
theorem d11_35 : decode jdk_42_method_147_code 35 = .ok (.aload_n 0, 1) := by decide +kernel
theorem d11_36 : decode jdk_42_method_147_code 36 = .ok (.getfield 9, 3) := by decide +kernel
theorem d11_39 : decode jdk_42_method_147_code 39 = .ok (.arraylength, 1) := by decide +kernel
theorem d11_40 : decode jdk_42_method_147_code 40 = .ok (.invokestatic 106, 3) := by decide +kernel
theorem d11_43 : decode jdk_42_method_147_code 43 = .ok (.return_, 1) := by decide +kernel
abbrev b_getB : Bx := (⟨"java/lang/String", "getBytes", "([BIB)V"⟩, jdk_42_method_147_code, 4, none, { frames := 1, cells := 0, slots := 0, locals := 46 })
def Qgb (V : Vw) (t : Nat) (kb : ClassId) (cap : Nat) (cs : List Int32) (h0 : Heap) : Qt := fun v h _ => v = none ∧ Keep h0 h [t] ∧ Arv V.Z h t kb .byte (Int32.ofNat cap) (cs.map fun c => Value.int (StrChars.lo8 c)) (.int 0)
theorem c_getB (V : Vw) (hw : ∀ d ∈ tables_1, d.before V.a0 V.Z = true) (cz : Int32) (hCS : Sta V.Z V.Z.heap "java/lang/String" "COMPACT_STRINGS" "Z" (.int cz)) (hcz : ¬ cz = 0) (t cap : Nat) (kb : ClassId) (cs : List Int32) (h : Heap) (ps : List Addr) (zt : V.Z.heap.size ≤ t) (mt : t ∈ ps) (A : Arv V.Z h t kb .byte (Int32.ofNat cap) (cs.map fun c => Value.int (StrChars.lo8 c)) (.int 0)) (x u : Nat) (ku : ClassId) (ds : List Int32) (Ex : Exa V.Z h x "java/lang/String") (Gv : Fld V.Z h x "java/lang/String" "value" "[B" (.ref u)) (Gc : Fld V.Z h x "java/lang/String" "coder" "B" (.int 0)) (U : Arv V.Z h u ku .byte (Int32.ofNat ds.length) (ds.map fun c => Value.int (StrChars.lo8 c)) (.int 0)) (lcap : cap ≤ 4000) (hle : cs.length + ds.length ≤ cap) : Con V b_getB #[.ref x, .ref t, .int (Int32.ofNat cs.length), .int 0] h ps (Qgb V t kb cap (cs ++ ds) h) := Con.of (plainFor_of_name pn_0) (L := [.val (.ref x), .val (.ref t), .val (.int (Int32.ofNat cs.length)), .val (.int (0 : Int32))]) rfl fun K => by
  refine r_aloadN 1 rfl d11_0 rfl rfl ?_
  refine r_virtual 4 rfl d11_1 (wd hw 92 rfl) (wd hw 93 rfl) (wd hw 95 rfl) (wd hw 94 rfl) (nfS (wd hw 95 rfl)) (by decide) Ex (Pays.con (K := K) (B := b_getB) (c_coder V hw cz hCS hcz x h _ Gc) (wd hw 96 rfl) (wd hw 6 rfl) (by decide) (by decide)) (W := 0) (argsL := []) (lenOf pd_8 rfl) rfl rfl rfl (Nat.le_of_eq rfl) (Nat.le_of_ble_eq_true rfl) (Nat.le_of_ble_eq_true rfl) fun v124 h125 ps121 q123 z122 => ?_
  obtain ⟨rfl, es126⟩ := q123
  subst h125
  show Own.Run V K b_getB _ h _ 0 0 4 [.val (.ref x), .val (.ref t), .val (.int (Int32.ofNat cs.length)), .val (.int (0 : Int32))] [.int (0 : Int32)]
  refine r_iloadN 5 rfl d11_4 rfl ?_
  refine r_icmp_ne 28 8 d11_5 (by decide) rfl rfl (fun c127 => ?_) (fun c127 => ?_)
  · exact absurd rfl c127
  refine r_aloadN 9 rfl d11_8 rfl rfl ?_
  refine r_getfield 12 rfl d11_9 (wd hw 32 rfl) Gv ?_
  refine r_iconst (0 : Int32) 13 rfl d11_12 rfl ?_
  refine r_aloadN 14 rfl d11_13 rfl rfl ?_
  refine r_iloadN 15 rfl d11_14 rfl ?_
  refine r_iloadN 16 rfl d11_15 rfl ?_
  refine r_ishl 17 rfl d11_16 ?_
  refine r_aloadN 18 rfl d11_17 rfl rfl ?_
  refine r_getfield 21 rfl d11_18 (wd hw 32 rfl) Gv ?_
  refine r_arraylength 22 rfl d11_21 U ?_
  refine r_acopy 0 cs.length ds.length 0 ((cs ++ ds).map fun c => Value.int (StrChars.lo8 c)) 25 rfl d11_22 (wd hw 120 rfl) (wd hw 123 rfl) (wd hw 121 rfl) (wd hw 122 rfl) U A (rfl) (shl0 _) (rfl) (by rw [ofN_nat (by omega)]; omega) (by rw [ofN_nat (by omega)]; omega) (fun j _ => appG _ cs ds _ j) zt (by simp [mt]) rfl (by decide) (Nat.le_of_eq rfl) (by decide) fun h128 Kh128 Ah128 => ?_
  refine r_goto 43 d11_25 (by decide) rfl ?_
  refine r_ret rfl d11_43 (by decide) (by decide) [] (fun _ q => nomatch q) ?_
  exact ⟨rfl, Kh128, Ah128⟩
theorem d12_0 : decode jdk_68_method_73_code 0 = .ok (.aload_n 0, 1) := by decide +kernel
theorem d12_1 : decode jdk_68_method_73_code 1 = .ok (.aload_n 2, 1) := by decide +kernel
theorem d12_2 : decode jdk_68_method_73_code 2 = .ok (.invokevirtual 397, 3) := by decide +kernel
theorem d12_5 : decode jdk_68_method_73_code 5 = .ok (.aload_n 2, 1) := by decide +kernel
theorem d12_6 : decode jdk_68_method_73_code 6 = .ok (.aload_n 0, 1) := by decide +kernel
theorem d12_7 : decode jdk_68_method_73_code 7 = .ok (.getfield 15, 3) := by decide +kernel
theorem d12_10 : decode jdk_68_method_73_code 10 = .ok (.iload_n 1, 1) := by decide +kernel
theorem d12_11 : decode jdk_68_method_73_code 11 = .ok (.aload_n 0, 1) := by decide +kernel
theorem d12_12 : decode jdk_68_method_73_code 12 = .ok (.getfield 22, 3) := by decide +kernel
theorem d12_15 : decode jdk_68_method_73_code 15 = .ok (.invokevirtual 399, 3) := by decide +kernel
theorem d12_18 : decode jdk_68_method_73_code 18 = .ok (.return_, 1) := by decide +kernel
abbrev b_putS : Bx := (⟨"java/lang/AbstractStringBuilder", "putStringAt", "(ILjava/lang/String;)V"⟩, jdk_68_method_73_code, 3, none, { frames := 2, cells := 0, slots := 0, locals := 66 })
def Qpt (V : Vw) (s t cap : Nat) (cs : List Int32) (n : Int32) (h0 : Heap) : Qt := fun v h _ => v = none ∧ Keep h0 h [t] ∧ ∃ kb : ClassId, Arv V.Z h t kb .byte (Int32.ofNat cap) (cs.map fun c => Value.int (StrChars.lo8 c)) (.int 0)
theorem c_putS (V : Vw) (hw : ∀ d ∈ tables_1, d.before V.a0 V.Z = true) (cz : Int32) (hCS : Sta V.Z V.Z.heap "java/lang/String" "COMPACT_STRINGS" "Z" (.int cz)) (hcz : ¬ cz = 0) (s t cap : Nat) (cs : List Int32) (h : Heap) (ps : List Addr) (S : Sb V h s t cap cs) (mt : t ∈ ps) (x u : Nat) (ku : ClassId) (ds : List Int32) (Ex : Exa V.Z h x "java/lang/String") (Gv : Fld V.Z h x "java/lang/String" "value" "[B" (.ref u)) (Gc : Fld V.Z h x "java/lang/String" "coder" "B" (.int 0)) (U : Arv V.Z h u ku .byte (Int32.ofNat ds.length) (ds.map fun c => Value.int (StrChars.lo8 c)) (.int 0)) (hle : cs.length + ds.length ≤ cap) : Con V b_putS #[.ref s, .int (Int32.ofNat cs.length), .ref x] h ps (Qpt V s t cap (cs ++ ds) 0 h) := Con.of (plainFor_of_name pn_2) (L := [.val (.ref s), .val (.int (Int32.ofNat cs.length)), .val (.ref x)]) rfl fun K => by
  obtain ⟨kb, zs, zt, X, Fv, Fc, Fn, A, lc, lcap⟩ := id S
  refine r_aloadN 1 rfl d12_0 rfl rfl ?_
  refine r_aloadN 2 rfl d12_1 rfl rfl ?_
  refine r_private 5 rfl d12_2 (wd hw 109 rfl) (wd hw 111 rfl) (wd hw 112 rfl) (wd hw 110 rfl) (wd hw 113 rfl) (by decide) X (Pays.con (K := K) (B := b_putS) (c_infl V hw cz hCS hcz x s t cap cs h _ S Ex Gc) (wd hw 113 rfl) (wd hw 69 rfl) (by decide) (by decide)) (W := 0) (argsL := [.ref x]) (lenOf pd_9 rfl) rfl rfl rfl (Nat.le_of_eq rfl) (Nat.le_of_ble_eq_true rfl) (Nat.le_of_ble_eq_true rfl) fun v132 h133 ps129 q131 z130 => ?_
  obtain ⟨rfl, es134⟩ := q131
  subst h133
  show Own.Run V K b_putS _ h _ 0 0 5 [.val (.ref s), .val (.int (Int32.ofNat cs.length)), .val (.ref x)] []
  refine r_aloadN 6 rfl d12_5 rfl rfl ?_
  refine r_aloadN 7 rfl d12_6 rfl rfl ?_
  refine r_getfield 10 rfl d12_7 (wd hw 73 rfl) Fv ?_
  refine r_iloadN 11 rfl d12_10 rfl ?_
  refine r_aloadN 12 rfl d12_11 rfl rfl ?_
  refine r_getfield 15 rfl d12_12 (wd hw 75 rfl) Fc ?_
  refine r_virtual 18 rfl d12_15 (wd hw 115 rfl) (wd hw 116 rfl) (wd hw 118 rfl) (wd hw 117 rfl) (nfS (wd hw 118 rfl)) (by decide) Ex (Pays.con (K := K) (B := b_putS) (c_getB V hw cz hCS hcz t cap kb cs h _ zt (by simp [mt]) A x u ku ds Ex Gv Gc U lcap hle) (wd hw 119 rfl) (wd hw 6 rfl) (by decide) (by decide)) (W := 0) (argsL := [.ref t, .int (Int32.ofNat cs.length), .int (0 : Int32)]) (lenOf pd_10 rfl) rfl rfl rfl (Nat.le_of_eq rfl) (Nat.le_of_ble_eq_true rfl) (Nat.le_of_ble_eq_true rfl) fun v138 h139 ps135 q137 z136 => ?_
  obtain ⟨rfl, K1, A1⟩ := q137
  show Own.Run V K b_putS _ h139 _ 0 0 18 [.val (.ref s), .val (.int (Int32.ofNat cs.length)), .val (.ref x)] []
  refine r_ret rfl d12_18 (by decide) (by decide) [] (fun _ q => nomatch q) ?_
  exact ⟨rfl, K1, _, A1⟩
theorem d13_0 : decode jdk_68_method_22_code 0 = .ok (.aload_n 1, 1) := by decide +kernel
theorem d13_1 : decode jdk_68_method_22_code 1 = .ok (.ifnonnull 8, 3) := by decide +kernel
theorem d13_4 : decode jdk_68_method_22_code 4 = .ok (.aload_n 0, 1) := by decide +kernel
theorem d13_5 : decode jdk_68_method_22_code 5 = .ok (.invokevirtual 204, 3) := by decide +kernel
theorem d13_8 : decode jdk_68_method_22_code 8 = .ok (.areturn, 1) := by decide +kernel
theorem d13_9 : decode jdk_68_method_22_code 9 = .ok (.aload_n 1, 1) := by decide +kernel
theorem d13_10 : decode jdk_68_method_22_code 10 = .ok (.invokevirtual 32, 3) := by decide +kernel
theorem d13_13 : decode jdk_68_method_22_code 13 = .ok (.istore_n 2, 1) := by decide +kernel
theorem d13_14 : decode jdk_68_method_22_code 14 = .ok (.aload_n 0, 1) := by decide +kernel
theorem d13_15 : decode jdk_68_method_22_code 15 = .ok (.aload_n 0, 1) := by decide +kernel
theorem d13_16 : decode jdk_68_method_22_code 16 = .ok (.getfield 79, 3) := by decide +kernel
theorem d13_19 : decode jdk_68_method_22_code 19 = .ok (.iload_n 2, 1) := by decide +kernel
theorem d13_20 : decode jdk_68_method_22_code 20 = .ok (.iadd, 1) := by decide +kernel
theorem d13_21 : decode jdk_68_method_22_code 21 = .ok (.invokevirtual 100, 3) := by decide +kernel
theorem d13_24 : decode jdk_68_method_22_code 24 = .ok (.aload_n 0, 1) := by decide +kernel
theorem d13_25 : decode jdk_68_method_22_code 25 = .ok (.aload_n 0, 1) := by decide +kernel
theorem d13_26 : decode jdk_68_method_22_code 26 = .ok (.getfield 79, 3) := by decide +kernel
theorem d13_29 : decode jdk_68_method_22_code 29 = .ok (.aload_n 1, 1) := by decide +kernel
theorem d13_30 : decode jdk_68_method_22_code 30 = .ok (.invokevirtual 208, 3) := by decide +kernel
theorem d13_33 : decode jdk_68_method_22_code 33 = .ok (.aload_n 0, 1) := by decide +kernel
theorem d13_34 : decode jdk_68_method_22_code 34 = .ok (.dup, 1) := by decide +kernel
theorem d13_35 : decode jdk_68_method_22_code 35 = .ok (.getfield 79, 3) := by decide +kernel
theorem d13_38 : decode jdk_68_method_22_code 38 = .ok (.iload_n 2, 1) := by decide +kernel
theorem d13_39 : decode jdk_68_method_22_code 39 = .ok (.iadd, 1) := by decide +kernel
theorem d13_40 : decode jdk_68_method_22_code 40 = .ok (.putfield 79, 3) := by decide +kernel
theorem d13_43 : decode jdk_68_method_22_code 43 = .ok (.aload_n 0, 1) := by decide +kernel
theorem d13_44 : decode jdk_68_method_22_code 44 = .ok (.areturn, 1) := by decide +kernel
abbrev b_apS : Bx := (⟨"java/lang/AbstractStringBuilder", "append", "(Ljava/lang/String;)Ljava/lang/AbstractStringBuilder;"⟩, jdk_68_method_22_code, 3, some (.object "java/lang/AbstractStringBuilder"), { frames := 3, cells := 0, slots := 0, locals := 86 })
def Qap (V : Vw) (s t cap : Nat) (cs : List Int32) (h0 : Heap) : Qt := fun v h _ => v = some (.ref s) ∧ Keep h0 h [s, t] ∧ Sb V h s t cap cs
theorem c_apS (V : Vw) (hw : ∀ d ∈ tables_1, d.before V.a0 V.Z = true) (cz : Int32) (hCS : Sta V.Z V.Z.heap "java/lang/String" "COMPACT_STRINGS" "Z" (.int cz)) (hcz : ¬ cz = 0) (s t cap : Nat) (cs : List Int32) (h : Heap) (ps : List Addr) (S : Sb V h s t cap cs) (mt : t ∈ ps) (x m : Nat) (ds : List Int32) (Sx : Str V h m x ds) (hb : ∀ c ∈ ds, By c) (hle : cs.length + ds.length ≤ cap) : Con V b_apS #[.ref s, .ref x] h ps (Qap V s t cap (cs ++ ds) h) := Con.of (plainFor_of_name pn_2) (L := [.val (.ref s), .val (.ref x), .unset]) rfl fun K => by
  obtain ⟨kb, zs, zt, X, Fv, Fc, Fn, A, lc, lcap⟩ := id S
  refine Run.old fun OX => ?_
  obtain ⟨u, ku, cd, N2, us, a1, a2, a3, a4, a5, a6, a7, a8, a9, a10⟩ := id Sx
  obtain ⟨rfl, rfl, rfl⟩ : cd = 0 ∧ N2 = Int32.ofNat ds.length ∧ us = (ds.map fun c => Value.int (StrChars.lo8 c)) := by
    rcases a8 with q | ⟨-, -, -, c, hc, hq⟩
    · exact ⟨q.1, q.2.1, q.2.2.1⟩
    · exact absurd hq (hb c hc).2
  have nst := neN (X.neArv A (wd hw 60 rfl))
  refine r_aloadN 1 rfl d13_0 rfl rfl ?_
  refine r_ifnonnull_t 9 d13_1 (by decide) rfl ?_
  refine r_aloadN 10 rfl d13_9 rfl rfl ?_
  refine r_virtual 13 rfl d13_10 (wd hw 87 rfl) (wd hw 88 rfl) (wd hw 90 rfl) (wd hw 89 rfl) (nfS (wd hw 90 rfl)) (by decide) a4 (pay_len V hw K b_apS 0 x m ds h _ Sx OX cz hCS hcz (by decide) (by decide)) (W := 0) (argsL := []) (lenOf pd_13 rfl) rfl rfl rfl (Nat.le_of_eq rfl) (Nat.le_of_ble_eq_true rfl) (Nat.le_of_ble_eq_true rfl) fun v143 h144 ps140 q142 z141 => ?_
  obtain ⟨rfl, es145⟩ := q142
  subst h144
  show Own.Run V K b_apS _ h _ 0 0 13 [.val (.ref s), .val (.ref x), .unset] [.int (Int32.ofNat ds.length)]
  refine r_istoreN [.val (.ref s), .val (.ref x), .val (.int (Int32.ofNat ds.length))] 14 rfl d13_13 rfl ?_
  refine r_aloadN 15 rfl d13_14 rfl rfl ?_
  refine r_aloadN 16 rfl d13_15 rfl rfl ?_
  refine r_getfield 19 rfl d13_16 (wd hw 97 rfl) Fn ?_
  refine r_iloadN 20 rfl d13_19 rfl ?_
  refine r_iadd 21 rfl d13_20 ?_
  rw [← Int32.ofNat_add]
  refine r_private 24 rfl d13_21 (wd hw 99 rfl) (wd hw 101 rfl) (wd hw 102 rfl) (wd hw 100 rfl) (wd hw 103 rfl) (by decide) X (Pays.con (K := K) (B := b_apS) (c_ens V hw (cs.length + ds.length) s t cap cs h _ S hle) (wd hw 103 rfl) (wd hw 69 rfl) (by decide) (by decide)) (W := 0) (argsL := [.int (Int32.ofNat (cs.length + ds.length))]) (lenOf pd_6 rfl) rfl rfl rfl (Nat.le_of_eq rfl) (Nat.le_of_ble_eq_true rfl) (Nat.le_of_ble_eq_true rfl) fun v149 h150 ps146 q148 z147 => ?_
  obtain ⟨rfl, es151⟩ := q148
  subst h150
  show Own.Run V K b_apS _ h _ 0 0 24 [.val (.ref s), .val (.ref x), .val (.int (Int32.ofNat ds.length))] []
  refine r_aloadN 25 rfl d13_24 rfl rfl ?_
  refine r_aloadN 26 rfl d13_25 rfl rfl ?_
  refine r_getfield 29 rfl d13_26 (wd hw 97 rfl) Fn ?_
  refine r_aloadN 30 rfl d13_29 rfl rfl ?_
  refine r_private 33 rfl d13_30 (wd hw 104 rfl) (wd hw 106 rfl) (wd hw 107 rfl) (wd hw 105 rfl) (wd hw 108 rfl) (by decide) X (Pays.con (K := K) (B := b_apS) (c_putS V hw cz hCS hcz s t cap cs h _ S (by simp [mt]) x u ku ds a4 a5 a6 a7 hle) (wd hw 108 rfl) (wd hw 69 rfl) (by decide) (by decide)) (W := 0) (argsL := [.int (Int32.ofNat cs.length), .ref x]) (lenOf pd_11 rfl) rfl rfl rfl (Nat.le_of_eq rfl) (Nat.le_of_ble_eq_true rfl) (Nat.le_of_ble_eq_true rfl) fun v155 h156 ps152 q154 z153 => ?_
  obtain ⟨rfl, K1, kb1, A1⟩ := q154
  have f157 := Exa.keep X K1
  have f158 := Fld.keep Fv K1 (ninS (neA (by omega)) nin0)
  have f159 := Fld.keep Fc K1 (ninS (neA (by omega)) nin0)
  have f160 := Fld.keep Fn K1 (ninS (neA (by omega)) nin0)
  have f161 := Exa.keep a4 K1
  show Own.Run V K b_apS _ h156 _ 0 0 33 [.val (.ref s), .val (.ref x), .val (.int (Int32.ofNat ds.length))] []
  refine r_aloadN 34 rfl d13_33 rfl rfl ?_
  refine r_dup 35 rfl d13_34 rfl ?_
  refine r_getfield 38 rfl d13_35 (wd hw 97 rfl) f160 ?_
  refine r_iloadN 39 rfl d13_38 rfl ?_
  refine r_iadd 40 rfl d13_39 ?_
  rw [← Int32.ofNat_add]
  refine r_putfield 43 rfl d13_40 (wd hw 97 rfl) f160 f157 (Or.inl (wd hw 98 rfl)) (wd hw 60 rfl) (ty := .int) (by decide) rfl rfl zs (Or.inl (by decide)) fun h162 Wh162 => ?_
  have sh162 := Wh162.size
  have f163 := Exa.wr Wh162 f157
  have f164 := Fld.other Wh162 f158 (Or.inr (slot_ne (C := "java/lang/StringBuilder") (Or.inl (wd hw 74 rfl)) (Or.inl (wd hw 98 rfl)) (by decide) (t := (.array .byte)) (by decide) (t' := .int) (by decide)))
  have f165 := Fld.other Wh162 f159 (Or.inr (slot_ne (C := "java/lang/StringBuilder") (Or.inl (wd hw 76 rfl)) (Or.inl (wd hw 98 rfl)) (by decide) (t := .byte) (by decide) (t' := .int) (by decide)))
  have f166 := Fld.same Wh162 f160
  have f167 := Exa.wr Wh162 f161
  have f168 := Arv.other A1 Wh162 (neA (by omega))
  refine r_aloadN 44 rfl d13_43 rfl rfl ?_
  refine r_aret (t := (.object "java/lang/AbstractStringBuilder")) rfl rfl rfl d13_44 (by decide) (by decide) [] (fun _ q => nomatch q) ?_
  exact ⟨rfl, (Keep.wide K1 (by simp)).wr Wh162 (Or.inl (by simp)), kb1, zs, zt, f163, f164, f165, by rw [List.length_append]; exact f166, f168, by rw [List.length_append]; exact hle, lcap⟩
theorem d14_0 : decode jdk_67_method_7_code 0 = .ok (.aload_n 0, 1) := by decide +kernel
theorem d14_1 : decode jdk_67_method_7_code 1 = .ok (.aload_n 1, 1) := by decide +kernel
theorem d14_2 : decode jdk_67_method_7_code 2 = .ok (.invokespecial 29, 3) := by decide +kernel
theorem d14_5 : decode jdk_67_method_7_code 5 = .ok (.pop, 1) := by decide +kernel
theorem d14_6 : decode jdk_67_method_7_code 6 = .ok (.aload_n 0, 1) := by decide +kernel
theorem d14_7 : decode jdk_67_method_7_code 7 = .ok (.areturn, 1) := by decide +kernel
abbrev b_sbS : Bx := (⟨"java/lang/StringBuilder", "append", "(Ljava/lang/String;)Ljava/lang/StringBuilder;"⟩, jdk_67_method_7_code, 2, some (.object "java/lang/StringBuilder"), { frames := 4, cells := 0, slots := 0, locals := 102 })
theorem c_sbS (V : Vw) (hw : ∀ d ∈ tables_1, d.before V.a0 V.Z = true) (cz : Int32) (hCS : Sta V.Z V.Z.heap "java/lang/String" "COMPACT_STRINGS" "Z" (.int cz)) (hcz : ¬ cz = 0) (s t cap : Nat) (cs : List Int32) (h : Heap) (ps : List Addr) (S : Sb V h s t cap cs) (mt : t ∈ ps) (x m : Nat) (ds : List Int32) (Sx : Str V h m x ds) (hb : ∀ c ∈ ds, By c) (hle : cs.length + ds.length ≤ cap) : Con V b_sbS #[.ref s, .ref x] h ps (Qap V s t cap (cs ++ ds) h) := Con.of (plainFor_of_name pn_3) (L := [.val (.ref s), .val (.ref x)]) rfl fun K => by
  refine r_aloadN 1 rfl d14_0 rfl rfl ?_
  refine r_aloadN 2 rfl d14_1 rfl rfl ?_
  refine r_super 5 rfl d14_2 (by decide) (wd hw 82 rfl) (wd hw 84 rfl) (wd hw 83 rfl) (wd hw 86 rfl) (wd hw 102 rfl) rfl (by decide) S.exa (Pays.con (K := K) (B := b_sbS) (c_apS V hw cz hCS hcz s t cap cs h _ S (by simp [mt]) x m ds Sx hb hle) (wd hw 86 rfl) (wd hw 69 rfl) (by decide) (by decide)) (W := 0) (argsL := [.ref x]) (lenOf pd_12 rfl) rfl rfl rfl (Nat.le_of_eq rfl) (Nat.le_of_ble_eq_true rfl) (Nat.le_of_ble_eq_true rfl) fun v172 h173 ps169 q171 z170 => ?_
  obtain ⟨rfl, K1, S1⟩ := q171
  show Own.Run V K b_sbS _ h173 _ 0 0 5 [.val (.ref s), .val (.ref x)] [.ref s]
  refine r_pop 6 rfl d14_5 rfl ?_
  refine r_aloadN 7 rfl d14_6 rfl rfl ?_
  refine r_aret (t := (.object "java/lang/StringBuilder")) rfl rfl rfl d14_7 (by decide) (by decide) [] (fun _ q => nomatch q) ?_
  exact ⟨rfl, K1, S1⟩
theorem d15_0 : decode jdk_68_method_64_code 0 = .ok (.aload_n 0, 1) := by decide +kernel
theorem d15_1 : decode jdk_68_method_64_code 1 = .ok (.getfield 15, 3) := by decide +kernel
theorem d15_4 : decode jdk_68_method_64_code 4 = .ok (.areturn, 1) := by decide +kernel
abbrev b_getV : Bx := (⟨"java/lang/AbstractStringBuilder", "getValue", "()[B"⟩, jdk_68_method_64_code, 1, some (.array .byte), { frames := 0, cells := 0, slots := 0, locals := 0 })
theorem c_getV (V : Vw) (hw : ∀ d ∈ tables_1, d.before V.a0 V.Z = true) (s t cap : Nat) (cs : List Int32) (h : Heap) (ps : List Addr) (S : Sb V h s t cap cs) : Con V b_getV #[.ref s] h ps (fun v h' _ => v = some (.ref t) ∧ h' = h) := Con.of (plainFor_of_name pn_2) (L := [.val (.ref s)]) rfl fun K => by
  obtain ⟨kb, zs, zt, X, Fv, Fc, Fn, A, lc, lcap⟩ := id S
  refine r_aloadN 1 rfl d15_0 rfl rfl ?_
  refine r_getfield 4 rfl d15_1 (wd hw 73 rfl) Fv ?_
  refine r_aret (t := (.array .byte)) rfl rfl rfl d15_4 (by decide) (by decide) [] (fun _ q => nomatch q) ?_
  exact ⟨rfl, rfl⟩
theorem d16_0 : decode jdk_68_method_6_code 0 = .ok (.aload_n 0, 1) := by decide +kernel
theorem d16_1 : decode jdk_68_method_6_code 1 = .ok (.getfield 79, 3) := by decide +kernel
theorem d16_4 : decode jdk_68_method_6_code 4 = .ok (.ireturn, 1) := by decide +kernel
abbrev b_aLen : Bx := (⟨"java/lang/AbstractStringBuilder", "length", "()I"⟩, jdk_68_method_6_code, 1, some .int, { frames := 0, cells := 0, slots := 0, locals := 0 })
theorem c_aLen (V : Vw) (hw : ∀ d ∈ tables_1, d.before V.a0 V.Z = true) (s t cap : Nat) (cs : List Int32) (h : Heap) (ps : List Addr) (S : Sb V h s t cap cs) : Con V b_aLen #[.ref s] h ps (Qi (Int32.ofNat cs.length) h) := Con.of (plainFor_of_name pn_2) (L := [.val (.ref s)]) rfl fun K => by
  obtain ⟨kb, zs, zt, X, Fv, Fc, Fn, A, lc, lcap⟩ := id S
  refine r_aloadN 1 rfl d16_0 rfl rfl ?_
  refine r_getfield 4 rfl d16_1 (wd hw 97 rfl) Fn ?_
  refine r_iret rfl d16_4 (by decide) (by decide) [] (fun _ q => nomatch q) ?_
  exact ⟨rfl, rfl⟩
theorem d17_0 : decode jdk_67_method_93_code 0 = .ok (.aload_n 0, 1) := by decide +kernel
theorem d17_1 : decode jdk_67_method_93_code 1 = .ok (.invokespecial 343, 3) := by decide +kernel
theorem d17_4 : decode jdk_67_method_93_code 4 = .ok (.ireturn, 1) := by decide +kernel
abbrev b_sLen : Bx := (⟨"java/lang/StringBuilder", "length", "()I"⟩, jdk_67_method_93_code, 1, some .int, { frames := 1, cells := 0, slots := 0, locals := 14 })
theorem c_sLen (V : Vw) (hw : ∀ d ∈ tables_1, d.before V.a0 V.Z = true) (s t cap : Nat) (cs : List Int32) (h : Heap) (ps : List Addr) (S : Sb V h s t cap cs) : Con V b_sLen #[.ref s] h ps (Qi (Int32.ofNat cs.length) h) := Con.of (plainFor_of_name pn_3) (L := [.val (.ref s)]) rfl fun K => by
  refine r_aloadN 1 rfl d17_0 rfl rfl ?_
  refine r_super 4 rfl d17_1 (by decide) (wd hw 147 rfl) (wd hw 84 rfl) (wd hw 143 rfl) (wd hw 148 rfl) (wd hw 102 rfl) rfl (by decide) S.exa (Pays.con (K := K) (B := b_sLen) (c_aLen V hw s t cap cs h _ S) (wd hw 148 rfl) (wd hw 69 rfl) (by decide) (by decide)) (W := 0) (argsL := []) (lenOf pd_13 rfl) rfl rfl rfl (Nat.le_of_eq rfl) (Nat.le_of_ble_eq_true rfl) (Nat.le_of_ble_eq_true rfl) fun v177 h178 ps174 q176 z175 => ?_
  obtain ⟨rfl, es179⟩ := q176
  subst h178
  show Own.Run V K b_sLen _ h _ 0 0 4 [.val (.ref s)] [.int (Int32.ofNat cs.length)]
  refine r_iret rfl d17_4 (by decide) (by decide) [] (fun _ q => nomatch q) ?_
  exact ⟨rfl, rfl⟩
theorem d18_0 : decode jdk_68_method_68_code 0 = .ok (.getstatic 18, 3) := by decide +kernel
theorem d18_3 : decode jdk_68_method_68_code 3 = .ok (.ifCond .eq 14, 3) := by decide +kernel
theorem d18_6 : decode jdk_68_method_68_code 6 = .ok (.aload_n 0, 1) := by decide +kernel
theorem d18_7 : decode jdk_68_method_68_code 7 = .ok (.getfield 22, 3) := by decide +kernel
theorem d18_10 : decode jdk_68_method_68_code 10 = .ok (.ifCond .ne 7, 3) := by decide +kernel
theorem d18_13 : decode jdk_68_method_68_code 13 = .ok (.iconst 1, 1) := by decide +kernel
theorem d18_14 : decode jdk_68_method_68_code 14 = .ok (.goto 4, 3) := by decide +kernel
theorem d18_17 : decode jdk_68_method_68_code 17 = .ok (.iconst 0, 1) := by decide +kernel
theorem d18_18 : decode jdk_68_method_68_code 18 = .ok (.ireturn, 1) := by decide +kernel
abbrev b_aLat : Bx := (⟨"java/lang/AbstractStringBuilder", "isLatin1", "()Z"⟩, jdk_68_method_68_code, 1, some .boolean, { frames := 0, cells := 0, slots := 0, locals := 0 })
theorem c_aLat (V : Vw) (hw : ∀ d ∈ tables_1, d.before V.a0 V.Z = true) (cz : Int32) (hCS : Sta V.Z V.Z.heap "java/lang/String" "COMPACT_STRINGS" "Z" (.int cz)) (hcz : ¬ cz = 0) (s t cap : Nat) (cs : List Int32) (h : Heap) (ps : List Addr) (S : Sb V h s t cap cs) : Con V b_aLat #[.ref s] h ps (Qi 1 h) := Con.of (plainFor_of_name pn_2) (L := [.val (.ref s)]) rfl fun K => by
  obtain ⟨kb, zs, zt, X, Fv, Fc, Fn, A, lc, lcap⟩ := id S
  refine r_getstatic 3 rfl d18_0 (wd hw 72 rfl) hCS ?_
  refine r_if_eq 17 6 d18_3 (by decide) rfl rfl (fun c180 => ?_) (fun c180 => ?_)
  · exact absurd c180 hcz
  refine r_aloadN 7 rfl d18_6 rfl rfl ?_
  refine r_getfield 10 rfl d18_7 (wd hw 75 rfl) Fc ?_
  refine r_if_ne 17 13 d18_10 (by decide) rfl rfl (fun c181 => ?_) (fun c181 => ?_)
  · exact absurd rfl c181
  refine r_iconst (1 : Int32) 14 rfl d18_13 rfl ?_
  refine r_goto 18 d18_14 (by decide) rfl ?_
  refine r_nret (t := .boolean) (1 : Int32) rfl (by simp) rfl d18_18 (by decide) (by decide) [] (fun _ q => nomatch q) ?_
  exact ⟨rfl, rfl⟩
theorem d19_0 : decode jdk_65_method_131_code 0 = .ok (.iload_n 1, 1) := by decide +kernel
theorem d19_1 : decode jdk_65_method_131_code 1 = .ok (.iload_n 0, 1) := by decide +kernel
theorem d19_2 : decode jdk_65_method_131_code 2 = .ok (.if_icmp .ge 35, 3) := by decide +kernel
theorem d19_5 : decode jdk_65_method_131_code 5 = .ok (.new 43, 3) := by decide +kernel
theorem d19_8 : decode jdk_65_method_131_code 8 = .ok (.dup, 1) := by decide +kernel
theorem d19_9 : decode jdk_65_method_131_code 9 = .ok (.new 45, 3) := by decide +kernel
theorem d19_12 : decode jdk_65_method_131_code 12 = .ok (.dup, 1) := by decide +kernel
theorem d19_13 : decode jdk_65_method_131_code 13 = .ok (.invokespecial 47, 3) := by decide +kernel
theorem d19_16 : decode jdk_65_method_131_code 16 = .ok (.iload_n 0, 1) := by decide +kernel
theorem d19_17 : decode jdk_65_method_131_code 17 = .ok (.invokevirtual 54, 3) := by decide +kernel
theorem d19_20 : decode jdk_65_method_131_code 20 = .ok (.ldc_w 337, 3) := by decide +kernel
theorem d19_23 : decode jdk_65_method_131_code 23 = .ok (.invokevirtual 50, 3) := by decide +kernel
theorem d19_26 : decode jdk_65_method_131_code 26 = .ok (.iload_n 1, 1) := by decide +kernel
theorem d19_27 : decode jdk_65_method_131_code 27 = .ok (.invokevirtual 54, 3) := by decide +kernel
theorem d19_30 : decode jdk_65_method_131_code 30 = .ok (.invokevirtual 61, 3) := by decide +kernel
theorem d19_33 : decode jdk_65_method_131_code 33 = .ok (.invokespecial 65, 3) := by decide +kernel
theorem d19_36 : decode jdk_65_method_131_code 36 = .ok (.athrow, 1) := by decide +kernel
theorem d19_37 : decode jdk_65_method_131_code 37 = .ok (.return_, 1) := by decide +kernel
abbrev b_chk : Bx := (⟨"java/util/Arrays", "checkLength", "(II)V"⟩, jdk_65_method_131_code, 2, none, { frames := 0, cells := 0, slots := 0, locals := 0 })
theorem c_chk (V : Vw) (hw : ∀ d ∈ tables_1, d.before V.a0 V.Z = true) (n : Nat) (hn : n ≤ 4000) (h : Heap) (ps : List Addr) : Con V b_chk #[.int 0, .int (Int32.ofNat n)] h ps (Qu h) := Con.of (plainFor_of_name pn_4) (L := [.val (.int (0 : Int32)), .val (.int (Int32.ofNat n))]) rfl fun K => by
  refine r_iloadN 1 rfl d19_0 rfl ?_
  refine r_iloadN 2 rfl d19_1 rfl ?_
  refine r_icmp_ge 37 5 d19_2 (by decide) rfl rfl (fun c182 => ?_) (fun c182 => ?_)
  rotate_left
  · exact absurd c182 (ofN_nn (by omega))
  refine r_ret rfl d19_37 (by decide) (by decide) [] (fun _ q => nomatch q) ?_
  exact ⟨rfl, rfl⟩
theorem d20_0 : decode jdk_29_method_69_code 0 = .ok (.iload_n 0, 1) := by decide +kernel
theorem d20_1 : decode jdk_29_method_69_code 1 = .ok (.iload_n 1, 1) := by decide +kernel
theorem d20_2 : decode jdk_29_method_69_code 2 = .ok (.if_icmp .gt 7, 3) := by decide +kernel
theorem d20_5 : decode jdk_29_method_69_code 5 = .ok (.iload_n 0, 1) := by decide +kernel
theorem d20_6 : decode jdk_29_method_69_code 6 = .ok (.goto 4, 3) := by decide +kernel
theorem d20_9 : decode jdk_29_method_69_code 9 = .ok (.iload_n 1, 1) := by decide +kernel
theorem d20_10 : decode jdk_29_method_69_code 10 = .ok (.ireturn, 1) := by decide +kernel
abbrev b_min : Bx := (⟨"java/lang/Math", "min", "(II)I"⟩, jdk_29_method_69_code, 2, some .int, { frames := 0, cells := 0, slots := 0, locals := 0 })
def mn2 (a b : Int32) : Int32 := if b < a then b else a
theorem c_min (V : Vw) (hw : ∀ d ∈ tables_1, d.before V.a0 V.Z = true) (a b : Int32) (h : Heap) (ps : List Addr) : Con V b_min #[.int a, .int b] h ps (Qi (mn2 a b) h) := Con.of (by decide +kernel) (L := [.val (.int a), .val (.int b)]) rfl fun K => by
  refine r_iloadN 1 rfl d20_0 rfl ?_
  refine r_iloadN 2 rfl d20_1 rfl ?_
  refine r_icmp_gt 9 5 d20_2 (by decide) rfl rfl (fun c183 => ?_) (fun c183 => ?_)
  · refine r_iloadN 10 rfl d20_9 rfl ?_
    refine r_iret rfl d20_10 (by decide) (by decide) [] (fun _ q => nomatch q) ?_
    exact ⟨by rw [show mn2 a b = b from if_pos c183], rfl⟩
  · refine r_iloadN 6 rfl d20_5 rfl ?_
    refine r_goto 10 d20_6 (by decide) rfl ?_
    refine r_iret rfl d20_10 (by decide) (by decide) [] (fun _ q => nomatch q) ?_
    exact ⟨by rw [show mn2 a b = a from if_neg c183], rfl⟩
def Qcr (V : Vw) (cs : List Int32) (h0 : Heap) : Qt := fun v h _ => ∃ (u : Nat) (k : ClassId), v = some (.ref u) ∧ Ext h0 h ∧ h0.size ≤ u ∧ Arv V.Z h u k .byte (Int32.ofNat cs.length) (cs.map fun c => Value.int (StrChars.lo8 c)) (.int 0)
theorem d21_0 : decode jdk_65_method_133_code 0 = .ok (.iload_n 1, 1) := by decide +kernel
theorem d21_1 : decode jdk_65_method_133_code 1 = .ok (.iload_n 2, 1) := by decide +kernel
theorem d21_2 : decode jdk_65_method_133_code 2 = .ok (.invokestatic 343, 3) := by decide +kernel
theorem d21_5 : decode jdk_65_method_133_code 5 = .ok (.iload_n 2, 1) := by decide +kernel
theorem d21_6 : decode jdk_65_method_133_code 6 = .ok (.iload_n 1, 1) := by decide +kernel
theorem d21_7 : decode jdk_65_method_133_code 7 = .ok (.isub, 1) := by decide +kernel
theorem d21_8 : decode jdk_65_method_133_code 8 = .ok (.istore_n 3, 1) := by decide +kernel
theorem d21_9 : decode jdk_65_method_133_code 9 = .ok (.iload_n 3, 1) := by decide +kernel
theorem d21_10 : decode jdk_65_method_133_code 10 = .ok (.newarray .byte, 2) := by decide +kernel
theorem d21_12 : decode jdk_65_method_133_code 12 = .ok (.astore 4, 2) := by decide +kernel
theorem d21_14 : decode jdk_65_method_133_code 14 = .ok (.aload_n 0, 1) := by decide +kernel
theorem d21_15 : decode jdk_65_method_133_code 15 = .ok (.iload_n 1, 1) := by decide +kernel
theorem d21_16 : decode jdk_65_method_133_code 16 = .ok (.aload 4, 2) := by decide +kernel
theorem d21_18 : decode jdk_65_method_133_code 18 = .ok (.iconst 0, 1) := by decide +kernel
theorem d21_19 : decode jdk_65_method_133_code 19 = .ok (.aload_n 0, 1) := by decide +kernel
theorem d21_20 : decode jdk_65_method_133_code 20 = .ok (.arraylength, 1) := by decide +kernel
theorem d21_21 : decode jdk_65_method_133_code 21 = .ok (.iload_n 1, 1) := by decide +kernel
theorem d21_22 : decode jdk_65_method_133_code 22 = .ok (.isub, 1) := by decide +kernel
theorem d21_23 : decode jdk_65_method_133_code 23 = .ok (.iload_n 3, 1) := by decide +kernel
theorem d21_24 : decode jdk_65_method_133_code 24 = .ok (.invokestatic 304, 3) := by decide +kernel
theorem d21_27 : decode jdk_65_method_133_code 27 = .ok (.invokestatic 150, 3) := by decide +kernel
theorem d21_30 : decode jdk_65_method_133_code 30 = .ok (.aload 4, 2) := by decide +kernel
theorem d21_32 : decode jdk_65_method_133_code 32 = .ok (.areturn, 1) := by decide +kernel
abbrev b_corB : Bx := (⟨"java/util/Arrays", "copyOfRangeByte", "([BII)[B"⟩, jdk_65_method_133_code, 5, some (.array .byte), { frames := 1, cells := 1, slots := 16, locals := 46 })
theorem c_corB (V : Vw) (hw : ∀ d ∈ tables_1, d.before V.a0 V.Z = true) (t cap : Nat) (kb : ClassId) (cs : List Int32) (h : Heap) (ps : List Addr) (A : Arv V.Z h t kb .byte (Int32.ofNat cap) (cs.map fun c => Value.int (StrChars.lo8 c)) (.int 0)) (hlt : cs.length < cap) (lcap : cap ≤ 16) : Con V b_corB #[.ref t, .int 0, .int (Int32.ofNat cs.length)] h ps (Qcr V cs h) := Con.of (plainFor_of_name pn_4) (L := [.val (.ref t), .val (.int (0 : Int32)), .val (.int (Int32.ofNat cs.length)), .unset, .unset]) rfl fun K => by
  refine r_iloadN 1 rfl d21_0 rfl ?_
  refine r_iloadN 2 rfl d21_1 rfl ?_
  refine r_static 5 rfl d21_2 (wd hw 161 rfl) (wd hw 162 rfl) (wd hw 156 rfl) (wd hw 163 rfl) (by decide) (Pays.con (K := K) (B := b_corB) (c_chk V hw cs.length (by omega) h _) (wd hw 163 rfl) (wd hw 156 rfl) (by decide) (by decide)) (W := 0) (argsL := [.int (0 : Int32), .int (Int32.ofNat cs.length)]) (lenOf pd_17 rfl) rfl rfl rfl (Nat.le_of_eq rfl) (Nat.le_of_ble_eq_true rfl) (Nat.le_of_ble_eq_true rfl) fun v187 h188 ps184 q186 z185 => ?_
  obtain ⟨rfl, es189⟩ := q186
  subst h188
  show Own.Run V K b_corB _ h _ 0 0 5 [.val (.ref t), .val (.int (0 : Int32)), .val (.int (Int32.ofNat cs.length)), .unset, .unset] []
  refine r_iloadN 6 rfl d21_5 rfl ?_
  refine r_iloadN 7 rfl d21_6 rfl ?_
  refine r_isub 8 rfl d21_7 ?_
  rw [sub0]
  refine r_istoreN [.val (.ref t), .val (.int (0 : Int32)), .val (.int (Int32.ofNat cs.length)), .val (.int (Int32.ofNat cs.length)), .unset] 9 rfl d21_8 rfl ?_
  refine r_iloadN 10 rfl d21_9 rfl ?_
  refine r_newarray 16 12 rfl d21_10 (wd hw 23 rfl) (ofN_nn (by omega)) (by rw [ofN_nat (by omega)]; exact (by omega)) (by decide) (by decide) (by decide) fun a190 h191 k192 ga190 za190 Eh191 Aa190 => ?_
  have f193 := A.ext Eh191
  have sh191 := Eh191.1
  have la190 := ltN Aa190.lt
  refine r_astore [.val (.ref t), .val (.int (0 : Int32)), .val (.int (Int32.ofNat cs.length)), .val (.int (Int32.ofNat cs.length)), .val (.ref a190)] 14 rfl d21_12 rfl rfl ?_
  refine r_aloadN 15 rfl d21_14 rfl rfl ?_
  refine r_iloadN 16 rfl d21_15 rfl ?_
  refine r_aload 18 rfl d21_16 rfl rfl ?_
  refine r_iconst (0 : Int32) 19 rfl d21_18 rfl ?_
  refine r_aloadN 20 rfl d21_19 rfl rfl ?_
  refine r_arraylength 21 rfl d21_20 f193 ?_
  refine r_iloadN 22 rfl d21_21 rfl ?_
  refine r_isub 23 rfl d21_22 ?_
  rw [sub0]
  refine r_iloadN 24 rfl d21_23 rfl ?_
  refine r_static 27 rfl d21_24 (wd hw 164 rfl) (wd hw 165 rfl) (wd hw 166 rfl) (wd hw 167 rfl) (by decide) (Pays.con (K := K) (B := b_corB) (c_min V hw (Int32.ofNat cap) (Int32.ofNat cs.length) h191 _) (wd hw 167 rfl) (wd hw 166 rfl) (by decide) (by decide)) (W := 4) (argsL := [.int (Int32.ofNat cap), .int (Int32.ofNat cs.length)]) (lenOf pd_18 rfl) rfl rfl rfl (Nat.le_of_eq rfl) (Nat.le_of_ble_eq_true rfl) (Nat.le_of_ble_eq_true rfl) fun v197 h198 ps194 q196 z195 => ?_
  obtain ⟨rfl, es199⟩ := q196
  subst h198
  show Own.Run V K b_corB _ h191 _ 1 16 27 [.val (.ref t), .val (.int (0 : Int32)), .val (.int (Int32.ofNat cs.length)), .val (.int (Int32.ofNat cs.length)), .val (.ref a190)] [.int (mn2 (Int32.ofNat cap) (Int32.ofNat cs.length)), .int (0 : Int32), .ref a190, .int (0 : Int32), .ref t]
  rw [show (mn2 (Int32.ofNat cap) (Int32.ofNat cs.length)) = Int32.ofNat cs.length from if_pos ((ofN_lt (by omega) (by omega)).mpr hlt)]
  refine r_acopy 0 0 cs.length 0 (cs.map fun c => Value.int (StrChars.lo8 c)) 30 rfl d21_27 (wd hw 168 rfl) (wd hw 123 rfl) (wd hw 121 rfl) (wd hw 122 rfl) f193 Aa190 (rfl) (rfl) (rfl) (by rw [ofN_nat (by omega)]; omega) (by rw [ofN_nat (by omega)]; omega) (fun j hj => cpyG _ cs _ j (by rw [ofN_nat (by omega)] at hj; exact hj)) za190 (by simp) rfl (by decide) (Nat.le_of_eq rfl) (by decide) fun h200 Kh200 Ah200 => ?_
  refine r_aload 32 rfl d21_30 rfl rfl ?_
  refine r_aret (t := (.array .byte)) rfl rfl rfl d21_32 (by decide) (by decide) [] (fun _ q => nomatch q) ?_
  exact ⟨_, _, rfl, Keep.ext0 Eh191 Kh200 (fun w hw' => by cases List.mem_singleton.mp hw'; exact leA (by omega)), by omega, Ah200⟩
theorem d22_0 : decode jdk_65_method_132_code 0 = .ok (.iload_n 1, 1) := by decide +kernel
theorem d22_1 : decode jdk_65_method_132_code 1 = .ok (.ifCond .ne 9, 3) := by decide +kernel
theorem d22_4 : decode jdk_65_method_132_code 4 = .ok (.iload_n 2, 1) := by decide +kernel
theorem d22_5 : decode jdk_65_method_132_code 5 = .ok (.aload_n 0, 1) := by decide +kernel
theorem d22_6 : decode jdk_65_method_132_code 6 = .ok (.arraylength, 1) := by decide +kernel
theorem d22_7 : decode jdk_65_method_132_code 7 = .ok (.if_icmp .eq 10, 3) := by decide +kernel
theorem d22_10 : decode jdk_65_method_132_code 10 = .ok (.aload_n 0, 1) := by decide +kernel
theorem d22_11 : decode jdk_65_method_132_code 11 = .ok (.iload_n 1, 1) := by decide +kernel
theorem d22_12 : decode jdk_65_method_132_code 12 = .ok (.iload_n 2, 1) := by decide +kernel
theorem d22_13 : decode jdk_65_method_132_code 13 = .ok (.invokestatic 339, 3) := by decide +kernel
theorem d22_16 : decode jdk_65_method_132_code 16 = .ok (.areturn, 1) := by decide +kernel
theorem d22_17 : decode jdk_65_method_132_code 17 = .ok (.aload_n 0, 1) := by decide +kernel
theorem d22_18 : decode jdk_65_method_132_code 18 = .ok (.invokevirtual 310, 3) := by decide +kernel
theorem d22_21 : decode jdk_65_method_132_code 21 = .ok (.checkcast 311, 3) := by decide +kernel
theorem d22_24 : decode jdk_65_method_132_code 24 = .ok (.areturn, 1) := by decide +kernel
abbrev b_cor : Bx := (⟨"java/util/Arrays", "copyOfRange", "([BII)[B"⟩, jdk_65_method_132_code, 3, some (.array .byte), { frames := 2, cells := 1, slots := 16, locals := 64 })
theorem c_cor (V : Vw) (hw : ∀ d ∈ tables_1, d.before V.a0 V.Z = true) (t cap : Nat) (kb : ClassId) (cs : List Int32) (h : Heap) (ps : List Addr) (A : Arv V.Z h t kb .byte (Int32.ofNat cap) (cs.map fun c => Value.int (StrChars.lo8 c)) (.int 0)) (hlt : cs.length < cap) (lcap : cap ≤ 16) : Con V b_cor #[.ref t, .int 0, .int (Int32.ofNat cs.length)] h ps (Qcr V cs h) := Con.of (plainFor_of_name pn_4) (L := [.val (.ref t), .val (.int (0 : Int32)), .val (.int (Int32.ofNat cs.length))]) rfl fun K => by
  refine r_iloadN 1 rfl d22_0 rfl ?_
  refine r_if_ne 10 4 d22_1 (by decide) rfl rfl (fun c201 => ?_) (fun c201 => ?_)
  · exact absurd rfl c201
  refine r_iloadN 5 rfl d22_4 rfl ?_
  refine r_aloadN 6 rfl d22_5 rfl rfl ?_
  refine r_arraylength 7 rfl d22_6 A ?_
  refine r_icmp_eq 17 10 d22_7 (by decide) rfl rfl (fun c202 => ?_) (fun c202 => ?_)
  · exact absurd ((ofN_lt (by omega) (by omega)).mpr hlt) (by rw [c202]; exact Int32.lt_irrefl)
  refine r_aloadN 11 rfl d22_10 rfl rfl ?_
  refine r_iloadN 12 rfl d22_11 rfl ?_
  refine r_iloadN 13 rfl d22_12 rfl ?_
  refine r_static 16 rfl d22_13 (wd hw 158 rfl) (wd hw 159 rfl) (wd hw 156 rfl) (wd hw 160 rfl) (by decide) (Pays.con (K := K) (B := b_cor) (c_corB V hw t cap kb cs h _ A hlt lcap) (wd hw 160 rfl) (wd hw 156 rfl) (by decide) (by decide)) (W := 0) (argsL := [.ref t, .int (0 : Int32), .int (Int32.ofNat cs.length)]) (lenOf pd_19 rfl) rfl rfl rfl (Nat.le_of_eq rfl) (Nat.le_of_ble_eq_true rfl) (Nat.le_of_ble_eq_true rfl) fun v206 h207 ps203 q205 z204 => ?_
  obtain ⟨u, ku, rfl, E1, gu, A1⟩ := q205
  show Own.Run V K b_cor _ h207 _ 1 16 16 [.val (.ref t), .val (.int (0 : Int32)), .val (.int (Int32.ofNat cs.length))] [.ref u]
  refine r_aret (t := (.array .byte)) rfl rfl rfl d22_16 (by decide) (by decide) [] (fun _ q => nomatch q) ?_
  exact ⟨_, _, rfl, E1, gu, A1⟩
theorem d23_0 : decode jdk_42_method_150_code 0 = .ok (.aload_n 0, 1) := by decide +kernel
theorem d23_1 : decode jdk_42_method_150_code 1 = .ok (.invokespecial 1, 3) := by decide +kernel
theorem d23_4 : decode jdk_42_method_150_code 4 = .ok (.aload_n 1, 1) := by decide +kernel
theorem d23_5 : decode jdk_42_method_150_code 5 = .ok (.invokevirtual 552, 3) := by decide +kernel
theorem d23_8 : decode jdk_42_method_150_code 8 = .ok (.astore_n 3, 1) := by decide +kernel
theorem d23_9 : decode jdk_42_method_150_code 9 = .ok (.aload_n 1, 1) := by decide +kernel
theorem d23_10 : decode jdk_42_method_150_code 10 = .ok (.invokevirtual 549, 3) := by decide +kernel
theorem d23_13 : decode jdk_42_method_150_code 13 = .ok (.istore 4, 2) := by decide +kernel
theorem d23_15 : decode jdk_42_method_150_code 15 = .ok (.aload_n 1, 1) := by decide +kernel
theorem d23_16 : decode jdk_42_method_150_code 16 = .ok (.invokevirtual 1047, 3) := by decide +kernel
theorem d23_19 : decode jdk_42_method_150_code 19 = .ok (.ifCond .eq 22, 3) := by decide +kernel
theorem d23_22 : decode jdk_42_method_150_code 22 = .ok (.aload_n 0, 1) := by decide +kernel
theorem d23_23 : decode jdk_42_method_150_code 23 = .ok (.iconst 0, 1) := by decide +kernel
theorem d23_24 : decode jdk_42_method_150_code 24 = .ok (.putfield 15, 3) := by decide +kernel
theorem d23_27 : decode jdk_42_method_150_code 27 = .ok (.aload_n 0, 1) := by decide +kernel
theorem d23_28 : decode jdk_42_method_150_code 28 = .ok (.aload_n 3, 1) := by decide +kernel
theorem d23_29 : decode jdk_42_method_150_code 29 = .ok (.iconst 0, 1) := by decide +kernel
theorem d23_30 : decode jdk_42_method_150_code 30 = .ok (.iload 4, 2) := by decide +kernel
theorem d23_32 : decode jdk_42_method_150_code 32 = .ok (.invokestatic 54, 3) := by decide +kernel
theorem d23_35 : decode jdk_42_method_150_code 35 = .ok (.putfield 9, 3) := by decide +kernel
theorem d23_38 : decode jdk_42_method_150_code 38 = .ok (.goto 59, 3) := by decide +kernel
theorem d23_41 : decode jdk_42_method_150_code 41 = .ok (.getstatic 38, 3) := by decide +kernel
theorem d23_44 : decode jdk_42_method_150_code 44 = .ok (.ifCond .eq 35, 3) := by decide +kernel
theorem d23_47 : decode jdk_42_method_150_code 47 = .ok (.aload_n 1, 1) := by decide +kernel
theorem d23_48 : decode jdk_42_method_150_code 48 = .ok (.getfield 1048, 3) := by decide +kernel
theorem d23_51 : decode jdk_42_method_150_code 51 = .ok (.ifCond .eq 28, 3) := by decide +kernel
theorem d23_54 : decode jdk_42_method_150_code 54 = .ok (.aload_n 0, 1) := by decide +kernel
theorem d23_55 : decode jdk_42_method_150_code 55 = .ok (.aload_n 3, 1) := by decide +kernel
theorem d23_56 : decode jdk_42_method_150_code 56 = .ok (.iconst 0, 1) := by decide +kernel
theorem d23_57 : decode jdk_42_method_150_code 57 = .ok (.iload 4, 2) := by decide +kernel
theorem d23_59 : decode jdk_42_method_150_code 59 = .ok (.invokestatic 1051, 3) := by decide +kernel
theorem d23_62 : decode jdk_42_method_150_code 62 = .ok (.putfield 9, 3) := by decide +kernel
theorem d23_65 : decode jdk_42_method_150_code 65 = .ok (.aload_n 0, 1) := by decide +kernel
theorem d23_66 : decode jdk_42_method_150_code 66 = .ok (.aload_n 0, 1) := by decide +kernel
theorem d23_67 : decode jdk_42_method_150_code 67 = .ok (.getfield 9, 3) := by decide +kernel
theorem d23_70 : decode jdk_42_method_150_code 70 = .ok (.iload 4, 2) := by decide +kernel
theorem d23_72 : decode jdk_42_method_150_code 72 = .ok (.invokestatic 47, 3) := by decide +kernel
theorem d23_75 : decode jdk_42_method_150_code 75 = .ok (.putfield 15, 3) := by decide +kernel
theorem d23_78 : decode jdk_42_method_150_code 78 = .ok (.return_, 1) := by decide +kernel
theorem d23_79 : decode jdk_42_method_150_code 79 = .ok (.aload_n 0, 1) := by decide +kernel
theorem d23_80 : decode jdk_42_method_150_code 80 = .ok (.iconst 1, 1) := by decide +kernel
theorem d23_81 : decode jdk_42_method_150_code 81 = .ok (.putfield 15, 3) := by decide +kernel
theorem d23_84 : decode jdk_42_method_150_code 84 = .ok (.aload_n 0, 1) := by decide +kernel
theorem d23_85 : decode jdk_42_method_150_code 85 = .ok (.aload_n 3, 1) := by decide +kernel
theorem d23_86 : decode jdk_42_method_150_code 86 = .ok (.iconst 0, 1) := by decide +kernel
theorem d23_87 : decode jdk_42_method_150_code 87 = .ok (.iload 4, 2) := by decide +kernel
theorem d23_89 : decode jdk_42_method_150_code 89 = .ok (.iconst 1, 1) := by decide +kernel
theorem d23_90 : decode jdk_42_method_150_code 90 = .ok (.ishl, 1) := by decide +kernel
theorem d23_91 : decode jdk_42_method_150_code 91 = .ok (.invokestatic 54, 3) := by decide +kernel
theorem d23_94 : decode jdk_42_method_150_code 94 = .ok (.putfield 9, 3) := by decide +kernel
theorem d23_97 : decode jdk_42_method_150_code 97 = .ok (.return_, 1) := by decide +kernel
abbrev b_sn2 : Bx := (⟨"java/lang/String", "<init>", "(Ljava/lang/AbstractStringBuilder;Ljava/lang/Void;)V"⟩, jdk_42_method_150_code, 5, none, { frames := 3, cells := 1, slots := 16, locals := 82 })
theorem c_sn2 (V : Vw) (hw : ∀ d ∈ tables_1, d.before V.a0 V.Z = true) (cz : Int32) (hCS : Sta V.Z V.Z.heap "java/lang/String" "COMPACT_STRINGS" "Z" (.int cz)) (hcz : ¬ cz = 0) (s t cap : Nat) (cs : List Int32) (h : Heap) (ps : List Addr) (S : Sb V h s t cap cs) (hlt : cs.length < cap) (lc2 : cap ≤ 16) (hby : ∀ c ∈ cs, By c) (x : Nat) (zx : V.Z.heap.size ≤ x) (hxp : x ∈ ps) (E : Exa V.Z h x "java/lang/String") (Gv : Fld V.Z h x "java/lang/String" "value" "[B" .null) (Gc : Fld V.Z h x "java/lang/String" "coder" "B" (.int 0)) : Con V b_sn2 #[.ref x, .ref s, .null] h ps (Qn V x cs h) := Con.of (plainFor_of_name pn_0) (L := [.val (.ref x), .val (.ref s), .val (.null), .unset, .unset]) rfl fun K => by
  obtain ⟨kb, zs, zt, X, Fv, Fc, Fn, A, lc, lcap⟩ := id S
  have nxs := neN (E.ne X (by decide))
  have nxt := neN (E.neArv A (wd hw 5 rfl))
  have lx := ltN E.lt
  have ltt := ltN A.lt
  refine r_aloadN 1 rfl d23_0 rfl rfl ?_
  refine r_initO 0 4 rfl d23_1 (wd hw 15 rfl) (wd hw 16 rfl) (wd hw 17 rfl) rfl (by decide) (Nat.le_of_eq rfl) (by decide) ?_
  refine r_aloadN 5 rfl d23_4 rfl rfl ?_
  refine r_virtual 8 rfl d23_5 (wd hw 136 rfl) (wd hw 137 rfl) (wd hw 139 rfl) (wd hw 138 rfl) (nfS (wd hw 139 rfl)) (by decide) X (Pays.con (K := K) (B := b_sn2) (c_getV V hw s t cap cs h _ S) (wd hw 140 rfl) (wd hw 69 rfl) (by decide) (by decide)) (W := 0) (argsL := []) (lenOf pd_15 rfl) rfl rfl rfl (Nat.le_of_eq rfl) (Nat.le_of_ble_eq_true rfl) (Nat.le_of_ble_eq_true rfl) fun v211 h212 ps208 q210 z209 => ?_
  obtain ⟨rfl, es213⟩ := q210
  subst h212
  show Own.Run V K b_sn2 _ h _ 0 0 8 [.val (.ref x), .val (.ref s), .val (.null), .unset, .unset] [.ref t]
  refine r_astoreN [.val (.ref x), .val (.ref s), .val (.null), .val (.ref t), .unset] 9 rfl d23_8 rfl rfl ?_
  refine r_aloadN 10 rfl d23_9 rfl rfl ?_
  refine r_virtual 13 rfl d23_10 (wd hw 141 rfl) (wd hw 142 rfl) (wd hw 144 rfl) (wd hw 145 rfl) (nfO (wd hw 102 rfl) rfl) (by decide) X (Pays.con (K := K) (B := b_sn2) (c_sLen V hw s t cap cs h _ S) (wd hw 146 rfl) (wd hw 61 rfl) (by decide) (by decide)) (W := 0) (argsL := []) (lenOf pd_13 rfl) rfl rfl rfl (Nat.le_of_eq rfl) (Nat.le_of_ble_eq_true rfl) (Nat.le_of_ble_eq_true rfl) fun v217 h218 ps214 q216 z215 => ?_
  obtain ⟨rfl, es219⟩ := q216
  subst h218
  show Own.Run V K b_sn2 _ h _ 0 0 13 [.val (.ref x), .val (.ref s), .val (.null), .val (.ref t), .unset] [.int (Int32.ofNat cs.length)]
  refine r_istore [.val (.ref x), .val (.ref s), .val (.null), .val (.ref t), .val (.int (Int32.ofNat cs.length))] 15 rfl d23_13 rfl ?_
  refine r_aloadN 16 rfl d23_15 rfl rfl ?_
  refine r_virtual 19 rfl d23_16 (wd hw 149 rfl) (wd hw 150 rfl) (wd hw 152 rfl) (wd hw 151 rfl) (nfS (wd hw 152 rfl)) (by decide) X (Pays.con (K := K) (B := b_sn2) (c_aLat V hw cz hCS hcz s t cap cs h _ S) (wd hw 153 rfl) (wd hw 69 rfl) (by decide) (by decide)) (W := 0) (argsL := []) (lenOf pd_16 rfl) rfl rfl rfl (Nat.le_of_eq rfl) (Nat.le_of_ble_eq_true rfl) (Nat.le_of_ble_eq_true rfl) fun v223 h224 ps220 q222 z221 => ?_
  obtain ⟨rfl, es225⟩ := q222
  subst h224
  show Own.Run V K b_sn2 _ h _ 0 0 19 [.val (.ref x), .val (.ref s), .val (.null), .val (.ref t), .val (.int (Int32.ofNat cs.length))] [.int (1 : Int32)]
  refine r_if_eq 41 22 d23_19 (by decide) rfl rfl (fun c226 => ?_) (fun c226 => ?_)
  · exact absurd c226 (by decide)
  refine r_aloadN 23 rfl d23_22 rfl rfl ?_
  refine r_iconst (0 : Int32) 24 rfl d23_23 rfl ?_
  refine r_putfield 27 rfl d23_24 (wd hw 30 rfl) Gc E (Or.inr ⟨wd hw 31 rfl, rfl, rfl⟩) (wd hw 5 rfl) (ty := .byte) (by decide) (by decide) (by decide) zx (Or.inr (by simp [hxp])) fun h227 Wh227 => ?_
  have sh227 := Wh227.size
  have f228 := Exa.wr Wh227 X
  have f229 := Exa.wr Wh227 E
  have f230 := Fld.other Wh227 Gv (Or.inr (slot_ne (C := "java/lang/String") (Or.inr (wd hw 33 rfl)) (Or.inr (wd hw 31 rfl)) (by decide) (t := (.array .byte)) (by decide) (t' := .byte) (by decide)))
  have f231 := Fld.same Wh227 Gc
  have f232 := Arv.other A Wh227 (neA (by omega))
  refine r_aloadN 28 rfl d23_27 rfl rfl ?_
  refine r_aloadN 29 rfl d23_28 rfl rfl ?_
  refine r_iconst (0 : Int32) 30 rfl d23_29 rfl ?_
  refine r_iload 32 rfl d23_30 rfl ?_
  refine r_static 35 rfl d23_32 (wd hw 154 rfl) (wd hw 155 rfl) (wd hw 156 rfl) (wd hw 157 rfl) (by decide) (Pays.con (K := K) (B := b_sn2) (c_cor V hw t cap kb cs h227 _ f232 hlt lc2) (wd hw 157 rfl) (wd hw 156 rfl) (by decide) (by decide)) (W := 1) (argsL := [.ref t, .int (0 : Int32), .int (Int32.ofNat cs.length)]) (lenOf pd_19 rfl) rfl rfl rfl (Nat.le_of_eq rfl) (Nat.le_of_ble_eq_true rfl) (Nat.le_of_ble_eq_true rfl) fun v236 h237 ps233 q235 z234 => ?_
  obtain ⟨u, ku, rfl, E1, gu, A1⟩ := q235
  have f238 := Exa.ext E1 f228
  have f239 := Exa.ext E1 f229
  have f240 := Fld.ext E1 f230
  have f241 := Fld.ext E1 f231
  have f242 := f232.ext E1
  have sh237 := E1.1
  show Own.Run V K b_sn2 _ h237 _ 1 16 35 [.val (.ref x), .val (.ref s), .val (.null), .val (.ref t), .val (.int (Int32.ofNat cs.length))] [.ref u, .ref x]
  have lu := ltN A1.lt
  refine r_putfield 38 rfl d23_35 (wd hw 32 rfl) f240 f239 (Or.inr ⟨wd hw 33 rfl, rfl, rfl⟩) (wd hw 5 rfl) (ty := (.array .byte)) (by decide) rfl rfl zx (Or.inr (by simp [hxp])) fun h243 Wh243 => ?_
  have sh243 := Wh243.size
  have f244 := Exa.wr Wh243 f238
  have f245 := Exa.wr Wh243 f239
  have f246 := Fld.same Wh243 f240
  have f247 := Fld.other Wh243 f241 (Or.inr (slot_ne (C := "java/lang/String") (Or.inr (wd hw 31 rfl)) (Or.inr (wd hw 33 rfl)) (by decide) (t := .byte) (by decide) (t' := (.array .byte)) (by decide)))
  have f248 := Arv.other f242 Wh243 (neA (by omega))
  have f249 := Arv.other A1 Wh243 (neA (by omega))
  refine r_goto 97 d23_38 (by decide) rfl ?_
  refine r_ret rfl d23_97 (by decide) (by decide) [] (fun _ q => nomatch q) ?_
  exact ⟨rfl, ((((Keep.refl _ _).wr Wh227 (Or.inl (by simp))).ext E1).wr Wh243 (Or.inl (by simp))), u, ku, 0, _, _, f245.lt, f249.lt, Nat.le_refl _, f245, f246, f247, f249, Or.inl ⟨rfl, rfl, rfl, fun c hc => (hby c hc).2⟩, up16 hby, by omega⟩
theorem d24_0 : decode jdk_42_method_53_code 0 = .ok (.aload_n 0, 1) := by decide +kernel
theorem d24_1 : decode jdk_42_method_53_code 1 = .ok (.aload_n 1, 1) := by decide +kernel
theorem d24_2 : decode jdk_42_method_53_code 2 = .ok (.aconst_null, 1) := by decide +kernel
theorem d24_3 : decode jdk_42_method_53_code 3 = .ok (.invokespecial 489, 3) := by decide +kernel
theorem d24_6 : decode jdk_42_method_53_code 6 = .ok (.return_, 1) := by decide +kernel
abbrev b_sn1 : Bx := (⟨"java/lang/String", "<init>", "(Ljava/lang/StringBuilder;)V"⟩, jdk_42_method_53_code, 2, none, { frames := 4, cells := 1, slots := 16, locals := 100 })
theorem c_sn1 (V : Vw) (hw : ∀ d ∈ tables_1, d.before V.a0 V.Z = true) (cz : Int32) (hCS : Sta V.Z V.Z.heap "java/lang/String" "COMPACT_STRINGS" "Z" (.int cz)) (hcz : ¬ cz = 0) (s t cap : Nat) (cs : List Int32) (h : Heap) (ps : List Addr) (S : Sb V h s t cap cs) (hlt : cs.length < cap) (lc2 : cap ≤ 16) (hby : ∀ c ∈ cs, By c) (x : Nat) (zx : V.Z.heap.size ≤ x) (hxp : x ∈ ps) (E : Exa V.Z h x "java/lang/String") (Gv : Fld V.Z h x "java/lang/String" "value" "[B" .null) (Gc : Fld V.Z h x "java/lang/String" "coder" "B" (.int 0)) : Con V b_sn1 #[.ref x, .ref s] h ps (Qn V x cs h) := Con.of (plainFor_of_name pn_0) (L := [.val (.ref x), .val (.ref s)]) rfl fun K => by
  refine r_aloadN 1 rfl d24_0 rfl rfl ?_
  refine r_aloadN 2 rfl d24_1 rfl rfl ?_
  refine r_null 3 rfl d24_2 ?_
  refine r_special 6 rfl d24_3 rfl (wd hw 133 rfl) (wd hw 134 rfl) (wd hw 135 rfl) (by decide) (Pays.con (K := K) (B := b_sn1) (c_sn2 V hw cz hCS hcz s t cap cs h _ S hlt lc2 hby x zx (by simp [hxp]) E Gv Gc) (wd hw 135 rfl) (wd hw 6 rfl) (by decide) (by decide)) (W := 0) (argsL := [.ref s, .null]) (lenOf pd_20 rfl) rfl rfl rfl (Nat.le_of_eq rfl) (Nat.le_of_ble_eq_true rfl) (Nat.le_of_ble_eq_true rfl) fun v253 h254 ps250 q252 z251 => ?_
  obtain ⟨rfl, K1, S1⟩ := q252
  show Own.Run V K b_sn1 _ h254 _ 1 16 6 [.val (.ref x), .val (.ref s)] []
  refine r_ret rfl d24_6 (by decide) (by decide) [] (fun _ q => nomatch q) ?_
  exact ⟨rfl, K1, S1⟩
theorem d25_0 : decode jdk_67_method_42_code 0 = .ok (.new 18, 3) := by decide +kernel
theorem d25_3 : decode jdk_67_method_42_code 3 = .ok (.dup, 1) := by decide +kernel
theorem d25_4 : decode jdk_67_method_42_code 4 = .ok (.aload_n 0, 1) := by decide +kernel
theorem d25_5 : decode jdk_67_method_42_code 5 = .ok (.invokespecial 137, 3) := by decide +kernel
theorem d25_8 : decode jdk_67_method_42_code 8 = .ok (.areturn, 1) := by decide +kernel
abbrev b_toS : Bx := (⟨"java/lang/StringBuilder", "toString", "()Ljava/lang/String;"⟩, jdk_67_method_42_code, 1, some (.object "java/lang/String"), { frames := 5, cells := 2, slots := 20, locals := 118 })
theorem c_toS (V : Vw) (hw : ∀ d ∈ tables_1, d.before V.a0 V.Z = true) (cz : Int32) (hCS : Sta V.Z V.Z.heap "java/lang/String" "COMPACT_STRINGS" "Z" (.int cz)) (hcz : ¬ cz = 0) (s t cap : Nat) (cs : List Int32) (h : Heap) (ps : List Addr) (S : Sb V h s t cap cs) (hlt : cs.length < cap) (lc2 : cap ≤ 16) (hby : ∀ c ∈ cs, By c) : Con V b_toS #[.ref s] h ps (Qmk V cs h) := Con.of (plainFor_of_name pn_3) (L := [.val (.ref s)]) rfl fun K => by
  refine r_new 3 rfl d25_0 (wd hw 129 rfl) (wd hw 5 rfl) (wd hw 6 rfl) (by decide) (by decide) fun a255 h256 ga255 za255 Eh256 Xa255 Da255 => ?_
  have sh256 := Eh256.1
  have la255 := ltN Xa255.lt
  have f257 : Fld V.Z h256 a255 "java/lang/String" "value" "[B" (.null) := Da255 (Or.inr (wd hw 33 rfl)) (ty := (.array .byte)) (by decide)
  have f258 : Fld V.Z h256 a255 "java/lang/String" "coder" "B" (.int (0 : Int32)) := Da255 (Or.inr (wd hw 31 rfl)) (ty := .byte) (by decide)
  refine r_dup 4 rfl d25_3 rfl ?_
  refine r_aloadN 5 rfl d25_4 rfl rfl ?_
  refine r_special 8 rfl d25_5 rfl (wd hw 130 rfl) (wd hw 131 rfl) (wd hw 132 rfl) (by decide) (Pays.con (K := K) (B := b_toS) (c_sn1 V hw cz hCS hcz s t cap cs h256 _ (S.ext Eh256) hlt lc2 hby a255 za255 (by simp) Xa255 f257 f258) (wd hw 132 rfl) (wd hw 6 rfl) (by decide) (by decide)) (W := 1) (argsL := [.ref s]) (lenOf pd_21 rfl) rfl rfl rfl (Nat.le_of_eq rfl) (Nat.le_of_ble_eq_true rfl) (Nat.le_of_ble_eq_true rfl) fun v262 h263 ps259 q261 z260 => ?_
  obtain ⟨rfl, K1, S1⟩ := q261
  show Own.Run V K b_toS _ h263 _ 2 20 8 [.val (.ref s)] [.ref a255]
  refine r_aret (t := (.object "java/lang/String")) rfl rfl rfl d25_8 (by decide) (by decide) [] (fun _ q => nomatch q) ?_
  exact ⟨_, rfl, Keep.ext0 Eh256 K1 (fun w hw' => by cases List.mem_singleton.mp hw'; exact leA (by omega)), S1⟩
def mk (n c0 c1 : Int32) : List Int32 := if n = 0 then [] else if n = 1 then [c0] else [c0, c1]
theorem mk0 (a b : Int32) : mk 0 a b = [] := rfl
theorem mk1 (a b : Int32) : mk 1 a b = [a] := rfl
theorem mk2 (a b : Int32) : mk 2 a b = [a, b] := rfl
theorem mk_by {n a b : Int32} (ha : By a) (hb : By b) : ∀ c ∈ mk n a b, By c := by
  unfold mk; split; · exact by0
  split; · exact by1 ha
  exact byS ha (by1 hb)
theorem mk_len (n a b : Int32) : (mk n a b).length ≤ 2 := by
  unfold mk; split; · exact Nat.le_of_ble_eq_true rfl
  split; · exact Nat.le_of_ble_eq_true rfl
  exact Nat.le_of_ble_eq_true rfl
theorem by_app {a b : List Int32} (ha : ∀ c ∈ a, By c) (hb : ∀ c ∈ b, By c) : ∀ c ∈ a ++ b, By c := fun c hc => (List.mem_append.mp hc).elim (ha c) (hb c)
theorem i2cBy {z x : Int32} (e : z = (x &&& 255).toUInt32.toUInt16.toUInt32.toInt32) : By z := by rw [e, i2c_mask]; exact By.mask x
theorem mod3 {z x : Int32} (e : z = (x &&& 3) % 3) : z = 0 ∨ z = 1 ∨ z = 2 := by
  have h := c_and x 3 (by decide)
  have q := (c_irem (x &&& 3) 3 3 (by decide)).1 h.1
  rw [← e] at q
  simp only [← Int32.toInt_inj]
  have e0 : (0 : Int32).toInt = 0 := rfl
  have e1 : (1 : Int32).toInt = 1 := rfl
  have e2 : (2 : Int32).toInt = 2 := rfl
  omega
theorem d26_0 : decode method_2_code 0 = .ok (.iload_n 2, 1) := by decide +kernel
theorem d26_1 : decode method_2_code 1 = .ok (.ifCond .ne 14, 3) := by decide +kernel
theorem d26_4 : decode method_2_code 4 = .ok (.new 7, 3) := by decide +kernel
theorem d26_7 : decode method_2_code 7 = .ok (.dup, 1) := by decide +kernel
theorem d26_8 : decode method_2_code 8 = .ok (.iconst 0, 1) := by decide +kernel
theorem d26_9 : decode method_2_code 9 = .ok (.newarray .char, 2) := by decide +kernel
theorem d26_11 : decode method_2_code 11 = .ok (.invokespecial 9, 3) := by decide +kernel
theorem d26_14 : decode method_2_code 14 = .ok (.areturn, 1) := by decide +kernel
theorem d26_15 : decode method_2_code 15 = .ok (.iload_n 2, 1) := by decide +kernel
theorem d26_16 : decode method_2_code 16 = .ok (.iconst 1, 1) := by decide +kernel
theorem d26_17 : decode method_2_code 17 = .ok (.if_icmp .ne 8, 3) := by decide +kernel
theorem d26_20 : decode method_2_code 20 = .ok (.iload_n 0, 1) := by decide +kernel
theorem d26_21 : decode method_2_code 21 = .ok (.invokestatic 12, 3) := by decide +kernel
theorem d26_24 : decode method_2_code 24 = .ok (.areturn, 1) := by decide +kernel
theorem d26_25 : decode method_2_code 25 = .ok (.new 7, 3) := by decide +kernel
theorem d26_28 : decode method_2_code 28 = .ok (.dup, 1) := by decide +kernel
theorem d26_29 : decode method_2_code 29 = .ok (.iconst 2, 1) := by decide +kernel
theorem d26_30 : decode method_2_code 30 = .ok (.newarray .char, 2) := by decide +kernel
theorem d26_32 : decode method_2_code 32 = .ok (.dup, 1) := by decide +kernel
theorem d26_33 : decode method_2_code 33 = .ok (.iconst 0, 1) := by decide +kernel
theorem d26_34 : decode method_2_code 34 = .ok (.iload_n 0, 1) := by decide +kernel
theorem d26_35 : decode method_2_code 35 = .ok (.castore, 1) := by decide +kernel
theorem d26_36 : decode method_2_code 36 = .ok (.dup, 1) := by decide +kernel
theorem d26_37 : decode method_2_code 37 = .ok (.iconst 1, 1) := by decide +kernel
theorem d26_38 : decode method_2_code 38 = .ok (.iload_n 1, 1) := by decide +kernel
theorem d26_39 : decode method_2_code 39 = .ok (.castore, 1) := by decide +kernel
theorem d26_40 : decode method_2_code 40 = .ok (.invokespecial 9, 3) := by decide +kernel
theorem d26_43 : decode method_2_code 43 = .ok (.areturn, 1) := by decide +kernel
abbrev b_mk : Bx := (⟨"com/example/lazo/lazo/mapping/SqlNameSuffixedPinLaw", "mk", "(CCI)Ljava/lang/String;"⟩, method_2_code, 3, some (.object "java/lang/String"), { frames := 4, cells := 6, slots := 16, locals := 70 })
theorem c_mk (V : Vw) (hw : ∀ d ∈ tables_1, d.before V.a0 V.Z = true) (hm : ("java/lang/String", 7) ∈ V.EL) (hn : V.nar = false) (cz : Int32) (hCS : Sta V.Z V.Z.heap "java/lang/String" "COMPACT_STRINGS" "Z" (.int cz)) (hcz : ¬ cz = 0) (n c0 c1 : Int32) (h0 : By c0) (h1 : By c1) (h : Heap) (ps : List Addr) : Con V b_mk #[.int c0, .int c1, .int n] h ps (Qmk V (mk n c0 c1) h) := Con.of (plainFor_of_name pn_5) (L := [.val (.int c0), .val (.int c1), .val (.int n)]) rfl fun K => by
  refine r_iloadN 1 rfl d26_0 rfl ?_
  refine r_if_ne 15 4 d26_1 (by decide) rfl rfl (fun c264 => ?_) (fun c264 => ?_)
  rotate_left
  · refine r_new 7 rfl d26_4 (wd hw 4 rfl) (wd hw 5 rfl) (wd hw 6 rfl) (by decide) (by decide) fun a265 h266 ga265 za265 Eh266 Xa265 Da265 => ?_
    have sh266 := Eh266.1
    have la265 := ltN Xa265.lt
    have f267 : Fld V.Z h266 a265 "java/lang/String" "value" "[B" (.null) := Da265 (Or.inr (wd hw 33 rfl)) (ty := (.array .byte)) (by decide)
    have f268 : Fld V.Z h266 a265 "java/lang/String" "coder" "B" (.int (0 : Int32)) := Da265 (Or.inr (wd hw 31 rfl)) (ty := .byte) (by decide)
    refine r_dup 8 rfl d26_7 rfl ?_
    refine r_iconst (0 : Int32) 9 rfl d26_8 rfl ?_
    refine r_newarray 0 11 rfl d26_9 (wd hw 7 rfl) (by decide) (by decide) (by decide) (by decide) (by decide) fun a269 h270 k271 ga269 za269 Eh270 Aa269 => ?_
    have f272 := Exa.ext Eh270 Xa265
    have f273 := Fld.ext Eh270 f267
    have f274 := Fld.ext Eh270 f268
    have sh270 := Eh270.1
    have la269 := ltN Aa269.lt
    have f275 : Arv V.Z h270 a269 k271 .char (0 : Int32) [] (.int 0) := Arv.pad Aa269 (pad_rep [] (.int 0) 0)
    refine Run.old fun OX => ?_
    have EX := Ext.trans' Eh266 Eh270
    have la265' : a265 < h270.size := by omega
    refine r_special 14 rfl d26_11 rfl (wd hw 8 rfl) (wd hw 9 rfl) (wd hw 10 rfl) (by decide) (pay_newE V hw K b_mk 1 hm hn a265 a269 _ _ _ h270 _ za265 (by simp) f272 f273 f274 f275 (by decide) (by decide)) (W := 1) (argsL := [.ref a269]) (lenOf pd_1 rfl) rfl rfl rfl (Nat.le_of_eq rfl) (Nat.le_of_ble_eq_true rfl) (Nat.le_of_ble_eq_true rfl) fun v279 h280 ps276 q278 z277 => ?_
    obtain ⟨rfl, K1, S1⟩ := q278
    have f281 := Exa.keep f272 K1
    have f282 := Arv.keep f275 K1 (ninS (neA (by omega)) nin0)
    show Own.Run V K b_mk _ h280 _ 6 12 14 [.val (.int c0), .val (.int c1), .val (.int n)] [.ref a265]
    have sh280 := K1.1
    have ba265 := S1.lt
    refine r_aret (t := (.object "java/lang/String")) rfl rfl rfl d26_14 (by decide) (by decide) [] (fun _ q => nomatch q) ?_
    exact ⟨_, rfl, Keep.ext0 EX K1 (fun w hw' => by cases List.mem_singleton.mp hw'; exact leA (by omega)), by rw [show mk n c0 c1 = [] from if_pos c264]; exact S1⟩
  refine r_iloadN 16 rfl d26_15 rfl ?_
  refine r_iconst (1 : Int32) 17 rfl d26_16 rfl ?_
  refine r_icmp_ne 25 20 d26_17 (by decide) rfl rfl (fun c283 => ?_) (fun c283 => ?_)
  rotate_left
  · refine r_iloadN 21 rfl d26_20 rfl ?_
    refine r_static 24 rfl d26_21 (wd hw 203 rfl) (wd hw 204 rfl) (wd hw 6 rfl) (wd hw 205 rfl) (by decide) (Pays.con (K := K) (B := b_mk) (c_valueOf V hw cz hCS hcz c0 h0 h _) (wd hw 205 rfl) (wd hw 6 rfl) (by decide) (by decide)) (W := 0) (argsL := [.int c0]) (lenOf pd_5 rfl) rfl rfl rfl (Nat.le_of_eq rfl) (Nat.le_of_ble_eq_true rfl) (Nat.le_of_ble_eq_true rfl) fun v287 h288 ps284 q286 z285 => ?_
    obtain ⟨x, rfl, E1, S1⟩ := q286
    have sh288 := E1.1
    show Own.Run V K b_mk _ h288 _ 2 5 24 [.val (.int c0), .val (.int c1), .val (.int n)] [.ref x]
    refine r_aret (t := (.object "java/lang/String")) rfl rfl rfl d26_24 (by decide) (by decide) [] (fun _ q => nomatch q) ?_
    exact ⟨_, rfl, E1, by rw [show mk n c0 c1 = [c0] from (if_neg c264).trans (if_pos c283)]; exact S1⟩
  refine r_new 28 rfl d26_25 (wd hw 4 rfl) (wd hw 5 rfl) (wd hw 6 rfl) (by decide) (by decide) fun a289 h290 ga289 za289 Eh290 Xa289 Da289 => ?_
  have sh290 := Eh290.1
  have la289 := ltN Xa289.lt
  have f291 : Fld V.Z h290 a289 "java/lang/String" "value" "[B" (.null) := Da289 (Or.inr (wd hw 33 rfl)) (ty := (.array .byte)) (by decide)
  have f292 : Fld V.Z h290 a289 "java/lang/String" "coder" "B" (.int (0 : Int32)) := Da289 (Or.inr (wd hw 31 rfl)) (ty := .byte) (by decide)
  refine r_dup 29 rfl d26_28 rfl ?_
  refine r_iconst (2 : Int32) 30 rfl d26_29 rfl ?_
  refine r_newarray 2 32 rfl d26_30 (wd hw 7 rfl) (by decide) (by decide) (by decide) (by decide) (by decide) fun a293 h294 k295 ga293 za293 Eh294 Aa293 => ?_
  have f296 := Exa.ext Eh294 Xa289
  have f297 := Fld.ext Eh294 f291
  have f298 := Fld.ext Eh294 f292
  have sh294 := Eh294.1
  have la293 := ltN Aa293.lt
  have f299 : Arv V.Z h294 a293 k295 .char (2 : Int32) [.int 0, .int 0] (.int 0) := Arv.pad Aa293 (pad_rep [] (.int 0) 2)
  refine r_dup 33 rfl d26_32 rfl ?_
  refine r_iconst (0 : Int32) 34 rfl d26_33 rfl ?_
  refine r_iloadN 35 rfl d26_34 rfl ?_
  refine r_castore 0 36 rfl d26_35 f299 (by decide) rfl (Nat.le_of_ble_eq_true rfl) za293 c0 (nby h0) fun h300 Wh300 f301 => ?_
  have sh300 := Wh300.size
  have f302 := Exa.wr Wh300 f296
  have f303 := Fld.other Wh300 f297 (Or.inl (neA (by omega)))
  have f304 := Fld.other Wh300 f298 (Or.inl (neA (by omega)))
  replace f301 : Arv V.Z h300 a293 k295 .char (2 : Int32) [.int c0, .int 0] (.int 0) := f301
  refine r_dup 37 rfl d26_36 rfl ?_
  refine r_iconst (1 : Int32) 38 rfl d26_37 rfl ?_
  refine r_iloadN 39 rfl d26_38 rfl ?_
  refine r_castore 1 40 rfl d26_39 f301 (by decide) rfl (Nat.le_of_ble_eq_true rfl) za293 c1 (nby h1) fun h305 Wh305 f306 => ?_
  have sh305 := Wh305.size
  have f307 := Exa.wr Wh305 f302
  have f308 := Fld.other Wh305 f303 (Or.inl (neA (by omega)))
  have f309 := Fld.other Wh305 f304 (Or.inl (neA (by omega)))
  replace f306 : Arv V.Z h305 a293 k295 .char (2 : Int32) [.int c0, .int c1] (.int 0) := f306
  refine Run.old fun OX => ?_
  have EX := Ext.wr0 (Ext.wr0 (Ext.trans' Eh290 Eh294) Wh300 (by omega)) Wh305 (by omega)
  have la289' : a289 < h305.size := by omega
  refine r_special 43 rfl d26_40 rfl (wd hw 8 rfl) (wd hw 9 rfl) (wd hw 10 rfl) (by decide) (pay_newN V hw K b_mk 1 a289 a293 _ [c0, c1] _ h305 _ _ _ _ za289 (Nat.le_trans za289 (Nat.le_of_lt la289')) f307 f308 f309 f306 OX cz hCS hcz rfl (Nat.le_of_ble_eq_true rfl) (Nat.le_of_ble_eq_true rfl) (byS h0 (by1 h1)) (by simp) (by decide) (by decide)) (W := 1) (argsL := [.ref a293]) (lenOf pd_1 rfl) rfl rfl rfl (Nat.le_of_eq rfl) (Nat.le_of_ble_eq_true rfl) (Nat.le_of_ble_eq_true rfl) fun v313 h314 ps310 q312 z311 => ?_
  obtain ⟨rfl, K1, S1⟩ := q312
  have f315 := Exa.keep f307 K1
  have f316 := Arv.keep f306 K1 (ninS (neA (by omega)) nin0)
  show Own.Run V K b_mk _ h314 _ 3 8 43 [.val (.int c0), .val (.int c1), .val (.int n)] [.ref a289]
  have sh314 := K1.1
  have ba289 := S1.lt
  refine r_aret (t := (.object "java/lang/String")) rfl rfl rfl d26_43 (by decide) (by decide) [] (fun _ q => nomatch q) ?_
  exact ⟨_, rfl, Keep.ext0 EX K1 (fun w hw' => by cases List.mem_singleton.mp hw'; exact leA (by omega)), by rw [show mk n c0 c1 = [c0, c1] from (if_neg c264).trans (if_neg c283)]; exact S1⟩
theorem d27_0 : decode jdk_30_method_1_code 0 = .ok (.aload_n 0, 1) := by decide +kernel
theorem d27_1 : decode jdk_30_method_1_code 1 = .ok (.invokespecial 1, 3) := by decide +kernel
theorem d27_4 : decode jdk_30_method_1_code 4 = .ok (.return_, 1) := by decide +kernel
abbrev b_rec : Bx := (⟨"java/lang/Record", "<init>", "()V"⟩, jdk_30_method_1_code, 1, none, { frames := 1, cells := 0, slots := 0, locals := 12 })
theorem c_rec (V : Vw) (hw : ∀ d ∈ tables_1, d.before V.a0 V.Z = true) (a : Nat) (h : Heap) (ps : List Addr) : Con V b_rec #[.ref a] h ps (Qu h) := Con.of (plainFor_of_name pn_6) (L := [.val (.ref a)]) rfl fun K => by
  refine r_aloadN 1 rfl d27_0 rfl rfl ?_
  refine r_initO 0 4 rfl d27_1 (wd hw 48 rfl) (wd hw 16 rfl) (wd hw 17 rfl) rfl (by decide) (Nat.le_of_eq rfl) (by decide) ?_
  refine r_ret rfl d27_4 (by decide) (by decide) [] (fun _ q => nomatch q) ?_
  exact ⟨rfl, rfl⟩
theorem d28_0 : decode prog_16_method_1_code 0 = .ok (.aload_n 0, 1) := by decide +kernel
theorem d28_1 : decode prog_16_method_1_code 1 = .ok (.invokespecial 1, 3) := by decide +kernel
theorem d28_4 : decode prog_16_method_1_code 4 = .ok (.aload_n 0, 1) := by decide +kernel
theorem d28_5 : decode prog_16_method_1_code 5 = .ok (.aload_n 1, 1) := by decide +kernel
theorem d28_6 : decode prog_16_method_1_code 6 = .ok (.putfield 7, 3) := by decide +kernel
theorem d28_9 : decode prog_16_method_1_code 9 = .ok (.aload_n 0, 1) := by decide +kernel
theorem d28_10 : decode prog_16_method_1_code 10 = .ok (.iload_n 2, 1) := by decide +kernel
theorem d28_11 : decode prog_16_method_1_code 11 = .ok (.putfield 13, 3) := by decide +kernel
theorem d28_14 : decode prog_16_method_1_code 14 = .ok (.return_, 1) := by decide +kernel
abbrev b_sqi : Bx := (⟨"com/example/lazo/lazo/mapping/SqlName", "<init>", "(Ljava/lang/String;Z)V"⟩, prog_16_method_1_code, 3, none, { frames := 2, cells := 0, slots := 0, locals := 30 })
def Qsq (V : Vw) (a x : Nat) (q : Int32) (h0 : Heap) : Qt := fun v h _ => v = none ∧ Keep h0 h [a] ∧ Exa V.Z h a "com/example/lazo/lazo/mapping/SqlName" ∧ Fld V.Z h a "com/example/lazo/lazo/mapping/SqlName" "text" "Ljava/lang/String;" (.ref x) ∧ Fld V.Z h a "com/example/lazo/lazo/mapping/SqlName" "quoted" "Z" (.int q)
theorem c_sqi (V : Vw) (hw : ∀ d ∈ tables_1, d.before V.a0 V.Z = true) (a x : Nat) (q : Int32) (hq : q = 0 ∨ q = 1) (h : Heap) (ps : List Addr) (za : V.Z.heap.size ≤ a) (E : Exa V.Z h a "com/example/lazo/lazo/mapping/SqlName") (F0 : Fld V.Z h a "com/example/lazo/lazo/mapping/SqlName" "text" "Ljava/lang/String;" .null) (F1 : Fld V.Z h a "com/example/lazo/lazo/mapping/SqlName" "quoted" "Z" (.int 0)) : Con V b_sqi #[.ref a, .ref x, .int q] h ps (Qsq V a x q h) := Con.of (plainFor_of_name pn_7) (L := [.val (.ref a), .val (.ref x), .val (.int q)]) rfl fun K => by
  refine r_aloadN 1 rfl d28_0 rfl rfl ?_
  refine r_special 4 rfl d28_1 rfl (wd hw 43 rfl) (wd hw 44 rfl) (wd hw 47 rfl) (by decide) (Pays.con (K := K) (B := b_sqi) (c_rec V hw a h _) (wd hw 47 rfl) (wd hw 46 rfl) (by decide) (by decide)) (W := 0) (argsL := []) (lenOf pd_7 rfl) rfl rfl rfl (Nat.le_of_eq rfl) (Nat.le_of_ble_eq_true rfl) (Nat.le_of_ble_eq_true rfl) fun v320 h321 ps317 q319 z318 => ?_
  obtain ⟨rfl, es322⟩ := q319
  subst h321
  show Own.Run V K b_sqi _ h _ 0 0 4 [.val (.ref a), .val (.ref x), .val (.int q)] []
  refine r_aloadN 5 rfl d28_4 rfl rfl ?_
  refine r_aloadN 6 rfl d28_5 rfl rfl ?_
  refine r_putfield 9 rfl d28_6 (wd hw 49 rfl) F0 E (Or.inr ⟨wd hw 50 rfl, rfl, rfl⟩) (wd hw 38 rfl) (ty := (.object "java/lang/String")) (by decide) rfl rfl za (Or.inl (by decide)) fun h323 Wh323 => ?_
  have sh323 := Wh323.size
  have f324 := Exa.wr Wh323 E
  have f325 := Fld.same Wh323 F0
  have f326 := Fld.other Wh323 F1 (Or.inr (slot_ne (C := "com/example/lazo/lazo/mapping/SqlName") (Or.inr (wd hw 52 rfl)) (Or.inr (wd hw 50 rfl)) (by decide) (t := .boolean) (by decide) (t' := (.object "java/lang/String")) (by decide)))
  refine r_aloadN 10 rfl d28_9 rfl rfl ?_
  refine r_iloadN 11 rfl d28_10 rfl ?_
  refine r_putfield 14 rfl d28_11 (wd hw 51 rfl) f326 f324 (Or.inr ⟨wd hw 52 rfl, rfl, rfl⟩) (wd hw 38 rfl) (ty := .boolean) (by decide) (by rcases hq with rfl | rfl <;> rfl) (by rcases hq with rfl | rfl <;> rfl) za (Or.inl (by decide)) fun h327 Wh327 => ?_
  have sh327 := Wh327.size
  have f328 := Exa.wr Wh327 f324
  have f329 := Fld.other Wh327 f325 (Or.inr (slot_ne (C := "com/example/lazo/lazo/mapping/SqlName") (Or.inr (wd hw 50 rfl)) (Or.inr (wd hw 52 rfl)) (by decide) (t := (.object "java/lang/String")) (by decide) (t' := .boolean) (by decide)))
  have f330 := Fld.same Wh327 f326
  refine r_ret rfl d28_14 (by decide) (by decide) [] (fun _ q => nomatch q) ?_
  exact ⟨rfl, ((Keep.refl _ _).wr Wh323 (Or.inl (by simp))).wr Wh327 (Or.inl (by simp)), f328, f329, f330⟩
theorem d29_0 : decode prog_16_method_3_code 0 = .ok (.new 8, 3) := by decide +kernel
theorem d29_3 : decode prog_16_method_3_code 3 = .ok (.dup, 1) := by decide +kernel
theorem d29_4 : decode prog_16_method_3_code 4 = .ok (.new 59, 3) := by decide +kernel
theorem d29_7 : decode prog_16_method_3_code 7 = .ok (.dup, 1) := by decide +kernel
theorem d29_8 : decode prog_16_method_3_code 8 = .ok (.invokespecial 61, 3) := by decide +kernel
theorem d29_11 : decode prog_16_method_3_code 11 = .ok (.aload_n 0, 1) := by decide +kernel
theorem d29_12 : decode prog_16_method_3_code 12 = .ok (.getfield 7, 3) := by decide +kernel
theorem d29_15 : decode prog_16_method_3_code 15 = .ok (.invokevirtual 64, 3) := by decide +kernel
theorem d29_18 : decode prog_16_method_3_code 18 = .ok (.aload_n 1, 1) := by decide +kernel
theorem d29_19 : decode prog_16_method_3_code 19 = .ok (.invokevirtual 64, 3) := by decide +kernel
theorem d29_22 : decode prog_16_method_3_code 22 = .ok (.invokevirtual 70, 3) := by decide +kernel
theorem d29_25 : decode prog_16_method_3_code 25 = .ok (.aload_n 0, 1) := by decide +kernel
theorem d29_26 : decode prog_16_method_3_code 26 = .ok (.getfield 13, 3) := by decide +kernel
theorem d29_29 : decode prog_16_method_3_code 29 = .ok (.invokespecial 42, 3) := by decide +kernel
theorem d29_32 : decode prog_16_method_3_code 32 = .ok (.areturn, 1) := by decide +kernel
abbrev b_suf : Bx := (⟨"com/example/lazo/lazo/mapping/SqlName", "suffixed", "(Ljava/lang/String;)Lcom/example/lazo/lazo/mapping/SqlName;"⟩, prog_16_method_3_code, 2, some (.object "com/example/lazo/lazo/mapping/SqlName"), { frames := 6, cells := 6, slots := 60, locals := 136 })
def Qsf (V : Vw) (q : Int32) (cs : List Int32) (h0 : Heap) : Qt := fun v h _ => ∃ r x m : Nat, v = some (.ref r) ∧ Ext h0 h ∧ Exa V.Z h r "com/example/lazo/lazo/mapping/SqlName" ∧ Fld V.Z h r "com/example/lazo/lazo/mapping/SqlName" "text" "Ljava/lang/String;" (.ref x) ∧ Fld V.Z h r "com/example/lazo/lazo/mapping/SqlName" "quoted" "Z" (.int q) ∧ Str V h m x cs
theorem c_suf (V : Vw) (hw : ∀ d ∈ tables_1, d.before V.a0 V.Z = true) (cz : Int32) (hCS : Sta V.Z V.Z.heap "java/lang/String" "COMPACT_STRINGS" "Z" (.int cz)) (hcz : ¬ cz = 0) (a x y m m' : Nat) (cs ds : List Int32) (q : Int32) (hq : q = 0 ∨ q = 1) (h : Heap) (ps : List Addr) (F0 : Fld V.Z h a "com/example/lazo/lazo/mapping/SqlName" "text" "Ljava/lang/String;" (.ref x)) (F1 : Fld V.Z h a "com/example/lazo/lazo/mapping/SqlName" "quoted" "Z" (.int q)) (SX : Str V h m x cs) (SY : Str V h m' y ds) (hc : ∀ c ∈ cs, By c) (hd : ∀ c ∈ ds, By c) (lc : cs.length ≤ 2) (ld : ds.length ≤ 2) (la : a < h.size) : Con V b_suf #[.ref a, .ref y] h ps (Qsf V q (cs ++ ds) h) := Con.of (plainFor_of_name pn_7) (L := [.val (.ref a), .val (.ref y)]) rfl fun K => by
  have lm := SX.lt.2
  have lm' := SY.lt.2
  refine r_new 3 rfl d29_0 (wd hw 58 rfl) (wd hw 38 rfl) (wd hw 39 rfl) (by decide) (by decide) fun a331 h332 ga331 za331 Eh332 Xa331 Da331 => ?_
  have f333 := Str.ext Eh332 SX
  have f334 := Str.ext Eh332 SY
  have f335 := Fld.ext Eh332 F0
  have f336 := Fld.ext Eh332 F1
  have sh332 := Eh332.1
  have la331 := ltN Xa331.lt
  have f337 : Fld V.Z h332 a331 "com/example/lazo/lazo/mapping/SqlName" "text" "Ljava/lang/String;" (.null) := Da331 (Or.inr (wd hw 50 rfl)) (ty := (.object "java/lang/String")) (by decide)
  have f338 : Fld V.Z h332 a331 "com/example/lazo/lazo/mapping/SqlName" "quoted" "Z" (.int (0 : Int32)) := Da331 (Or.inr (wd hw 52 rfl)) (ty := .boolean) (by decide)
  refine r_dup 4 rfl d29_3 rfl ?_
  refine r_new 7 rfl d29_4 (wd hw 59 rfl) (wd hw 60 rfl) (wd hw 61 rfl) (by decide) (by decide) fun a339 h340 ga339 za339 Eh340 Xa339 Da339 => ?_
  have f341 := Str.ext Eh340 f333
  have f342 := Str.ext Eh340 f334
  have f343 := Fld.ext Eh340 f335
  have f344 := Fld.ext Eh340 f336
  have f345 := Exa.ext Eh340 Xa331
  have f346 := Fld.ext Eh340 f337
  have f347 := Fld.ext Eh340 f338
  have sh340 := Eh340.1
  have la339 := ltN Xa339.lt
  have f348 : Fld V.Z h340 a339 "java/lang/AbstractStringBuilder" "value" "[B" (.null) := Da339 (Or.inl (wd hw 74 rfl)) (ty := (.array .byte)) (by decide)
  have f349 : Fld V.Z h340 a339 "java/lang/AbstractStringBuilder" "coder" "B" (.int (0 : Int32)) := Da339 (Or.inl (wd hw 76 rfl)) (ty := .byte) (by decide)
  have f350 : Fld V.Z h340 a339 "java/lang/AbstractStringBuilder" "count" "I" (.int (0 : Int32)) := Da339 (Or.inl (wd hw 98 rfl)) (ty := .int) (by decide)
  refine r_dup 8 rfl d29_7 rfl ?_
  refine r_special 11 rfl d29_8 rfl (wd hw 62 rfl) (wd hw 63 rfl) (wd hw 64 rfl) (by decide) (Pays.con (K := K) (B := b_suf) (c_sbi V hw cz hCS hcz a339 h340 _ za339 Xa339 f348 f349 f350) (wd hw 64 rfl) (wd hw 61 rfl) (by decide) (by decide)) (W := 3) (argsL := []) (lenOf pd_7 rfl) rfl rfl rfl (Nat.le_of_eq rfl) (Nat.le_of_ble_eq_true rfl) (Nat.le_of_ble_eq_true rfl) fun v353 h354 psx q352 z351 => ?_
  obtain ⟨rfl, t, ht, lt, K1, SB1⟩ := q352
  have f355 : Str V h354 m x cs := by first | exact Str.keep K1 (fun w hw' => by cases List.mem_singleton.mp hw'; exact leA (by omega)) f341 | exact Str.keepE K1 Xa339 (by decide) (wd hw 60 rfl) f341
  have f356 : Str V h354 m' y ds := by first | exact Str.keep K1 (fun w hw' => by cases List.mem_singleton.mp hw'; exact leA (by omega)) f342 | exact Str.keepE K1 Xa339 (by decide) (wd hw 60 rfl) f342
  have f357 := Fld.keep f343 K1 (ninS (neA (by omega)) nin0)
  have f358 := Fld.keep f344 K1 (ninS (neA (by omega)) nin0)
  have f359 := Exa.keep f345 K1
  have f360 := Fld.keep f346 K1 (ninS (neA (by omega)) nin0)
  have f361 := Fld.keep f347 K1 (ninS (neA (by omega)) nin0)
  have f362 := Exa.keep Xa339 K1
  show Own.Run V K b_suf _ h354 _ 3 22 11 [.val (.ref a), .val (.ref y)] [.ref a339, .ref a331, .ref a331]
  have sh354 := K1.1
  refine r_aloadN 12 rfl d29_11 rfl rfl ?_
  refine r_getfield 15 rfl d29_12 (wd hw 49 rfl) f357 ?_
  refine r_virtual 18 rfl d29_15 (wd hw 77 rfl) (wd hw 78 rfl) (wd hw 80 rfl) (wd hw 79 rfl) (nfS (wd hw 80 rfl)) (by decide) f362 (Pays.con (K := K) (B := b_suf) (c_sbS V hw cz hCS hcz a339 t 16 _ h354 _ SB1 (by simp [ht]) x _ _ f355 hc (by simp only [List.length_append, List.length_nil]; omega)) (wd hw 81 rfl) (wd hw 61 rfl) (by decide) (by decide)) (W := 2) (argsL := [.ref x]) (lenOf pd_14 rfl) rfl rfl rfl (Nat.le_of_eq rfl) (Nat.le_of_ble_eq_true rfl) (Nat.le_of_ble_eq_true rfl) fun v366 h367 ps363 q365 z364 => ?_
  obtain ⟨rfl, K2, SB2⟩ := q365
  have f368 := Str.keep K2 (fun w hw' => by rcases List.mem_cons.mp hw' with rfl | hw'; exact leA (by omega); cases List.mem_singleton.mp hw'; exact leA (by omega)) f355
  have f369 := Str.keep K2 (fun w hw' => by rcases List.mem_cons.mp hw' with rfl | hw'; exact leA (by omega); cases List.mem_singleton.mp hw'; exact leA (by omega)) f356
  have f370 := Fld.keep f357 K2 (ninS (neA (by omega)) (ninS (neA (by omega)) nin0))
  have f371 := Fld.keep f358 K2 (ninS (neA (by omega)) (ninS (neA (by omega)) nin0))
  have f372 := Exa.keep f359 K2
  have f373 := Fld.keep f360 K2 (ninS (neA (by omega)) (ninS (neA (by omega)) nin0))
  have f374 := Fld.keep f361 K2 (ninS (neA (by omega)) (ninS (neA (by omega)) nin0))
  have f375 := Exa.keep f362 K2
  show Own.Run V K b_suf _ h367 _ 3 22 18 [.val (.ref a), .val (.ref y)] [.ref a339, .ref a331, .ref a331]
  have sh367 := K2.1
  refine r_aloadN 19 rfl d29_18 rfl rfl ?_
  refine r_virtual 22 rfl d29_19 (wd hw 77 rfl) (wd hw 78 rfl) (wd hw 80 rfl) (wd hw 79 rfl) (nfS (wd hw 80 rfl)) (by decide) f375 (Pays.con (K := K) (B := b_suf) (c_sbS V hw cz hCS hcz a339 t 16 _ h367 _ SB2 (by simp [ht]) y _ _ f369 hd (by simp only [List.length_append, List.length_nil]; omega)) (wd hw 81 rfl) (wd hw 61 rfl) (by decide) (by decide)) (W := 2) (argsL := [.ref y]) (lenOf pd_14 rfl) rfl rfl rfl (Nat.le_of_eq rfl) (Nat.le_of_ble_eq_true rfl) (Nat.le_of_ble_eq_true rfl) fun v379 h380 ps376 q378 z377 => ?_
  obtain ⟨rfl, K3, SB3⟩ := q378
  have f381 := Str.keep K3 (fun w hw' => by rcases List.mem_cons.mp hw' with rfl | hw'; exact leA (by omega); cases List.mem_singleton.mp hw'; exact leA (by omega)) f368
  have f382 := Str.keep K3 (fun w hw' => by rcases List.mem_cons.mp hw' with rfl | hw'; exact leA (by omega); cases List.mem_singleton.mp hw'; exact leA (by omega)) f369
  have f383 := Fld.keep f370 K3 (ninS (neA (by omega)) (ninS (neA (by omega)) nin0))
  have f384 := Fld.keep f371 K3 (ninS (neA (by omega)) (ninS (neA (by omega)) nin0))
  have f385 := Exa.keep f372 K3
  have f386 := Fld.keep f373 K3 (ninS (neA (by omega)) (ninS (neA (by omega)) nin0))
  have f387 := Fld.keep f374 K3 (ninS (neA (by omega)) (ninS (neA (by omega)) nin0))
  have f388 := Exa.keep f375 K3
  show Own.Run V K b_suf _ h380 _ 3 22 22 [.val (.ref a), .val (.ref y)] [.ref a339, .ref a331, .ref a331]
  have sh380 := K3.1
  refine r_virtual 25 rfl d29_22 (wd hw 124 rfl) (wd hw 125 rfl) (wd hw 127 rfl) (wd hw 126 rfl) (nfS (wd hw 127 rfl)) (by decide) f388 (Pays.con (K := K) (B := b_suf) (c_toS V hw cz hCS hcz a339 t 16 _ h380 _ SB3 (by simp only [List.length_append, List.length_nil]; omega) (by decide) (by_app (by_app by0 hc) hd)) (wd hw 128 rfl) (wd hw 61 rfl) (by decide) (by decide)) (W := 2) (argsL := []) (lenOf pd_22 rfl) rfl rfl rfl (Nat.le_of_eq rfl) (Nat.le_of_ble_eq_true rfl) (Nat.le_of_ble_eq_true rfl) fun v392 h393 ps389 q391 z390 => ?_
  obtain ⟨x3, rfl, E4, S4⟩ := q391
  have f394 := Fld.ext E4 f383
  have f395 := Fld.ext E4 f384
  have f396 := Exa.ext E4 f385
  have f397 := Fld.ext E4 f386
  have f398 := Fld.ext E4 f387
  have f399 := Exa.ext E4 f388
  have sh393 := E4.1
  show Own.Run V K b_suf _ h393 _ 5 42 25 [.val (.ref a), .val (.ref y)] [.ref x3, .ref a331, .ref a331]
  refine r_aloadN 26 rfl d29_25 rfl rfl ?_
  refine r_getfield 29 rfl d29_26 (wd hw 51 rfl) f395 ?_
  refine r_special 32 rfl d29_29 rfl (wd hw 169 rfl) (wd hw 41 rfl) (wd hw 42 rfl) (by decide) (Pays.con (K := K) (B := b_suf) (c_sqi V hw a331 x3 q hq h393 _ za331 f396 f397 f398) (wd hw 42 rfl) (wd hw 39 rfl) (by decide) (by decide)) (W := 1) (argsL := [.ref x3, .int q]) (lenOf pd_24 rfl) rfl rfl rfl (Nat.le_of_eq rfl) (Nat.le_of_ble_eq_true rfl) (Nat.le_of_ble_eq_true rfl) fun v403 h404 ps400 q402 z401 => ?_
  obtain ⟨rfl, K5, X5, G0, G1⟩ := q402
  have f405 : Str V h404 h393.size x3 ([] ++ cs ++ ds) := by first | exact Str.keep K5 (fun w hw' => by cases List.mem_singleton.mp hw'; exact leA (by omega)) S4 | exact Str.keepE K5 f396 (by decide) (wd hw 38 rfl) S4
  have f406 := Fld.keep f394 K5 (ninS (neA (by omega)) nin0)
  have f407 := Fld.keep f395 K5 (ninS (neA (by omega)) nin0)
  have f408 := Exa.keep f396 K5
  have f409 := Exa.keep f399 K5
  show Own.Run V K b_suf _ h404 _ 5 42 32 [.val (.ref a), .val (.ref y)] [.ref a331]
  refine r_aret (t := (.object "com/example/lazo/lazo/mapping/SqlName")) rfl rfl rfl d29_32 (by decide) (by decide) [] (fun _ q => nomatch q) ?_
  exact ⟨_, x3, _, rfl, Keep.ext0 (Ext.trans' (Keep.ext0 (Keep.ext0 (Keep.ext0 (Ext.trans' Eh332 Eh340) K1 (fun w hw' => by cases List.mem_singleton.mp hw'; exact leA (by omega))) K2 (fun w hw' => by rcases List.mem_cons.mp hw' with rfl | hw'; exact leA (by omega); cases List.mem_singleton.mp hw'; exact leA (by omega))) K3 (fun w hw' => by rcases List.mem_cons.mp hw' with rfl | hw'; exact leA (by omega); cases List.mem_singleton.mp hw'; exact leA (by omega))) E4) K5 (fun w hw' => by cases List.mem_singleton.mp hw'; exact leA (by omega)), X5, G0, G1, f405⟩
theorem d30_0 : decode prog_16_method_8_code 0 = .ok (.aload_n 0, 1) := by decide +kernel
theorem d30_1 : decode prog_16_method_8_code 1 = .ok (.getfield 13, 3) := by decide +kernel
theorem d30_4 : decode prog_16_method_8_code 4 = .ok (.ireturn, 1) := by decide +kernel
abbrev b_quoted : Bx := (⟨"com/example/lazo/lazo/mapping/SqlName", "quoted", "()Z"⟩, prog_16_method_8_code, 1, some .boolean, { frames := 0, cells := 0, slots := 0, locals := 0 })
theorem c_quoted (V : Vw) (hw : ∀ d ∈ tables_1, d.before V.a0 V.Z = true) (a x : Nat) (q : Int32) (hq : q = 0 ∨ q = 1) (h : Heap) (ps : List Addr) (F : Fld V.Z h a "com/example/lazo/lazo/mapping/SqlName" "quoted" "Z" (.int q)) : Con V b_quoted #[.ref a] h ps (fun v h' _ => v = some (.int q) ∧ h' = h) := Con.of (plainFor_of_name pn_7) (L := [.val (.ref a)]) rfl fun K => by
  refine r_aloadN 1 rfl d30_0 rfl rfl ?_
  refine r_getfield 4 rfl d30_1 (wd hw 51 rfl) F ?_
  refine r_nret (t := .boolean) q rfl (by simp) (by rcases hq with rfl | rfl <;> rfl) d30_4 (by decide) (by decide) [] (fun _ q => nomatch q) ?_
  exact ⟨rfl, rfl⟩
theorem d31_0 : decode prog_16_method_7_code 0 = .ok (.aload_n 0, 1) := by decide +kernel
theorem d31_1 : decode prog_16_method_7_code 1 = .ok (.getfield 7, 3) := by decide +kernel
theorem d31_4 : decode prog_16_method_7_code 4 = .ok (.areturn, 1) := by decide +kernel
abbrev b_text : Bx := (⟨"com/example/lazo/lazo/mapping/SqlName", "text", "()Ljava/lang/String;"⟩, prog_16_method_7_code, 1, some (.object "java/lang/String"), { frames := 0, cells := 0, slots := 0, locals := 0 })
theorem c_text (V : Vw) (hw : ∀ d ∈ tables_1, d.before V.a0 V.Z = true) (a x : Nat) (q : Int32) (hq : q = 0 ∨ q = 1) (h : Heap) (ps : List Addr) (F : Fld V.Z h a "com/example/lazo/lazo/mapping/SqlName" "text" "Ljava/lang/String;" (.ref x)) : Con V b_text #[.ref a] h ps (fun v h' _ => v = some (.ref x) ∧ h' = h) := Con.of (plainFor_of_name pn_7) (L := [.val (.ref a)]) rfl fun K => by
  refine r_aloadN 1 rfl d31_0 rfl rfl ?_
  refine r_getfield 4 rfl d31_1 (wd hw 49 rfl) F ?_
  refine r_aret (t := (.object "java/lang/String")) rfl rfl rfl d31_4 (by decide) (by decide) [] (fun _ q => nomatch q) ?_
  exact ⟨rfl, rfl⟩
abbrev b_law : Bx := (x, code, maxLocals, ret, room_1)
def Q1 : Qt := fun v _ _ => v = some (.int 1)
theorem c_law (V : Vw) (hw : ∀ d ∈ tables_1, d.before V.a0 V.Z = true) (hm : ("java/lang/String", 7) ∈ V.EL) (hn : V.nar = false) (cz : Int32) (hCS : Sta V.Z V.Z.heap "java/lang/String" "COMPACT_STRINGS" "Z" (.int cz)) (hcz : ¬ cz = 0) (fm : Value) (hFM : Sta V.Z V.Z.heap "jdk/internal/util/Preconditions" "SIOOBE_FORMATTER" "Ljava/util/function/BiFunction;" fm) (rf : fm.isRef = true) (p0 p1 p2 : Int32) (h : Heap) : Con V b_law #[.int p0, .int p1, .int p2] h [] Q1 := Con.of (plainFor_of_name pn_5) (L := [.val (.int p0), .val (.int p1), .val (.int p2), .unset, .unset, .unset, .unset, .unset, .unset, .unset, .unset, .unset, .unset, .unset, .unset, .unset]) rfl fun K => by
  refine r_iloadN 1 rfl at_0 rfl ?_
  refine r_sipush (255 : Int32) 4 rfl at_1 rfl ?_
  refine r_iand 5 rfl at_4 ?_
  refine r_i2c 6 rfl at_5 ?_
  refine r_gen fun k410 hk410 => ?_
  refine r_istoreN [.val (.int p0), .val (.int p1), .val (.int p2), .val (.int k410), .unset, .unset, .unset, .unset, .unset, .unset, .unset, .unset, .unset, .unset, .unset, .unset] 7 rfl at_6 rfl ?_
  refine r_iloadN 8 rfl at_7 rfl ?_
  refine r_bipush (8 : Int32) 10 rfl at_8 rfl ?_
  refine r_iushr 11 rfl at_10 ?_
  refine r_sipush (255 : Int32) 14 rfl at_11 rfl ?_
  refine r_iand 15 rfl at_14 ?_
  refine r_i2c 16 rfl at_15 ?_
  refine r_gen fun k411 hk411 => ?_
  refine r_istore [.val (.int p0), .val (.int p1), .val (.int p2), .val (.int k410), .val (.int k411), .unset, .unset, .unset, .unset, .unset, .unset, .unset, .unset, .unset, .unset, .unset] 18 rfl at_16 rfl ?_
  refine r_iloadN 19 rfl at_18 rfl ?_
  refine r_sipush (255 : Int32) 22 rfl at_19 rfl ?_
  refine r_iand 23 rfl at_22 ?_
  refine r_i2c 24 rfl at_23 ?_
  refine r_gen fun k412 hk412 => ?_
  refine r_istore [.val (.int p0), .val (.int p1), .val (.int p2), .val (.int k410), .val (.int k411), .val (.int k412), .unset, .unset, .unset, .unset, .unset, .unset, .unset, .unset, .unset, .unset] 26 rfl at_24 rfl ?_
  refine r_iloadN 27 rfl at_26 rfl ?_
  refine r_bipush (8 : Int32) 29 rfl at_27 rfl ?_
  refine r_iushr 30 rfl at_29 ?_
  refine r_sipush (255 : Int32) 33 rfl at_30 rfl ?_
  refine r_iand 34 rfl at_33 ?_
  refine r_i2c 35 rfl at_34 ?_
  refine r_gen fun k413 hk413 => ?_
  refine r_istore [.val (.int p0), .val (.int p1), .val (.int p2), .val (.int k410), .val (.int k411), .val (.int k412), .val (.int k413), .unset, .unset, .unset, .unset, .unset, .unset, .unset, .unset, .unset] 37 rfl at_35 rfl ?_
  refine r_iloadN 38 rfl at_37 rfl ?_
  refine r_iconst (3 : Int32) 39 rfl at_38 rfl ?_
  refine r_iand 40 rfl at_39 ?_
  refine r_iconst (3 : Int32) 41 rfl at_40 rfl ?_
  refine r_irem 42 rfl at_41 (by decide) ?_
  refine r_gen fun k414 hk414 => ?_
  refine r_istore [.val (.int p0), .val (.int p1), .val (.int p2), .val (.int k410), .val (.int k411), .val (.int k412), .val (.int k413), .val (.int k414), .unset, .unset, .unset, .unset, .unset, .unset, .unset, .unset] 44 rfl at_42 rfl ?_
  refine r_iloadN 45 rfl at_44 rfl ?_
  refine r_iconst (2 : Int32) 46 rfl at_45 rfl ?_
  refine r_iushr 47 rfl at_46 ?_
  refine r_iconst (3 : Int32) 48 rfl at_47 rfl ?_
  refine r_iand 49 rfl at_48 ?_
  refine r_iconst (3 : Int32) 50 rfl at_49 rfl ?_
  refine r_irem 51 rfl at_50 (by decide) ?_
  refine r_gen fun k415 hk415 => ?_
  refine r_istore [.val (.int p0), .val (.int p1), .val (.int p2), .val (.int k410), .val (.int k411), .val (.int k412), .val (.int k413), .val (.int k414), .val (.int k415), .unset, .unset, .unset, .unset, .unset, .unset, .unset] 53 rfl at_51 rfl ?_
  have b3 := i2cBy hk410
  have b4 := i2cBy hk411
  have b5 := i2cBy hk412
  have b6 := i2cBy hk413
  have m7 := mod3 hk414
  have m8 := mod3 hk415
  refine r_iloadN 54 rfl at_53 rfl ?_
  refine r_bipush (16 : Int32) 56 rfl at_54 rfl ?_
  refine r_iand 57 rfl at_56 ?_
  have j65 : ∀ {pX : List Addr} (q : Int32), (q = 0 ∨ q = 1) → Own.Run V K b_law Q1 h pX 0 0 65 [.val (.int p0), .val (.int p1), .val (.int p2), .val (.int k410), .val (.int k411), .val (.int k412), .val (.int k413), .val (.int k414), .val (.int k415), .unset, .unset, .unset, .unset, .unset, .unset, .unset] [.int q] := by
    intro pX q hq
    refine r_istore [.val (.int p0), .val (.int p1), .val (.int p2), .val (.int k410), .val (.int k411), .val (.int k412), .val (.int k413), .val (.int k414), .val (.int k415), .val (.int q), .unset, .unset, .unset, .unset, .unset, .unset] 67 rfl at_65 rfl ?_
    refine r_iloadN 68 rfl at_67 rfl ?_
    refine r_iload 70 rfl at_68 rfl ?_
    refine r_iload 72 rfl at_70 rfl ?_
    refine r_static 75 rfl at_72 (wd hw 0 rfl) (wd hw 1 rfl) (wd hw 2 rfl) (wd hw 3 rfl) (by decide) (Pays.con (K := K) (B := b_law) (c_mk V hw hm hn cz hCS hcz k414 k410 k411 b3 b4 h _) (wd hw 3 rfl) (wd hw 2 rfl) (by decide) (by decide)) (W := 0) (argsL := [.int k410, .int k411, .int k414]) (lenOf pd_23 rfl) rfl rfl rfl (Nat.le_of_eq rfl) (Nat.le_of_ble_eq_true rfl) (Nat.le_of_ble_eq_true rfl) fun v419 h420 ps416 q418 z417 => ?_
    obtain ⟨xA, rfl, EA, SA⟩ := q418
    have sh420 := EA.1
    show Own.Run V K b_law _ h420 _ 6 16 75 [.val (.int p0), .val (.int p1), .val (.int p2), .val (.int k410), .val (.int k411), .val (.int k412), .val (.int k413), .val (.int k414), .val (.int k415), .val (.int q), .unset, .unset, .unset, .unset, .unset, .unset] [.ref xA]
    refine r_astore [.val (.int p0), .val (.int p1), .val (.int p2), .val (.int k410), .val (.int k411), .val (.int k412), .val (.int k413), .val (.int k414), .val (.int k415), .val (.int q), .val (.ref xA), .unset, .unset, .unset, .unset, .unset] 77 rfl at_75 rfl rfl ?_
    refine r_iload 79 rfl at_77 rfl ?_
    refine r_iload 81 rfl at_79 rfl ?_
    refine r_iload 83 rfl at_81 rfl ?_
    refine r_static 86 rfl at_83 (wd hw 0 rfl) (wd hw 1 rfl) (wd hw 2 rfl) (wd hw 3 rfl) (by decide) (Pays.con (K := K) (B := b_law) (c_mk V hw hm hn cz hCS hcz k415 k412 k413 b5 b6 h420 _) (wd hw 3 rfl) (wd hw 2 rfl) (by decide) (by decide)) (W := 0) (argsL := [.int k412, .int k413, .int k415]) (lenOf pd_23 rfl) rfl rfl rfl (Nat.le_of_eq rfl) (Nat.le_of_ble_eq_true rfl) (Nat.le_of_ble_eq_true rfl) fun v424 h425 ps421 q423 z422 => ?_
    obtain ⟨xB, rfl, EB, SB⟩ := q423
    have f426 := Str.ext EB SA
    have sh425 := EB.1
    show Own.Run V K b_law _ h425 _ 12 32 86 [.val (.int p0), .val (.int p1), .val (.int p2), .val (.int k410), .val (.int k411), .val (.int k412), .val (.int k413), .val (.int k414), .val (.int k415), .val (.int q), .val (.ref xA), .unset, .unset, .unset, .unset, .unset] [.ref xB]
    refine r_astore [.val (.int p0), .val (.int p1), .val (.int p2), .val (.int k410), .val (.int k411), .val (.int k412), .val (.int k413), .val (.int k414), .val (.int k415), .val (.int q), .val (.ref xA), .val (.ref xB), .unset, .unset, .unset, .unset] 88 rfl at_86 rfl rfl ?_
    refine r_iconst (4 : Int32) 89 rfl at_88 rfl ?_
    refine r_newarray 4 91 rfl at_89 (wd hw 7 rfl) (by decide) (by decide) (by decide) (by decide) (by decide) fun a427 h428 k429 ga427 za427 Eh428 Aa427 => ?_
    have f430 := Str.ext Eh428 f426
    have f431 := Str.ext Eh428 SB
    have sh428 := Eh428.1
    have la427 := ltN Aa427.lt
    have f432 : Arv V.Z h428 a427 k429 .char (4 : Int32) [.int 0, .int 0, .int 0, .int 0] (.int 0) := Arv.pad Aa427 (pad_rep [] (.int 0) 4)
    refine r_astore [.val (.int p0), .val (.int p1), .val (.int p2), .val (.int k410), .val (.int k411), .val (.int k412), .val (.int k413), .val (.int k414), .val (.int k415), .val (.int q), .val (.ref xA), .val (.ref xB), .val (.ref a427), .unset, .unset, .unset] 93 rfl at_91 rfl rfl ?_
    refine r_iconst (0 : Int32) 94 rfl at_93 rfl ?_
    refine r_istore [.val (.int p0), .val (.int p1), .val (.int p2), .val (.int k410), .val (.int k411), .val (.int k412), .val (.int k413), .val (.int k414), .val (.int k415), .val (.int q), .val (.ref xA), .val (.ref xB), .val (.ref a427), .val (.int (0 : Int32)), .unset, .unset] 96 rfl at_94 rfl ?_
    rcases m7 with rfl | rfl | rfl <;> rcases m8 with rfl | rfl | rfl
    · refine r_iload 98 rfl at_96 rfl ?_
      refine r_if_le 110 101 at_98 (by decide) rfl rfl (fun c433 => ?_) (fun c433 => ?_)
      rotate_left
      · exact absurd c433 (by decide)
      refine r_iload 112 rfl at_110 rfl ?_
      refine r_iconst (1 : Int32) 113 rfl at_112 rfl ?_
      refine r_icmp_le 126 116 at_113 (by decide) rfl rfl (fun c434 => ?_) (fun c434 => ?_)
      rotate_left
      · exact absurd c434 (by decide)
      refine r_iload 128 rfl at_126 rfl ?_
      refine r_if_le 141 131 at_128 (by decide) rfl rfl (fun c435 => ?_) (fun c435 => ?_)
      rotate_left
      · exact absurd c435 (by decide)
      refine r_iload 143 rfl at_141 rfl ?_
      refine r_iconst (1 : Int32) 144 rfl at_143 rfl ?_
      refine r_icmp_le 157 147 at_144 (by decide) rfl rfl (fun c436 => ?_) (fun c436 => ?_)
      rotate_left
      · exact absurd c436 (by decide)
      refine r_new 160 rfl at_157 (wd hw 37 rfl) (wd hw 38 rfl) (wd hw 39 rfl) (by decide) (by decide) fun a437 h438 ga437 za437 Eh438 Xa437 Da437 => ?_
      have f439 := Str.ext Eh438 f430
      have f440 := Str.ext Eh438 f431
      have f441 := f432.ext Eh438
      have sh438 := Eh438.1
      have la437 := ltN Xa437.lt
      have f442 : Fld V.Z h438 a437 "com/example/lazo/lazo/mapping/SqlName" "text" "Ljava/lang/String;" (.null) := Da437 (Or.inr (wd hw 50 rfl)) (ty := (.object "java/lang/String")) (by decide)
      have f443 : Fld V.Z h438 a437 "com/example/lazo/lazo/mapping/SqlName" "quoted" "Z" (.int (0 : Int32)) := Da437 (Or.inr (wd hw 52 rfl)) (ty := .boolean) (by decide)
      refine r_dup 161 rfl at_160 rfl ?_
      refine r_aload 163 rfl at_161 rfl rfl ?_
      refine r_iload 165 rfl at_163 rfl ?_
      refine r_special 168 rfl at_165 rfl (wd hw 40 rfl) (wd hw 41 rfl) (wd hw 42 rfl) (by decide) (Pays.con (K := K) (B := b_law) (c_sqi V hw a437 xA q hq h438 _ za437 Xa437 f442 f443) (wd hw 42 rfl) (wd hw 39 rfl) (by decide) (by decide)) (W := 1) (argsL := [.ref xA, .int q]) (lenOf pd_24 rfl) rfl rfl rfl (Nat.le_of_eq rfl) (Nat.le_of_ble_eq_true rfl) (Nat.le_of_ble_eq_true rfl) fun v447 h448 ps444 q446 z445 => ?_
      obtain ⟨rfl, K5, X5, G0, G1⟩ := q446
      have f449 : Str V h448 h420.size xA (mk 0 k410 k411) := by first | exact Str.keep K5 (fun w hw' => by cases List.mem_singleton.mp hw'; exact leA (by omega)) f439 | exact Str.keepE K5 Xa437 (by decide) (wd hw 38 rfl) f439
      have f450 : Str V h448 h425.size xB (mk 0 k412 k413) := by first | exact Str.keep K5 (fun w hw' => by cases List.mem_singleton.mp hw'; exact leA (by omega)) f440 | exact Str.keepE K5 Xa437 (by decide) (wd hw 38 rfl) f440
      have f451 := Arv.keep f441 K5 (ninS (neA (by omega)) nin0)
      have f452 := Exa.keep Xa437 K5
      show Own.Run V K b_law _ h448 _ 14 38 168 [.val (.int p0), .val (.int p1), .val (.int p2), .val (.int k410), .val (.int k411), .val (.int k412), .val (.int k413), .val (.int (0 : Int32)), .val (.int (0 : Int32)), .val (.int q), .val (.ref xA), .val (.ref xB), .val (.ref a427), .val (.int (0 : Int32)), .unset, .unset] [.ref a437]
      have sh448 := K5.1
      refine r_aload 170 rfl at_168 rfl rfl ?_
      refine r_virtual 173 rfl at_170 (wd hw 53 rfl) (wd hw 54 rfl) (wd hw 56 rfl) (wd hw 55 rfl) (nfS (wd hw 56 rfl)) (by decide) f452 (Pays.con (K := K) (B := b_law) (c_suf V hw cz hCS hcz a437 xA xB _ _ _ _ q hq h448 _ G0 G1 f449 f450 (mk_by b3 b4) (mk_by b5 b6) (mk_len _ _ _) (mk_len _ _ _) (ltN X5.lt)) (wd hw 57 rfl) (wd hw 39 rfl) (by decide) (by decide)) (W := 0) (argsL := [.ref xB]) (lenOf pd_25 rfl) rfl rfl rfl (Nat.le_of_eq rfl) (Nat.le_of_ble_eq_true rfl) (Nat.le_of_ble_eq_true rfl) fun v456 h457 ps453 q455 z454 => ?_
      obtain ⟨r2, x3, m3, rfl, E6, X6, H0, H1, S6⟩ := q455
      have f458 := Str.ext E6 f449
      have f459 := Str.ext E6 f450
      have f460 := f451.ext E6
      have f461 := Exa.ext E6 f452
      have f462 := Fld.ext E6 G0
      have f463 := Fld.ext E6 G1
      have sh457 := E6.1
      show Own.Run V K b_law _ h457 _ 20 98 173 [.val (.int p0), .val (.int p1), .val (.int p2), .val (.int k410), .val (.int k411), .val (.int k412), .val (.int k413), .val (.int (0 : Int32)), .val (.int (0 : Int32)), .val (.int q), .val (.ref xA), .val (.ref xB), .val (.ref a427), .val (.int (0 : Int32)), .unset, .unset] [.ref r2]
      rw [mk0, mk0] at S6
      have S7 : Str V h457 m3 x3 [] := S6
      have hb7 : ∀ c ∈ ([] : List Int32), ¬ 255 < c := fun c hc => (by_app (mk_by (n := 0) b3 b4) (mk_by (n := 0) b5 b6) c hc).2
      refine r_astore [.val (.int p0), .val (.int p1), .val (.int p2), .val (.int k410), .val (.int k411), .val (.int k412), .val (.int k413), .val (.int (0 : Int32)), .val (.int (0 : Int32)), .val (.int q), .val (.ref xA), .val (.ref xB), .val (.ref a427), .val (.int (0 : Int32)), .val (.ref r2), .unset] 175 rfl at_173 rfl rfl ?_
      refine r_aload 177 rfl at_175 rfl rfl ?_
      refine r_virtual 180 rfl at_177 (wd hw 170 rfl) (wd hw 171 rfl) (wd hw 173 rfl) (wd hw 172 rfl) (nfS (wd hw 173 rfl)) (by decide) X6 (Pays.con (K := K) (B := b_law) (c_quoted V hw r2 0 q hq h457 _ H1) (wd hw 174 rfl) (wd hw 39 rfl) (by decide) (by decide)) (W := 0) (argsL := []) (lenOf pd_16 rfl) rfl rfl rfl (Nat.le_of_eq rfl) (Nat.le_of_ble_eq_true rfl) (Nat.le_of_ble_eq_true rfl) fun v467 h468 ps464 q466 z465 => ?_
      obtain ⟨rfl, es469⟩ := q466
      subst h468
      show Own.Run V K b_law _ h457 _ 20 98 180 [.val (.int p0), .val (.int p1), .val (.int p2), .val (.int k410), .val (.int k411), .val (.int k412), .val (.int k413), .val (.int (0 : Int32)), .val (.int (0 : Int32)), .val (.int q), .val (.ref xA), .val (.ref xB), .val (.ref a427), .val (.int (0 : Int32)), .val (.ref r2), .unset] [.int q]
      refine r_iload 182 rfl at_180 rfl ?_
      refine r_icmp_eq 187 185 at_182 (by decide) rfl rfl (fun c470 => ?_) (fun c470 => ?_)
      rotate_left
      · exact absurd rfl c470
      refine r_aload 189 rfl at_187 rfl rfl ?_
      refine r_virtual 192 rfl at_189 (wd hw 175 rfl) (wd hw 176 rfl) (wd hw 178 rfl) (wd hw 177 rfl) (nfS (wd hw 178 rfl)) (by decide) X6 (Pays.con (K := K) (B := b_law) (c_text V hw r2 x3 0 (Or.inl rfl) h457 _ H0) (wd hw 179 rfl) (wd hw 39 rfl) (by decide) (by decide)) (W := 0) (argsL := []) (lenOf pd_22 rfl) rfl rfl rfl (Nat.le_of_eq rfl) (Nat.le_of_ble_eq_true rfl) (Nat.le_of_ble_eq_true rfl) fun v474 h475 ps471 q473 z472 => ?_
      obtain ⟨rfl, es476⟩ := q473
      subst h475
      show Own.Run V K b_law _ h457 _ 20 98 192 [.val (.int p0), .val (.int p1), .val (.int p2), .val (.int k410), .val (.int k411), .val (.int k412), .val (.int k413), .val (.int (0 : Int32)), .val (.int (0 : Int32)), .val (.int q), .val (.ref xA), .val (.ref xB), .val (.ref a427), .val (.int (0 : Int32)), .val (.ref r2), .unset] [.ref x3]
      refine r_astore [.val (.int p0), .val (.int p1), .val (.int p2), .val (.int k410), .val (.int k411), .val (.int k412), .val (.int k413), .val (.int (0 : Int32)), .val (.int (0 : Int32)), .val (.int q), .val (.ref xA), .val (.ref xB), .val (.ref a427), .val (.int (0 : Int32)), .val (.ref r2), .val (.ref x3)] 194 rfl at_192 rfl rfl ?_
      refine r_aload 196 rfl at_194 rfl rfl ?_
      refine Run.old fun OX => ?_
      refine r_virtual 199 rfl at_196 (wd hw 180 rfl) (wd hw 88 rfl) (wd hw 90 rfl) (wd hw 89 rfl) (nfS (wd hw 90 rfl)) (by decide) S7.exa (pay_len V hw K b_law 0 x3 m3 [] h457 _ S7 OX cz hCS hcz (by decide) (by decide)) (W := 0) (argsL := []) (lenOf pd_13 rfl) rfl rfl rfl (Nat.le_of_eq rfl) (Nat.le_of_ble_eq_true rfl) (Nat.le_of_ble_eq_true rfl) fun v480 h481 ps477 q479 z478 => ?_
      obtain ⟨rfl, es482⟩ := q479
      subst h481
      show Own.Run V K b_law _ h457 _ 20 98 199 [.val (.int p0), .val (.int p1), .val (.int p2), .val (.int k410), .val (.int k411), .val (.int k412), .val (.int k413), .val (.int (0 : Int32)), .val (.int (0 : Int32)), .val (.int q), .val (.ref xA), .val (.ref xB), .val (.ref a427), .val (.int (0 : Int32)), .val (.ref r2), .val (.ref x3)] [.int (Int32.ofNat 0)]
      refine r_iload 201 rfl at_199 rfl ?_
      refine r_icmp_eq 206 204 at_201 (by decide) rfl rfl (fun c483 => ?_) (fun c483 => ?_)
      rotate_left
      · exact absurd rfl c483
      refine r_iload 208 rfl at_206 rfl ?_
      refine r_if_le 226 211 at_208 (by decide) rfl rfl (fun c484 => ?_) (fun c484 => ?_)
      rotate_left
      · exact absurd c484 (by decide)
      refine r_iload 228 rfl at_226 rfl ?_
      refine r_iconst (1 : Int32) 229 rfl at_228 rfl ?_
      refine r_icmp_le 247 232 at_229 (by decide) rfl rfl (fun c485 => ?_) (fun c485 => ?_)
      rotate_left
      · exact absurd c485 (by decide)
      refine r_iload 249 rfl at_247 rfl ?_
      refine r_iconst (2 : Int32) 250 rfl at_249 rfl ?_
      refine r_icmp_le 268 253 at_250 (by decide) rfl rfl (fun c486 => ?_) (fun c486 => ?_)
      rotate_left
      · exact absurd c486 (by decide)
      refine r_iload 270 rfl at_268 rfl ?_
      refine r_iconst (3 : Int32) 271 rfl at_270 rfl ?_
      refine r_icmp_le 289 274 at_271 (by decide) rfl rfl (fun c487 => ?_) (fun c487 => ?_)
      rotate_left
      · exact absurd c487 (by decide)
      refine r_iconst (1 : Int32) 290 rfl at_289 rfl ?_
      refine r_nret (t := .boolean) (1 : Int32) rfl (by simp) rfl at_290 (by decide) (by decide) [] (fun _ q => nomatch q) ?_
      rfl
    · refine r_iload 98 rfl at_96 rfl ?_
      refine r_if_le 110 101 at_98 (by decide) rfl rfl (fun c488 => ?_) (fun c488 => ?_)
      rotate_left
      · exact absurd c488 (by decide)
      refine r_iload 112 rfl at_110 rfl ?_
      refine r_iconst (1 : Int32) 113 rfl at_112 rfl ?_
      refine r_icmp_le 126 116 at_113 (by decide) rfl rfl (fun c489 => ?_) (fun c489 => ?_)
      rotate_left
      · exact absurd c489 (by decide)
      refine r_iload 128 rfl at_126 rfl ?_
      refine r_if_le 141 131 at_128 (by decide) rfl rfl (fun c490 => ?_) (fun c490 => ?_)
      · exact absurd c490 (by decide)
      refine r_aload 133 rfl at_131 rfl rfl ?_
      refine r_iload 135 rfl at_133 rfl ?_
      refine r_iload 137 rfl at_135 rfl ?_
      refine r_castore 0 138 rfl at_137 f432 (by decide) rfl (Nat.le_of_ble_eq_true rfl) za427 k412 (nby b5) fun h491 Wh491 f492 => ?_
      have sh491 := Wh491.size
      have f493 : Str V h491 h420.size xA (mk 0 k410 k411) := by first | exact Str.keep (Keep.of_wr Wh491) (fun w hw' => by cases List.mem_singleton.mp hw'; exact leA (by omega)) f430 | exact Str.keepA (Keep.of_wr Wh491) f432 (by decide) (wd hw 5 rfl) f430
      have f494 : Str V h491 h425.size xB (mk 1 k412 k413) := by first | exact Str.keep (Keep.of_wr Wh491) (fun w hw' => by cases List.mem_singleton.mp hw'; exact leA (by omega)) f431 | exact Str.keepA (Keep.of_wr Wh491) f432 (by decide) (wd hw 5 rfl) f431
      replace f492 : Arv V.Z h491 a427 k429 .char (4 : Int32) [.int k412, .int 0, .int 0, .int 0] (.int 0) := f492
      refine r_iinc (1) [.val (.int p0), .val (.int p1), .val (.int p2), .val (.int k410), .val (.int k411), .val (.int k412), .val (.int k413), .val (.int (0 : Int32)), .val (.int (1 : Int32)), .val (.int q), .val (.ref xA), .val (.ref xB), .val (.ref a427), .val (.int ((0 : Int32) + (1 : Int32))), .unset, .unset] 141 rfl at_138 rfl rfl rfl ?_
      rw [show (0 : Int32) + 1 = 1 from by decide]
      refine r_iload 143 rfl at_141 rfl ?_
      refine r_iconst (1 : Int32) 144 rfl at_143 rfl ?_
      refine r_icmp_le 157 147 at_144 (by decide) rfl rfl (fun c495 => ?_) (fun c495 => ?_)
      rotate_left
      · exact absurd c495 (by decide)
      refine r_new 160 rfl at_157 (wd hw 37 rfl) (wd hw 38 rfl) (wd hw 39 rfl) (by decide) (by decide) fun a496 h497 ga496 za496 Eh497 Xa496 Da496 => ?_
      have f498 := Str.ext Eh497 f493
      have f499 := Str.ext Eh497 f494
      have f500 := f492.ext Eh497
      have sh497 := Eh497.1
      have la496 := ltN Xa496.lt
      have f501 : Fld V.Z h497 a496 "com/example/lazo/lazo/mapping/SqlName" "text" "Ljava/lang/String;" (.null) := Da496 (Or.inr (wd hw 50 rfl)) (ty := (.object "java/lang/String")) (by decide)
      have f502 : Fld V.Z h497 a496 "com/example/lazo/lazo/mapping/SqlName" "quoted" "Z" (.int (0 : Int32)) := Da496 (Or.inr (wd hw 52 rfl)) (ty := .boolean) (by decide)
      refine r_dup 161 rfl at_160 rfl ?_
      refine r_aload 163 rfl at_161 rfl rfl ?_
      refine r_iload 165 rfl at_163 rfl ?_
      refine r_special 168 rfl at_165 rfl (wd hw 40 rfl) (wd hw 41 rfl) (wd hw 42 rfl) (by decide) (Pays.con (K := K) (B := b_law) (c_sqi V hw a496 xA q hq h497 _ za496 Xa496 f501 f502) (wd hw 42 rfl) (wd hw 39 rfl) (by decide) (by decide)) (W := 1) (argsL := [.ref xA, .int q]) (lenOf pd_24 rfl) rfl rfl rfl (Nat.le_of_eq rfl) (Nat.le_of_ble_eq_true rfl) (Nat.le_of_ble_eq_true rfl) fun v506 h507 ps503 q505 z504 => ?_
      obtain ⟨rfl, K5, X5, G0, G1⟩ := q505
      have f508 : Str V h507 h420.size xA (mk 0 k410 k411) := by first | exact Str.keep K5 (fun w hw' => by cases List.mem_singleton.mp hw'; exact leA (by omega)) f498 | exact Str.keepE K5 Xa496 (by decide) (wd hw 38 rfl) f498
      have f509 : Str V h507 h425.size xB (mk 1 k412 k413) := by first | exact Str.keep K5 (fun w hw' => by cases List.mem_singleton.mp hw'; exact leA (by omega)) f499 | exact Str.keepE K5 Xa496 (by decide) (wd hw 38 rfl) f499
      have f510 := Arv.keep f500 K5 (ninS (neA (by omega)) nin0)
      have f511 := Exa.keep Xa496 K5
      show Own.Run V K b_law _ h507 _ 14 38 168 [.val (.int p0), .val (.int p1), .val (.int p2), .val (.int k410), .val (.int k411), .val (.int k412), .val (.int k413), .val (.int (0 : Int32)), .val (.int (1 : Int32)), .val (.int q), .val (.ref xA), .val (.ref xB), .val (.ref a427), .val (.int (1 : Int32)), .unset, .unset] [.ref a496]
      have sh507 := K5.1
      refine r_aload 170 rfl at_168 rfl rfl ?_
      refine r_virtual 173 rfl at_170 (wd hw 53 rfl) (wd hw 54 rfl) (wd hw 56 rfl) (wd hw 55 rfl) (nfS (wd hw 56 rfl)) (by decide) f511 (Pays.con (K := K) (B := b_law) (c_suf V hw cz hCS hcz a496 xA xB _ _ _ _ q hq h507 _ G0 G1 f508 f509 (mk_by b3 b4) (mk_by b5 b6) (mk_len _ _ _) (mk_len _ _ _) (ltN X5.lt)) (wd hw 57 rfl) (wd hw 39 rfl) (by decide) (by decide)) (W := 0) (argsL := [.ref xB]) (lenOf pd_25 rfl) rfl rfl rfl (Nat.le_of_eq rfl) (Nat.le_of_ble_eq_true rfl) (Nat.le_of_ble_eq_true rfl) fun v515 h516 ps512 q514 z513 => ?_
      obtain ⟨r2, x3, m3, rfl, E6, X6, H0, H1, S6⟩ := q514
      have f517 := Str.ext E6 f508
      have f518 := Str.ext E6 f509
      have f519 := f510.ext E6
      have f520 := Exa.ext E6 f511
      have f521 := Fld.ext E6 G0
      have f522 := Fld.ext E6 G1
      have sh516 := E6.1
      show Own.Run V K b_law _ h516 _ 20 98 173 [.val (.int p0), .val (.int p1), .val (.int p2), .val (.int k410), .val (.int k411), .val (.int k412), .val (.int k413), .val (.int (0 : Int32)), .val (.int (1 : Int32)), .val (.int q), .val (.ref xA), .val (.ref xB), .val (.ref a427), .val (.int (1 : Int32)), .unset, .unset] [.ref r2]
      rw [mk0, mk1] at S6
      have S7 : Str V h516 m3 x3 [k412] := S6
      have hb7 : ∀ c ∈ ([k412] : List Int32), ¬ 255 < c := fun c hc => (by_app (mk_by (n := 0) b3 b4) (mk_by (n := 1) b5 b6) c hc).2
      refine r_astore [.val (.int p0), .val (.int p1), .val (.int p2), .val (.int k410), .val (.int k411), .val (.int k412), .val (.int k413), .val (.int (0 : Int32)), .val (.int (1 : Int32)), .val (.int q), .val (.ref xA), .val (.ref xB), .val (.ref a427), .val (.int (1 : Int32)), .val (.ref r2), .unset] 175 rfl at_173 rfl rfl ?_
      refine r_aload 177 rfl at_175 rfl rfl ?_
      refine r_virtual 180 rfl at_177 (wd hw 170 rfl) (wd hw 171 rfl) (wd hw 173 rfl) (wd hw 172 rfl) (nfS (wd hw 173 rfl)) (by decide) X6 (Pays.con (K := K) (B := b_law) (c_quoted V hw r2 0 q hq h516 _ H1) (wd hw 174 rfl) (wd hw 39 rfl) (by decide) (by decide)) (W := 0) (argsL := []) (lenOf pd_16 rfl) rfl rfl rfl (Nat.le_of_eq rfl) (Nat.le_of_ble_eq_true rfl) (Nat.le_of_ble_eq_true rfl) fun v526 h527 ps523 q525 z524 => ?_
      obtain ⟨rfl, es528⟩ := q525
      subst h527
      show Own.Run V K b_law _ h516 _ 20 98 180 [.val (.int p0), .val (.int p1), .val (.int p2), .val (.int k410), .val (.int k411), .val (.int k412), .val (.int k413), .val (.int (0 : Int32)), .val (.int (1 : Int32)), .val (.int q), .val (.ref xA), .val (.ref xB), .val (.ref a427), .val (.int (1 : Int32)), .val (.ref r2), .unset] [.int q]
      refine r_iload 182 rfl at_180 rfl ?_
      refine r_icmp_eq 187 185 at_182 (by decide) rfl rfl (fun c529 => ?_) (fun c529 => ?_)
      rotate_left
      · exact absurd rfl c529
      refine r_aload 189 rfl at_187 rfl rfl ?_
      refine r_virtual 192 rfl at_189 (wd hw 175 rfl) (wd hw 176 rfl) (wd hw 178 rfl) (wd hw 177 rfl) (nfS (wd hw 178 rfl)) (by decide) X6 (Pays.con (K := K) (B := b_law) (c_text V hw r2 x3 0 (Or.inl rfl) h516 _ H0) (wd hw 179 rfl) (wd hw 39 rfl) (by decide) (by decide)) (W := 0) (argsL := []) (lenOf pd_22 rfl) rfl rfl rfl (Nat.le_of_eq rfl) (Nat.le_of_ble_eq_true rfl) (Nat.le_of_ble_eq_true rfl) fun v533 h534 ps530 q532 z531 => ?_
      obtain ⟨rfl, es535⟩ := q532
      subst h534
      show Own.Run V K b_law _ h516 _ 20 98 192 [.val (.int p0), .val (.int p1), .val (.int p2), .val (.int k410), .val (.int k411), .val (.int k412), .val (.int k413), .val (.int (0 : Int32)), .val (.int (1 : Int32)), .val (.int q), .val (.ref xA), .val (.ref xB), .val (.ref a427), .val (.int (1 : Int32)), .val (.ref r2), .unset] [.ref x3]
      refine r_astore [.val (.int p0), .val (.int p1), .val (.int p2), .val (.int k410), .val (.int k411), .val (.int k412), .val (.int k413), .val (.int (0 : Int32)), .val (.int (1 : Int32)), .val (.int q), .val (.ref xA), .val (.ref xB), .val (.ref a427), .val (.int (1 : Int32)), .val (.ref r2), .val (.ref x3)] 194 rfl at_192 rfl rfl ?_
      refine r_aload 196 rfl at_194 rfl rfl ?_
      refine Run.old fun OX => ?_
      refine r_virtual 199 rfl at_196 (wd hw 180 rfl) (wd hw 88 rfl) (wd hw 90 rfl) (wd hw 89 rfl) (nfS (wd hw 90 rfl)) (by decide) S7.exa (pay_len V hw K b_law 0 x3 m3 [k412] h516 _ S7 OX cz hCS hcz (by decide) (by decide)) (W := 0) (argsL := []) (lenOf pd_13 rfl) rfl rfl rfl (Nat.le_of_eq rfl) (Nat.le_of_ble_eq_true rfl) (Nat.le_of_ble_eq_true rfl) fun v539 h540 ps536 q538 z537 => ?_
      obtain ⟨rfl, es541⟩ := q538
      subst h540
      show Own.Run V K b_law _ h516 _ 20 98 199 [.val (.int p0), .val (.int p1), .val (.int p2), .val (.int k410), .val (.int k411), .val (.int k412), .val (.int k413), .val (.int (0 : Int32)), .val (.int (1 : Int32)), .val (.int q), .val (.ref xA), .val (.ref xB), .val (.ref a427), .val (.int (1 : Int32)), .val (.ref r2), .val (.ref x3)] [.int (Int32.ofNat 1)]
      refine r_iload 201 rfl at_199 rfl ?_
      refine r_icmp_eq 206 204 at_201 (by decide) rfl rfl (fun c542 => ?_) (fun c542 => ?_)
      rotate_left
      · exact absurd rfl c542
      refine r_iload 208 rfl at_206 rfl ?_
      refine r_if_le 226 211 at_208 (by decide) rfl rfl (fun c543 => ?_) (fun c543 => ?_)
      · exact absurd c543 (by decide)
      refine r_aload 213 rfl at_211 rfl rfl ?_
      refine r_iconst (0 : Int32) 214 rfl at_213 rfl ?_
      refine r_virtual 217 rfl at_214 (wd hw 181 rfl) (wd hw 182 rfl) (wd hw 184 rfl) (wd hw 183 rfl) (nfS (wd hw 184 rfl)) (by decide) S7.exa (pay_ch V hw K b_law 0 x3 m3 0 (0 : Int32) [k412] h516 _ S7 hb7 OX cz hCS hcz fm hFM rf (Nat.le_of_ble_eq_true rfl) rfl (by decide) (by decide)) (W := 0) (argsL := [.int (0 : Int32)]) (lenOf pd_26 rfl) rfl rfl rfl (Nat.le_of_eq rfl) (Nat.le_of_ble_eq_true rfl) (Nat.le_of_ble_eq_true rfl) fun v547 h548 ps544 q546 z545 => ?_
      obtain ⟨rfl, es549⟩ := q546
      subst h548
      show Own.Run V K b_law _ h516 _ 20 98 217 [.val (.int p0), .val (.int p1), .val (.int p2), .val (.int k410), .val (.int k411), .val (.int k412), .val (.int k413), .val (.int (0 : Int32)), .val (.int (1 : Int32)), .val (.int q), .val (.ref xA), .val (.ref xB), .val (.ref a427), .val (.int (1 : Int32)), .val (.ref r2), .val (.ref x3)] [.int k412]
      refine r_aload 219 rfl at_217 rfl rfl ?_
      refine r_iconst (0 : Int32) 220 rfl at_219 rfl ?_
      refine r_caload (v := .int k412) 221 rfl at_220 f519 (by decide) rfl ?_
      refine r_icmp_eq 226 224 at_221 (by decide) rfl rfl (fun c550 => ?_) (fun c550 => ?_)
      rotate_left
      · exact absurd rfl c550
      refine r_iload 228 rfl at_226 rfl ?_
      refine r_iconst (1 : Int32) 229 rfl at_228 rfl ?_
      refine r_icmp_le 247 232 at_229 (by decide) rfl rfl (fun c551 => ?_) (fun c551 => ?_)
      rotate_left
      · exact absurd c551 (by decide)
      refine r_iload 249 rfl at_247 rfl ?_
      refine r_iconst (2 : Int32) 250 rfl at_249 rfl ?_
      refine r_icmp_le 268 253 at_250 (by decide) rfl rfl (fun c552 => ?_) (fun c552 => ?_)
      rotate_left
      · exact absurd c552 (by decide)
      refine r_iload 270 rfl at_268 rfl ?_
      refine r_iconst (3 : Int32) 271 rfl at_270 rfl ?_
      refine r_icmp_le 289 274 at_271 (by decide) rfl rfl (fun c553 => ?_) (fun c553 => ?_)
      rotate_left
      · exact absurd c553 (by decide)
      refine r_iconst (1 : Int32) 290 rfl at_289 rfl ?_
      refine r_nret (t := .boolean) (1 : Int32) rfl (by simp) rfl at_290 (by decide) (by decide) [] (fun _ q => nomatch q) ?_
      rfl
    · refine r_iload 98 rfl at_96 rfl ?_
      refine r_if_le 110 101 at_98 (by decide) rfl rfl (fun c554 => ?_) (fun c554 => ?_)
      rotate_left
      · exact absurd c554 (by decide)
      refine r_iload 112 rfl at_110 rfl ?_
      refine r_iconst (1 : Int32) 113 rfl at_112 rfl ?_
      refine r_icmp_le 126 116 at_113 (by decide) rfl rfl (fun c555 => ?_) (fun c555 => ?_)
      rotate_left
      · exact absurd c555 (by decide)
      refine r_iload 128 rfl at_126 rfl ?_
      refine r_if_le 141 131 at_128 (by decide) rfl rfl (fun c556 => ?_) (fun c556 => ?_)
      · exact absurd c556 (by decide)
      refine r_aload 133 rfl at_131 rfl rfl ?_
      refine r_iload 135 rfl at_133 rfl ?_
      refine r_iload 137 rfl at_135 rfl ?_
      refine r_castore 0 138 rfl at_137 f432 (by decide) rfl (Nat.le_of_ble_eq_true rfl) za427 k412 (nby b5) fun h557 Wh557 f558 => ?_
      have sh557 := Wh557.size
      have f559 : Str V h557 h420.size xA (mk 0 k410 k411) := by first | exact Str.keep (Keep.of_wr Wh557) (fun w hw' => by cases List.mem_singleton.mp hw'; exact leA (by omega)) f430 | exact Str.keepA (Keep.of_wr Wh557) f432 (by decide) (wd hw 5 rfl) f430
      have f560 : Str V h557 h425.size xB (mk 2 k412 k413) := by first | exact Str.keep (Keep.of_wr Wh557) (fun w hw' => by cases List.mem_singleton.mp hw'; exact leA (by omega)) f431 | exact Str.keepA (Keep.of_wr Wh557) f432 (by decide) (wd hw 5 rfl) f431
      replace f558 : Arv V.Z h557 a427 k429 .char (4 : Int32) [.int k412, .int 0, .int 0, .int 0] (.int 0) := f558
      refine r_iinc (1) [.val (.int p0), .val (.int p1), .val (.int p2), .val (.int k410), .val (.int k411), .val (.int k412), .val (.int k413), .val (.int (0 : Int32)), .val (.int (2 : Int32)), .val (.int q), .val (.ref xA), .val (.ref xB), .val (.ref a427), .val (.int ((0 : Int32) + (1 : Int32))), .unset, .unset] 141 rfl at_138 rfl rfl rfl ?_
      rw [show (0 : Int32) + 1 = 1 from by decide]
      refine r_iload 143 rfl at_141 rfl ?_
      refine r_iconst (1 : Int32) 144 rfl at_143 rfl ?_
      refine r_icmp_le 157 147 at_144 (by decide) rfl rfl (fun c561 => ?_) (fun c561 => ?_)
      · exact absurd c561 (by decide)
      refine r_aload 149 rfl at_147 rfl rfl ?_
      refine r_iload 151 rfl at_149 rfl ?_
      refine r_iload 153 rfl at_151 rfl ?_
      refine r_castore 1 154 rfl at_153 f558 (by decide) rfl (Nat.le_of_ble_eq_true rfl) za427 k413 (nby b6) fun h562 Wh562 f563 => ?_
      have sh562 := Wh562.size
      have f564 : Str V h562 h420.size xA (mk 0 k410 k411) := by first | exact Str.keep (Keep.of_wr Wh562) (fun w hw' => by cases List.mem_singleton.mp hw'; exact leA (by omega)) f559 | exact Str.keepA (Keep.of_wr Wh562) f558 (by decide) (wd hw 5 rfl) f559
      have f565 : Str V h562 h425.size xB (mk 2 k412 k413) := by first | exact Str.keep (Keep.of_wr Wh562) (fun w hw' => by cases List.mem_singleton.mp hw'; exact leA (by omega)) f560 | exact Str.keepA (Keep.of_wr Wh562) f558 (by decide) (wd hw 5 rfl) f560
      replace f563 : Arv V.Z h562 a427 k429 .char (4 : Int32) [.int k412, .int k413, .int 0, .int 0] (.int 0) := f563
      refine r_iinc (1) [.val (.int p0), .val (.int p1), .val (.int p2), .val (.int k410), .val (.int k411), .val (.int k412), .val (.int k413), .val (.int (0 : Int32)), .val (.int (2 : Int32)), .val (.int q), .val (.ref xA), .val (.ref xB), .val (.ref a427), .val (.int ((1 : Int32) + (1 : Int32))), .unset, .unset] 157 rfl at_154 rfl rfl rfl ?_
      rw [show (1 : Int32) + 1 = 2 from by decide]
      refine r_new 160 rfl at_157 (wd hw 37 rfl) (wd hw 38 rfl) (wd hw 39 rfl) (by decide) (by decide) fun a566 h567 ga566 za566 Eh567 Xa566 Da566 => ?_
      have f568 := Str.ext Eh567 f564
      have f569 := Str.ext Eh567 f565
      have f570 := f563.ext Eh567
      have sh567 := Eh567.1
      have la566 := ltN Xa566.lt
      have f571 : Fld V.Z h567 a566 "com/example/lazo/lazo/mapping/SqlName" "text" "Ljava/lang/String;" (.null) := Da566 (Or.inr (wd hw 50 rfl)) (ty := (.object "java/lang/String")) (by decide)
      have f572 : Fld V.Z h567 a566 "com/example/lazo/lazo/mapping/SqlName" "quoted" "Z" (.int (0 : Int32)) := Da566 (Or.inr (wd hw 52 rfl)) (ty := .boolean) (by decide)
      refine r_dup 161 rfl at_160 rfl ?_
      refine r_aload 163 rfl at_161 rfl rfl ?_
      refine r_iload 165 rfl at_163 rfl ?_
      refine r_special 168 rfl at_165 rfl (wd hw 40 rfl) (wd hw 41 rfl) (wd hw 42 rfl) (by decide) (Pays.con (K := K) (B := b_law) (c_sqi V hw a566 xA q hq h567 _ za566 Xa566 f571 f572) (wd hw 42 rfl) (wd hw 39 rfl) (by decide) (by decide)) (W := 1) (argsL := [.ref xA, .int q]) (lenOf pd_24 rfl) rfl rfl rfl (Nat.le_of_eq rfl) (Nat.le_of_ble_eq_true rfl) (Nat.le_of_ble_eq_true rfl) fun v576 h577 ps573 q575 z574 => ?_
      obtain ⟨rfl, K5, X5, G0, G1⟩ := q575
      have f578 : Str V h577 h420.size xA (mk 0 k410 k411) := by first | exact Str.keep K5 (fun w hw' => by cases List.mem_singleton.mp hw'; exact leA (by omega)) f568 | exact Str.keepE K5 Xa566 (by decide) (wd hw 38 rfl) f568
      have f579 : Str V h577 h425.size xB (mk 2 k412 k413) := by first | exact Str.keep K5 (fun w hw' => by cases List.mem_singleton.mp hw'; exact leA (by omega)) f569 | exact Str.keepE K5 Xa566 (by decide) (wd hw 38 rfl) f569
      have f580 := Arv.keep f570 K5 (ninS (neA (by omega)) nin0)
      have f581 := Exa.keep Xa566 K5
      show Own.Run V K b_law _ h577 _ 14 38 168 [.val (.int p0), .val (.int p1), .val (.int p2), .val (.int k410), .val (.int k411), .val (.int k412), .val (.int k413), .val (.int (0 : Int32)), .val (.int (2 : Int32)), .val (.int q), .val (.ref xA), .val (.ref xB), .val (.ref a427), .val (.int (2 : Int32)), .unset, .unset] [.ref a566]
      have sh577 := K5.1
      refine r_aload 170 rfl at_168 rfl rfl ?_
      refine r_virtual 173 rfl at_170 (wd hw 53 rfl) (wd hw 54 rfl) (wd hw 56 rfl) (wd hw 55 rfl) (nfS (wd hw 56 rfl)) (by decide) f581 (Pays.con (K := K) (B := b_law) (c_suf V hw cz hCS hcz a566 xA xB _ _ _ _ q hq h577 _ G0 G1 f578 f579 (mk_by b3 b4) (mk_by b5 b6) (mk_len _ _ _) (mk_len _ _ _) (ltN X5.lt)) (wd hw 57 rfl) (wd hw 39 rfl) (by decide) (by decide)) (W := 0) (argsL := [.ref xB]) (lenOf pd_25 rfl) rfl rfl rfl (Nat.le_of_eq rfl) (Nat.le_of_ble_eq_true rfl) (Nat.le_of_ble_eq_true rfl) fun v585 h586 ps582 q584 z583 => ?_
      obtain ⟨r2, x3, m3, rfl, E6, X6, H0, H1, S6⟩ := q584
      have f587 := Str.ext E6 f578
      have f588 := Str.ext E6 f579
      have f589 := f580.ext E6
      have f590 := Exa.ext E6 f581
      have f591 := Fld.ext E6 G0
      have f592 := Fld.ext E6 G1
      have sh586 := E6.1
      show Own.Run V K b_law _ h586 _ 20 98 173 [.val (.int p0), .val (.int p1), .val (.int p2), .val (.int k410), .val (.int k411), .val (.int k412), .val (.int k413), .val (.int (0 : Int32)), .val (.int (2 : Int32)), .val (.int q), .val (.ref xA), .val (.ref xB), .val (.ref a427), .val (.int (2 : Int32)), .unset, .unset] [.ref r2]
      rw [mk0, mk2] at S6
      have S7 : Str V h586 m3 x3 [k412, k413] := S6
      have hb7 : ∀ c ∈ ([k412, k413] : List Int32), ¬ 255 < c := fun c hc => (by_app (mk_by (n := 0) b3 b4) (mk_by (n := 2) b5 b6) c hc).2
      refine r_astore [.val (.int p0), .val (.int p1), .val (.int p2), .val (.int k410), .val (.int k411), .val (.int k412), .val (.int k413), .val (.int (0 : Int32)), .val (.int (2 : Int32)), .val (.int q), .val (.ref xA), .val (.ref xB), .val (.ref a427), .val (.int (2 : Int32)), .val (.ref r2), .unset] 175 rfl at_173 rfl rfl ?_
      refine r_aload 177 rfl at_175 rfl rfl ?_
      refine r_virtual 180 rfl at_177 (wd hw 170 rfl) (wd hw 171 rfl) (wd hw 173 rfl) (wd hw 172 rfl) (nfS (wd hw 173 rfl)) (by decide) X6 (Pays.con (K := K) (B := b_law) (c_quoted V hw r2 0 q hq h586 _ H1) (wd hw 174 rfl) (wd hw 39 rfl) (by decide) (by decide)) (W := 0) (argsL := []) (lenOf pd_16 rfl) rfl rfl rfl (Nat.le_of_eq rfl) (Nat.le_of_ble_eq_true rfl) (Nat.le_of_ble_eq_true rfl) fun v596 h597 ps593 q595 z594 => ?_
      obtain ⟨rfl, es598⟩ := q595
      subst h597
      show Own.Run V K b_law _ h586 _ 20 98 180 [.val (.int p0), .val (.int p1), .val (.int p2), .val (.int k410), .val (.int k411), .val (.int k412), .val (.int k413), .val (.int (0 : Int32)), .val (.int (2 : Int32)), .val (.int q), .val (.ref xA), .val (.ref xB), .val (.ref a427), .val (.int (2 : Int32)), .val (.ref r2), .unset] [.int q]
      refine r_iload 182 rfl at_180 rfl ?_
      refine r_icmp_eq 187 185 at_182 (by decide) rfl rfl (fun c599 => ?_) (fun c599 => ?_)
      rotate_left
      · exact absurd rfl c599
      refine r_aload 189 rfl at_187 rfl rfl ?_
      refine r_virtual 192 rfl at_189 (wd hw 175 rfl) (wd hw 176 rfl) (wd hw 178 rfl) (wd hw 177 rfl) (nfS (wd hw 178 rfl)) (by decide) X6 (Pays.con (K := K) (B := b_law) (c_text V hw r2 x3 0 (Or.inl rfl) h586 _ H0) (wd hw 179 rfl) (wd hw 39 rfl) (by decide) (by decide)) (W := 0) (argsL := []) (lenOf pd_22 rfl) rfl rfl rfl (Nat.le_of_eq rfl) (Nat.le_of_ble_eq_true rfl) (Nat.le_of_ble_eq_true rfl) fun v603 h604 ps600 q602 z601 => ?_
      obtain ⟨rfl, es605⟩ := q602
      subst h604
      show Own.Run V K b_law _ h586 _ 20 98 192 [.val (.int p0), .val (.int p1), .val (.int p2), .val (.int k410), .val (.int k411), .val (.int k412), .val (.int k413), .val (.int (0 : Int32)), .val (.int (2 : Int32)), .val (.int q), .val (.ref xA), .val (.ref xB), .val (.ref a427), .val (.int (2 : Int32)), .val (.ref r2), .unset] [.ref x3]
      refine r_astore [.val (.int p0), .val (.int p1), .val (.int p2), .val (.int k410), .val (.int k411), .val (.int k412), .val (.int k413), .val (.int (0 : Int32)), .val (.int (2 : Int32)), .val (.int q), .val (.ref xA), .val (.ref xB), .val (.ref a427), .val (.int (2 : Int32)), .val (.ref r2), .val (.ref x3)] 194 rfl at_192 rfl rfl ?_
      refine r_aload 196 rfl at_194 rfl rfl ?_
      refine Run.old fun OX => ?_
      refine r_virtual 199 rfl at_196 (wd hw 180 rfl) (wd hw 88 rfl) (wd hw 90 rfl) (wd hw 89 rfl) (nfS (wd hw 90 rfl)) (by decide) S7.exa (pay_len V hw K b_law 0 x3 m3 [k412, k413] h586 _ S7 OX cz hCS hcz (by decide) (by decide)) (W := 0) (argsL := []) (lenOf pd_13 rfl) rfl rfl rfl (Nat.le_of_eq rfl) (Nat.le_of_ble_eq_true rfl) (Nat.le_of_ble_eq_true rfl) fun v609 h610 ps606 q608 z607 => ?_
      obtain ⟨rfl, es611⟩ := q608
      subst h610
      show Own.Run V K b_law _ h586 _ 20 98 199 [.val (.int p0), .val (.int p1), .val (.int p2), .val (.int k410), .val (.int k411), .val (.int k412), .val (.int k413), .val (.int (0 : Int32)), .val (.int (2 : Int32)), .val (.int q), .val (.ref xA), .val (.ref xB), .val (.ref a427), .val (.int (2 : Int32)), .val (.ref r2), .val (.ref x3)] [.int (Int32.ofNat 2)]
      refine r_iload 201 rfl at_199 rfl ?_
      refine r_icmp_eq 206 204 at_201 (by decide) rfl rfl (fun c612 => ?_) (fun c612 => ?_)
      rotate_left
      · exact absurd rfl c612
      refine r_iload 208 rfl at_206 rfl ?_
      refine r_if_le 226 211 at_208 (by decide) rfl rfl (fun c613 => ?_) (fun c613 => ?_)
      · exact absurd c613 (by decide)
      refine r_aload 213 rfl at_211 rfl rfl ?_
      refine r_iconst (0 : Int32) 214 rfl at_213 rfl ?_
      refine r_virtual 217 rfl at_214 (wd hw 181 rfl) (wd hw 182 rfl) (wd hw 184 rfl) (wd hw 183 rfl) (nfS (wd hw 184 rfl)) (by decide) S7.exa (pay_ch V hw K b_law 0 x3 m3 0 (0 : Int32) [k412, k413] h586 _ S7 hb7 OX cz hCS hcz fm hFM rf (Nat.le_of_ble_eq_true rfl) rfl (by decide) (by decide)) (W := 0) (argsL := [.int (0 : Int32)]) (lenOf pd_26 rfl) rfl rfl rfl (Nat.le_of_eq rfl) (Nat.le_of_ble_eq_true rfl) (Nat.le_of_ble_eq_true rfl) fun v617 h618 ps614 q616 z615 => ?_
      obtain ⟨rfl, es619⟩ := q616
      subst h618
      show Own.Run V K b_law _ h586 _ 20 98 217 [.val (.int p0), .val (.int p1), .val (.int p2), .val (.int k410), .val (.int k411), .val (.int k412), .val (.int k413), .val (.int (0 : Int32)), .val (.int (2 : Int32)), .val (.int q), .val (.ref xA), .val (.ref xB), .val (.ref a427), .val (.int (2 : Int32)), .val (.ref r2), .val (.ref x3)] [.int k412]
      refine r_aload 219 rfl at_217 rfl rfl ?_
      refine r_iconst (0 : Int32) 220 rfl at_219 rfl ?_
      refine r_caload (v := .int k412) 221 rfl at_220 f589 (by decide) rfl ?_
      refine r_icmp_eq 226 224 at_221 (by decide) rfl rfl (fun c620 => ?_) (fun c620 => ?_)
      rotate_left
      · exact absurd rfl c620
      refine r_iload 228 rfl at_226 rfl ?_
      refine r_iconst (1 : Int32) 229 rfl at_228 rfl ?_
      refine r_icmp_le 247 232 at_229 (by decide) rfl rfl (fun c621 => ?_) (fun c621 => ?_)
      · exact absurd c621 (by decide)
      refine r_aload 234 rfl at_232 rfl rfl ?_
      refine r_iconst (1 : Int32) 235 rfl at_234 rfl ?_
      refine r_virtual 238 rfl at_235 (wd hw 181 rfl) (wd hw 182 rfl) (wd hw 184 rfl) (wd hw 183 rfl) (nfS (wd hw 184 rfl)) (by decide) S7.exa (pay_ch V hw K b_law 0 x3 m3 1 (1 : Int32) [k412, k413] h586 _ S7 hb7 OX cz hCS hcz fm hFM rf (Nat.le_of_ble_eq_true rfl) rfl (by decide) (by decide)) (W := 0) (argsL := [.int (1 : Int32)]) (lenOf pd_26 rfl) rfl rfl rfl (Nat.le_of_eq rfl) (Nat.le_of_ble_eq_true rfl) (Nat.le_of_ble_eq_true rfl) fun v625 h626 ps622 q624 z623 => ?_
      obtain ⟨rfl, es627⟩ := q624
      subst h626
      show Own.Run V K b_law _ h586 _ 20 98 238 [.val (.int p0), .val (.int p1), .val (.int p2), .val (.int k410), .val (.int k411), .val (.int k412), .val (.int k413), .val (.int (0 : Int32)), .val (.int (2 : Int32)), .val (.int q), .val (.ref xA), .val (.ref xB), .val (.ref a427), .val (.int (2 : Int32)), .val (.ref r2), .val (.ref x3)] [.int k413]
      refine r_aload 240 rfl at_238 rfl rfl ?_
      refine r_iconst (1 : Int32) 241 rfl at_240 rfl ?_
      refine r_caload (v := .int k413) 242 rfl at_241 f589 (by decide) rfl ?_
      refine r_icmp_eq 247 245 at_242 (by decide) rfl rfl (fun c628 => ?_) (fun c628 => ?_)
      rotate_left
      · exact absurd rfl c628
      refine r_iload 249 rfl at_247 rfl ?_
      refine r_iconst (2 : Int32) 250 rfl at_249 rfl ?_
      refine r_icmp_le 268 253 at_250 (by decide) rfl rfl (fun c629 => ?_) (fun c629 => ?_)
      rotate_left
      · exact absurd c629 (by decide)
      refine r_iload 270 rfl at_268 rfl ?_
      refine r_iconst (3 : Int32) 271 rfl at_270 rfl ?_
      refine r_icmp_le 289 274 at_271 (by decide) rfl rfl (fun c630 => ?_) (fun c630 => ?_)
      rotate_left
      · exact absurd c630 (by decide)
      refine r_iconst (1 : Int32) 290 rfl at_289 rfl ?_
      refine r_nret (t := .boolean) (1 : Int32) rfl (by simp) rfl at_290 (by decide) (by decide) [] (fun _ q => nomatch q) ?_
      rfl
    · refine r_iload 98 rfl at_96 rfl ?_
      refine r_if_le 110 101 at_98 (by decide) rfl rfl (fun c631 => ?_) (fun c631 => ?_)
      · exact absurd c631 (by decide)
      refine r_aload 103 rfl at_101 rfl rfl ?_
      refine r_iload 105 rfl at_103 rfl ?_
      refine r_iloadN 106 rfl at_105 rfl ?_
      refine r_castore 0 107 rfl at_106 f432 (by decide) rfl (Nat.le_of_ble_eq_true rfl) za427 k410 (nby b3) fun h632 Wh632 f633 => ?_
      have sh632 := Wh632.size
      have f634 : Str V h632 h420.size xA (mk 1 k410 k411) := by first | exact Str.keep (Keep.of_wr Wh632) (fun w hw' => by cases List.mem_singleton.mp hw'; exact leA (by omega)) f430 | exact Str.keepA (Keep.of_wr Wh632) f432 (by decide) (wd hw 5 rfl) f430
      have f635 : Str V h632 h425.size xB (mk 0 k412 k413) := by first | exact Str.keep (Keep.of_wr Wh632) (fun w hw' => by cases List.mem_singleton.mp hw'; exact leA (by omega)) f431 | exact Str.keepA (Keep.of_wr Wh632) f432 (by decide) (wd hw 5 rfl) f431
      replace f633 : Arv V.Z h632 a427 k429 .char (4 : Int32) [.int k410, .int 0, .int 0, .int 0] (.int 0) := f633
      refine r_iinc (1) [.val (.int p0), .val (.int p1), .val (.int p2), .val (.int k410), .val (.int k411), .val (.int k412), .val (.int k413), .val (.int (1 : Int32)), .val (.int (0 : Int32)), .val (.int q), .val (.ref xA), .val (.ref xB), .val (.ref a427), .val (.int ((0 : Int32) + (1 : Int32))), .unset, .unset] 110 rfl at_107 rfl rfl rfl ?_
      rw [show (0 : Int32) + 1 = 1 from by decide]
      refine r_iload 112 rfl at_110 rfl ?_
      refine r_iconst (1 : Int32) 113 rfl at_112 rfl ?_
      refine r_icmp_le 126 116 at_113 (by decide) rfl rfl (fun c636 => ?_) (fun c636 => ?_)
      rotate_left
      · exact absurd c636 (by decide)
      refine r_iload 128 rfl at_126 rfl ?_
      refine r_if_le 141 131 at_128 (by decide) rfl rfl (fun c637 => ?_) (fun c637 => ?_)
      rotate_left
      · exact absurd c637 (by decide)
      refine r_iload 143 rfl at_141 rfl ?_
      refine r_iconst (1 : Int32) 144 rfl at_143 rfl ?_
      refine r_icmp_le 157 147 at_144 (by decide) rfl rfl (fun c638 => ?_) (fun c638 => ?_)
      rotate_left
      · exact absurd c638 (by decide)
      refine r_new 160 rfl at_157 (wd hw 37 rfl) (wd hw 38 rfl) (wd hw 39 rfl) (by decide) (by decide) fun a639 h640 ga639 za639 Eh640 Xa639 Da639 => ?_
      have f641 := Str.ext Eh640 f634
      have f642 := Str.ext Eh640 f635
      have f643 := f633.ext Eh640
      have sh640 := Eh640.1
      have la639 := ltN Xa639.lt
      have f644 : Fld V.Z h640 a639 "com/example/lazo/lazo/mapping/SqlName" "text" "Ljava/lang/String;" (.null) := Da639 (Or.inr (wd hw 50 rfl)) (ty := (.object "java/lang/String")) (by decide)
      have f645 : Fld V.Z h640 a639 "com/example/lazo/lazo/mapping/SqlName" "quoted" "Z" (.int (0 : Int32)) := Da639 (Or.inr (wd hw 52 rfl)) (ty := .boolean) (by decide)
      refine r_dup 161 rfl at_160 rfl ?_
      refine r_aload 163 rfl at_161 rfl rfl ?_
      refine r_iload 165 rfl at_163 rfl ?_
      refine r_special 168 rfl at_165 rfl (wd hw 40 rfl) (wd hw 41 rfl) (wd hw 42 rfl) (by decide) (Pays.con (K := K) (B := b_law) (c_sqi V hw a639 xA q hq h640 _ za639 Xa639 f644 f645) (wd hw 42 rfl) (wd hw 39 rfl) (by decide) (by decide)) (W := 1) (argsL := [.ref xA, .int q]) (lenOf pd_24 rfl) rfl rfl rfl (Nat.le_of_eq rfl) (Nat.le_of_ble_eq_true rfl) (Nat.le_of_ble_eq_true rfl) fun v649 h650 ps646 q648 z647 => ?_
      obtain ⟨rfl, K5, X5, G0, G1⟩ := q648
      have f651 : Str V h650 h420.size xA (mk 1 k410 k411) := by first | exact Str.keep K5 (fun w hw' => by cases List.mem_singleton.mp hw'; exact leA (by omega)) f641 | exact Str.keepE K5 Xa639 (by decide) (wd hw 38 rfl) f641
      have f652 : Str V h650 h425.size xB (mk 0 k412 k413) := by first | exact Str.keep K5 (fun w hw' => by cases List.mem_singleton.mp hw'; exact leA (by omega)) f642 | exact Str.keepE K5 Xa639 (by decide) (wd hw 38 rfl) f642
      have f653 := Arv.keep f643 K5 (ninS (neA (by omega)) nin0)
      have f654 := Exa.keep Xa639 K5
      show Own.Run V K b_law _ h650 _ 14 38 168 [.val (.int p0), .val (.int p1), .val (.int p2), .val (.int k410), .val (.int k411), .val (.int k412), .val (.int k413), .val (.int (1 : Int32)), .val (.int (0 : Int32)), .val (.int q), .val (.ref xA), .val (.ref xB), .val (.ref a427), .val (.int (1 : Int32)), .unset, .unset] [.ref a639]
      have sh650 := K5.1
      refine r_aload 170 rfl at_168 rfl rfl ?_
      refine r_virtual 173 rfl at_170 (wd hw 53 rfl) (wd hw 54 rfl) (wd hw 56 rfl) (wd hw 55 rfl) (nfS (wd hw 56 rfl)) (by decide) f654 (Pays.con (K := K) (B := b_law) (c_suf V hw cz hCS hcz a639 xA xB _ _ _ _ q hq h650 _ G0 G1 f651 f652 (mk_by b3 b4) (mk_by b5 b6) (mk_len _ _ _) (mk_len _ _ _) (ltN X5.lt)) (wd hw 57 rfl) (wd hw 39 rfl) (by decide) (by decide)) (W := 0) (argsL := [.ref xB]) (lenOf pd_25 rfl) rfl rfl rfl (Nat.le_of_eq rfl) (Nat.le_of_ble_eq_true rfl) (Nat.le_of_ble_eq_true rfl) fun v658 h659 ps655 q657 z656 => ?_
      obtain ⟨r2, x3, m3, rfl, E6, X6, H0, H1, S6⟩ := q657
      have f660 := Str.ext E6 f651
      have f661 := Str.ext E6 f652
      have f662 := f653.ext E6
      have f663 := Exa.ext E6 f654
      have f664 := Fld.ext E6 G0
      have f665 := Fld.ext E6 G1
      have sh659 := E6.1
      show Own.Run V K b_law _ h659 _ 20 98 173 [.val (.int p0), .val (.int p1), .val (.int p2), .val (.int k410), .val (.int k411), .val (.int k412), .val (.int k413), .val (.int (1 : Int32)), .val (.int (0 : Int32)), .val (.int q), .val (.ref xA), .val (.ref xB), .val (.ref a427), .val (.int (1 : Int32)), .unset, .unset] [.ref r2]
      rw [mk1, mk0] at S6
      have S7 : Str V h659 m3 x3 [k410] := S6
      have hb7 : ∀ c ∈ ([k410] : List Int32), ¬ 255 < c := fun c hc => (by_app (mk_by (n := 1) b3 b4) (mk_by (n := 0) b5 b6) c hc).2
      refine r_astore [.val (.int p0), .val (.int p1), .val (.int p2), .val (.int k410), .val (.int k411), .val (.int k412), .val (.int k413), .val (.int (1 : Int32)), .val (.int (0 : Int32)), .val (.int q), .val (.ref xA), .val (.ref xB), .val (.ref a427), .val (.int (1 : Int32)), .val (.ref r2), .unset] 175 rfl at_173 rfl rfl ?_
      refine r_aload 177 rfl at_175 rfl rfl ?_
      refine r_virtual 180 rfl at_177 (wd hw 170 rfl) (wd hw 171 rfl) (wd hw 173 rfl) (wd hw 172 rfl) (nfS (wd hw 173 rfl)) (by decide) X6 (Pays.con (K := K) (B := b_law) (c_quoted V hw r2 0 q hq h659 _ H1) (wd hw 174 rfl) (wd hw 39 rfl) (by decide) (by decide)) (W := 0) (argsL := []) (lenOf pd_16 rfl) rfl rfl rfl (Nat.le_of_eq rfl) (Nat.le_of_ble_eq_true rfl) (Nat.le_of_ble_eq_true rfl) fun v669 h670 ps666 q668 z667 => ?_
      obtain ⟨rfl, es671⟩ := q668
      subst h670
      show Own.Run V K b_law _ h659 _ 20 98 180 [.val (.int p0), .val (.int p1), .val (.int p2), .val (.int k410), .val (.int k411), .val (.int k412), .val (.int k413), .val (.int (1 : Int32)), .val (.int (0 : Int32)), .val (.int q), .val (.ref xA), .val (.ref xB), .val (.ref a427), .val (.int (1 : Int32)), .val (.ref r2), .unset] [.int q]
      refine r_iload 182 rfl at_180 rfl ?_
      refine r_icmp_eq 187 185 at_182 (by decide) rfl rfl (fun c672 => ?_) (fun c672 => ?_)
      rotate_left
      · exact absurd rfl c672
      refine r_aload 189 rfl at_187 rfl rfl ?_
      refine r_virtual 192 rfl at_189 (wd hw 175 rfl) (wd hw 176 rfl) (wd hw 178 rfl) (wd hw 177 rfl) (nfS (wd hw 178 rfl)) (by decide) X6 (Pays.con (K := K) (B := b_law) (c_text V hw r2 x3 0 (Or.inl rfl) h659 _ H0) (wd hw 179 rfl) (wd hw 39 rfl) (by decide) (by decide)) (W := 0) (argsL := []) (lenOf pd_22 rfl) rfl rfl rfl (Nat.le_of_eq rfl) (Nat.le_of_ble_eq_true rfl) (Nat.le_of_ble_eq_true rfl) fun v676 h677 ps673 q675 z674 => ?_
      obtain ⟨rfl, es678⟩ := q675
      subst h677
      show Own.Run V K b_law _ h659 _ 20 98 192 [.val (.int p0), .val (.int p1), .val (.int p2), .val (.int k410), .val (.int k411), .val (.int k412), .val (.int k413), .val (.int (1 : Int32)), .val (.int (0 : Int32)), .val (.int q), .val (.ref xA), .val (.ref xB), .val (.ref a427), .val (.int (1 : Int32)), .val (.ref r2), .unset] [.ref x3]
      refine r_astore [.val (.int p0), .val (.int p1), .val (.int p2), .val (.int k410), .val (.int k411), .val (.int k412), .val (.int k413), .val (.int (1 : Int32)), .val (.int (0 : Int32)), .val (.int q), .val (.ref xA), .val (.ref xB), .val (.ref a427), .val (.int (1 : Int32)), .val (.ref r2), .val (.ref x3)] 194 rfl at_192 rfl rfl ?_
      refine r_aload 196 rfl at_194 rfl rfl ?_
      refine Run.old fun OX => ?_
      refine r_virtual 199 rfl at_196 (wd hw 180 rfl) (wd hw 88 rfl) (wd hw 90 rfl) (wd hw 89 rfl) (nfS (wd hw 90 rfl)) (by decide) S7.exa (pay_len V hw K b_law 0 x3 m3 [k410] h659 _ S7 OX cz hCS hcz (by decide) (by decide)) (W := 0) (argsL := []) (lenOf pd_13 rfl) rfl rfl rfl (Nat.le_of_eq rfl) (Nat.le_of_ble_eq_true rfl) (Nat.le_of_ble_eq_true rfl) fun v682 h683 ps679 q681 z680 => ?_
      obtain ⟨rfl, es684⟩ := q681
      subst h683
      show Own.Run V K b_law _ h659 _ 20 98 199 [.val (.int p0), .val (.int p1), .val (.int p2), .val (.int k410), .val (.int k411), .val (.int k412), .val (.int k413), .val (.int (1 : Int32)), .val (.int (0 : Int32)), .val (.int q), .val (.ref xA), .val (.ref xB), .val (.ref a427), .val (.int (1 : Int32)), .val (.ref r2), .val (.ref x3)] [.int (Int32.ofNat 1)]
      refine r_iload 201 rfl at_199 rfl ?_
      refine r_icmp_eq 206 204 at_201 (by decide) rfl rfl (fun c685 => ?_) (fun c685 => ?_)
      rotate_left
      · exact absurd rfl c685
      refine r_iload 208 rfl at_206 rfl ?_
      refine r_if_le 226 211 at_208 (by decide) rfl rfl (fun c686 => ?_) (fun c686 => ?_)
      · exact absurd c686 (by decide)
      refine r_aload 213 rfl at_211 rfl rfl ?_
      refine r_iconst (0 : Int32) 214 rfl at_213 rfl ?_
      refine r_virtual 217 rfl at_214 (wd hw 181 rfl) (wd hw 182 rfl) (wd hw 184 rfl) (wd hw 183 rfl) (nfS (wd hw 184 rfl)) (by decide) S7.exa (pay_ch V hw K b_law 0 x3 m3 0 (0 : Int32) [k410] h659 _ S7 hb7 OX cz hCS hcz fm hFM rf (Nat.le_of_ble_eq_true rfl) rfl (by decide) (by decide)) (W := 0) (argsL := [.int (0 : Int32)]) (lenOf pd_26 rfl) rfl rfl rfl (Nat.le_of_eq rfl) (Nat.le_of_ble_eq_true rfl) (Nat.le_of_ble_eq_true rfl) fun v690 h691 ps687 q689 z688 => ?_
      obtain ⟨rfl, es692⟩ := q689
      subst h691
      show Own.Run V K b_law _ h659 _ 20 98 217 [.val (.int p0), .val (.int p1), .val (.int p2), .val (.int k410), .val (.int k411), .val (.int k412), .val (.int k413), .val (.int (1 : Int32)), .val (.int (0 : Int32)), .val (.int q), .val (.ref xA), .val (.ref xB), .val (.ref a427), .val (.int (1 : Int32)), .val (.ref r2), .val (.ref x3)] [.int k410]
      refine r_aload 219 rfl at_217 rfl rfl ?_
      refine r_iconst (0 : Int32) 220 rfl at_219 rfl ?_
      refine r_caload (v := .int k410) 221 rfl at_220 f662 (by decide) rfl ?_
      refine r_icmp_eq 226 224 at_221 (by decide) rfl rfl (fun c693 => ?_) (fun c693 => ?_)
      rotate_left
      · exact absurd rfl c693
      refine r_iload 228 rfl at_226 rfl ?_
      refine r_iconst (1 : Int32) 229 rfl at_228 rfl ?_
      refine r_icmp_le 247 232 at_229 (by decide) rfl rfl (fun c694 => ?_) (fun c694 => ?_)
      rotate_left
      · exact absurd c694 (by decide)
      refine r_iload 249 rfl at_247 rfl ?_
      refine r_iconst (2 : Int32) 250 rfl at_249 rfl ?_
      refine r_icmp_le 268 253 at_250 (by decide) rfl rfl (fun c695 => ?_) (fun c695 => ?_)
      rotate_left
      · exact absurd c695 (by decide)
      refine r_iload 270 rfl at_268 rfl ?_
      refine r_iconst (3 : Int32) 271 rfl at_270 rfl ?_
      refine r_icmp_le 289 274 at_271 (by decide) rfl rfl (fun c696 => ?_) (fun c696 => ?_)
      rotate_left
      · exact absurd c696 (by decide)
      refine r_iconst (1 : Int32) 290 rfl at_289 rfl ?_
      refine r_nret (t := .boolean) (1 : Int32) rfl (by simp) rfl at_290 (by decide) (by decide) [] (fun _ q => nomatch q) ?_
      rfl
    · refine r_iload 98 rfl at_96 rfl ?_
      refine r_if_le 110 101 at_98 (by decide) rfl rfl (fun c697 => ?_) (fun c697 => ?_)
      · exact absurd c697 (by decide)
      refine r_aload 103 rfl at_101 rfl rfl ?_
      refine r_iload 105 rfl at_103 rfl ?_
      refine r_iloadN 106 rfl at_105 rfl ?_
      refine r_castore 0 107 rfl at_106 f432 (by decide) rfl (Nat.le_of_ble_eq_true rfl) za427 k410 (nby b3) fun h698 Wh698 f699 => ?_
      have sh698 := Wh698.size
      have f700 : Str V h698 h420.size xA (mk 1 k410 k411) := by first | exact Str.keep (Keep.of_wr Wh698) (fun w hw' => by cases List.mem_singleton.mp hw'; exact leA (by omega)) f430 | exact Str.keepA (Keep.of_wr Wh698) f432 (by decide) (wd hw 5 rfl) f430
      have f701 : Str V h698 h425.size xB (mk 1 k412 k413) := by first | exact Str.keep (Keep.of_wr Wh698) (fun w hw' => by cases List.mem_singleton.mp hw'; exact leA (by omega)) f431 | exact Str.keepA (Keep.of_wr Wh698) f432 (by decide) (wd hw 5 rfl) f431
      replace f699 : Arv V.Z h698 a427 k429 .char (4 : Int32) [.int k410, .int 0, .int 0, .int 0] (.int 0) := f699
      refine r_iinc (1) [.val (.int p0), .val (.int p1), .val (.int p2), .val (.int k410), .val (.int k411), .val (.int k412), .val (.int k413), .val (.int (1 : Int32)), .val (.int (1 : Int32)), .val (.int q), .val (.ref xA), .val (.ref xB), .val (.ref a427), .val (.int ((0 : Int32) + (1 : Int32))), .unset, .unset] 110 rfl at_107 rfl rfl rfl ?_
      rw [show (0 : Int32) + 1 = 1 from by decide]
      refine r_iload 112 rfl at_110 rfl ?_
      refine r_iconst (1 : Int32) 113 rfl at_112 rfl ?_
      refine r_icmp_le 126 116 at_113 (by decide) rfl rfl (fun c702 => ?_) (fun c702 => ?_)
      rotate_left
      · exact absurd c702 (by decide)
      refine r_iload 128 rfl at_126 rfl ?_
      refine r_if_le 141 131 at_128 (by decide) rfl rfl (fun c703 => ?_) (fun c703 => ?_)
      · exact absurd c703 (by decide)
      refine r_aload 133 rfl at_131 rfl rfl ?_
      refine r_iload 135 rfl at_133 rfl ?_
      refine r_iload 137 rfl at_135 rfl ?_
      refine r_castore 1 138 rfl at_137 f699 (by decide) rfl (Nat.le_of_ble_eq_true rfl) za427 k412 (nby b5) fun h704 Wh704 f705 => ?_
      have sh704 := Wh704.size
      have f706 : Str V h704 h420.size xA (mk 1 k410 k411) := by first | exact Str.keep (Keep.of_wr Wh704) (fun w hw' => by cases List.mem_singleton.mp hw'; exact leA (by omega)) f700 | exact Str.keepA (Keep.of_wr Wh704) f699 (by decide) (wd hw 5 rfl) f700
      have f707 : Str V h704 h425.size xB (mk 1 k412 k413) := by first | exact Str.keep (Keep.of_wr Wh704) (fun w hw' => by cases List.mem_singleton.mp hw'; exact leA (by omega)) f701 | exact Str.keepA (Keep.of_wr Wh704) f699 (by decide) (wd hw 5 rfl) f701
      replace f705 : Arv V.Z h704 a427 k429 .char (4 : Int32) [.int k410, .int k412, .int 0, .int 0] (.int 0) := f705
      refine r_iinc (1) [.val (.int p0), .val (.int p1), .val (.int p2), .val (.int k410), .val (.int k411), .val (.int k412), .val (.int k413), .val (.int (1 : Int32)), .val (.int (1 : Int32)), .val (.int q), .val (.ref xA), .val (.ref xB), .val (.ref a427), .val (.int ((1 : Int32) + (1 : Int32))), .unset, .unset] 141 rfl at_138 rfl rfl rfl ?_
      rw [show (1 : Int32) + 1 = 2 from by decide]
      refine r_iload 143 rfl at_141 rfl ?_
      refine r_iconst (1 : Int32) 144 rfl at_143 rfl ?_
      refine r_icmp_le 157 147 at_144 (by decide) rfl rfl (fun c708 => ?_) (fun c708 => ?_)
      rotate_left
      · exact absurd c708 (by decide)
      refine r_new 160 rfl at_157 (wd hw 37 rfl) (wd hw 38 rfl) (wd hw 39 rfl) (by decide) (by decide) fun a709 h710 ga709 za709 Eh710 Xa709 Da709 => ?_
      have f711 := Str.ext Eh710 f706
      have f712 := Str.ext Eh710 f707
      have f713 := f705.ext Eh710
      have sh710 := Eh710.1
      have la709 := ltN Xa709.lt
      have f714 : Fld V.Z h710 a709 "com/example/lazo/lazo/mapping/SqlName" "text" "Ljava/lang/String;" (.null) := Da709 (Or.inr (wd hw 50 rfl)) (ty := (.object "java/lang/String")) (by decide)
      have f715 : Fld V.Z h710 a709 "com/example/lazo/lazo/mapping/SqlName" "quoted" "Z" (.int (0 : Int32)) := Da709 (Or.inr (wd hw 52 rfl)) (ty := .boolean) (by decide)
      refine r_dup 161 rfl at_160 rfl ?_
      refine r_aload 163 rfl at_161 rfl rfl ?_
      refine r_iload 165 rfl at_163 rfl ?_
      refine r_special 168 rfl at_165 rfl (wd hw 40 rfl) (wd hw 41 rfl) (wd hw 42 rfl) (by decide) (Pays.con (K := K) (B := b_law) (c_sqi V hw a709 xA q hq h710 _ za709 Xa709 f714 f715) (wd hw 42 rfl) (wd hw 39 rfl) (by decide) (by decide)) (W := 1) (argsL := [.ref xA, .int q]) (lenOf pd_24 rfl) rfl rfl rfl (Nat.le_of_eq rfl) (Nat.le_of_ble_eq_true rfl) (Nat.le_of_ble_eq_true rfl) fun v719 h720 ps716 q718 z717 => ?_
      obtain ⟨rfl, K5, X5, G0, G1⟩ := q718
      have f721 : Str V h720 h420.size xA (mk 1 k410 k411) := by first | exact Str.keep K5 (fun w hw' => by cases List.mem_singleton.mp hw'; exact leA (by omega)) f711 | exact Str.keepE K5 Xa709 (by decide) (wd hw 38 rfl) f711
      have f722 : Str V h720 h425.size xB (mk 1 k412 k413) := by first | exact Str.keep K5 (fun w hw' => by cases List.mem_singleton.mp hw'; exact leA (by omega)) f712 | exact Str.keepE K5 Xa709 (by decide) (wd hw 38 rfl) f712
      have f723 := Arv.keep f713 K5 (ninS (neA (by omega)) nin0)
      have f724 := Exa.keep Xa709 K5
      show Own.Run V K b_law _ h720 _ 14 38 168 [.val (.int p0), .val (.int p1), .val (.int p2), .val (.int k410), .val (.int k411), .val (.int k412), .val (.int k413), .val (.int (1 : Int32)), .val (.int (1 : Int32)), .val (.int q), .val (.ref xA), .val (.ref xB), .val (.ref a427), .val (.int (2 : Int32)), .unset, .unset] [.ref a709]
      have sh720 := K5.1
      refine r_aload 170 rfl at_168 rfl rfl ?_
      refine r_virtual 173 rfl at_170 (wd hw 53 rfl) (wd hw 54 rfl) (wd hw 56 rfl) (wd hw 55 rfl) (nfS (wd hw 56 rfl)) (by decide) f724 (Pays.con (K := K) (B := b_law) (c_suf V hw cz hCS hcz a709 xA xB _ _ _ _ q hq h720 _ G0 G1 f721 f722 (mk_by b3 b4) (mk_by b5 b6) (mk_len _ _ _) (mk_len _ _ _) (ltN X5.lt)) (wd hw 57 rfl) (wd hw 39 rfl) (by decide) (by decide)) (W := 0) (argsL := [.ref xB]) (lenOf pd_25 rfl) rfl rfl rfl (Nat.le_of_eq rfl) (Nat.le_of_ble_eq_true rfl) (Nat.le_of_ble_eq_true rfl) fun v728 h729 ps725 q727 z726 => ?_
      obtain ⟨r2, x3, m3, rfl, E6, X6, H0, H1, S6⟩ := q727
      have f730 := Str.ext E6 f721
      have f731 := Str.ext E6 f722
      have f732 := f723.ext E6
      have f733 := Exa.ext E6 f724
      have f734 := Fld.ext E6 G0
      have f735 := Fld.ext E6 G1
      have sh729 := E6.1
      show Own.Run V K b_law _ h729 _ 20 98 173 [.val (.int p0), .val (.int p1), .val (.int p2), .val (.int k410), .val (.int k411), .val (.int k412), .val (.int k413), .val (.int (1 : Int32)), .val (.int (1 : Int32)), .val (.int q), .val (.ref xA), .val (.ref xB), .val (.ref a427), .val (.int (2 : Int32)), .unset, .unset] [.ref r2]
      rw [mk1, mk1] at S6
      have S7 : Str V h729 m3 x3 [k410, k412] := S6
      have hb7 : ∀ c ∈ ([k410, k412] : List Int32), ¬ 255 < c := fun c hc => (by_app (mk_by (n := 1) b3 b4) (mk_by (n := 1) b5 b6) c hc).2
      refine r_astore [.val (.int p0), .val (.int p1), .val (.int p2), .val (.int k410), .val (.int k411), .val (.int k412), .val (.int k413), .val (.int (1 : Int32)), .val (.int (1 : Int32)), .val (.int q), .val (.ref xA), .val (.ref xB), .val (.ref a427), .val (.int (2 : Int32)), .val (.ref r2), .unset] 175 rfl at_173 rfl rfl ?_
      refine r_aload 177 rfl at_175 rfl rfl ?_
      refine r_virtual 180 rfl at_177 (wd hw 170 rfl) (wd hw 171 rfl) (wd hw 173 rfl) (wd hw 172 rfl) (nfS (wd hw 173 rfl)) (by decide) X6 (Pays.con (K := K) (B := b_law) (c_quoted V hw r2 0 q hq h729 _ H1) (wd hw 174 rfl) (wd hw 39 rfl) (by decide) (by decide)) (W := 0) (argsL := []) (lenOf pd_16 rfl) rfl rfl rfl (Nat.le_of_eq rfl) (Nat.le_of_ble_eq_true rfl) (Nat.le_of_ble_eq_true rfl) fun v739 h740 ps736 q738 z737 => ?_
      obtain ⟨rfl, es741⟩ := q738
      subst h740
      show Own.Run V K b_law _ h729 _ 20 98 180 [.val (.int p0), .val (.int p1), .val (.int p2), .val (.int k410), .val (.int k411), .val (.int k412), .val (.int k413), .val (.int (1 : Int32)), .val (.int (1 : Int32)), .val (.int q), .val (.ref xA), .val (.ref xB), .val (.ref a427), .val (.int (2 : Int32)), .val (.ref r2), .unset] [.int q]
      refine r_iload 182 rfl at_180 rfl ?_
      refine r_icmp_eq 187 185 at_182 (by decide) rfl rfl (fun c742 => ?_) (fun c742 => ?_)
      rotate_left
      · exact absurd rfl c742
      refine r_aload 189 rfl at_187 rfl rfl ?_
      refine r_virtual 192 rfl at_189 (wd hw 175 rfl) (wd hw 176 rfl) (wd hw 178 rfl) (wd hw 177 rfl) (nfS (wd hw 178 rfl)) (by decide) X6 (Pays.con (K := K) (B := b_law) (c_text V hw r2 x3 0 (Or.inl rfl) h729 _ H0) (wd hw 179 rfl) (wd hw 39 rfl) (by decide) (by decide)) (W := 0) (argsL := []) (lenOf pd_22 rfl) rfl rfl rfl (Nat.le_of_eq rfl) (Nat.le_of_ble_eq_true rfl) (Nat.le_of_ble_eq_true rfl) fun v746 h747 ps743 q745 z744 => ?_
      obtain ⟨rfl, es748⟩ := q745
      subst h747
      show Own.Run V K b_law _ h729 _ 20 98 192 [.val (.int p0), .val (.int p1), .val (.int p2), .val (.int k410), .val (.int k411), .val (.int k412), .val (.int k413), .val (.int (1 : Int32)), .val (.int (1 : Int32)), .val (.int q), .val (.ref xA), .val (.ref xB), .val (.ref a427), .val (.int (2 : Int32)), .val (.ref r2), .unset] [.ref x3]
      refine r_astore [.val (.int p0), .val (.int p1), .val (.int p2), .val (.int k410), .val (.int k411), .val (.int k412), .val (.int k413), .val (.int (1 : Int32)), .val (.int (1 : Int32)), .val (.int q), .val (.ref xA), .val (.ref xB), .val (.ref a427), .val (.int (2 : Int32)), .val (.ref r2), .val (.ref x3)] 194 rfl at_192 rfl rfl ?_
      refine r_aload 196 rfl at_194 rfl rfl ?_
      refine Run.old fun OX => ?_
      refine r_virtual 199 rfl at_196 (wd hw 180 rfl) (wd hw 88 rfl) (wd hw 90 rfl) (wd hw 89 rfl) (nfS (wd hw 90 rfl)) (by decide) S7.exa (pay_len V hw K b_law 0 x3 m3 [k410, k412] h729 _ S7 OX cz hCS hcz (by decide) (by decide)) (W := 0) (argsL := []) (lenOf pd_13 rfl) rfl rfl rfl (Nat.le_of_eq rfl) (Nat.le_of_ble_eq_true rfl) (Nat.le_of_ble_eq_true rfl) fun v752 h753 ps749 q751 z750 => ?_
      obtain ⟨rfl, es754⟩ := q751
      subst h753
      show Own.Run V K b_law _ h729 _ 20 98 199 [.val (.int p0), .val (.int p1), .val (.int p2), .val (.int k410), .val (.int k411), .val (.int k412), .val (.int k413), .val (.int (1 : Int32)), .val (.int (1 : Int32)), .val (.int q), .val (.ref xA), .val (.ref xB), .val (.ref a427), .val (.int (2 : Int32)), .val (.ref r2), .val (.ref x3)] [.int (Int32.ofNat 2)]
      refine r_iload 201 rfl at_199 rfl ?_
      refine r_icmp_eq 206 204 at_201 (by decide) rfl rfl (fun c755 => ?_) (fun c755 => ?_)
      rotate_left
      · exact absurd rfl c755
      refine r_iload 208 rfl at_206 rfl ?_
      refine r_if_le 226 211 at_208 (by decide) rfl rfl (fun c756 => ?_) (fun c756 => ?_)
      · exact absurd c756 (by decide)
      refine r_aload 213 rfl at_211 rfl rfl ?_
      refine r_iconst (0 : Int32) 214 rfl at_213 rfl ?_
      refine r_virtual 217 rfl at_214 (wd hw 181 rfl) (wd hw 182 rfl) (wd hw 184 rfl) (wd hw 183 rfl) (nfS (wd hw 184 rfl)) (by decide) S7.exa (pay_ch V hw K b_law 0 x3 m3 0 (0 : Int32) [k410, k412] h729 _ S7 hb7 OX cz hCS hcz fm hFM rf (Nat.le_of_ble_eq_true rfl) rfl (by decide) (by decide)) (W := 0) (argsL := [.int (0 : Int32)]) (lenOf pd_26 rfl) rfl rfl rfl (Nat.le_of_eq rfl) (Nat.le_of_ble_eq_true rfl) (Nat.le_of_ble_eq_true rfl) fun v760 h761 ps757 q759 z758 => ?_
      obtain ⟨rfl, es762⟩ := q759
      subst h761
      show Own.Run V K b_law _ h729 _ 20 98 217 [.val (.int p0), .val (.int p1), .val (.int p2), .val (.int k410), .val (.int k411), .val (.int k412), .val (.int k413), .val (.int (1 : Int32)), .val (.int (1 : Int32)), .val (.int q), .val (.ref xA), .val (.ref xB), .val (.ref a427), .val (.int (2 : Int32)), .val (.ref r2), .val (.ref x3)] [.int k410]
      refine r_aload 219 rfl at_217 rfl rfl ?_
      refine r_iconst (0 : Int32) 220 rfl at_219 rfl ?_
      refine r_caload (v := .int k410) 221 rfl at_220 f732 (by decide) rfl ?_
      refine r_icmp_eq 226 224 at_221 (by decide) rfl rfl (fun c763 => ?_) (fun c763 => ?_)
      rotate_left
      · exact absurd rfl c763
      refine r_iload 228 rfl at_226 rfl ?_
      refine r_iconst (1 : Int32) 229 rfl at_228 rfl ?_
      refine r_icmp_le 247 232 at_229 (by decide) rfl rfl (fun c764 => ?_) (fun c764 => ?_)
      · exact absurd c764 (by decide)
      refine r_aload 234 rfl at_232 rfl rfl ?_
      refine r_iconst (1 : Int32) 235 rfl at_234 rfl ?_
      refine r_virtual 238 rfl at_235 (wd hw 181 rfl) (wd hw 182 rfl) (wd hw 184 rfl) (wd hw 183 rfl) (nfS (wd hw 184 rfl)) (by decide) S7.exa (pay_ch V hw K b_law 0 x3 m3 1 (1 : Int32) [k410, k412] h729 _ S7 hb7 OX cz hCS hcz fm hFM rf (Nat.le_of_ble_eq_true rfl) rfl (by decide) (by decide)) (W := 0) (argsL := [.int (1 : Int32)]) (lenOf pd_26 rfl) rfl rfl rfl (Nat.le_of_eq rfl) (Nat.le_of_ble_eq_true rfl) (Nat.le_of_ble_eq_true rfl) fun v768 h769 ps765 q767 z766 => ?_
      obtain ⟨rfl, es770⟩ := q767
      subst h769
      show Own.Run V K b_law _ h729 _ 20 98 238 [.val (.int p0), .val (.int p1), .val (.int p2), .val (.int k410), .val (.int k411), .val (.int k412), .val (.int k413), .val (.int (1 : Int32)), .val (.int (1 : Int32)), .val (.int q), .val (.ref xA), .val (.ref xB), .val (.ref a427), .val (.int (2 : Int32)), .val (.ref r2), .val (.ref x3)] [.int k412]
      refine r_aload 240 rfl at_238 rfl rfl ?_
      refine r_iconst (1 : Int32) 241 rfl at_240 rfl ?_
      refine r_caload (v := .int k412) 242 rfl at_241 f732 (by decide) rfl ?_
      refine r_icmp_eq 247 245 at_242 (by decide) rfl rfl (fun c771 => ?_) (fun c771 => ?_)
      rotate_left
      · exact absurd rfl c771
      refine r_iload 249 rfl at_247 rfl ?_
      refine r_iconst (2 : Int32) 250 rfl at_249 rfl ?_
      refine r_icmp_le 268 253 at_250 (by decide) rfl rfl (fun c772 => ?_) (fun c772 => ?_)
      rotate_left
      · exact absurd c772 (by decide)
      refine r_iload 270 rfl at_268 rfl ?_
      refine r_iconst (3 : Int32) 271 rfl at_270 rfl ?_
      refine r_icmp_le 289 274 at_271 (by decide) rfl rfl (fun c773 => ?_) (fun c773 => ?_)
      rotate_left
      · exact absurd c773 (by decide)
      refine r_iconst (1 : Int32) 290 rfl at_289 rfl ?_
      refine r_nret (t := .boolean) (1 : Int32) rfl (by simp) rfl at_290 (by decide) (by decide) [] (fun _ q => nomatch q) ?_
      rfl
    · refine r_iload 98 rfl at_96 rfl ?_
      refine r_if_le 110 101 at_98 (by decide) rfl rfl (fun c774 => ?_) (fun c774 => ?_)
      · exact absurd c774 (by decide)
      refine r_aload 103 rfl at_101 rfl rfl ?_
      refine r_iload 105 rfl at_103 rfl ?_
      refine r_iloadN 106 rfl at_105 rfl ?_
      refine r_castore 0 107 rfl at_106 f432 (by decide) rfl (Nat.le_of_ble_eq_true rfl) za427 k410 (nby b3) fun h775 Wh775 f776 => ?_
      have sh775 := Wh775.size
      have f777 : Str V h775 h420.size xA (mk 1 k410 k411) := by first | exact Str.keep (Keep.of_wr Wh775) (fun w hw' => by cases List.mem_singleton.mp hw'; exact leA (by omega)) f430 | exact Str.keepA (Keep.of_wr Wh775) f432 (by decide) (wd hw 5 rfl) f430
      have f778 : Str V h775 h425.size xB (mk 2 k412 k413) := by first | exact Str.keep (Keep.of_wr Wh775) (fun w hw' => by cases List.mem_singleton.mp hw'; exact leA (by omega)) f431 | exact Str.keepA (Keep.of_wr Wh775) f432 (by decide) (wd hw 5 rfl) f431
      replace f776 : Arv V.Z h775 a427 k429 .char (4 : Int32) [.int k410, .int 0, .int 0, .int 0] (.int 0) := f776
      refine r_iinc (1) [.val (.int p0), .val (.int p1), .val (.int p2), .val (.int k410), .val (.int k411), .val (.int k412), .val (.int k413), .val (.int (1 : Int32)), .val (.int (2 : Int32)), .val (.int q), .val (.ref xA), .val (.ref xB), .val (.ref a427), .val (.int ((0 : Int32) + (1 : Int32))), .unset, .unset] 110 rfl at_107 rfl rfl rfl ?_
      rw [show (0 : Int32) + 1 = 1 from by decide]
      refine r_iload 112 rfl at_110 rfl ?_
      refine r_iconst (1 : Int32) 113 rfl at_112 rfl ?_
      refine r_icmp_le 126 116 at_113 (by decide) rfl rfl (fun c779 => ?_) (fun c779 => ?_)
      rotate_left
      · exact absurd c779 (by decide)
      refine r_iload 128 rfl at_126 rfl ?_
      refine r_if_le 141 131 at_128 (by decide) rfl rfl (fun c780 => ?_) (fun c780 => ?_)
      · exact absurd c780 (by decide)
      refine r_aload 133 rfl at_131 rfl rfl ?_
      refine r_iload 135 rfl at_133 rfl ?_
      refine r_iload 137 rfl at_135 rfl ?_
      refine r_castore 1 138 rfl at_137 f776 (by decide) rfl (Nat.le_of_ble_eq_true rfl) za427 k412 (nby b5) fun h781 Wh781 f782 => ?_
      have sh781 := Wh781.size
      have f783 : Str V h781 h420.size xA (mk 1 k410 k411) := by first | exact Str.keep (Keep.of_wr Wh781) (fun w hw' => by cases List.mem_singleton.mp hw'; exact leA (by omega)) f777 | exact Str.keepA (Keep.of_wr Wh781) f776 (by decide) (wd hw 5 rfl) f777
      have f784 : Str V h781 h425.size xB (mk 2 k412 k413) := by first | exact Str.keep (Keep.of_wr Wh781) (fun w hw' => by cases List.mem_singleton.mp hw'; exact leA (by omega)) f778 | exact Str.keepA (Keep.of_wr Wh781) f776 (by decide) (wd hw 5 rfl) f778
      replace f782 : Arv V.Z h781 a427 k429 .char (4 : Int32) [.int k410, .int k412, .int 0, .int 0] (.int 0) := f782
      refine r_iinc (1) [.val (.int p0), .val (.int p1), .val (.int p2), .val (.int k410), .val (.int k411), .val (.int k412), .val (.int k413), .val (.int (1 : Int32)), .val (.int (2 : Int32)), .val (.int q), .val (.ref xA), .val (.ref xB), .val (.ref a427), .val (.int ((1 : Int32) + (1 : Int32))), .unset, .unset] 141 rfl at_138 rfl rfl rfl ?_
      rw [show (1 : Int32) + 1 = 2 from by decide]
      refine r_iload 143 rfl at_141 rfl ?_
      refine r_iconst (1 : Int32) 144 rfl at_143 rfl ?_
      refine r_icmp_le 157 147 at_144 (by decide) rfl rfl (fun c785 => ?_) (fun c785 => ?_)
      · exact absurd c785 (by decide)
      refine r_aload 149 rfl at_147 rfl rfl ?_
      refine r_iload 151 rfl at_149 rfl ?_
      refine r_iload 153 rfl at_151 rfl ?_
      refine r_castore 2 154 rfl at_153 f782 (by decide) rfl (Nat.le_of_ble_eq_true rfl) za427 k413 (nby b6) fun h786 Wh786 f787 => ?_
      have sh786 := Wh786.size
      have f788 : Str V h786 h420.size xA (mk 1 k410 k411) := by first | exact Str.keep (Keep.of_wr Wh786) (fun w hw' => by cases List.mem_singleton.mp hw'; exact leA (by omega)) f783 | exact Str.keepA (Keep.of_wr Wh786) f782 (by decide) (wd hw 5 rfl) f783
      have f789 : Str V h786 h425.size xB (mk 2 k412 k413) := by first | exact Str.keep (Keep.of_wr Wh786) (fun w hw' => by cases List.mem_singleton.mp hw'; exact leA (by omega)) f784 | exact Str.keepA (Keep.of_wr Wh786) f782 (by decide) (wd hw 5 rfl) f784
      replace f787 : Arv V.Z h786 a427 k429 .char (4 : Int32) [.int k410, .int k412, .int k413, .int 0] (.int 0) := f787
      refine r_iinc (1) [.val (.int p0), .val (.int p1), .val (.int p2), .val (.int k410), .val (.int k411), .val (.int k412), .val (.int k413), .val (.int (1 : Int32)), .val (.int (2 : Int32)), .val (.int q), .val (.ref xA), .val (.ref xB), .val (.ref a427), .val (.int ((2 : Int32) + (1 : Int32))), .unset, .unset] 157 rfl at_154 rfl rfl rfl ?_
      rw [show (2 : Int32) + 1 = 3 from by decide]
      refine r_new 160 rfl at_157 (wd hw 37 rfl) (wd hw 38 rfl) (wd hw 39 rfl) (by decide) (by decide) fun a790 h791 ga790 za790 Eh791 Xa790 Da790 => ?_
      have f792 := Str.ext Eh791 f788
      have f793 := Str.ext Eh791 f789
      have f794 := f787.ext Eh791
      have sh791 := Eh791.1
      have la790 := ltN Xa790.lt
      have f795 : Fld V.Z h791 a790 "com/example/lazo/lazo/mapping/SqlName" "text" "Ljava/lang/String;" (.null) := Da790 (Or.inr (wd hw 50 rfl)) (ty := (.object "java/lang/String")) (by decide)
      have f796 : Fld V.Z h791 a790 "com/example/lazo/lazo/mapping/SqlName" "quoted" "Z" (.int (0 : Int32)) := Da790 (Or.inr (wd hw 52 rfl)) (ty := .boolean) (by decide)
      refine r_dup 161 rfl at_160 rfl ?_
      refine r_aload 163 rfl at_161 rfl rfl ?_
      refine r_iload 165 rfl at_163 rfl ?_
      refine r_special 168 rfl at_165 rfl (wd hw 40 rfl) (wd hw 41 rfl) (wd hw 42 rfl) (by decide) (Pays.con (K := K) (B := b_law) (c_sqi V hw a790 xA q hq h791 _ za790 Xa790 f795 f796) (wd hw 42 rfl) (wd hw 39 rfl) (by decide) (by decide)) (W := 1) (argsL := [.ref xA, .int q]) (lenOf pd_24 rfl) rfl rfl rfl (Nat.le_of_eq rfl) (Nat.le_of_ble_eq_true rfl) (Nat.le_of_ble_eq_true rfl) fun v800 h801 ps797 q799 z798 => ?_
      obtain ⟨rfl, K5, X5, G0, G1⟩ := q799
      have f802 : Str V h801 h420.size xA (mk 1 k410 k411) := by first | exact Str.keep K5 (fun w hw' => by cases List.mem_singleton.mp hw'; exact leA (by omega)) f792 | exact Str.keepE K5 Xa790 (by decide) (wd hw 38 rfl) f792
      have f803 : Str V h801 h425.size xB (mk 2 k412 k413) := by first | exact Str.keep K5 (fun w hw' => by cases List.mem_singleton.mp hw'; exact leA (by omega)) f793 | exact Str.keepE K5 Xa790 (by decide) (wd hw 38 rfl) f793
      have f804 := Arv.keep f794 K5 (ninS (neA (by omega)) nin0)
      have f805 := Exa.keep Xa790 K5
      show Own.Run V K b_law _ h801 _ 14 38 168 [.val (.int p0), .val (.int p1), .val (.int p2), .val (.int k410), .val (.int k411), .val (.int k412), .val (.int k413), .val (.int (1 : Int32)), .val (.int (2 : Int32)), .val (.int q), .val (.ref xA), .val (.ref xB), .val (.ref a427), .val (.int (3 : Int32)), .unset, .unset] [.ref a790]
      have sh801 := K5.1
      refine r_aload 170 rfl at_168 rfl rfl ?_
      refine r_virtual 173 rfl at_170 (wd hw 53 rfl) (wd hw 54 rfl) (wd hw 56 rfl) (wd hw 55 rfl) (nfS (wd hw 56 rfl)) (by decide) f805 (Pays.con (K := K) (B := b_law) (c_suf V hw cz hCS hcz a790 xA xB _ _ _ _ q hq h801 _ G0 G1 f802 f803 (mk_by b3 b4) (mk_by b5 b6) (mk_len _ _ _) (mk_len _ _ _) (ltN X5.lt)) (wd hw 57 rfl) (wd hw 39 rfl) (by decide) (by decide)) (W := 0) (argsL := [.ref xB]) (lenOf pd_25 rfl) rfl rfl rfl (Nat.le_of_eq rfl) (Nat.le_of_ble_eq_true rfl) (Nat.le_of_ble_eq_true rfl) fun v809 h810 ps806 q808 z807 => ?_
      obtain ⟨r2, x3, m3, rfl, E6, X6, H0, H1, S6⟩ := q808
      have f811 := Str.ext E6 f802
      have f812 := Str.ext E6 f803
      have f813 := f804.ext E6
      have f814 := Exa.ext E6 f805
      have f815 := Fld.ext E6 G0
      have f816 := Fld.ext E6 G1
      have sh810 := E6.1
      show Own.Run V K b_law _ h810 _ 20 98 173 [.val (.int p0), .val (.int p1), .val (.int p2), .val (.int k410), .val (.int k411), .val (.int k412), .val (.int k413), .val (.int (1 : Int32)), .val (.int (2 : Int32)), .val (.int q), .val (.ref xA), .val (.ref xB), .val (.ref a427), .val (.int (3 : Int32)), .unset, .unset] [.ref r2]
      rw [mk1, mk2] at S6
      have S7 : Str V h810 m3 x3 [k410, k412, k413] := S6
      have hb7 : ∀ c ∈ ([k410, k412, k413] : List Int32), ¬ 255 < c := fun c hc => (by_app (mk_by (n := 1) b3 b4) (mk_by (n := 2) b5 b6) c hc).2
      refine r_astore [.val (.int p0), .val (.int p1), .val (.int p2), .val (.int k410), .val (.int k411), .val (.int k412), .val (.int k413), .val (.int (1 : Int32)), .val (.int (2 : Int32)), .val (.int q), .val (.ref xA), .val (.ref xB), .val (.ref a427), .val (.int (3 : Int32)), .val (.ref r2), .unset] 175 rfl at_173 rfl rfl ?_
      refine r_aload 177 rfl at_175 rfl rfl ?_
      refine r_virtual 180 rfl at_177 (wd hw 170 rfl) (wd hw 171 rfl) (wd hw 173 rfl) (wd hw 172 rfl) (nfS (wd hw 173 rfl)) (by decide) X6 (Pays.con (K := K) (B := b_law) (c_quoted V hw r2 0 q hq h810 _ H1) (wd hw 174 rfl) (wd hw 39 rfl) (by decide) (by decide)) (W := 0) (argsL := []) (lenOf pd_16 rfl) rfl rfl rfl (Nat.le_of_eq rfl) (Nat.le_of_ble_eq_true rfl) (Nat.le_of_ble_eq_true rfl) fun v820 h821 ps817 q819 z818 => ?_
      obtain ⟨rfl, es822⟩ := q819
      subst h821
      show Own.Run V K b_law _ h810 _ 20 98 180 [.val (.int p0), .val (.int p1), .val (.int p2), .val (.int k410), .val (.int k411), .val (.int k412), .val (.int k413), .val (.int (1 : Int32)), .val (.int (2 : Int32)), .val (.int q), .val (.ref xA), .val (.ref xB), .val (.ref a427), .val (.int (3 : Int32)), .val (.ref r2), .unset] [.int q]
      refine r_iload 182 rfl at_180 rfl ?_
      refine r_icmp_eq 187 185 at_182 (by decide) rfl rfl (fun c823 => ?_) (fun c823 => ?_)
      rotate_left
      · exact absurd rfl c823
      refine r_aload 189 rfl at_187 rfl rfl ?_
      refine r_virtual 192 rfl at_189 (wd hw 175 rfl) (wd hw 176 rfl) (wd hw 178 rfl) (wd hw 177 rfl) (nfS (wd hw 178 rfl)) (by decide) X6 (Pays.con (K := K) (B := b_law) (c_text V hw r2 x3 0 (Or.inl rfl) h810 _ H0) (wd hw 179 rfl) (wd hw 39 rfl) (by decide) (by decide)) (W := 0) (argsL := []) (lenOf pd_22 rfl) rfl rfl rfl (Nat.le_of_eq rfl) (Nat.le_of_ble_eq_true rfl) (Nat.le_of_ble_eq_true rfl) fun v827 h828 ps824 q826 z825 => ?_
      obtain ⟨rfl, es829⟩ := q826
      subst h828
      show Own.Run V K b_law _ h810 _ 20 98 192 [.val (.int p0), .val (.int p1), .val (.int p2), .val (.int k410), .val (.int k411), .val (.int k412), .val (.int k413), .val (.int (1 : Int32)), .val (.int (2 : Int32)), .val (.int q), .val (.ref xA), .val (.ref xB), .val (.ref a427), .val (.int (3 : Int32)), .val (.ref r2), .unset] [.ref x3]
      refine r_astore [.val (.int p0), .val (.int p1), .val (.int p2), .val (.int k410), .val (.int k411), .val (.int k412), .val (.int k413), .val (.int (1 : Int32)), .val (.int (2 : Int32)), .val (.int q), .val (.ref xA), .val (.ref xB), .val (.ref a427), .val (.int (3 : Int32)), .val (.ref r2), .val (.ref x3)] 194 rfl at_192 rfl rfl ?_
      refine r_aload 196 rfl at_194 rfl rfl ?_
      refine Run.old fun OX => ?_
      refine r_virtual 199 rfl at_196 (wd hw 180 rfl) (wd hw 88 rfl) (wd hw 90 rfl) (wd hw 89 rfl) (nfS (wd hw 90 rfl)) (by decide) S7.exa (pay_len V hw K b_law 0 x3 m3 [k410, k412, k413] h810 _ S7 OX cz hCS hcz (by decide) (by decide)) (W := 0) (argsL := []) (lenOf pd_13 rfl) rfl rfl rfl (Nat.le_of_eq rfl) (Nat.le_of_ble_eq_true rfl) (Nat.le_of_ble_eq_true rfl) fun v833 h834 ps830 q832 z831 => ?_
      obtain ⟨rfl, es835⟩ := q832
      subst h834
      show Own.Run V K b_law _ h810 _ 20 98 199 [.val (.int p0), .val (.int p1), .val (.int p2), .val (.int k410), .val (.int k411), .val (.int k412), .val (.int k413), .val (.int (1 : Int32)), .val (.int (2 : Int32)), .val (.int q), .val (.ref xA), .val (.ref xB), .val (.ref a427), .val (.int (3 : Int32)), .val (.ref r2), .val (.ref x3)] [.int (Int32.ofNat 3)]
      refine r_iload 201 rfl at_199 rfl ?_
      refine r_icmp_eq 206 204 at_201 (by decide) rfl rfl (fun c836 => ?_) (fun c836 => ?_)
      rotate_left
      · exact absurd rfl c836
      refine r_iload 208 rfl at_206 rfl ?_
      refine r_if_le 226 211 at_208 (by decide) rfl rfl (fun c837 => ?_) (fun c837 => ?_)
      · exact absurd c837 (by decide)
      refine r_aload 213 rfl at_211 rfl rfl ?_
      refine r_iconst (0 : Int32) 214 rfl at_213 rfl ?_
      refine r_virtual 217 rfl at_214 (wd hw 181 rfl) (wd hw 182 rfl) (wd hw 184 rfl) (wd hw 183 rfl) (nfS (wd hw 184 rfl)) (by decide) S7.exa (pay_ch V hw K b_law 0 x3 m3 0 (0 : Int32) [k410, k412, k413] h810 _ S7 hb7 OX cz hCS hcz fm hFM rf (Nat.le_of_ble_eq_true rfl) rfl (by decide) (by decide)) (W := 0) (argsL := [.int (0 : Int32)]) (lenOf pd_26 rfl) rfl rfl rfl (Nat.le_of_eq rfl) (Nat.le_of_ble_eq_true rfl) (Nat.le_of_ble_eq_true rfl) fun v841 h842 ps838 q840 z839 => ?_
      obtain ⟨rfl, es843⟩ := q840
      subst h842
      show Own.Run V K b_law _ h810 _ 20 98 217 [.val (.int p0), .val (.int p1), .val (.int p2), .val (.int k410), .val (.int k411), .val (.int k412), .val (.int k413), .val (.int (1 : Int32)), .val (.int (2 : Int32)), .val (.int q), .val (.ref xA), .val (.ref xB), .val (.ref a427), .val (.int (3 : Int32)), .val (.ref r2), .val (.ref x3)] [.int k410]
      refine r_aload 219 rfl at_217 rfl rfl ?_
      refine r_iconst (0 : Int32) 220 rfl at_219 rfl ?_
      refine r_caload (v := .int k410) 221 rfl at_220 f813 (by decide) rfl ?_
      refine r_icmp_eq 226 224 at_221 (by decide) rfl rfl (fun c844 => ?_) (fun c844 => ?_)
      rotate_left
      · exact absurd rfl c844
      refine r_iload 228 rfl at_226 rfl ?_
      refine r_iconst (1 : Int32) 229 rfl at_228 rfl ?_
      refine r_icmp_le 247 232 at_229 (by decide) rfl rfl (fun c845 => ?_) (fun c845 => ?_)
      · exact absurd c845 (by decide)
      refine r_aload 234 rfl at_232 rfl rfl ?_
      refine r_iconst (1 : Int32) 235 rfl at_234 rfl ?_
      refine r_virtual 238 rfl at_235 (wd hw 181 rfl) (wd hw 182 rfl) (wd hw 184 rfl) (wd hw 183 rfl) (nfS (wd hw 184 rfl)) (by decide) S7.exa (pay_ch V hw K b_law 0 x3 m3 1 (1 : Int32) [k410, k412, k413] h810 _ S7 hb7 OX cz hCS hcz fm hFM rf (Nat.le_of_ble_eq_true rfl) rfl (by decide) (by decide)) (W := 0) (argsL := [.int (1 : Int32)]) (lenOf pd_26 rfl) rfl rfl rfl (Nat.le_of_eq rfl) (Nat.le_of_ble_eq_true rfl) (Nat.le_of_ble_eq_true rfl) fun v849 h850 ps846 q848 z847 => ?_
      obtain ⟨rfl, es851⟩ := q848
      subst h850
      show Own.Run V K b_law _ h810 _ 20 98 238 [.val (.int p0), .val (.int p1), .val (.int p2), .val (.int k410), .val (.int k411), .val (.int k412), .val (.int k413), .val (.int (1 : Int32)), .val (.int (2 : Int32)), .val (.int q), .val (.ref xA), .val (.ref xB), .val (.ref a427), .val (.int (3 : Int32)), .val (.ref r2), .val (.ref x3)] [.int k412]
      refine r_aload 240 rfl at_238 rfl rfl ?_
      refine r_iconst (1 : Int32) 241 rfl at_240 rfl ?_
      refine r_caload (v := .int k412) 242 rfl at_241 f813 (by decide) rfl ?_
      refine r_icmp_eq 247 245 at_242 (by decide) rfl rfl (fun c852 => ?_) (fun c852 => ?_)
      rotate_left
      · exact absurd rfl c852
      refine r_iload 249 rfl at_247 rfl ?_
      refine r_iconst (2 : Int32) 250 rfl at_249 rfl ?_
      refine r_icmp_le 268 253 at_250 (by decide) rfl rfl (fun c853 => ?_) (fun c853 => ?_)
      · exact absurd c853 (by decide)
      refine r_aload 255 rfl at_253 rfl rfl ?_
      refine r_iconst (2 : Int32) 256 rfl at_255 rfl ?_
      refine r_virtual 259 rfl at_256 (wd hw 181 rfl) (wd hw 182 rfl) (wd hw 184 rfl) (wd hw 183 rfl) (nfS (wd hw 184 rfl)) (by decide) S7.exa (pay_ch V hw K b_law 0 x3 m3 2 (2 : Int32) [k410, k412, k413] h810 _ S7 hb7 OX cz hCS hcz fm hFM rf (Nat.le_of_ble_eq_true rfl) rfl (by decide) (by decide)) (W := 0) (argsL := [.int (2 : Int32)]) (lenOf pd_26 rfl) rfl rfl rfl (Nat.le_of_eq rfl) (Nat.le_of_ble_eq_true rfl) (Nat.le_of_ble_eq_true rfl) fun v857 h858 ps854 q856 z855 => ?_
      obtain ⟨rfl, es859⟩ := q856
      subst h858
      show Own.Run V K b_law _ h810 _ 20 98 259 [.val (.int p0), .val (.int p1), .val (.int p2), .val (.int k410), .val (.int k411), .val (.int k412), .val (.int k413), .val (.int (1 : Int32)), .val (.int (2 : Int32)), .val (.int q), .val (.ref xA), .val (.ref xB), .val (.ref a427), .val (.int (3 : Int32)), .val (.ref r2), .val (.ref x3)] [.int k413]
      refine r_aload 261 rfl at_259 rfl rfl ?_
      refine r_iconst (2 : Int32) 262 rfl at_261 rfl ?_
      refine r_caload (v := .int k413) 263 rfl at_262 f813 (by decide) rfl ?_
      refine r_icmp_eq 268 266 at_263 (by decide) rfl rfl (fun c860 => ?_) (fun c860 => ?_)
      rotate_left
      · exact absurd rfl c860
      refine r_iload 270 rfl at_268 rfl ?_
      refine r_iconst (3 : Int32) 271 rfl at_270 rfl ?_
      refine r_icmp_le 289 274 at_271 (by decide) rfl rfl (fun c861 => ?_) (fun c861 => ?_)
      rotate_left
      · exact absurd c861 (by decide)
      refine r_iconst (1 : Int32) 290 rfl at_289 rfl ?_
      refine r_nret (t := .boolean) (1 : Int32) rfl (by simp) rfl at_290 (by decide) (by decide) [] (fun _ q => nomatch q) ?_
      rfl
    · refine r_iload 98 rfl at_96 rfl ?_
      refine r_if_le 110 101 at_98 (by decide) rfl rfl (fun c862 => ?_) (fun c862 => ?_)
      · exact absurd c862 (by decide)
      refine r_aload 103 rfl at_101 rfl rfl ?_
      refine r_iload 105 rfl at_103 rfl ?_
      refine r_iloadN 106 rfl at_105 rfl ?_
      refine r_castore 0 107 rfl at_106 f432 (by decide) rfl (Nat.le_of_ble_eq_true rfl) za427 k410 (nby b3) fun h863 Wh863 f864 => ?_
      have sh863 := Wh863.size
      have f865 : Str V h863 h420.size xA (mk 2 k410 k411) := by first | exact Str.keep (Keep.of_wr Wh863) (fun w hw' => by cases List.mem_singleton.mp hw'; exact leA (by omega)) f430 | exact Str.keepA (Keep.of_wr Wh863) f432 (by decide) (wd hw 5 rfl) f430
      have f866 : Str V h863 h425.size xB (mk 0 k412 k413) := by first | exact Str.keep (Keep.of_wr Wh863) (fun w hw' => by cases List.mem_singleton.mp hw'; exact leA (by omega)) f431 | exact Str.keepA (Keep.of_wr Wh863) f432 (by decide) (wd hw 5 rfl) f431
      replace f864 : Arv V.Z h863 a427 k429 .char (4 : Int32) [.int k410, .int 0, .int 0, .int 0] (.int 0) := f864
      refine r_iinc (1) [.val (.int p0), .val (.int p1), .val (.int p2), .val (.int k410), .val (.int k411), .val (.int k412), .val (.int k413), .val (.int (2 : Int32)), .val (.int (0 : Int32)), .val (.int q), .val (.ref xA), .val (.ref xB), .val (.ref a427), .val (.int ((0 : Int32) + (1 : Int32))), .unset, .unset] 110 rfl at_107 rfl rfl rfl ?_
      rw [show (0 : Int32) + 1 = 1 from by decide]
      refine r_iload 112 rfl at_110 rfl ?_
      refine r_iconst (1 : Int32) 113 rfl at_112 rfl ?_
      refine r_icmp_le 126 116 at_113 (by decide) rfl rfl (fun c867 => ?_) (fun c867 => ?_)
      · exact absurd c867 (by decide)
      refine r_aload 118 rfl at_116 rfl rfl ?_
      refine r_iload 120 rfl at_118 rfl ?_
      refine r_iload 122 rfl at_120 rfl ?_
      refine r_castore 1 123 rfl at_122 f864 (by decide) rfl (Nat.le_of_ble_eq_true rfl) za427 k411 (nby b4) fun h868 Wh868 f869 => ?_
      have sh868 := Wh868.size
      have f870 : Str V h868 h420.size xA (mk 2 k410 k411) := by first | exact Str.keep (Keep.of_wr Wh868) (fun w hw' => by cases List.mem_singleton.mp hw'; exact leA (by omega)) f865 | exact Str.keepA (Keep.of_wr Wh868) f864 (by decide) (wd hw 5 rfl) f865
      have f871 : Str V h868 h425.size xB (mk 0 k412 k413) := by first | exact Str.keep (Keep.of_wr Wh868) (fun w hw' => by cases List.mem_singleton.mp hw'; exact leA (by omega)) f866 | exact Str.keepA (Keep.of_wr Wh868) f864 (by decide) (wd hw 5 rfl) f866
      replace f869 : Arv V.Z h868 a427 k429 .char (4 : Int32) [.int k410, .int k411, .int 0, .int 0] (.int 0) := f869
      refine r_iinc (1) [.val (.int p0), .val (.int p1), .val (.int p2), .val (.int k410), .val (.int k411), .val (.int k412), .val (.int k413), .val (.int (2 : Int32)), .val (.int (0 : Int32)), .val (.int q), .val (.ref xA), .val (.ref xB), .val (.ref a427), .val (.int ((1 : Int32) + (1 : Int32))), .unset, .unset] 126 rfl at_123 rfl rfl rfl ?_
      rw [show (1 : Int32) + 1 = 2 from by decide]
      refine r_iload 128 rfl at_126 rfl ?_
      refine r_if_le 141 131 at_128 (by decide) rfl rfl (fun c872 => ?_) (fun c872 => ?_)
      rotate_left
      · exact absurd c872 (by decide)
      refine r_iload 143 rfl at_141 rfl ?_
      refine r_iconst (1 : Int32) 144 rfl at_143 rfl ?_
      refine r_icmp_le 157 147 at_144 (by decide) rfl rfl (fun c873 => ?_) (fun c873 => ?_)
      rotate_left
      · exact absurd c873 (by decide)
      refine r_new 160 rfl at_157 (wd hw 37 rfl) (wd hw 38 rfl) (wd hw 39 rfl) (by decide) (by decide) fun a874 h875 ga874 za874 Eh875 Xa874 Da874 => ?_
      have f876 := Str.ext Eh875 f870
      have f877 := Str.ext Eh875 f871
      have f878 := f869.ext Eh875
      have sh875 := Eh875.1
      have la874 := ltN Xa874.lt
      have f879 : Fld V.Z h875 a874 "com/example/lazo/lazo/mapping/SqlName" "text" "Ljava/lang/String;" (.null) := Da874 (Or.inr (wd hw 50 rfl)) (ty := (.object "java/lang/String")) (by decide)
      have f880 : Fld V.Z h875 a874 "com/example/lazo/lazo/mapping/SqlName" "quoted" "Z" (.int (0 : Int32)) := Da874 (Or.inr (wd hw 52 rfl)) (ty := .boolean) (by decide)
      refine r_dup 161 rfl at_160 rfl ?_
      refine r_aload 163 rfl at_161 rfl rfl ?_
      refine r_iload 165 rfl at_163 rfl ?_
      refine r_special 168 rfl at_165 rfl (wd hw 40 rfl) (wd hw 41 rfl) (wd hw 42 rfl) (by decide) (Pays.con (K := K) (B := b_law) (c_sqi V hw a874 xA q hq h875 _ za874 Xa874 f879 f880) (wd hw 42 rfl) (wd hw 39 rfl) (by decide) (by decide)) (W := 1) (argsL := [.ref xA, .int q]) (lenOf pd_24 rfl) rfl rfl rfl (Nat.le_of_eq rfl) (Nat.le_of_ble_eq_true rfl) (Nat.le_of_ble_eq_true rfl) fun v884 h885 ps881 q883 z882 => ?_
      obtain ⟨rfl, K5, X5, G0, G1⟩ := q883
      have f886 : Str V h885 h420.size xA (mk 2 k410 k411) := by first | exact Str.keep K5 (fun w hw' => by cases List.mem_singleton.mp hw'; exact leA (by omega)) f876 | exact Str.keepE K5 Xa874 (by decide) (wd hw 38 rfl) f876
      have f887 : Str V h885 h425.size xB (mk 0 k412 k413) := by first | exact Str.keep K5 (fun w hw' => by cases List.mem_singleton.mp hw'; exact leA (by omega)) f877 | exact Str.keepE K5 Xa874 (by decide) (wd hw 38 rfl) f877
      have f888 := Arv.keep f878 K5 (ninS (neA (by omega)) nin0)
      have f889 := Exa.keep Xa874 K5
      show Own.Run V K b_law _ h885 _ 14 38 168 [.val (.int p0), .val (.int p1), .val (.int p2), .val (.int k410), .val (.int k411), .val (.int k412), .val (.int k413), .val (.int (2 : Int32)), .val (.int (0 : Int32)), .val (.int q), .val (.ref xA), .val (.ref xB), .val (.ref a427), .val (.int (2 : Int32)), .unset, .unset] [.ref a874]
      have sh885 := K5.1
      refine r_aload 170 rfl at_168 rfl rfl ?_
      refine r_virtual 173 rfl at_170 (wd hw 53 rfl) (wd hw 54 rfl) (wd hw 56 rfl) (wd hw 55 rfl) (nfS (wd hw 56 rfl)) (by decide) f889 (Pays.con (K := K) (B := b_law) (c_suf V hw cz hCS hcz a874 xA xB _ _ _ _ q hq h885 _ G0 G1 f886 f887 (mk_by b3 b4) (mk_by b5 b6) (mk_len _ _ _) (mk_len _ _ _) (ltN X5.lt)) (wd hw 57 rfl) (wd hw 39 rfl) (by decide) (by decide)) (W := 0) (argsL := [.ref xB]) (lenOf pd_25 rfl) rfl rfl rfl (Nat.le_of_eq rfl) (Nat.le_of_ble_eq_true rfl) (Nat.le_of_ble_eq_true rfl) fun v893 h894 ps890 q892 z891 => ?_
      obtain ⟨r2, x3, m3, rfl, E6, X6, H0, H1, S6⟩ := q892
      have f895 := Str.ext E6 f886
      have f896 := Str.ext E6 f887
      have f897 := f888.ext E6
      have f898 := Exa.ext E6 f889
      have f899 := Fld.ext E6 G0
      have f900 := Fld.ext E6 G1
      have sh894 := E6.1
      show Own.Run V K b_law _ h894 _ 20 98 173 [.val (.int p0), .val (.int p1), .val (.int p2), .val (.int k410), .val (.int k411), .val (.int k412), .val (.int k413), .val (.int (2 : Int32)), .val (.int (0 : Int32)), .val (.int q), .val (.ref xA), .val (.ref xB), .val (.ref a427), .val (.int (2 : Int32)), .unset, .unset] [.ref r2]
      rw [mk2, mk0] at S6
      have S7 : Str V h894 m3 x3 [k410, k411] := S6
      have hb7 : ∀ c ∈ ([k410, k411] : List Int32), ¬ 255 < c := fun c hc => (by_app (mk_by (n := 2) b3 b4) (mk_by (n := 0) b5 b6) c hc).2
      refine r_astore [.val (.int p0), .val (.int p1), .val (.int p2), .val (.int k410), .val (.int k411), .val (.int k412), .val (.int k413), .val (.int (2 : Int32)), .val (.int (0 : Int32)), .val (.int q), .val (.ref xA), .val (.ref xB), .val (.ref a427), .val (.int (2 : Int32)), .val (.ref r2), .unset] 175 rfl at_173 rfl rfl ?_
      refine r_aload 177 rfl at_175 rfl rfl ?_
      refine r_virtual 180 rfl at_177 (wd hw 170 rfl) (wd hw 171 rfl) (wd hw 173 rfl) (wd hw 172 rfl) (nfS (wd hw 173 rfl)) (by decide) X6 (Pays.con (K := K) (B := b_law) (c_quoted V hw r2 0 q hq h894 _ H1) (wd hw 174 rfl) (wd hw 39 rfl) (by decide) (by decide)) (W := 0) (argsL := []) (lenOf pd_16 rfl) rfl rfl rfl (Nat.le_of_eq rfl) (Nat.le_of_ble_eq_true rfl) (Nat.le_of_ble_eq_true rfl) fun v904 h905 ps901 q903 z902 => ?_
      obtain ⟨rfl, es906⟩ := q903
      subst h905
      show Own.Run V K b_law _ h894 _ 20 98 180 [.val (.int p0), .val (.int p1), .val (.int p2), .val (.int k410), .val (.int k411), .val (.int k412), .val (.int k413), .val (.int (2 : Int32)), .val (.int (0 : Int32)), .val (.int q), .val (.ref xA), .val (.ref xB), .val (.ref a427), .val (.int (2 : Int32)), .val (.ref r2), .unset] [.int q]
      refine r_iload 182 rfl at_180 rfl ?_
      refine r_icmp_eq 187 185 at_182 (by decide) rfl rfl (fun c907 => ?_) (fun c907 => ?_)
      rotate_left
      · exact absurd rfl c907
      refine r_aload 189 rfl at_187 rfl rfl ?_
      refine r_virtual 192 rfl at_189 (wd hw 175 rfl) (wd hw 176 rfl) (wd hw 178 rfl) (wd hw 177 rfl) (nfS (wd hw 178 rfl)) (by decide) X6 (Pays.con (K := K) (B := b_law) (c_text V hw r2 x3 0 (Or.inl rfl) h894 _ H0) (wd hw 179 rfl) (wd hw 39 rfl) (by decide) (by decide)) (W := 0) (argsL := []) (lenOf pd_22 rfl) rfl rfl rfl (Nat.le_of_eq rfl) (Nat.le_of_ble_eq_true rfl) (Nat.le_of_ble_eq_true rfl) fun v911 h912 ps908 q910 z909 => ?_
      obtain ⟨rfl, es913⟩ := q910
      subst h912
      show Own.Run V K b_law _ h894 _ 20 98 192 [.val (.int p0), .val (.int p1), .val (.int p2), .val (.int k410), .val (.int k411), .val (.int k412), .val (.int k413), .val (.int (2 : Int32)), .val (.int (0 : Int32)), .val (.int q), .val (.ref xA), .val (.ref xB), .val (.ref a427), .val (.int (2 : Int32)), .val (.ref r2), .unset] [.ref x3]
      refine r_astore [.val (.int p0), .val (.int p1), .val (.int p2), .val (.int k410), .val (.int k411), .val (.int k412), .val (.int k413), .val (.int (2 : Int32)), .val (.int (0 : Int32)), .val (.int q), .val (.ref xA), .val (.ref xB), .val (.ref a427), .val (.int (2 : Int32)), .val (.ref r2), .val (.ref x3)] 194 rfl at_192 rfl rfl ?_
      refine r_aload 196 rfl at_194 rfl rfl ?_
      refine Run.old fun OX => ?_
      refine r_virtual 199 rfl at_196 (wd hw 180 rfl) (wd hw 88 rfl) (wd hw 90 rfl) (wd hw 89 rfl) (nfS (wd hw 90 rfl)) (by decide) S7.exa (pay_len V hw K b_law 0 x3 m3 [k410, k411] h894 _ S7 OX cz hCS hcz (by decide) (by decide)) (W := 0) (argsL := []) (lenOf pd_13 rfl) rfl rfl rfl (Nat.le_of_eq rfl) (Nat.le_of_ble_eq_true rfl) (Nat.le_of_ble_eq_true rfl) fun v917 h918 ps914 q916 z915 => ?_
      obtain ⟨rfl, es919⟩ := q916
      subst h918
      show Own.Run V K b_law _ h894 _ 20 98 199 [.val (.int p0), .val (.int p1), .val (.int p2), .val (.int k410), .val (.int k411), .val (.int k412), .val (.int k413), .val (.int (2 : Int32)), .val (.int (0 : Int32)), .val (.int q), .val (.ref xA), .val (.ref xB), .val (.ref a427), .val (.int (2 : Int32)), .val (.ref r2), .val (.ref x3)] [.int (Int32.ofNat 2)]
      refine r_iload 201 rfl at_199 rfl ?_
      refine r_icmp_eq 206 204 at_201 (by decide) rfl rfl (fun c920 => ?_) (fun c920 => ?_)
      rotate_left
      · exact absurd rfl c920
      refine r_iload 208 rfl at_206 rfl ?_
      refine r_if_le 226 211 at_208 (by decide) rfl rfl (fun c921 => ?_) (fun c921 => ?_)
      · exact absurd c921 (by decide)
      refine r_aload 213 rfl at_211 rfl rfl ?_
      refine r_iconst (0 : Int32) 214 rfl at_213 rfl ?_
      refine r_virtual 217 rfl at_214 (wd hw 181 rfl) (wd hw 182 rfl) (wd hw 184 rfl) (wd hw 183 rfl) (nfS (wd hw 184 rfl)) (by decide) S7.exa (pay_ch V hw K b_law 0 x3 m3 0 (0 : Int32) [k410, k411] h894 _ S7 hb7 OX cz hCS hcz fm hFM rf (Nat.le_of_ble_eq_true rfl) rfl (by decide) (by decide)) (W := 0) (argsL := [.int (0 : Int32)]) (lenOf pd_26 rfl) rfl rfl rfl (Nat.le_of_eq rfl) (Nat.le_of_ble_eq_true rfl) (Nat.le_of_ble_eq_true rfl) fun v925 h926 ps922 q924 z923 => ?_
      obtain ⟨rfl, es927⟩ := q924
      subst h926
      show Own.Run V K b_law _ h894 _ 20 98 217 [.val (.int p0), .val (.int p1), .val (.int p2), .val (.int k410), .val (.int k411), .val (.int k412), .val (.int k413), .val (.int (2 : Int32)), .val (.int (0 : Int32)), .val (.int q), .val (.ref xA), .val (.ref xB), .val (.ref a427), .val (.int (2 : Int32)), .val (.ref r2), .val (.ref x3)] [.int k410]
      refine r_aload 219 rfl at_217 rfl rfl ?_
      refine r_iconst (0 : Int32) 220 rfl at_219 rfl ?_
      refine r_caload (v := .int k410) 221 rfl at_220 f897 (by decide) rfl ?_
      refine r_icmp_eq 226 224 at_221 (by decide) rfl rfl (fun c928 => ?_) (fun c928 => ?_)
      rotate_left
      · exact absurd rfl c928
      refine r_iload 228 rfl at_226 rfl ?_
      refine r_iconst (1 : Int32) 229 rfl at_228 rfl ?_
      refine r_icmp_le 247 232 at_229 (by decide) rfl rfl (fun c929 => ?_) (fun c929 => ?_)
      · exact absurd c929 (by decide)
      refine r_aload 234 rfl at_232 rfl rfl ?_
      refine r_iconst (1 : Int32) 235 rfl at_234 rfl ?_
      refine r_virtual 238 rfl at_235 (wd hw 181 rfl) (wd hw 182 rfl) (wd hw 184 rfl) (wd hw 183 rfl) (nfS (wd hw 184 rfl)) (by decide) S7.exa (pay_ch V hw K b_law 0 x3 m3 1 (1 : Int32) [k410, k411] h894 _ S7 hb7 OX cz hCS hcz fm hFM rf (Nat.le_of_ble_eq_true rfl) rfl (by decide) (by decide)) (W := 0) (argsL := [.int (1 : Int32)]) (lenOf pd_26 rfl) rfl rfl rfl (Nat.le_of_eq rfl) (Nat.le_of_ble_eq_true rfl) (Nat.le_of_ble_eq_true rfl) fun v933 h934 ps930 q932 z931 => ?_
      obtain ⟨rfl, es935⟩ := q932
      subst h934
      show Own.Run V K b_law _ h894 _ 20 98 238 [.val (.int p0), .val (.int p1), .val (.int p2), .val (.int k410), .val (.int k411), .val (.int k412), .val (.int k413), .val (.int (2 : Int32)), .val (.int (0 : Int32)), .val (.int q), .val (.ref xA), .val (.ref xB), .val (.ref a427), .val (.int (2 : Int32)), .val (.ref r2), .val (.ref x3)] [.int k411]
      refine r_aload 240 rfl at_238 rfl rfl ?_
      refine r_iconst (1 : Int32) 241 rfl at_240 rfl ?_
      refine r_caload (v := .int k411) 242 rfl at_241 f897 (by decide) rfl ?_
      refine r_icmp_eq 247 245 at_242 (by decide) rfl rfl (fun c936 => ?_) (fun c936 => ?_)
      rotate_left
      · exact absurd rfl c936
      refine r_iload 249 rfl at_247 rfl ?_
      refine r_iconst (2 : Int32) 250 rfl at_249 rfl ?_
      refine r_icmp_le 268 253 at_250 (by decide) rfl rfl (fun c937 => ?_) (fun c937 => ?_)
      rotate_left
      · exact absurd c937 (by decide)
      refine r_iload 270 rfl at_268 rfl ?_
      refine r_iconst (3 : Int32) 271 rfl at_270 rfl ?_
      refine r_icmp_le 289 274 at_271 (by decide) rfl rfl (fun c938 => ?_) (fun c938 => ?_)
      rotate_left
      · exact absurd c938 (by decide)
      refine r_iconst (1 : Int32) 290 rfl at_289 rfl ?_
      refine r_nret (t := .boolean) (1 : Int32) rfl (by simp) rfl at_290 (by decide) (by decide) [] (fun _ q => nomatch q) ?_
      rfl
    · refine r_iload 98 rfl at_96 rfl ?_
      refine r_if_le 110 101 at_98 (by decide) rfl rfl (fun c939 => ?_) (fun c939 => ?_)
      · exact absurd c939 (by decide)
      refine r_aload 103 rfl at_101 rfl rfl ?_
      refine r_iload 105 rfl at_103 rfl ?_
      refine r_iloadN 106 rfl at_105 rfl ?_
      refine r_castore 0 107 rfl at_106 f432 (by decide) rfl (Nat.le_of_ble_eq_true rfl) za427 k410 (nby b3) fun h940 Wh940 f941 => ?_
      have sh940 := Wh940.size
      have f942 : Str V h940 h420.size xA (mk 2 k410 k411) := by first | exact Str.keep (Keep.of_wr Wh940) (fun w hw' => by cases List.mem_singleton.mp hw'; exact leA (by omega)) f430 | exact Str.keepA (Keep.of_wr Wh940) f432 (by decide) (wd hw 5 rfl) f430
      have f943 : Str V h940 h425.size xB (mk 1 k412 k413) := by first | exact Str.keep (Keep.of_wr Wh940) (fun w hw' => by cases List.mem_singleton.mp hw'; exact leA (by omega)) f431 | exact Str.keepA (Keep.of_wr Wh940) f432 (by decide) (wd hw 5 rfl) f431
      replace f941 : Arv V.Z h940 a427 k429 .char (4 : Int32) [.int k410, .int 0, .int 0, .int 0] (.int 0) := f941
      refine r_iinc (1) [.val (.int p0), .val (.int p1), .val (.int p2), .val (.int k410), .val (.int k411), .val (.int k412), .val (.int k413), .val (.int (2 : Int32)), .val (.int (1 : Int32)), .val (.int q), .val (.ref xA), .val (.ref xB), .val (.ref a427), .val (.int ((0 : Int32) + (1 : Int32))), .unset, .unset] 110 rfl at_107 rfl rfl rfl ?_
      rw [show (0 : Int32) + 1 = 1 from by decide]
      refine r_iload 112 rfl at_110 rfl ?_
      refine r_iconst (1 : Int32) 113 rfl at_112 rfl ?_
      refine r_icmp_le 126 116 at_113 (by decide) rfl rfl (fun c944 => ?_) (fun c944 => ?_)
      · exact absurd c944 (by decide)
      refine r_aload 118 rfl at_116 rfl rfl ?_
      refine r_iload 120 rfl at_118 rfl ?_
      refine r_iload 122 rfl at_120 rfl ?_
      refine r_castore 1 123 rfl at_122 f941 (by decide) rfl (Nat.le_of_ble_eq_true rfl) za427 k411 (nby b4) fun h945 Wh945 f946 => ?_
      have sh945 := Wh945.size
      have f947 : Str V h945 h420.size xA (mk 2 k410 k411) := by first | exact Str.keep (Keep.of_wr Wh945) (fun w hw' => by cases List.mem_singleton.mp hw'; exact leA (by omega)) f942 | exact Str.keepA (Keep.of_wr Wh945) f941 (by decide) (wd hw 5 rfl) f942
      have f948 : Str V h945 h425.size xB (mk 1 k412 k413) := by first | exact Str.keep (Keep.of_wr Wh945) (fun w hw' => by cases List.mem_singleton.mp hw'; exact leA (by omega)) f943 | exact Str.keepA (Keep.of_wr Wh945) f941 (by decide) (wd hw 5 rfl) f943
      replace f946 : Arv V.Z h945 a427 k429 .char (4 : Int32) [.int k410, .int k411, .int 0, .int 0] (.int 0) := f946
      refine r_iinc (1) [.val (.int p0), .val (.int p1), .val (.int p2), .val (.int k410), .val (.int k411), .val (.int k412), .val (.int k413), .val (.int (2 : Int32)), .val (.int (1 : Int32)), .val (.int q), .val (.ref xA), .val (.ref xB), .val (.ref a427), .val (.int ((1 : Int32) + (1 : Int32))), .unset, .unset] 126 rfl at_123 rfl rfl rfl ?_
      rw [show (1 : Int32) + 1 = 2 from by decide]
      refine r_iload 128 rfl at_126 rfl ?_
      refine r_if_le 141 131 at_128 (by decide) rfl rfl (fun c949 => ?_) (fun c949 => ?_)
      · exact absurd c949 (by decide)
      refine r_aload 133 rfl at_131 rfl rfl ?_
      refine r_iload 135 rfl at_133 rfl ?_
      refine r_iload 137 rfl at_135 rfl ?_
      refine r_castore 2 138 rfl at_137 f946 (by decide) rfl (Nat.le_of_ble_eq_true rfl) za427 k412 (nby b5) fun h950 Wh950 f951 => ?_
      have sh950 := Wh950.size
      have f952 : Str V h950 h420.size xA (mk 2 k410 k411) := by first | exact Str.keep (Keep.of_wr Wh950) (fun w hw' => by cases List.mem_singleton.mp hw'; exact leA (by omega)) f947 | exact Str.keepA (Keep.of_wr Wh950) f946 (by decide) (wd hw 5 rfl) f947
      have f953 : Str V h950 h425.size xB (mk 1 k412 k413) := by first | exact Str.keep (Keep.of_wr Wh950) (fun w hw' => by cases List.mem_singleton.mp hw'; exact leA (by omega)) f948 | exact Str.keepA (Keep.of_wr Wh950) f946 (by decide) (wd hw 5 rfl) f948
      replace f951 : Arv V.Z h950 a427 k429 .char (4 : Int32) [.int k410, .int k411, .int k412, .int 0] (.int 0) := f951
      refine r_iinc (1) [.val (.int p0), .val (.int p1), .val (.int p2), .val (.int k410), .val (.int k411), .val (.int k412), .val (.int k413), .val (.int (2 : Int32)), .val (.int (1 : Int32)), .val (.int q), .val (.ref xA), .val (.ref xB), .val (.ref a427), .val (.int ((2 : Int32) + (1 : Int32))), .unset, .unset] 141 rfl at_138 rfl rfl rfl ?_
      rw [show (2 : Int32) + 1 = 3 from by decide]
      refine r_iload 143 rfl at_141 rfl ?_
      refine r_iconst (1 : Int32) 144 rfl at_143 rfl ?_
      refine r_icmp_le 157 147 at_144 (by decide) rfl rfl (fun c954 => ?_) (fun c954 => ?_)
      rotate_left
      · exact absurd c954 (by decide)
      refine r_new 160 rfl at_157 (wd hw 37 rfl) (wd hw 38 rfl) (wd hw 39 rfl) (by decide) (by decide) fun a955 h956 ga955 za955 Eh956 Xa955 Da955 => ?_
      have f957 := Str.ext Eh956 f952
      have f958 := Str.ext Eh956 f953
      have f959 := f951.ext Eh956
      have sh956 := Eh956.1
      have la955 := ltN Xa955.lt
      have f960 : Fld V.Z h956 a955 "com/example/lazo/lazo/mapping/SqlName" "text" "Ljava/lang/String;" (.null) := Da955 (Or.inr (wd hw 50 rfl)) (ty := (.object "java/lang/String")) (by decide)
      have f961 : Fld V.Z h956 a955 "com/example/lazo/lazo/mapping/SqlName" "quoted" "Z" (.int (0 : Int32)) := Da955 (Or.inr (wd hw 52 rfl)) (ty := .boolean) (by decide)
      refine r_dup 161 rfl at_160 rfl ?_
      refine r_aload 163 rfl at_161 rfl rfl ?_
      refine r_iload 165 rfl at_163 rfl ?_
      refine r_special 168 rfl at_165 rfl (wd hw 40 rfl) (wd hw 41 rfl) (wd hw 42 rfl) (by decide) (Pays.con (K := K) (B := b_law) (c_sqi V hw a955 xA q hq h956 _ za955 Xa955 f960 f961) (wd hw 42 rfl) (wd hw 39 rfl) (by decide) (by decide)) (W := 1) (argsL := [.ref xA, .int q]) (lenOf pd_24 rfl) rfl rfl rfl (Nat.le_of_eq rfl) (Nat.le_of_ble_eq_true rfl) (Nat.le_of_ble_eq_true rfl) fun v965 h966 ps962 q964 z963 => ?_
      obtain ⟨rfl, K5, X5, G0, G1⟩ := q964
      have f967 : Str V h966 h420.size xA (mk 2 k410 k411) := by first | exact Str.keep K5 (fun w hw' => by cases List.mem_singleton.mp hw'; exact leA (by omega)) f957 | exact Str.keepE K5 Xa955 (by decide) (wd hw 38 rfl) f957
      have f968 : Str V h966 h425.size xB (mk 1 k412 k413) := by first | exact Str.keep K5 (fun w hw' => by cases List.mem_singleton.mp hw'; exact leA (by omega)) f958 | exact Str.keepE K5 Xa955 (by decide) (wd hw 38 rfl) f958
      have f969 := Arv.keep f959 K5 (ninS (neA (by omega)) nin0)
      have f970 := Exa.keep Xa955 K5
      show Own.Run V K b_law _ h966 _ 14 38 168 [.val (.int p0), .val (.int p1), .val (.int p2), .val (.int k410), .val (.int k411), .val (.int k412), .val (.int k413), .val (.int (2 : Int32)), .val (.int (1 : Int32)), .val (.int q), .val (.ref xA), .val (.ref xB), .val (.ref a427), .val (.int (3 : Int32)), .unset, .unset] [.ref a955]
      have sh966 := K5.1
      refine r_aload 170 rfl at_168 rfl rfl ?_
      refine r_virtual 173 rfl at_170 (wd hw 53 rfl) (wd hw 54 rfl) (wd hw 56 rfl) (wd hw 55 rfl) (nfS (wd hw 56 rfl)) (by decide) f970 (Pays.con (K := K) (B := b_law) (c_suf V hw cz hCS hcz a955 xA xB _ _ _ _ q hq h966 _ G0 G1 f967 f968 (mk_by b3 b4) (mk_by b5 b6) (mk_len _ _ _) (mk_len _ _ _) (ltN X5.lt)) (wd hw 57 rfl) (wd hw 39 rfl) (by decide) (by decide)) (W := 0) (argsL := [.ref xB]) (lenOf pd_25 rfl) rfl rfl rfl (Nat.le_of_eq rfl) (Nat.le_of_ble_eq_true rfl) (Nat.le_of_ble_eq_true rfl) fun v974 h975 ps971 q973 z972 => ?_
      obtain ⟨r2, x3, m3, rfl, E6, X6, H0, H1, S6⟩ := q973
      have f976 := Str.ext E6 f967
      have f977 := Str.ext E6 f968
      have f978 := f969.ext E6
      have f979 := Exa.ext E6 f970
      have f980 := Fld.ext E6 G0
      have f981 := Fld.ext E6 G1
      have sh975 := E6.1
      show Own.Run V K b_law _ h975 _ 20 98 173 [.val (.int p0), .val (.int p1), .val (.int p2), .val (.int k410), .val (.int k411), .val (.int k412), .val (.int k413), .val (.int (2 : Int32)), .val (.int (1 : Int32)), .val (.int q), .val (.ref xA), .val (.ref xB), .val (.ref a427), .val (.int (3 : Int32)), .unset, .unset] [.ref r2]
      rw [mk2, mk1] at S6
      have S7 : Str V h975 m3 x3 [k410, k411, k412] := S6
      have hb7 : ∀ c ∈ ([k410, k411, k412] : List Int32), ¬ 255 < c := fun c hc => (by_app (mk_by (n := 2) b3 b4) (mk_by (n := 1) b5 b6) c hc).2
      refine r_astore [.val (.int p0), .val (.int p1), .val (.int p2), .val (.int k410), .val (.int k411), .val (.int k412), .val (.int k413), .val (.int (2 : Int32)), .val (.int (1 : Int32)), .val (.int q), .val (.ref xA), .val (.ref xB), .val (.ref a427), .val (.int (3 : Int32)), .val (.ref r2), .unset] 175 rfl at_173 rfl rfl ?_
      refine r_aload 177 rfl at_175 rfl rfl ?_
      refine r_virtual 180 rfl at_177 (wd hw 170 rfl) (wd hw 171 rfl) (wd hw 173 rfl) (wd hw 172 rfl) (nfS (wd hw 173 rfl)) (by decide) X6 (Pays.con (K := K) (B := b_law) (c_quoted V hw r2 0 q hq h975 _ H1) (wd hw 174 rfl) (wd hw 39 rfl) (by decide) (by decide)) (W := 0) (argsL := []) (lenOf pd_16 rfl) rfl rfl rfl (Nat.le_of_eq rfl) (Nat.le_of_ble_eq_true rfl) (Nat.le_of_ble_eq_true rfl) fun v985 h986 ps982 q984 z983 => ?_
      obtain ⟨rfl, es987⟩ := q984
      subst h986
      show Own.Run V K b_law _ h975 _ 20 98 180 [.val (.int p0), .val (.int p1), .val (.int p2), .val (.int k410), .val (.int k411), .val (.int k412), .val (.int k413), .val (.int (2 : Int32)), .val (.int (1 : Int32)), .val (.int q), .val (.ref xA), .val (.ref xB), .val (.ref a427), .val (.int (3 : Int32)), .val (.ref r2), .unset] [.int q]
      refine r_iload 182 rfl at_180 rfl ?_
      refine r_icmp_eq 187 185 at_182 (by decide) rfl rfl (fun c988 => ?_) (fun c988 => ?_)
      rotate_left
      · exact absurd rfl c988
      refine r_aload 189 rfl at_187 rfl rfl ?_
      refine r_virtual 192 rfl at_189 (wd hw 175 rfl) (wd hw 176 rfl) (wd hw 178 rfl) (wd hw 177 rfl) (nfS (wd hw 178 rfl)) (by decide) X6 (Pays.con (K := K) (B := b_law) (c_text V hw r2 x3 0 (Or.inl rfl) h975 _ H0) (wd hw 179 rfl) (wd hw 39 rfl) (by decide) (by decide)) (W := 0) (argsL := []) (lenOf pd_22 rfl) rfl rfl rfl (Nat.le_of_eq rfl) (Nat.le_of_ble_eq_true rfl) (Nat.le_of_ble_eq_true rfl) fun v992 h993 ps989 q991 z990 => ?_
      obtain ⟨rfl, es994⟩ := q991
      subst h993
      show Own.Run V K b_law _ h975 _ 20 98 192 [.val (.int p0), .val (.int p1), .val (.int p2), .val (.int k410), .val (.int k411), .val (.int k412), .val (.int k413), .val (.int (2 : Int32)), .val (.int (1 : Int32)), .val (.int q), .val (.ref xA), .val (.ref xB), .val (.ref a427), .val (.int (3 : Int32)), .val (.ref r2), .unset] [.ref x3]
      refine r_astore [.val (.int p0), .val (.int p1), .val (.int p2), .val (.int k410), .val (.int k411), .val (.int k412), .val (.int k413), .val (.int (2 : Int32)), .val (.int (1 : Int32)), .val (.int q), .val (.ref xA), .val (.ref xB), .val (.ref a427), .val (.int (3 : Int32)), .val (.ref r2), .val (.ref x3)] 194 rfl at_192 rfl rfl ?_
      refine r_aload 196 rfl at_194 rfl rfl ?_
      refine Run.old fun OX => ?_
      refine r_virtual 199 rfl at_196 (wd hw 180 rfl) (wd hw 88 rfl) (wd hw 90 rfl) (wd hw 89 rfl) (nfS (wd hw 90 rfl)) (by decide) S7.exa (pay_len V hw K b_law 0 x3 m3 [k410, k411, k412] h975 _ S7 OX cz hCS hcz (by decide) (by decide)) (W := 0) (argsL := []) (lenOf pd_13 rfl) rfl rfl rfl (Nat.le_of_eq rfl) (Nat.le_of_ble_eq_true rfl) (Nat.le_of_ble_eq_true rfl) fun v998 h999 ps995 q997 z996 => ?_
      obtain ⟨rfl, es1000⟩ := q997
      subst h999
      show Own.Run V K b_law _ h975 _ 20 98 199 [.val (.int p0), .val (.int p1), .val (.int p2), .val (.int k410), .val (.int k411), .val (.int k412), .val (.int k413), .val (.int (2 : Int32)), .val (.int (1 : Int32)), .val (.int q), .val (.ref xA), .val (.ref xB), .val (.ref a427), .val (.int (3 : Int32)), .val (.ref r2), .val (.ref x3)] [.int (Int32.ofNat 3)]
      refine r_iload 201 rfl at_199 rfl ?_
      refine r_icmp_eq 206 204 at_201 (by decide) rfl rfl (fun c1001 => ?_) (fun c1001 => ?_)
      rotate_left
      · exact absurd rfl c1001
      refine r_iload 208 rfl at_206 rfl ?_
      refine r_if_le 226 211 at_208 (by decide) rfl rfl (fun c1002 => ?_) (fun c1002 => ?_)
      · exact absurd c1002 (by decide)
      refine r_aload 213 rfl at_211 rfl rfl ?_
      refine r_iconst (0 : Int32) 214 rfl at_213 rfl ?_
      refine r_virtual 217 rfl at_214 (wd hw 181 rfl) (wd hw 182 rfl) (wd hw 184 rfl) (wd hw 183 rfl) (nfS (wd hw 184 rfl)) (by decide) S7.exa (pay_ch V hw K b_law 0 x3 m3 0 (0 : Int32) [k410, k411, k412] h975 _ S7 hb7 OX cz hCS hcz fm hFM rf (Nat.le_of_ble_eq_true rfl) rfl (by decide) (by decide)) (W := 0) (argsL := [.int (0 : Int32)]) (lenOf pd_26 rfl) rfl rfl rfl (Nat.le_of_eq rfl) (Nat.le_of_ble_eq_true rfl) (Nat.le_of_ble_eq_true rfl) fun v1006 h1007 ps1003 q1005 z1004 => ?_
      obtain ⟨rfl, es1008⟩ := q1005
      subst h1007
      show Own.Run V K b_law _ h975 _ 20 98 217 [.val (.int p0), .val (.int p1), .val (.int p2), .val (.int k410), .val (.int k411), .val (.int k412), .val (.int k413), .val (.int (2 : Int32)), .val (.int (1 : Int32)), .val (.int q), .val (.ref xA), .val (.ref xB), .val (.ref a427), .val (.int (3 : Int32)), .val (.ref r2), .val (.ref x3)] [.int k410]
      refine r_aload 219 rfl at_217 rfl rfl ?_
      refine r_iconst (0 : Int32) 220 rfl at_219 rfl ?_
      refine r_caload (v := .int k410) 221 rfl at_220 f978 (by decide) rfl ?_
      refine r_icmp_eq 226 224 at_221 (by decide) rfl rfl (fun c1009 => ?_) (fun c1009 => ?_)
      rotate_left
      · exact absurd rfl c1009
      refine r_iload 228 rfl at_226 rfl ?_
      refine r_iconst (1 : Int32) 229 rfl at_228 rfl ?_
      refine r_icmp_le 247 232 at_229 (by decide) rfl rfl (fun c1010 => ?_) (fun c1010 => ?_)
      · exact absurd c1010 (by decide)
      refine r_aload 234 rfl at_232 rfl rfl ?_
      refine r_iconst (1 : Int32) 235 rfl at_234 rfl ?_
      refine r_virtual 238 rfl at_235 (wd hw 181 rfl) (wd hw 182 rfl) (wd hw 184 rfl) (wd hw 183 rfl) (nfS (wd hw 184 rfl)) (by decide) S7.exa (pay_ch V hw K b_law 0 x3 m3 1 (1 : Int32) [k410, k411, k412] h975 _ S7 hb7 OX cz hCS hcz fm hFM rf (Nat.le_of_ble_eq_true rfl) rfl (by decide) (by decide)) (W := 0) (argsL := [.int (1 : Int32)]) (lenOf pd_26 rfl) rfl rfl rfl (Nat.le_of_eq rfl) (Nat.le_of_ble_eq_true rfl) (Nat.le_of_ble_eq_true rfl) fun v1014 h1015 ps1011 q1013 z1012 => ?_
      obtain ⟨rfl, es1016⟩ := q1013
      subst h1015
      show Own.Run V K b_law _ h975 _ 20 98 238 [.val (.int p0), .val (.int p1), .val (.int p2), .val (.int k410), .val (.int k411), .val (.int k412), .val (.int k413), .val (.int (2 : Int32)), .val (.int (1 : Int32)), .val (.int q), .val (.ref xA), .val (.ref xB), .val (.ref a427), .val (.int (3 : Int32)), .val (.ref r2), .val (.ref x3)] [.int k411]
      refine r_aload 240 rfl at_238 rfl rfl ?_
      refine r_iconst (1 : Int32) 241 rfl at_240 rfl ?_
      refine r_caload (v := .int k411) 242 rfl at_241 f978 (by decide) rfl ?_
      refine r_icmp_eq 247 245 at_242 (by decide) rfl rfl (fun c1017 => ?_) (fun c1017 => ?_)
      rotate_left
      · exact absurd rfl c1017
      refine r_iload 249 rfl at_247 rfl ?_
      refine r_iconst (2 : Int32) 250 rfl at_249 rfl ?_
      refine r_icmp_le 268 253 at_250 (by decide) rfl rfl (fun c1018 => ?_) (fun c1018 => ?_)
      · exact absurd c1018 (by decide)
      refine r_aload 255 rfl at_253 rfl rfl ?_
      refine r_iconst (2 : Int32) 256 rfl at_255 rfl ?_
      refine r_virtual 259 rfl at_256 (wd hw 181 rfl) (wd hw 182 rfl) (wd hw 184 rfl) (wd hw 183 rfl) (nfS (wd hw 184 rfl)) (by decide) S7.exa (pay_ch V hw K b_law 0 x3 m3 2 (2 : Int32) [k410, k411, k412] h975 _ S7 hb7 OX cz hCS hcz fm hFM rf (Nat.le_of_ble_eq_true rfl) rfl (by decide) (by decide)) (W := 0) (argsL := [.int (2 : Int32)]) (lenOf pd_26 rfl) rfl rfl rfl (Nat.le_of_eq rfl) (Nat.le_of_ble_eq_true rfl) (Nat.le_of_ble_eq_true rfl) fun v1022 h1023 ps1019 q1021 z1020 => ?_
      obtain ⟨rfl, es1024⟩ := q1021
      subst h1023
      show Own.Run V K b_law _ h975 _ 20 98 259 [.val (.int p0), .val (.int p1), .val (.int p2), .val (.int k410), .val (.int k411), .val (.int k412), .val (.int k413), .val (.int (2 : Int32)), .val (.int (1 : Int32)), .val (.int q), .val (.ref xA), .val (.ref xB), .val (.ref a427), .val (.int (3 : Int32)), .val (.ref r2), .val (.ref x3)] [.int k412]
      refine r_aload 261 rfl at_259 rfl rfl ?_
      refine r_iconst (2 : Int32) 262 rfl at_261 rfl ?_
      refine r_caload (v := .int k412) 263 rfl at_262 f978 (by decide) rfl ?_
      refine r_icmp_eq 268 266 at_263 (by decide) rfl rfl (fun c1025 => ?_) (fun c1025 => ?_)
      rotate_left
      · exact absurd rfl c1025
      refine r_iload 270 rfl at_268 rfl ?_
      refine r_iconst (3 : Int32) 271 rfl at_270 rfl ?_
      refine r_icmp_le 289 274 at_271 (by decide) rfl rfl (fun c1026 => ?_) (fun c1026 => ?_)
      rotate_left
      · exact absurd c1026 (by decide)
      refine r_iconst (1 : Int32) 290 rfl at_289 rfl ?_
      refine r_nret (t := .boolean) (1 : Int32) rfl (by simp) rfl at_290 (by decide) (by decide) [] (fun _ q => nomatch q) ?_
      rfl
    · refine r_iload 98 rfl at_96 rfl ?_
      refine r_if_le 110 101 at_98 (by decide) rfl rfl (fun c1027 => ?_) (fun c1027 => ?_)
      · exact absurd c1027 (by decide)
      refine r_aload 103 rfl at_101 rfl rfl ?_
      refine r_iload 105 rfl at_103 rfl ?_
      refine r_iloadN 106 rfl at_105 rfl ?_
      refine r_castore 0 107 rfl at_106 f432 (by decide) rfl (Nat.le_of_ble_eq_true rfl) za427 k410 (nby b3) fun h1028 Wh1028 f1029 => ?_
      have sh1028 := Wh1028.size
      have f1030 : Str V h1028 h420.size xA (mk 2 k410 k411) := by first | exact Str.keep (Keep.of_wr Wh1028) (fun w hw' => by cases List.mem_singleton.mp hw'; exact leA (by omega)) f430 | exact Str.keepA (Keep.of_wr Wh1028) f432 (by decide) (wd hw 5 rfl) f430
      have f1031 : Str V h1028 h425.size xB (mk 2 k412 k413) := by first | exact Str.keep (Keep.of_wr Wh1028) (fun w hw' => by cases List.mem_singleton.mp hw'; exact leA (by omega)) f431 | exact Str.keepA (Keep.of_wr Wh1028) f432 (by decide) (wd hw 5 rfl) f431
      replace f1029 : Arv V.Z h1028 a427 k429 .char (4 : Int32) [.int k410, .int 0, .int 0, .int 0] (.int 0) := f1029
      refine r_iinc (1) [.val (.int p0), .val (.int p1), .val (.int p2), .val (.int k410), .val (.int k411), .val (.int k412), .val (.int k413), .val (.int (2 : Int32)), .val (.int (2 : Int32)), .val (.int q), .val (.ref xA), .val (.ref xB), .val (.ref a427), .val (.int ((0 : Int32) + (1 : Int32))), .unset, .unset] 110 rfl at_107 rfl rfl rfl ?_
      rw [show (0 : Int32) + 1 = 1 from by decide]
      refine r_iload 112 rfl at_110 rfl ?_
      refine r_iconst (1 : Int32) 113 rfl at_112 rfl ?_
      refine r_icmp_le 126 116 at_113 (by decide) rfl rfl (fun c1032 => ?_) (fun c1032 => ?_)
      · exact absurd c1032 (by decide)
      refine r_aload 118 rfl at_116 rfl rfl ?_
      refine r_iload 120 rfl at_118 rfl ?_
      refine r_iload 122 rfl at_120 rfl ?_
      refine r_castore 1 123 rfl at_122 f1029 (by decide) rfl (Nat.le_of_ble_eq_true rfl) za427 k411 (nby b4) fun h1033 Wh1033 f1034 => ?_
      have sh1033 := Wh1033.size
      have f1035 : Str V h1033 h420.size xA (mk 2 k410 k411) := by first | exact Str.keep (Keep.of_wr Wh1033) (fun w hw' => by cases List.mem_singleton.mp hw'; exact leA (by omega)) f1030 | exact Str.keepA (Keep.of_wr Wh1033) f1029 (by decide) (wd hw 5 rfl) f1030
      have f1036 : Str V h1033 h425.size xB (mk 2 k412 k413) := by first | exact Str.keep (Keep.of_wr Wh1033) (fun w hw' => by cases List.mem_singleton.mp hw'; exact leA (by omega)) f1031 | exact Str.keepA (Keep.of_wr Wh1033) f1029 (by decide) (wd hw 5 rfl) f1031
      replace f1034 : Arv V.Z h1033 a427 k429 .char (4 : Int32) [.int k410, .int k411, .int 0, .int 0] (.int 0) := f1034
      refine r_iinc (1) [.val (.int p0), .val (.int p1), .val (.int p2), .val (.int k410), .val (.int k411), .val (.int k412), .val (.int k413), .val (.int (2 : Int32)), .val (.int (2 : Int32)), .val (.int q), .val (.ref xA), .val (.ref xB), .val (.ref a427), .val (.int ((1 : Int32) + (1 : Int32))), .unset, .unset] 126 rfl at_123 rfl rfl rfl ?_
      rw [show (1 : Int32) + 1 = 2 from by decide]
      refine r_iload 128 rfl at_126 rfl ?_
      refine r_if_le 141 131 at_128 (by decide) rfl rfl (fun c1037 => ?_) (fun c1037 => ?_)
      · exact absurd c1037 (by decide)
      refine r_aload 133 rfl at_131 rfl rfl ?_
      refine r_iload 135 rfl at_133 rfl ?_
      refine r_iload 137 rfl at_135 rfl ?_
      refine r_castore 2 138 rfl at_137 f1034 (by decide) rfl (Nat.le_of_ble_eq_true rfl) za427 k412 (nby b5) fun h1038 Wh1038 f1039 => ?_
      have sh1038 := Wh1038.size
      have f1040 : Str V h1038 h420.size xA (mk 2 k410 k411) := by first | exact Str.keep (Keep.of_wr Wh1038) (fun w hw' => by cases List.mem_singleton.mp hw'; exact leA (by omega)) f1035 | exact Str.keepA (Keep.of_wr Wh1038) f1034 (by decide) (wd hw 5 rfl) f1035
      have f1041 : Str V h1038 h425.size xB (mk 2 k412 k413) := by first | exact Str.keep (Keep.of_wr Wh1038) (fun w hw' => by cases List.mem_singleton.mp hw'; exact leA (by omega)) f1036 | exact Str.keepA (Keep.of_wr Wh1038) f1034 (by decide) (wd hw 5 rfl) f1036
      replace f1039 : Arv V.Z h1038 a427 k429 .char (4 : Int32) [.int k410, .int k411, .int k412, .int 0] (.int 0) := f1039
      refine r_iinc (1) [.val (.int p0), .val (.int p1), .val (.int p2), .val (.int k410), .val (.int k411), .val (.int k412), .val (.int k413), .val (.int (2 : Int32)), .val (.int (2 : Int32)), .val (.int q), .val (.ref xA), .val (.ref xB), .val (.ref a427), .val (.int ((2 : Int32) + (1 : Int32))), .unset, .unset] 141 rfl at_138 rfl rfl rfl ?_
      rw [show (2 : Int32) + 1 = 3 from by decide]
      refine r_iload 143 rfl at_141 rfl ?_
      refine r_iconst (1 : Int32) 144 rfl at_143 rfl ?_
      refine r_icmp_le 157 147 at_144 (by decide) rfl rfl (fun c1042 => ?_) (fun c1042 => ?_)
      · exact absurd c1042 (by decide)
      refine r_aload 149 rfl at_147 rfl rfl ?_
      refine r_iload 151 rfl at_149 rfl ?_
      refine r_iload 153 rfl at_151 rfl ?_
      refine r_castore 3 154 rfl at_153 f1039 (by decide) rfl (Nat.le_of_ble_eq_true rfl) za427 k413 (nby b6) fun h1043 Wh1043 f1044 => ?_
      have sh1043 := Wh1043.size
      have f1045 : Str V h1043 h420.size xA (mk 2 k410 k411) := by first | exact Str.keep (Keep.of_wr Wh1043) (fun w hw' => by cases List.mem_singleton.mp hw'; exact leA (by omega)) f1040 | exact Str.keepA (Keep.of_wr Wh1043) f1039 (by decide) (wd hw 5 rfl) f1040
      have f1046 : Str V h1043 h425.size xB (mk 2 k412 k413) := by first | exact Str.keep (Keep.of_wr Wh1043) (fun w hw' => by cases List.mem_singleton.mp hw'; exact leA (by omega)) f1041 | exact Str.keepA (Keep.of_wr Wh1043) f1039 (by decide) (wd hw 5 rfl) f1041
      replace f1044 : Arv V.Z h1043 a427 k429 .char (4 : Int32) [.int k410, .int k411, .int k412, .int k413] (.int 0) := f1044
      refine r_iinc (1) [.val (.int p0), .val (.int p1), .val (.int p2), .val (.int k410), .val (.int k411), .val (.int k412), .val (.int k413), .val (.int (2 : Int32)), .val (.int (2 : Int32)), .val (.int q), .val (.ref xA), .val (.ref xB), .val (.ref a427), .val (.int ((3 : Int32) + (1 : Int32))), .unset, .unset] 157 rfl at_154 rfl rfl rfl ?_
      rw [show (3 : Int32) + 1 = 4 from by decide]
      refine r_new 160 rfl at_157 (wd hw 37 rfl) (wd hw 38 rfl) (wd hw 39 rfl) (by decide) (by decide) fun a1047 h1048 ga1047 za1047 Eh1048 Xa1047 Da1047 => ?_
      have f1049 := Str.ext Eh1048 f1045
      have f1050 := Str.ext Eh1048 f1046
      have f1051 := f1044.ext Eh1048
      have sh1048 := Eh1048.1
      have la1047 := ltN Xa1047.lt
      have f1052 : Fld V.Z h1048 a1047 "com/example/lazo/lazo/mapping/SqlName" "text" "Ljava/lang/String;" (.null) := Da1047 (Or.inr (wd hw 50 rfl)) (ty := (.object "java/lang/String")) (by decide)
      have f1053 : Fld V.Z h1048 a1047 "com/example/lazo/lazo/mapping/SqlName" "quoted" "Z" (.int (0 : Int32)) := Da1047 (Or.inr (wd hw 52 rfl)) (ty := .boolean) (by decide)
      refine r_dup 161 rfl at_160 rfl ?_
      refine r_aload 163 rfl at_161 rfl rfl ?_
      refine r_iload 165 rfl at_163 rfl ?_
      refine r_special 168 rfl at_165 rfl (wd hw 40 rfl) (wd hw 41 rfl) (wd hw 42 rfl) (by decide) (Pays.con (K := K) (B := b_law) (c_sqi V hw a1047 xA q hq h1048 _ za1047 Xa1047 f1052 f1053) (wd hw 42 rfl) (wd hw 39 rfl) (by decide) (by decide)) (W := 1) (argsL := [.ref xA, .int q]) (lenOf pd_24 rfl) rfl rfl rfl (Nat.le_of_eq rfl) (Nat.le_of_ble_eq_true rfl) (Nat.le_of_ble_eq_true rfl) fun v1057 h1058 ps1054 q1056 z1055 => ?_
      obtain ⟨rfl, K5, X5, G0, G1⟩ := q1056
      have f1059 : Str V h1058 h420.size xA (mk 2 k410 k411) := by first | exact Str.keep K5 (fun w hw' => by cases List.mem_singleton.mp hw'; exact leA (by omega)) f1049 | exact Str.keepE K5 Xa1047 (by decide) (wd hw 38 rfl) f1049
      have f1060 : Str V h1058 h425.size xB (mk 2 k412 k413) := by first | exact Str.keep K5 (fun w hw' => by cases List.mem_singleton.mp hw'; exact leA (by omega)) f1050 | exact Str.keepE K5 Xa1047 (by decide) (wd hw 38 rfl) f1050
      have f1061 := Arv.keep f1051 K5 (ninS (neA (by omega)) nin0)
      have f1062 := Exa.keep Xa1047 K5
      show Own.Run V K b_law _ h1058 _ 14 38 168 [.val (.int p0), .val (.int p1), .val (.int p2), .val (.int k410), .val (.int k411), .val (.int k412), .val (.int k413), .val (.int (2 : Int32)), .val (.int (2 : Int32)), .val (.int q), .val (.ref xA), .val (.ref xB), .val (.ref a427), .val (.int (4 : Int32)), .unset, .unset] [.ref a1047]
      have sh1058 := K5.1
      refine r_aload 170 rfl at_168 rfl rfl ?_
      refine r_virtual 173 rfl at_170 (wd hw 53 rfl) (wd hw 54 rfl) (wd hw 56 rfl) (wd hw 55 rfl) (nfS (wd hw 56 rfl)) (by decide) f1062 (Pays.con (K := K) (B := b_law) (c_suf V hw cz hCS hcz a1047 xA xB _ _ _ _ q hq h1058 _ G0 G1 f1059 f1060 (mk_by b3 b4) (mk_by b5 b6) (mk_len _ _ _) (mk_len _ _ _) (ltN X5.lt)) (wd hw 57 rfl) (wd hw 39 rfl) (by decide) (by decide)) (W := 0) (argsL := [.ref xB]) (lenOf pd_25 rfl) rfl rfl rfl (Nat.le_of_eq rfl) (Nat.le_of_ble_eq_true rfl) (Nat.le_of_ble_eq_true rfl) fun v1066 h1067 ps1063 q1065 z1064 => ?_
      obtain ⟨r2, x3, m3, rfl, E6, X6, H0, H1, S6⟩ := q1065
      have f1068 := Str.ext E6 f1059
      have f1069 := Str.ext E6 f1060
      have f1070 := f1061.ext E6
      have f1071 := Exa.ext E6 f1062
      have f1072 := Fld.ext E6 G0
      have f1073 := Fld.ext E6 G1
      have sh1067 := E6.1
      show Own.Run V K b_law _ h1067 _ 20 98 173 [.val (.int p0), .val (.int p1), .val (.int p2), .val (.int k410), .val (.int k411), .val (.int k412), .val (.int k413), .val (.int (2 : Int32)), .val (.int (2 : Int32)), .val (.int q), .val (.ref xA), .val (.ref xB), .val (.ref a427), .val (.int (4 : Int32)), .unset, .unset] [.ref r2]
      rw [mk2, mk2] at S6
      have S7 : Str V h1067 m3 x3 [k410, k411, k412, k413] := S6
      have hb7 : ∀ c ∈ ([k410, k411, k412, k413] : List Int32), ¬ 255 < c := fun c hc => (by_app (mk_by (n := 2) b3 b4) (mk_by (n := 2) b5 b6) c hc).2
      refine r_astore [.val (.int p0), .val (.int p1), .val (.int p2), .val (.int k410), .val (.int k411), .val (.int k412), .val (.int k413), .val (.int (2 : Int32)), .val (.int (2 : Int32)), .val (.int q), .val (.ref xA), .val (.ref xB), .val (.ref a427), .val (.int (4 : Int32)), .val (.ref r2), .unset] 175 rfl at_173 rfl rfl ?_
      refine r_aload 177 rfl at_175 rfl rfl ?_
      refine r_virtual 180 rfl at_177 (wd hw 170 rfl) (wd hw 171 rfl) (wd hw 173 rfl) (wd hw 172 rfl) (nfS (wd hw 173 rfl)) (by decide) X6 (Pays.con (K := K) (B := b_law) (c_quoted V hw r2 0 q hq h1067 _ H1) (wd hw 174 rfl) (wd hw 39 rfl) (by decide) (by decide)) (W := 0) (argsL := []) (lenOf pd_16 rfl) rfl rfl rfl (Nat.le_of_eq rfl) (Nat.le_of_ble_eq_true rfl) (Nat.le_of_ble_eq_true rfl) fun v1077 h1078 ps1074 q1076 z1075 => ?_
      obtain ⟨rfl, es1079⟩ := q1076
      subst h1078
      show Own.Run V K b_law _ h1067 _ 20 98 180 [.val (.int p0), .val (.int p1), .val (.int p2), .val (.int k410), .val (.int k411), .val (.int k412), .val (.int k413), .val (.int (2 : Int32)), .val (.int (2 : Int32)), .val (.int q), .val (.ref xA), .val (.ref xB), .val (.ref a427), .val (.int (4 : Int32)), .val (.ref r2), .unset] [.int q]
      refine r_iload 182 rfl at_180 rfl ?_
      refine r_icmp_eq 187 185 at_182 (by decide) rfl rfl (fun c1080 => ?_) (fun c1080 => ?_)
      rotate_left
      · exact absurd rfl c1080
      refine r_aload 189 rfl at_187 rfl rfl ?_
      refine r_virtual 192 rfl at_189 (wd hw 175 rfl) (wd hw 176 rfl) (wd hw 178 rfl) (wd hw 177 rfl) (nfS (wd hw 178 rfl)) (by decide) X6 (Pays.con (K := K) (B := b_law) (c_text V hw r2 x3 0 (Or.inl rfl) h1067 _ H0) (wd hw 179 rfl) (wd hw 39 rfl) (by decide) (by decide)) (W := 0) (argsL := []) (lenOf pd_22 rfl) rfl rfl rfl (Nat.le_of_eq rfl) (Nat.le_of_ble_eq_true rfl) (Nat.le_of_ble_eq_true rfl) fun v1084 h1085 ps1081 q1083 z1082 => ?_
      obtain ⟨rfl, es1086⟩ := q1083
      subst h1085
      show Own.Run V K b_law _ h1067 _ 20 98 192 [.val (.int p0), .val (.int p1), .val (.int p2), .val (.int k410), .val (.int k411), .val (.int k412), .val (.int k413), .val (.int (2 : Int32)), .val (.int (2 : Int32)), .val (.int q), .val (.ref xA), .val (.ref xB), .val (.ref a427), .val (.int (4 : Int32)), .val (.ref r2), .unset] [.ref x3]
      refine r_astore [.val (.int p0), .val (.int p1), .val (.int p2), .val (.int k410), .val (.int k411), .val (.int k412), .val (.int k413), .val (.int (2 : Int32)), .val (.int (2 : Int32)), .val (.int q), .val (.ref xA), .val (.ref xB), .val (.ref a427), .val (.int (4 : Int32)), .val (.ref r2), .val (.ref x3)] 194 rfl at_192 rfl rfl ?_
      refine r_aload 196 rfl at_194 rfl rfl ?_
      refine Run.old fun OX => ?_
      refine r_virtual 199 rfl at_196 (wd hw 180 rfl) (wd hw 88 rfl) (wd hw 90 rfl) (wd hw 89 rfl) (nfS (wd hw 90 rfl)) (by decide) S7.exa (pay_len V hw K b_law 0 x3 m3 [k410, k411, k412, k413] h1067 _ S7 OX cz hCS hcz (by decide) (by decide)) (W := 0) (argsL := []) (lenOf pd_13 rfl) rfl rfl rfl (Nat.le_of_eq rfl) (Nat.le_of_ble_eq_true rfl) (Nat.le_of_ble_eq_true rfl) fun v1090 h1091 ps1087 q1089 z1088 => ?_
      obtain ⟨rfl, es1092⟩ := q1089
      subst h1091
      show Own.Run V K b_law _ h1067 _ 20 98 199 [.val (.int p0), .val (.int p1), .val (.int p2), .val (.int k410), .val (.int k411), .val (.int k412), .val (.int k413), .val (.int (2 : Int32)), .val (.int (2 : Int32)), .val (.int q), .val (.ref xA), .val (.ref xB), .val (.ref a427), .val (.int (4 : Int32)), .val (.ref r2), .val (.ref x3)] [.int (Int32.ofNat 4)]
      refine r_iload 201 rfl at_199 rfl ?_
      refine r_icmp_eq 206 204 at_201 (by decide) rfl rfl (fun c1093 => ?_) (fun c1093 => ?_)
      rotate_left
      · exact absurd rfl c1093
      refine r_iload 208 rfl at_206 rfl ?_
      refine r_if_le 226 211 at_208 (by decide) rfl rfl (fun c1094 => ?_) (fun c1094 => ?_)
      · exact absurd c1094 (by decide)
      refine r_aload 213 rfl at_211 rfl rfl ?_
      refine r_iconst (0 : Int32) 214 rfl at_213 rfl ?_
      refine r_virtual 217 rfl at_214 (wd hw 181 rfl) (wd hw 182 rfl) (wd hw 184 rfl) (wd hw 183 rfl) (nfS (wd hw 184 rfl)) (by decide) S7.exa (pay_ch V hw K b_law 0 x3 m3 0 (0 : Int32) [k410, k411, k412, k413] h1067 _ S7 hb7 OX cz hCS hcz fm hFM rf (Nat.le_of_ble_eq_true rfl) rfl (by decide) (by decide)) (W := 0) (argsL := [.int (0 : Int32)]) (lenOf pd_26 rfl) rfl rfl rfl (Nat.le_of_eq rfl) (Nat.le_of_ble_eq_true rfl) (Nat.le_of_ble_eq_true rfl) fun v1098 h1099 ps1095 q1097 z1096 => ?_
      obtain ⟨rfl, es1100⟩ := q1097
      subst h1099
      show Own.Run V K b_law _ h1067 _ 20 98 217 [.val (.int p0), .val (.int p1), .val (.int p2), .val (.int k410), .val (.int k411), .val (.int k412), .val (.int k413), .val (.int (2 : Int32)), .val (.int (2 : Int32)), .val (.int q), .val (.ref xA), .val (.ref xB), .val (.ref a427), .val (.int (4 : Int32)), .val (.ref r2), .val (.ref x3)] [.int k410]
      refine r_aload 219 rfl at_217 rfl rfl ?_
      refine r_iconst (0 : Int32) 220 rfl at_219 rfl ?_
      refine r_caload (v := .int k410) 221 rfl at_220 f1070 (by decide) rfl ?_
      refine r_icmp_eq 226 224 at_221 (by decide) rfl rfl (fun c1101 => ?_) (fun c1101 => ?_)
      rotate_left
      · exact absurd rfl c1101
      refine r_iload 228 rfl at_226 rfl ?_
      refine r_iconst (1 : Int32) 229 rfl at_228 rfl ?_
      refine r_icmp_le 247 232 at_229 (by decide) rfl rfl (fun c1102 => ?_) (fun c1102 => ?_)
      · exact absurd c1102 (by decide)
      refine r_aload 234 rfl at_232 rfl rfl ?_
      refine r_iconst (1 : Int32) 235 rfl at_234 rfl ?_
      refine r_virtual 238 rfl at_235 (wd hw 181 rfl) (wd hw 182 rfl) (wd hw 184 rfl) (wd hw 183 rfl) (nfS (wd hw 184 rfl)) (by decide) S7.exa (pay_ch V hw K b_law 0 x3 m3 1 (1 : Int32) [k410, k411, k412, k413] h1067 _ S7 hb7 OX cz hCS hcz fm hFM rf (Nat.le_of_ble_eq_true rfl) rfl (by decide) (by decide)) (W := 0) (argsL := [.int (1 : Int32)]) (lenOf pd_26 rfl) rfl rfl rfl (Nat.le_of_eq rfl) (Nat.le_of_ble_eq_true rfl) (Nat.le_of_ble_eq_true rfl) fun v1106 h1107 ps1103 q1105 z1104 => ?_
      obtain ⟨rfl, es1108⟩ := q1105
      subst h1107
      show Own.Run V K b_law _ h1067 _ 20 98 238 [.val (.int p0), .val (.int p1), .val (.int p2), .val (.int k410), .val (.int k411), .val (.int k412), .val (.int k413), .val (.int (2 : Int32)), .val (.int (2 : Int32)), .val (.int q), .val (.ref xA), .val (.ref xB), .val (.ref a427), .val (.int (4 : Int32)), .val (.ref r2), .val (.ref x3)] [.int k411]
      refine r_aload 240 rfl at_238 rfl rfl ?_
      refine r_iconst (1 : Int32) 241 rfl at_240 rfl ?_
      refine r_caload (v := .int k411) 242 rfl at_241 f1070 (by decide) rfl ?_
      refine r_icmp_eq 247 245 at_242 (by decide) rfl rfl (fun c1109 => ?_) (fun c1109 => ?_)
      rotate_left
      · exact absurd rfl c1109
      refine r_iload 249 rfl at_247 rfl ?_
      refine r_iconst (2 : Int32) 250 rfl at_249 rfl ?_
      refine r_icmp_le 268 253 at_250 (by decide) rfl rfl (fun c1110 => ?_) (fun c1110 => ?_)
      · exact absurd c1110 (by decide)
      refine r_aload 255 rfl at_253 rfl rfl ?_
      refine r_iconst (2 : Int32) 256 rfl at_255 rfl ?_
      refine r_virtual 259 rfl at_256 (wd hw 181 rfl) (wd hw 182 rfl) (wd hw 184 rfl) (wd hw 183 rfl) (nfS (wd hw 184 rfl)) (by decide) S7.exa (pay_ch V hw K b_law 0 x3 m3 2 (2 : Int32) [k410, k411, k412, k413] h1067 _ S7 hb7 OX cz hCS hcz fm hFM rf (Nat.le_of_ble_eq_true rfl) rfl (by decide) (by decide)) (W := 0) (argsL := [.int (2 : Int32)]) (lenOf pd_26 rfl) rfl rfl rfl (Nat.le_of_eq rfl) (Nat.le_of_ble_eq_true rfl) (Nat.le_of_ble_eq_true rfl) fun v1114 h1115 ps1111 q1113 z1112 => ?_
      obtain ⟨rfl, es1116⟩ := q1113
      subst h1115
      show Own.Run V K b_law _ h1067 _ 20 98 259 [.val (.int p0), .val (.int p1), .val (.int p2), .val (.int k410), .val (.int k411), .val (.int k412), .val (.int k413), .val (.int (2 : Int32)), .val (.int (2 : Int32)), .val (.int q), .val (.ref xA), .val (.ref xB), .val (.ref a427), .val (.int (4 : Int32)), .val (.ref r2), .val (.ref x3)] [.int k412]
      refine r_aload 261 rfl at_259 rfl rfl ?_
      refine r_iconst (2 : Int32) 262 rfl at_261 rfl ?_
      refine r_caload (v := .int k412) 263 rfl at_262 f1070 (by decide) rfl ?_
      refine r_icmp_eq 268 266 at_263 (by decide) rfl rfl (fun c1117 => ?_) (fun c1117 => ?_)
      rotate_left
      · exact absurd rfl c1117
      refine r_iload 270 rfl at_268 rfl ?_
      refine r_iconst (3 : Int32) 271 rfl at_270 rfl ?_
      refine r_icmp_le 289 274 at_271 (by decide) rfl rfl (fun c1118 => ?_) (fun c1118 => ?_)
      · exact absurd c1118 (by decide)
      refine r_aload 276 rfl at_274 rfl rfl ?_
      refine r_iconst (3 : Int32) 277 rfl at_276 rfl ?_
      refine r_virtual 280 rfl at_277 (wd hw 181 rfl) (wd hw 182 rfl) (wd hw 184 rfl) (wd hw 183 rfl) (nfS (wd hw 184 rfl)) (by decide) S7.exa (pay_ch V hw K b_law 0 x3 m3 3 (3 : Int32) [k410, k411, k412, k413] h1067 _ S7 hb7 OX cz hCS hcz fm hFM rf (Nat.le_of_ble_eq_true rfl) rfl (by decide) (by decide)) (W := 0) (argsL := [.int (3 : Int32)]) (lenOf pd_26 rfl) rfl rfl rfl (Nat.le_of_eq rfl) (Nat.le_of_ble_eq_true rfl) (Nat.le_of_ble_eq_true rfl) fun v1122 h1123 ps1119 q1121 z1120 => ?_
      obtain ⟨rfl, es1124⟩ := q1121
      subst h1123
      show Own.Run V K b_law _ h1067 _ 20 98 280 [.val (.int p0), .val (.int p1), .val (.int p2), .val (.int k410), .val (.int k411), .val (.int k412), .val (.int k413), .val (.int (2 : Int32)), .val (.int (2 : Int32)), .val (.int q), .val (.ref xA), .val (.ref xB), .val (.ref a427), .val (.int (4 : Int32)), .val (.ref r2), .val (.ref x3)] [.int k413]
      refine r_aload 282 rfl at_280 rfl rfl ?_
      refine r_iconst (3 : Int32) 283 rfl at_282 rfl ?_
      refine r_caload (v := .int k413) 284 rfl at_283 f1070 (by decide) rfl ?_
      refine r_icmp_eq 289 287 at_284 (by decide) rfl rfl (fun c1125 => ?_) (fun c1125 => ?_)
      rotate_left
      · exact absurd rfl c1125
      refine r_iconst (1 : Int32) 290 rfl at_289 rfl ?_
      refine r_nret (t := .boolean) (1 : Int32) rfl (by simp) rfl at_290 (by decide) (by decide) [] (fun _ q => nomatch q) ?_
      rfl
  refine r_if_eq 64 60 at_57 (by decide) rfl rfl (fun c1126 => ?_) (fun c1126 => ?_)
  · refine r_iconst (0 : Int32) 65 rfl at_64 rfl ?_
    exact j65 _ (Or.inl rfl)
  · refine r_iconst (1 : Int32) 61 rfl at_60 rfl ?_
    refine r_goto 65 at_61 (by decide) rfl ?_
    exact j65 _ (Or.inr rfl)
theorem comes_1 {Post : Tables → Env → Array Value → State → Outcome → State → Prop} (hpost : ∀ tb e args s v u, (limb_1_1.after args s (.returned v) u = true ∧ limb_1_2.after args s (.returned v) u = true ∧ True) → ReturnedEndW s (.returned v) u (Jvm.fieldLocs frame_1_writes args s ++ Jvm.arrayLocs frame_1_arrays args s ++ Jvm.staticLocs frame_1_statics s) 40 1216 → Post tb e args s (.returned v) u) :
    ArmFor flags0 classFile x code maxLocals ret World_1 tables_1 room_1 Calls_1 rest_1 Pre_1 Post := by
  intro l hfl _ _ p e ha hc hk s m args below hf hA hF happ hP
  obtain ⟨hcalls, hrest, hpre⟩ := hP
  obtain ⟨-, -, -, hnamed, -, -, -, hat⟩ := (Spec.applies_iff hf).mp happ
  obtain ⟨hg, hn⟩ := and_e (Cond.before_iff.mp (show (Jvm.Cond.and given_1 narrow_1).before args s = true from hpre))
  obtain ⟨hcount, g0⟩ := and_e hg
  obtain ⟨k0, g1⟩ := and_e g0
  obtain ⟨k1, g2⟩ := and_e g1
  have k2 := g2
  obtain ⟨w0, w1, w2, rfl⟩ : ∃ w0 w1 w2 : Value, args = #[w0, w1, w2] := by
    have hs : args.size = 3 := by simpa [Cond.value, given_1] using hcount
    obtain ⟨L⟩ := args
    match L, hs with
    | [w0, w1, w2], _ => exact ⟨w0, w1, w2, rfl⟩
  have hw := fun d (hd : d ∈ tables_1) => atoms_spec (ws := Jvm.Cond.code x code maxLocals ret :: tables_1) hat d (List.mem_cons_of_mem _ hd)
  obtain ⟨i0, e0⟩ := is_v k0
  obtain rfl : w0 = (.int i0) := Option.some.inj e0
  obtain ⟨i1, e1⟩ := is_v k1
  obtain rfl : w1 = (.int i1) := Option.some.inj e1
  obtain ⟨i2, e2⟩ := is_v k2
  obtain rfl : w2 = (.int i2) := Option.some.inj e2
  obtain ⟨hsets, hown0⟩ := atoms_of _ (rest_1_c_eq ▸ (show rest_1_c.before _ s = true from hrest))
  have n5 := not_v (Cond.before_iff.mp (hsets _ (List.mem_of_getElem? (i := 2) rfl)))
  obtain ⟨i11, e11⟩ := is_v (Cond.before_iff.mp (hsets _ (List.mem_of_getElem? (i := 1) rfl)))
  have S12 : Sta s s.heap "java/lang/String" "COMPACT_STRINGS" "Z" (.int i11) := Sta.start e11 (Or.inl (hsets _ (List.mem_of_getElem? (i := 0) rfl)))
  have c17 : ¬ (i11 = (0 : Int32)) := gotF (Cond.eq_ints e11 (Term.int_eval (0))) n5
  obtain ⟨v13, e14, r15⟩ := isR_v (Cond.before_iff.mp (hsets _ (List.mem_of_getElem? (i := 8) rfl)))
  have S16 : Sta s s.heap "jdk/internal/util/Preconditions" "SIOOBE_FORMATTER" "Ljava/util/function/BiFunction;" v13 := Sta.start e14 (Or.inl (hsets _ (List.mem_of_getElem? (i := 7) rfl)))
  have hEW : EW s #[.int i0, .int i1, .int i2] consts_1 := (EW.cons (hw _ (List.mem_of_getElem? (i := 34) rfl)) (by decide) EW.nil)
  have hCH : CHv s consts_1 s.vm s.heap := CHv.start hEW (fun p hp => hcalls.1 p hp) (hsets _ (List.mem_of_getElem? (i := 2) rfl)) (hw _ (List.mem_of_getElem? (i := 23) rfl)) (hw _ (List.mem_of_getElem? (i := 5) rfl))
  obtain ⟨n, o, h1, h2, h3, v, L, ps, rfl, N, rfl, -, -, -, hq, -⟩ := c_law (s, #[.int i0, .int i1, .int i2], consts_1, false, l) hw (show ("java/lang/String", 7) ∈ consts_1 by decide) rfl i11 S12 c17 v13 S16 r15 i0 i1 i2 s.heap hEW ⟨Nat.le_refl _, fun _ _ q => q⟩ (fun q => nomatch q) tables_1 p e ha hc hk s m _ below hf ((Spec.applies_iff_loose hf).mp happ).1 ⟨rfl, State.Warmed39.refl s, rfl, hCH, Sf.nil⟩ trivial
  refine ⟨n, _, h1, h2, h3, hpost _ _ _ _ _ _ ⟨Cond.after_iff.mpr rfl, Cond.after_iff.mpr (eq_i res_at (Term.int_eval (1)) rfl), trivial⟩ ⟨hq.1, hq.2.1, hq.2.2.1, (hq.2.2.2.sift fun y hy => Or.inr (N y hy)).mono (by decide) (by decide)⟩⟩
theorem main_1_1 : Claimed_1_1 := comes_1 fun _ _ _ _ _ _ h hF => ⟨h.1, hF⟩
theorem main_1_2 : Claimed_1_2 := comes_1 fun _ _ _ _ _ _ h hF => ⟨h.2.1, hF⟩
end Jvm.Pilot.@@N@@
namespace Jvm.Pilot.@@N@@
open Jvm Jvm.ClassFile Sem Op Lib Jvm.Free Jvm.Stand Jvm.Pilot.@@N@@.Jvm.D
/-! MADE BY PROGRAM (witnessworld.py) out of the Statement's table words and the real class files: 27 classes; the members and pool entries that the words name. The judged class is class 1, her method 2. -/
namespace start1
open Jvm.ClassFile
def u (s : String) : CpInfo := .utf8 (stringToUtf16 s)
/-- a pool by its gaps: so many unusable entries, then the entry; so many at the end -/
def gap : Nat → List CpInfo → List CpInfo
  | 0, r => r
  | n + 1, r => .unusable :: gap n r
def poolList (es : List (Nat × CpInfo)) (last : Nat) : List CpInfo := es.foldr (fun e r => gap e.1 (e.2 :: r)) (gap last [])
def pool (es : List (Nat × CpInfo)) (last : Nat) : Array CpInfo := ⟨poolList es last⟩
def fileOf (pool : Array CpInfo) (this : Nat) (attrs : Array Attribute := #[]) (ms : Array MethodInfo := #[]) (fl : Nat := 33) (sup : Nat := 0) (ifs : Array Nat := #[]) (fds : Array FieldInfo := #[]) : ClassFile where
  minorVersion := 0
  majorVersion := 65
  constantPool := pool
  accessFlags := fl
  thisClass := this
  superClass := sup
  interfaces := ifs
  fields := fds
  methods := ms
  attributes := attrs
def plain (name : String) (sup : Option ClassId) : Class where
  name := name
  kind := .ordinary
  loader := none
  accessFlags := 33
  super := sup
  interfaces := #[]
  cf := none
  fields := #[]
  methods := #[]
  instanceTypes := #[]
  staticTypes := #[]
  resolved := #[]
  callSites := []
  init := .initialized
  statics := none
  mirror := none

def pool0 : Array CpInfo := pool [(5, u "<init>"), (0, u "()V"), (1, .class_ 10), (1, u "java/lang/Object")] 113

def k0c0 : Code := { maxStack := 0, maxLocals := 1, code := object_method_1_code, exceptionTable := #[], attributes := #[] }
def k0m0 : Method := { name := "<init>", desc := "()V", sig := { parameters := [], returnType := none }, accessFlags := 1, code := some k0c0 }
/-- java/lang/Object -/
def k0 : Class := { plain "java/lang/Object" none with
  accessFlags := 33
  interfaces := #[]
  cf := some (fileOf pool0 8 #[] #[{ accessFlags := 1, nameIndex := 5, descriptorIndex := 6, attributes := #[] }] 33 0 #[] #[])
  fields := #[]
  methods := #[k0m0]
  instanceTypes := #[]
  staticTypes := #[]
  resolved := Array.replicate 124 none
  statics := none }

def pool1 : Array CpInfo := pool [(2, .class_ 4), (1, u "java/lang/Object"), (0, u "<init>"), (0, u "()V"), (0, .class_ 8), (0, u "java/lang/String"), (0, .methodref 7 10), (0, .nameAndType 5 11), (0, u "([C)V"), (0, .methodref 7 13), (0, .nameAndType 14 15), (0, u "valueOf"), (0, u "(C)Ljava/lang/String;"), (0, .methodref 17 18), (0, .class_ 19), (0, .nameAndType 20 21), (0, u "com/example/lazo/lazo/mapping/SqlNameSuffixedPinLaw"), (0, u "mk"), (0, u "(CCI)Ljava/lang/String;"), (0, .class_ 23), (0, u "com/example/lazo/lazo/mapping/SqlName"), (0, .methodref 22 25), (0, .nameAndType 5 26), (0, u "(Ljava/lang/String;Z)V"), (0, .methodref 22 28), (0, .nameAndType 29 30), (0, u "suffixed"), (0, u "(Ljava/lang/String;)Lcom/example/lazo/lazo/mapping/SqlName;"), (0, .methodref 22 32), (0, .nameAndType 33 34), (0, u "quoted"), (0, u "()Z"), (0, .methodref 22 36), (0, .nameAndType 37 38), (0, u "text"), (0, u "()Ljava/lang/String;"), (0, .methodref 7 40), (0, .nameAndType 41 42), (0, u "length"), (0, u "()I"), (0, .methodref 7 44), (0, .nameAndType 45 46), (0, u "charAt"), (0, u "(I)C"), (3, u "law"), (0, u "(III)Z")] 4

def k1m0 : Method := { name := "<init>", desc := "()V", sig := { parameters := [], returnType := none }, accessFlags := 1, code := none }
def k1c1 : Code := { maxStack := 6, maxLocals := 3, code := method_2_code, exceptionTable := #[], attributes := #[] }
def k1m1 : Method := { name := "mk", desc := "(CCI)Ljava/lang/String;", sig := { parameters := [.char, .char, .int], returnType := some (.object "java/lang/String") }, accessFlags := 10, code := some k1c1 }
def k1c2 : Code := { maxStack := 4, maxLocals := 16, code := code, exceptionTable := #[], attributes := #[] }
def k1m2 : Method := { name := "law", desc := "(III)Z", sig := { parameters := [.int, .int, .int], returnType := some .boolean }, accessFlags := 9, code := some k1c2 }
/-- com/example/lazo/lazo/mapping/SqlNameSuffixedPinLaw -/
def k1 : Class := { plain "com/example/lazo/lazo/mapping/SqlNameSuffixedPinLaw" (some 0) with
  accessFlags := 49
  interfaces := #[]
  cf := some (fileOf pool1 17 #[] #[{ accessFlags := 1, nameIndex := 5, descriptorIndex := 6, attributes := #[] }, { accessFlags := 10, nameIndex := 20, descriptorIndex := 21, attributes := #[] }, { accessFlags := 9, nameIndex := 50, descriptorIndex := 51, attributes := #[] }] 49 2 #[] #[])
  fields := #[]
  methods := #[k1m0, k1m1, k1m2]
  instanceTypes := #[]
  staticTypes := #[]
  resolved := Array.replicate 56 none
  statics := none }

def pool2 : Array CpInfo := pool [(1, .class_ 2), (0, u "java/io/Serializable"), (0, .class_ 4), (0, u "java/lang/Object")] 2

/-- java/io/Serializable -/
def k2 : Class := { plain "java/io/Serializable" (some 0) with
  accessFlags := 1537
  interfaces := #[]
  cf := some (fileOf pool2 1 #[] #[] 1537 3 #[] #[])
  fields := #[]
  methods := #[]
  instanceTypes := #[]
  staticTypes := #[]
  resolved := Array.replicate 7 none
  statics := none }

def pool3 : Array CpInfo := pool [(1, .class_ 2), (0, u "java/lang/Comparable"), (0, .class_ 4), (0, u "java/lang/Object")] 7

/-- java/lang/Comparable -/
def k3 : Class := { plain "java/lang/Comparable" (some 0) with
  accessFlags := 1537
  interfaces := #[]
  cf := some (fileOf pool3 1 #[] #[] 1537 3 #[] #[])
  fields := #[]
  methods := #[]
  instanceTypes := #[]
  staticTypes := #[]
  resolved := Array.replicate 12 none
  statics := none }

def pool4 : Array CpInfo := pool [(2, .class_ 4), (1, u "java/lang/CharSequence"), (42, .class_ 48), (0, u "java/lang/CharSequence$1CodePointIterator"), (10, .class_ 60), (0, u "java/lang/CharSequence$1CharIterator"), (5, .class_ 67), (0, u "java/lang/Object")] 63

/-- java/lang/CharSequence -/
def k4 : Class := { plain "java/lang/CharSequence" (some 0) with
  accessFlags := 1537
  interfaces := #[]
  cf := some (fileOf pool4 2 #[.nestMembers #[47, 59]] #[] 1537 66 #[] #[])
  fields := #[]
  methods := #[]
  instanceTypes := #[]
  staticTypes := #[]
  resolved := Array.replicate 131 none
  statics := none }

def pool5 : Array CpInfo := pool [(1, .class_ 2), (0, u "java/lang/constant/Constable"), (0, .class_ 4), (0, u "java/lang/Object")] 6

/-- java/lang/constant/Constable -/
def k5 : Class := { plain "java/lang/constant/Constable" (some 0) with
  accessFlags := 1537
  interfaces := #[]
  cf := some (fileOf pool5 1 #[] #[] 1537 3 #[] #[])
  fields := #[]
  methods := #[]
  instanceTypes := #[]
  staticTypes := #[]
  resolved := Array.replicate 11 none
  statics := none }

def pool6 : Array CpInfo := pool [(1, .class_ 2), (0, u "java/lang/constant/ConstantDesc"), (0, .class_ 4), (0, u "java/lang/Object")] 32

/-- java/lang/constant/ConstantDesc -/
def k6 : Class := { plain "java/lang/constant/ConstantDesc" (some 0) with
  accessFlags := 1537
  interfaces := #[]
  cf := some (fileOf pool6 1 #[] #[] 1537 3 #[] #[])
  fields := #[]
  methods := #[]
  instanceTypes := #[]
  staticTypes := #[]
  resolved := Array.replicate 37 none
  statics := none }

def pool7 : Array CpInfo := pool [(1, .methodref 2 3), (0, .class_ 4), (0, .nameAndType 5 6), (0, u "java/lang/Object"), (0, u "<init>"), (0, u "()V"), (0, .string 8), (0, u ""), (0, .fieldref 10 11), (0, .class_ 12), (0, .nameAndType 13 14), (0, u "java/lang/String"), (0, u "value"), (0, u "[B"), (0, .fieldref 10 16), (0, .nameAndType 17 18), (0, u "coder"), (0, u "B"), (2, u "hash"), (0, u "I"), (2, u "hashIsZero"), (0, u "Z"), (0, .methodref 10 28), (0, .nameAndType 5 29), (0, u "([CIILjava/lang/Void;)V"), (8, .fieldref 10 39), (0, .nameAndType 40 26), (0, u "COMPACT_STRINGS"), (1, .class_ 44), (1, u "java/lang/StringUTF16"), (0, u "compress"), (1, .methodref 42 48), (0, .nameAndType 49 50), (0, u "coderFromArrayLen"), (0, u "([BI)B"), (2, u "toBytes"), (0, .methodref 55 56), (0, .class_ 57), (0, .nameAndType 58 59), (0, u "java/util/Arrays"), (0, u "copyOfRange"), (0, u "([BII)[B"), (47, .class_ 109), (1, u "java/lang/StringLatin1"), (32, u "()Z"), (34, .methodref 42 178), (0, .nameAndType 45 179), (0, u "([CII)[B"), (13, .class_ 195), (1, u "java/lang/System"), (13, .methodref 10 210), (0, .nameAndType 5 211), (0, u "([BB)V"), (0, .methodref 193 213), (0, .nameAndType 214 215), (0, u "arraycopy"), (0, u "(Ljava/lang/Object;ILjava/lang/Object;II)V"), (118, u "()I"), (0, .methodref 10 336), (0, .nameAndType 17 337), (0, u "()B"), (2, u "()[B"), (22, u "([BI)C"), (5, u "(C)Z"), (21, u "(II)V"), (35, u "(I)C"), (61, .methodref 10 490), (0, .nameAndType 5 491), (0, u "(Ljava/lang/AbstractStringBuilder;Ljava/lang/Void;)V"), (0, .methodref 10 493), (0, .nameAndType 494 142), (0, u "isLatin1"), (0, .methodref 107 496), (0, .nameAndType 497 363), (0, u "charAt"), (3, u "checkIndex"), (4, .nameAndType 507 334), (0, u "length"), (24, u "getBytes"), (16, .methodref 550 506), (0, .class_ 551), (0, u "java/lang/AbstractStringBuilder"), (0, .methodref 550 553), (0, .nameAndType 554 340), (0, u "getValue"), (20, .class_ 576), (0, u "java/lang/CharSequence"), (22, u "CASE_INSENSITIVE_ORDER"), (0, u "Ljava/util/Comparator;"), (181, u "valueOf"), (0, u "(C)Ljava/lang/String;"), (37, u "([BIB)V"), (188, u "([C)V"), (4, .methodref 107 1016), (0, .nameAndType 1017 369), (0, u "canEncode"), (0, .methodref 107 1019), (0, .nameAndType 53 1020), (0, u "(C)[B"), (26, .methodref 550 493), (5, .fieldref 1054 1055), (0, .class_ 1056), (0, .nameAndType 1057 1058), (0, u "jdk/internal/util/Preconditions"), (0, u "SIOOBE_FORMATTER"), (0, u "Ljava/util/function/BiFunction;"), (0, .methodref 1054 1060), (0, .nameAndType 501 1061), (0, u "(IILjava/util/function/BiFunction;)I"), (39, u "serialPersistentFields"), (0, u "[Ljava/io/ObjectStreamField;"), (0, .class_ 1104), (0, u "java/lang/String$CaseInsensitiveComparator"), (1, .class_ 1107), (0, u "java/io/Serializable"), (0, .class_ 1109), (0, u "java/lang/Comparable"), (0, .class_ 1111), (0, u "java/lang/constant/Constable"), (0, .class_ 1113), (0, u "java/lang/constant/ConstantDesc"), (2, u "serialVersionUID"), (0, u "J"), (3, u "REPL"), (0, u "C"), (2, u "LATIN1"), (1, u "UTF16"), (105, u "(Ljava/lang/StringBuilder;)V")] 217

def k7m0 : Method := { name := "<init>", desc := "()V", sig := { parameters := [], returnType := none }, accessFlags := 1, code := none }
def k7c1 : Code := { maxStack := 5, maxLocals := 2, code := jdk_42_method_3_code, exceptionTable := #[], attributes := #[] }
def k7m1 : Method := { name := "<init>", desc := "([C)V", sig := { parameters := [(.array .char)], returnType := none }, accessFlags := 1, code := some k7c1 }
def k7c2 : Code := { maxStack := 3, maxLocals := 2, code := jdk_42_method_53_code, exceptionTable := #[], attributes := #[] }
def k7m2 : Method := { name := "<init>", desc := "(Ljava/lang/StringBuilder;)V", sig := { parameters := [(.object "java/lang/StringBuilder")], returnType := none }, accessFlags := 1, code := some k7c2 }
def k7c3 : Code := { maxStack := 2, maxLocals := 1, code := jdk_42_method_54_code, exceptionTable := #[], attributes := #[] }
def k7m3 : Method := { name := "length", desc := "()I", sig := { parameters := [], returnType := some .int }, accessFlags := 1, code := some k7c3 }
def k7c4 : Code := { maxStack := 2, maxLocals := 2, code := jdk_42_method_56_code, exceptionTable := #[], attributes := #[] }
def k7m4 : Method := { name := "charAt", desc := "(I)C", sig := { parameters := [.int], returnType := some .char }, accessFlags := 1, code := some k7c4 }
def k7c5 : Code := { maxStack := 4, maxLocals := 1, code := jdk_42_method_139_code, exceptionTable := #[], attributes := #[] }
def k7m5 : Method := { name := "valueOf", desc := "(C)Ljava/lang/String;", sig := { parameters := [.char], returnType := some (.object "java/lang/String") }, accessFlags := 9, code := some k7c5 }
def k7c6 : Code := { maxStack := 5, maxLocals := 4, code := jdk_42_method_147_code, exceptionTable := #[], attributes := #[] }
def k7m6 : Method := { name := "getBytes", desc := "([BIB)V", sig := { parameters := [(.array .byte), .int, .byte], returnType := none }, accessFlags := 0, code := some k7c6 }
def k7c7 : Code := { maxStack := 4, maxLocals := 6, code := jdk_42_method_149_code, exceptionTable := #[], attributes := #[] }
def k7m7 : Method := { name := "<init>", desc := "([CIILjava/lang/Void;)V", sig := { parameters := [(.array .char), .int, .int, (.object "java/lang/Void")], returnType := none }, accessFlags := 2, code := some k7c7 }
def k7c8 : Code := { maxStack := 5, maxLocals := 5, code := jdk_42_method_150_code, exceptionTable := #[], attributes := #[] }
def k7m8 : Method := { name := "<init>", desc := "(Ljava/lang/AbstractStringBuilder;Ljava/lang/Void;)V", sig := { parameters := [(.object "java/lang/AbstractStringBuilder"), (.object "java/lang/Void")], returnType := none }, accessFlags := 0, code := some k7c8 }
def k7c9 : Code := { maxStack := 2, maxLocals := 3, code := jdk_42_method_151_code, exceptionTable := #[], attributes := #[] }
def k7m9 : Method := { name := "<init>", desc := "([BB)V", sig := { parameters := [(.array .byte), .byte], returnType := none }, accessFlags := 0, code := some k7c9 }
def k7c10 : Code := { maxStack := 1, maxLocals := 1, code := jdk_42_method_152_code, exceptionTable := #[], attributes := #[] }
def k7m10 : Method := { name := "coder", desc := "()B", sig := { parameters := [], returnType := some .byte }, accessFlags := 0, code := some k7c10 }
def k7c11 : Code := { maxStack := 1, maxLocals := 1, code := jdk_42_method_154_code, exceptionTable := #[], attributes := #[] }
def k7m11 : Method := { name := "isLatin1", desc := "()Z", sig := { parameters := [], returnType := some .boolean }, accessFlags := 0, code := some k7c11 }
def k7c12 : Code := { maxStack := 3, maxLocals := 2, code := jdk_42_method_155_code, exceptionTable := #[], attributes := #[] }
def k7m12 : Method := { name := "checkIndex", desc := "(II)V", sig := { parameters := [.int, .int], returnType := none }, accessFlags := 8, code := some k7c12 }
/-- java/lang/String -/
def k7 : Class := { plain "java/lang/String" (some 0) with
  accessFlags := 49
  interfaces := #[2, 3, 4, 5, 6]
  cf := some (fileOf pool7 10 #[.nestMembers #[1103]] #[{ accessFlags := 1, nameIndex := 5, descriptorIndex := 6, attributes := #[] }, { accessFlags := 1, nameIndex := 5, descriptorIndex := 1010, attributes := #[] }, { accessFlags := 1, nameIndex := 5, descriptorIndex := 1233, attributes := #[] }, { accessFlags := 1, nameIndex := 507, descriptorIndex := 334, attributes := #[] }, { accessFlags := 1, nameIndex := 497, descriptorIndex := 427, attributes := #[] }, { accessFlags := 9, nameIndex := 782, descriptorIndex := 783, attributes := #[] }, { accessFlags := 0, nameIndex := 532, descriptorIndex := 821, attributes := #[] }, { accessFlags := 2, nameIndex := 5, descriptorIndex := 29, attributes := #[] }, { accessFlags := 0, nameIndex := 5, descriptorIndex := 491, attributes := #[] }, { accessFlags := 0, nameIndex := 5, descriptorIndex := 211, attributes := #[] }, { accessFlags := 0, nameIndex := 17, descriptorIndex := 337, attributes := #[] }, { accessFlags := 0, nameIndex := 494, descriptorIndex := 142, attributes := #[] }, { accessFlags := 8, nameIndex := 501, descriptorIndex := 391, attributes := #[] }] 49 2 #[1106, 1108, 575, 1110, 1112] #[{ accessFlags := 18, nameIndex := 13, descriptorIndex := 14, attributes := #[] }, { accessFlags := 18, nameIndex := 17, descriptorIndex := 18, attributes := #[] }, { accessFlags := 2, nameIndex := 21, descriptorIndex := 22, attributes := #[] }, { accessFlags := 2, nameIndex := 25, descriptorIndex := 26, attributes := #[] }, { accessFlags := 26, nameIndex := 1116, descriptorIndex := 1117, attributes := #[] }, { accessFlags := 24, nameIndex := 40, descriptorIndex := 26, attributes := #[] }, { accessFlags := 26, nameIndex := 1101, descriptorIndex := 1102, attributes := #[] }, { accessFlags := 26, nameIndex := 1121, descriptorIndex := 1122, attributes := #[] }, { accessFlags := 25, nameIndex := 599, descriptorIndex := 600, attributes := #[] }, { accessFlags := 24, nameIndex := 1125, descriptorIndex := 18, attributes := #[] }, { accessFlags := 24, nameIndex := 1127, descriptorIndex := 18, attributes := #[] }])
  fields := #[{ name := "value", type := (.array .byte), accessFlags := 18, slot := 0, constantValue := 0 }, { name := "coder", type := .byte, accessFlags := 18, slot := 1, constantValue := 0 }, { name := "hash", type := .int, accessFlags := 2, slot := 2, constantValue := 0 }, { name := "hashIsZero", type := .boolean, accessFlags := 2, slot := 3, constantValue := 0 }, { name := "serialVersionUID", type := .long, accessFlags := 26, slot := 0, constantValue := 0 }, { name := "COMPACT_STRINGS", type := .boolean, accessFlags := 24, slot := 1, constantValue := 0 }, { name := "serialPersistentFields", type := (.array (.object "java/io/ObjectStreamField")), accessFlags := 26, slot := 2, constantValue := 0 }, { name := "REPL", type := .char, accessFlags := 26, slot := 3, constantValue := 0 }, { name := "CASE_INSENSITIVE_ORDER", type := (.object "java/util/Comparator"), accessFlags := 25, slot := 4, constantValue := 0 }, { name := "LATIN1", type := .byte, accessFlags := 24, slot := 5, constantValue := 0 }, { name := "UTF16", type := .byte, accessFlags := 24, slot := 6, constantValue := 0 }]
  methods := #[k7m0, k7m1, k7m2, k7m3, k7m4, k7m5, k7m6, k7m7, k7m8, k7m9, k7m10, k7m11, k7m12]
  instanceTypes := #[(.array .byte), .byte, .int, .boolean]
  staticTypes := #[.long, .boolean, (.array (.object "java/io/ObjectStreamField")), .char, (.object "java/util/Comparator"), .byte, .byte]
  resolved := Array.replicate 1451 none
  statics := some 0 }

def pool8 : Array CpInfo := pool [(6, .class_ 8), (1, u "java/lang/Object"), (0, u "<init>"), (0, u "()V"), (1, .class_ 14), (1, u "java/lang/StringUTF16"), (31, u "$assertionsDisabled"), (0, u "Z"), (13, u "HI_BYTE_SHIFT"), (0, u "I"), (2, u "LO_BYTE_SHIFT"), (49, .methodref 12 116), (0, .nameAndType 117 118), (0, u "compress"), (0, u "([CI[BII)I"), (3, u "([CII)[B"), (138, u "coderFromArrayLen"), (0, u "([BI)B"), (106, .class_ 371), (1, u "java/lang/StringUTF16$LinesSpliterator"), (58, u "MAX_LENGTH"), (196, .class_ 628), (0, u "java/lang/StringUTF16$CodePointsSpliterator"), (0, .class_ 630), (0, u "java/lang/StringUTF16$CharsSpliterator")] 4

def k8m0 : Method := { name := "<init>", desc := "()V", sig := { parameters := [], returnType := none }, accessFlags := 0, code := none }
def k8c1 : Code := { maxStack := 2, maxLocals := 2, code := jdk_52_method_15_code, exceptionTable := #[], attributes := #[] }
def k8m1 : Method := { name := "coderFromArrayLen", desc := "([BI)B", sig := { parameters := [(.array .byte), .int], returnType := some .byte }, accessFlags := 8, code := some k8c1 }
def k8c2 : Code := { maxStack := 5, maxLocals := 6, code := jdk_52_method_16_code, exceptionTable := #[], attributes := #[] }
def k8m2 : Method := { name := "compress", desc := "([CII)[B", sig := { parameters := [(.array .char), .int, .int], returnType := some (.array .byte) }, accessFlags := 9, code := some k8c2 }
def k8c3 : Code := { maxStack := 3, maxLocals := 7, code := jdk_52_method_21_code, exceptionTable := #[], attributes := #[] }
def k8m3 : Method := { name := "compress", desc := "([CI[BII)I", sig := { parameters := [(.array .char), .int, (.array .byte), .int, .int], returnType := some .int }, accessFlags := 9, code := some k8c3 }
/-- java/lang/StringUTF16 -/
def k8 : Class := { plain "java/lang/StringUTF16" (some 0) with
  accessFlags := 48
  interfaces := #[]
  cf := some (fileOf pool8 12 #[.nestMembers #[627, 629, 369]] #[{ accessFlags := 0, nameIndex := 9, descriptorIndex := 10, attributes := #[] }, { accessFlags := 8, nameIndex := 261, descriptorIndex := 262, attributes := #[] }, { accessFlags := 9, nameIndex := 117, descriptorIndex := 122, attributes := #[] }, { accessFlags := 9, nameIndex := 117, descriptorIndex := 118, attributes := #[] }] 48 6 #[] #[{ accessFlags := 26, nameIndex := 61, descriptorIndex := 62, attributes := #[] }, { accessFlags := 26, nameIndex := 65, descriptorIndex := 62, attributes := #[] }, { accessFlags := 24, nameIndex := 430, descriptorIndex := 62, attributes := #[] }, { accessFlags := 4120, nameIndex := 46, descriptorIndex := 47, attributes := #[] }])
  fields := #[{ name := "HI_BYTE_SHIFT", type := .int, accessFlags := 26, slot := 0, constantValue := 0 }, { name := "LO_BYTE_SHIFT", type := .int, accessFlags := 26, slot := 1, constantValue := 0 }, { name := "MAX_LENGTH", type := .int, accessFlags := 24, slot := 2, constantValue := 0 }, { name := "$assertionsDisabled", type := .boolean, accessFlags := 4120, slot := 3, constantValue := 0 }]
  methods := #[k8m0, k8m1, k8m2, k8m3]
  instanceTypes := #[]
  staticTypes := #[.int, .int, .int, .boolean]
  resolved := Array.replicate 635 none
  statics := none }

def pool9 : Array CpInfo := pool [(1, .methodref 2 3), (0, .class_ 4), (0, .nameAndType 5 6), (0, u "java/lang/Object"), (0, u "<init>"), (0, u "()V"), (0, .class_ 8), (0, u "java/lang/Record")] 13

def k9c0 : Code := { maxStack := 1, maxLocals := 1, code := jdk_30_method_1_code, exceptionTable := #[], attributes := #[] }
def k9m0 : Method := { name := "<init>", desc := "()V", sig := { parameters := [], returnType := none }, accessFlags := 4, code := some k9c0 }
/-- java/lang/Record -/
def k9 : Class := { plain "java/lang/Record" (some 0) with
  accessFlags := 1057
  interfaces := #[]
  cf := some (fileOf pool9 7 #[] #[{ accessFlags := 4, nameIndex := 5, descriptorIndex := 6, attributes := #[] }] 1057 2 #[] #[])
  fields := #[]
  methods := #[k9m0]
  instanceTypes := #[]
  staticTypes := #[]
  resolved := Array.replicate 22 none
  statics := none }

def pool10 : Array CpInfo := pool [(1, .methodref 2 3), (0, .class_ 4), (0, .nameAndType 5 6), (0, u "java/lang/Record"), (0, u "<init>"), (0, u "()V"), (0, .fieldref 8 9), (0, .class_ 10), (0, .nameAndType 11 12), (0, u "com/example/lazo/lazo/mapping/SqlName"), (0, u "text"), (0, u "Ljava/lang/String;"), (0, .fieldref 8 14), (0, .nameAndType 15 16), (0, u "quoted"), (0, u "Z"), (25, .methodref 8 43), (0, .nameAndType 5 44), (0, u "(Ljava/lang/String;Z)V"), (5, .nameAndType 51 52), (0, u "toString"), (0, u "()Ljava/lang/String;"), (6, .class_ 60), (0, u "java/lang/StringBuilder"), (0, .methodref 59 3), (2, .methodref 59 65), (0, .nameAndType 66 67), (0, u "append"), (0, u "(Ljava/lang/String;)Ljava/lang/StringBuilder;"), (2, .methodref 59 50), (10, u "QUOTE"), (5, u "(Ljava/lang/String;)Lcom/example/lazo/lazo/mapping/SqlName;"), (1, u "suffixed"), (0, u "()Z")] 21

def k10c0 : Code := { maxStack := 2, maxLocals := 3, code := prog_16_method_1_code, exceptionTable := #[], attributes := #[] }
def k10m0 : Method := { name := "<init>", desc := "(Ljava/lang/String;Z)V", sig := { parameters := [(.object "java/lang/String"), .boolean], returnType := none }, accessFlags := 1, code := some k10c0 }
def k10c1 : Code := { maxStack := 4, maxLocals := 2, code := prog_16_method_3_code, exceptionTable := #[], attributes := #[] }
def k10m1 : Method := { name := "suffixed", desc := "(Ljava/lang/String;)Lcom/example/lazo/lazo/mapping/SqlName;", sig := { parameters := [(.object "java/lang/String")], returnType := some (.object "com/example/lazo/lazo/mapping/SqlName") }, accessFlags := 1, code := some k10c1 }
def k10c2 : Code := { maxStack := 1, maxLocals := 1, code := prog_16_method_7_code, exceptionTable := #[], attributes := #[] }
def k10m2 : Method := { name := "text", desc := "()Ljava/lang/String;", sig := { parameters := [], returnType := some (.object "java/lang/String") }, accessFlags := 1, code := some k10c2 }
def k10c3 : Code := { maxStack := 1, maxLocals := 1, code := prog_16_method_8_code, exceptionTable := #[], attributes := #[] }
def k10m3 : Method := { name := "quoted", desc := "()Z", sig := { parameters := [], returnType := some .boolean }, accessFlags := 1, code := some k10c3 }
/-- com/example/lazo/lazo/mapping/SqlName -/
def k10 : Class := { plain "com/example/lazo/lazo/mapping/SqlName" (some 9) with
  accessFlags := 49
  interfaces := #[]
  cf := some (fileOf pool10 8 #[] #[{ accessFlags := 1, nameIndex := 5, descriptorIndex := 44, attributes := #[] }, { accessFlags := 1, nameIndex := 89, descriptorIndex := 87, attributes := #[] }, { accessFlags := 1, nameIndex := 11, descriptorIndex := 52, attributes := #[] }, { accessFlags := 1, nameIndex := 15, descriptorIndex := 90, attributes := #[] }] 49 2 #[] #[{ accessFlags := 18, nameIndex := 11, descriptorIndex := 12, attributes := #[] }, { accessFlags := 18, nameIndex := 15, descriptorIndex := 16, attributes := #[] }, { accessFlags := 26, nameIndex := 81, descriptorIndex := 12, attributes := #[] }])
  fields := #[{ name := "text", type := (.object "java/lang/String"), accessFlags := 18, slot := 0, constantValue := 0 }, { name := "quoted", type := .boolean, accessFlags := 18, slot := 1, constantValue := 0 }, { name := "QUOTE", type := (.object "java/lang/String"), accessFlags := 26, slot := 0, constantValue := 0 }]
  methods := #[k10m0, k10m1, k10m2, k10m3]
  instanceTypes := #[(.object "java/lang/String"), .boolean]
  staticTypes := #[(.object "java/lang/String")]
  resolved := Array.replicate 112 none
  statics := none }

def pool11 : Array CpInfo := pool [(1, .class_ 2), (0, u "java/lang/Appendable"), (0, .class_ 4), (0, u "java/lang/Object")] 9

/-- java/lang/Appendable -/
def k11 : Class := { plain "java/lang/Appendable" (some 0) with
  accessFlags := 1537
  interfaces := #[]
  cf := some (fileOf pool11 1 #[] #[] 1537 3 #[] #[])
  fields := #[]
  methods := #[]
  instanceTypes := #[]
  staticTypes := #[]
  resolved := Array.replicate 14 none
  statics := none }

def pool12 : Array CpInfo := pool [(1, .class_ 2), (0, u "java/lang/String"), (0, .methodref 4 5), (0, .class_ 6), (0, .nameAndType 7 8), (0, u "java/lang/Object"), (0, u "<init>"), (0, u "()V"), (1, .class_ 12), (1, u "java/lang/AbstractStringBuilder"), (0, u "EMPTYVALUE"), (0, u "[B"), (0, .fieldref 10 16), (0, .nameAndType 17 14), (0, u "value"), (0, .fieldref 1 19), (0, .nameAndType 20 21), (0, u "COMPACT_STRINGS"), (0, u "Z"), (0, .fieldref 10 23), (0, .nameAndType 24 25), (0, u "coder"), (0, u "B"), (6, .methodref 1 33), (0, .nameAndType 34 35), (0, u "length"), (0, u "()I"), (4, .methodref 1 41), (0, .nameAndType 24 42), (0, u "()B"), (2, u "append"), (0, u "(Ljava/lang/String;)Ljava/lang/AbstractStringBuilder;"), (1, .class_ 49), (0, u "java/lang/CharSequence"), (19, u "(Ljava/lang/String;)V"), (5, u "maybeLatin1"), (3, .fieldref 10 80), (0, .nameAndType 81 82), (0, u "count"), (0, u "I"), (2, u "isLatin1"), (0, u "()Z"), (13, .methodref 10 101), (0, .nameAndType 102 103), (0, u "ensureCapacityInternal"), (0, u "(I)V"), (104, .methodref 10 209), (0, .nameAndType 210 211), (0, u "putStringAt"), (0, u "(ILjava/lang/String;)V"), (5, u "inflateIfNeededFor"), (2, .nameAndType 221 222), (0, u "getBytes"), (0, u "([BIB)V"), (174, .methodref 10 398), (0, .nameAndType 217 69), (0, .methodref 1 220), (3, u "()[B"), (40, .class_ 445), (0, u "java/lang/Appendable"), (106, u "getValue")] 56

def k12m0 : Method := { name := "<init>", desc := "()V", sig := { parameters := [], returnType := none }, accessFlags := 0, code := none }
def k12c1 : Code := { maxStack := 2, maxLocals := 2, code := jdk_68_method_2_code, exceptionTable := #[], attributes := #[] }
def k12m1 : Method := { name := "<init>", desc := "(I)V", sig := { parameters := [.int], returnType := none }, accessFlags := 0, code := some k12c1 }
def k12c2 : Code := { maxStack := 1, maxLocals := 1, code := jdk_68_method_6_code, exceptionTable := #[], attributes := #[] }
def k12m2 : Method := { name := "length", desc := "()I", sig := { parameters := [], returnType := some .int }, accessFlags := 1, code := some k12c2 }
def k12c3 : Code := { maxStack := 4, maxLocals := 3, code := jdk_68_method_9_code, exceptionTable := #[], attributes := #[] }
def k12m3 : Method := { name := "ensureCapacityInternal", desc := "(I)V", sig := { parameters := [.int], returnType := none }, accessFlags := 2, code := some k12c3 }
def k12c4 : Code := { maxStack := 3, maxLocals := 3, code := jdk_68_method_22_code, exceptionTable := #[], attributes := #[] }
def k12m4 : Method := { name := "append", desc := "(Ljava/lang/String;)Ljava/lang/AbstractStringBuilder;", sig := { parameters := [(.object "java/lang/String")], returnType := some (.object "java/lang/AbstractStringBuilder") }, accessFlags := 1, code := some k12c4 }
def k12c5 : Code := { maxStack := 1, maxLocals := 1, code := jdk_68_method_64_code, exceptionTable := #[], attributes := #[] }
def k12m5 : Method := { name := "getValue", desc := "()[B", sig := { parameters := [], returnType := some (.array .byte) }, accessFlags := 16, code := some k12c5 }
def k12c6 : Code := { maxStack := 1, maxLocals := 1, code := jdk_68_method_68_code, exceptionTable := #[], attributes := #[] }
def k12m6 : Method := { name := "isLatin1", desc := "()Z", sig := { parameters := [], returnType := some .boolean }, accessFlags := 16, code := some k12c6 }
def k12c7 : Code := { maxStack := 2, maxLocals := 2, code := jdk_68_method_71_code, exceptionTable := #[], attributes := #[] }
def k12m7 : Method := { name := "inflateIfNeededFor", desc := "(Ljava/lang/String;)V", sig := { parameters := [(.object "java/lang/String")], returnType := none }, accessFlags := 2, code := some k12c7 }
def k12c8 : Code := { maxStack := 4, maxLocals := 3, code := jdk_68_method_73_code, exceptionTable := #[], attributes := #[] }
def k12m8 : Method := { name := "putStringAt", desc := "(ILjava/lang/String;)V", sig := { parameters := [.int, (.object "java/lang/String")], returnType := none }, accessFlags := 2, code := some k12c8 }
/-- java/lang/AbstractStringBuilder -/
def k12 : Class := { plain "java/lang/AbstractStringBuilder" (some 0) with
  accessFlags := 1056
  interfaces := #[11, 4]
  cf := some (fileOf pool12 10 #[] #[{ accessFlags := 0, nameIndex := 7, descriptorIndex := 8, attributes := #[] }, { accessFlags := 0, nameIndex := 7, descriptorIndex := 103, attributes := #[] }, { accessFlags := 1, nameIndex := 34, descriptorIndex := 35, attributes := #[] }, { accessFlags := 2, nameIndex := 102, descriptorIndex := 103, attributes := #[] }, { accessFlags := 1, nameIndex := 45, descriptorIndex := 46, attributes := #[] }, { accessFlags := 16, nameIndex := 552, descriptorIndex := 403, attributes := #[] }, { accessFlags := 16, nameIndex := 85, descriptorIndex := 86, attributes := #[] }, { accessFlags := 2, nameIndex := 217, descriptorIndex := 69, attributes := #[] }, { accessFlags := 2, nameIndex := 210, descriptorIndex := 211, attributes := #[] }] 1056 4 #[444, 48] #[{ accessFlags := 0, nameIndex := 17, descriptorIndex := 14, attributes := #[] }, { accessFlags := 0, nameIndex := 24, descriptorIndex := 25, attributes := #[] }, { accessFlags := 0, nameIndex := 75, descriptorIndex := 21, attributes := #[] }, { accessFlags := 0, nameIndex := 81, descriptorIndex := 82, attributes := #[] }, { accessFlags := 26, nameIndex := 13, descriptorIndex := 14, attributes := #[] }])
  fields := #[{ name := "value", type := (.array .byte), accessFlags := 0, slot := 0, constantValue := 0 }, { name := "coder", type := .byte, accessFlags := 0, slot := 1, constantValue := 0 }, { name := "maybeLatin1", type := .boolean, accessFlags := 0, slot := 2, constantValue := 0 }, { name := "count", type := .int, accessFlags := 0, slot := 3, constantValue := 0 }, { name := "EMPTYVALUE", type := (.array .byte), accessFlags := 26, slot := 0, constantValue := 0 }]
  methods := #[k12m0, k12m1, k12m2, k12m3, k12m4, k12m5, k12m6, k12m7, k12m8]
  instanceTypes := #[(.array .byte), .byte, .boolean, .int]
  staticTypes := #[(.array .byte)]
  resolved := Array.replicate 609 none
  statics := none }

def pool13 : Array CpInfo := pool [(1, .methodref 2 3), (0, .class_ 4), (0, .nameAndType 5 6), (0, u "java/lang/AbstractStringBuilder"), (0, u "<init>"), (0, u "(I)V"), (11, .class_ 20), (1, u "java/lang/String"), (3, .class_ 26), (1, u "java/lang/StringBuilder"), (0, u "append"), (0, u "(Ljava/lang/String;)Ljava/lang/StringBuilder;"), (0, .methodref 2 30), (0, .nameAndType 27 31), (0, u "(Ljava/lang/String;)Ljava/lang/AbstractStringBuilder;"), (105, .methodref 18 138), (0, .nameAndType 5 139), (0, u "(Ljava/lang/StringBuilder;)V"), (5, u "()V"), (10, u "()I"), (186, .methodref 2 344), (0, .nameAndType 345 156), (0, u "length"), (3, .class_ 350), (0, u "java/lang/Appendable"), (0, .class_ 352), (0, u "java/io/Serializable"), (0, .class_ 354), (0, u "java/lang/Comparable"), (0, .class_ 356), (0, u "java/lang/CharSequence"), (0, u "serialVersionUID"), (0, u "J"), (40, u "toString"), (0, u "()Ljava/lang/String;")] 21

def k13c0 : Code := { maxStack := 2, maxLocals := 1, code := jdk_67_method_1_code, exceptionTable := #[], attributes := #[] }
def k13m0 : Method := { name := "<init>", desc := "()V", sig := { parameters := [], returnType := none }, accessFlags := 1, code := some k13c0 }
def k13c1 : Code := { maxStack := 2, maxLocals := 2, code := jdk_67_method_7_code, exceptionTable := #[], attributes := #[] }
def k13m1 : Method := { name := "append", desc := "(Ljava/lang/String;)Ljava/lang/StringBuilder;", sig := { parameters := [(.object "java/lang/String")], returnType := some (.object "java/lang/StringBuilder") }, accessFlags := 1, code := some k13c1 }
def k13c2 : Code := { maxStack := 3, maxLocals := 1, code := jdk_67_method_42_code, exceptionTable := #[], attributes := #[] }
def k13m2 : Method := { name := "toString", desc := "()Ljava/lang/String;", sig := { parameters := [], returnType := some (.object "java/lang/String") }, accessFlags := 1, code := some k13c2 }
def k13c3 : Code := { maxStack := 1, maxLocals := 1, code := jdk_67_method_93_code, exceptionTable := #[], attributes := #[] }
def k13m3 : Method := { name := "length", desc := "()I", sig := { parameters := [], returnType := some .int }, accessFlags := 4161, code := some k13c3 }
/-- java/lang/StringBuilder -/
def k13 : Class := { plain "java/lang/StringBuilder" (some 12) with
  accessFlags := 49
  interfaces := #[11, 2, 3, 4]
  cf := some (fileOf pool13 24 #[] #[{ accessFlags := 1, nameIndex := 5, descriptorIndex := 145, attributes := #[] }, { accessFlags := 1, nameIndex := 27, descriptorIndex := 28, attributes := #[] }, { accessFlags := 1, nameIndex := 399, descriptorIndex := 400, attributes := #[] }, { accessFlags := 4161, nameIndex := 345, descriptorIndex := 156, attributes := #[] }] 49 2 #[349, 351, 353, 355] #[{ accessFlags := 24, nameIndex := 357, descriptorIndex := 358, attributes := #[] }])
  fields := #[{ name := "serialVersionUID", type := .long, accessFlags := 24, slot := 0, constantValue := 0 }]
  methods := #[k13m0, k13m1, k13m2, k13m3]
  instanceTypes := #[(.array .byte), .byte, .boolean, .int]
  staticTypes := #[.long]
  resolved := Array.replicate 422 none
  statics := none }

def pool14 : Array CpInfo := pool [(2, .class_ 4), (1, u "java/lang/Object"), (0, u "<init>"), (0, u "()V"), (1, .class_ 10), (1, u "java/lang/System"), (0, u "allowSecurityManager"), (0, u "I"), (16, u "cons"), (0, u "Ljava/io/Console;"), (77, .class_ 110), (1, u "java/lang/System$CallersHolder"), (43, u "initialErrStream"), (0, u "Ljava/io/PrintStream;"), (19, u "security"), (0, u "Ljava/lang/SecurityManager;"), (31, .class_ 209), (0, u "java/lang/System$1"), (7, u "props"), (0, u "Ljava/util/Properties;"), (2, u "lineSeparator"), (0, u "Ljava/lang/String;"), (96, .class_ 321), (1, u "java/lang/System$LoggerFinder"), (5, .class_ 328), (0, u "java/lang/System$Logger"), (67, u "err"), (2, u "out"), (91, u "notSupportedJnuEncoding"), (15, u "in"), (17, u "initialIn"), (0, u "Ljava/io/InputStream;"), (35, u "bootLayer"), (0, u "Ljava/lang/ModuleLayer;"), (99, .class_ 664), (0, u "java/lang/System$2"), (9, u "NEVER"), (2, u "MAYBE"), (49, u "arraycopy"), (0, u "(Ljava/lang/Object;ILjava/lang/Object;II)V"), (72, .class_ 802), (0, u "java/lang/System$Logger$Level")] 31

def k14m0 : Method := { name := "<init>", desc := "()V", sig := { parameters := [], returnType := none }, accessFlags := 2, code := none }
def k14m1 : Method := { name := "arraycopy", desc := "(Ljava/lang/Object;ILjava/lang/Object;II)V", sig := { parameters := [(.object "java/lang/Object"), .int, (.object "java/lang/Object"), .int, .int], returnType := none }, accessFlags := 265, code := none }
/-- java/lang/System -/
def k14 : Class := { plain "java/lang/System" (some 0) with
  accessFlags := 49
  interfaces := #[]
  cf := some (fileOf pool14 8 #[.nestMembers #[319, 327, 801, 108, 663, 208]] #[{ accessFlags := 2, nameIndex := 5, descriptorIndex := 6, attributes := #[] }, { accessFlags := 265, nameIndex := 727, descriptorIndex := 728, attributes := #[] }] 49 2 #[] #[{ accessFlags := 25, nameIndex := 507, descriptorIndex := 526, attributes := #[] }, { accessFlags := 25, nameIndex := 399, descriptorIndex := 155, attributes := #[] }, { accessFlags := 25, nameIndex := 396, descriptorIndex := 155, attributes := #[] }, { accessFlags := 10, nameIndex := 525, descriptorIndex := 526, attributes := #[] }, { accessFlags := 26, nameIndex := 674, descriptorIndex := 12, attributes := #[] }, { accessFlags := 26, nameIndex := 677, descriptorIndex := 12, attributes := #[] }, { accessFlags := 10, nameIndex := 11, descriptorIndex := 12, attributes := #[] }, { accessFlags := 74, nameIndex := 175, descriptorIndex := 176, attributes := #[] }, { accessFlags := 10, nameIndex := 491, descriptorIndex := 222, attributes := #[] }, { accessFlags := 74, nameIndex := 29, descriptorIndex := 30, attributes := #[] }, { accessFlags := 74, nameIndex := 154, descriptorIndex := 155, attributes := #[] }, { accessFlags := 10, nameIndex := 217, descriptorIndex := 218, attributes := #[] }, { accessFlags := 10, nameIndex := 221, descriptorIndex := 222, attributes := #[] }, { accessFlags := 8, nameIndex := 562, descriptorIndex := 563, attributes := #[] }])
  fields := #[{ name := "in", type := (.object "java/io/InputStream"), accessFlags := 25, slot := 0, constantValue := 0 }, { name := "out", type := (.object "java/io/PrintStream"), accessFlags := 25, slot := 1, constantValue := 0 }, { name := "err", type := (.object "java/io/PrintStream"), accessFlags := 25, slot := 2, constantValue := 0 }, { name := "initialIn", type := (.object "java/io/InputStream"), accessFlags := 10, slot := 3, constantValue := 0 }, { name := "NEVER", type := .int, accessFlags := 26, slot := 4, constantValue := 0 }, { name := "MAYBE", type := .int, accessFlags := 26, slot := 5, constantValue := 0 }, { name := "allowSecurityManager", type := .int, accessFlags := 10, slot := 6, constantValue := 0 }, { name := "security", type := (.object "java/lang/SecurityManager"), accessFlags := 74, slot := 7, constantValue := 0 }, { name := "notSupportedJnuEncoding", type := (.object "java/lang/String"), accessFlags := 10, slot := 8, constantValue := 0 }, { name := "cons", type := (.object "java/io/Console"), accessFlags := 74, slot := 9, constantValue := 0 }, { name := "initialErrStream", type := (.object "java/io/PrintStream"), accessFlags := 74, slot := 10, constantValue := 0 }, { name := "props", type := (.object "java/util/Properties"), accessFlags := 10, slot := 11, constantValue := 0 }, { name := "lineSeparator", type := (.object "java/lang/String"), accessFlags := 10, slot := 12, constantValue := 0 }, { name := "bootLayer", type := (.object "java/lang/ModuleLayer"), accessFlags := 8, slot := 13, constantValue := 0 }]
  methods := #[k14m0, k14m1]
  instanceTypes := #[]
  staticTypes := #[(.object "java/io/InputStream"), (.object "java/io/PrintStream"), (.object "java/io/PrintStream"), (.object "java/io/InputStream"), .int, .int, .int, (.object "java/lang/SecurityManager"), (.object "java/lang/String"), (.object "java/io/Console"), (.object "java/io/PrintStream"), (.object "java/util/Properties"), (.object "java/lang/String"), (.object "java/lang/ModuleLayer")]
  resolved := Array.replicate 834 none
  statics := none }

def pool15 : Array CpInfo := pool [(2, .class_ 4), (1, u "java/lang/Object"), (0, u "<init>"), (0, u "()V"), (7, .class_ 16), (1, u "java/util/Arrays"), (57, .class_ 76), (1, u "java/util/Arrays$NaturalOrder"), (36, .class_ 115), (1, u "java/util/Arrays$LegacyMergeSort"), (1, u "Z"), (21, u "copyOfRange"), (10, .methodref 151 152), (0, .class_ 153), (0, .nameAndType 154 155), (0, u "java/lang/System"), (0, u "arraycopy"), (0, u "(Ljava/lang/Object;ILjava/lang/Object;II)V"), (148, .methodref 305 306), (0, .class_ 307), (0, .nameAndType 308 309), (0, u "java/lang/Math"), (0, u "min"), (0, u "(II)I"), (29, .methodref 14 340), (0, .nameAndType 341 342), (0, u "copyOfRangeByte"), (0, u "([BII)[B"), (0, .methodref 14 344), (0, .nameAndType 345 346), (0, u "checkLength"), (0, u "(II)V"), (28, .class_ 376), (0, u "java/util/Arrays$ArrayList"), (68, u "$assertionsDisabled"), (269, u "MIN_ARRAY_SORT_GRAN"), (0, u "I"), (2, u "INSERTIONSORT_THRESHOLD"), (255, .class_ 976), (0, u "java/util/Arrays$ArrayItr")] 52

def k15m0 : Method := { name := "<init>", desc := "()V", sig := { parameters := [], returnType := none }, accessFlags := 2, code := none }
def k15c1 : Code := { maxStack := 4, maxLocals := 2, code := jdk_65_method_131_code, exceptionTable := #[], attributes := #[] }
def k15m1 : Method := { name := "checkLength", desc := "(II)V", sig := { parameters := [.int, .int], returnType := none }, accessFlags := 10, code := some k15c1 }
def k15c2 : Code := { maxStack := 3, maxLocals := 3, code := jdk_65_method_132_code, exceptionTable := #[], attributes := #[] }
def k15m2 : Method := { name := "copyOfRange", desc := "([BII)[B", sig := { parameters := [(.array .byte), .int, .int], returnType := some (.array .byte) }, accessFlags := 9, code := some k15c2 }
def k15c3 : Code := { maxStack := 6, maxLocals := 5, code := jdk_65_method_133_code, exceptionTable := #[], attributes := #[] }
def k15m3 : Method := { name := "copyOfRangeByte", desc := "([BII)[B", sig := { parameters := [(.array .byte), .int, .int], returnType := some (.array .byte) }, accessFlags := 10, code := some k15c3 }
/-- java/util/Arrays -/
def k15 : Class := { plain "java/util/Arrays" (some 0) with
  accessFlags := 49
  interfaces := #[]
  cf := some (fileOf pool15 14 #[.nestMembers #[975, 375, 113, 74]] #[{ accessFlags := 2, nameIndex := 5, descriptorIndex := 6, attributes := #[] }, { accessFlags := 10, nameIndex := 345, descriptorIndex := 346, attributes := #[] }, { accessFlags := 9, nameIndex := 139, descriptorIndex := 342, attributes := #[] }, { accessFlags := 10, nameIndex := 341, descriptorIndex := 342, attributes := #[] }] 49 2 #[] #[{ accessFlags := 26, nameIndex := 715, descriptorIndex := 716, attributes := #[] }, { accessFlags := 26, nameIndex := 719, descriptorIndex := 716, attributes := #[] }, { accessFlags := 4120, nameIndex := 445, descriptorIndex := 117, attributes := #[] }])
  fields := #[{ name := "MIN_ARRAY_SORT_GRAN", type := .int, accessFlags := 26, slot := 0, constantValue := 0 }, { name := "INSERTIONSORT_THRESHOLD", type := .int, accessFlags := 26, slot := 1, constantValue := 0 }, { name := "$assertionsDisabled", type := .boolean, accessFlags := 4120, slot := 2, constantValue := 0 }]
  methods := #[k15m0, k15m1, k15m2, k15m3]
  instanceTypes := #[]
  staticTypes := #[.int, .int, .boolean]
  resolved := Array.replicate 1029 none
  statics := none }

def pool16 : Array CpInfo := pool [(1, .class_ 2), (0, u "java/lang/Math"), (1, .class_ 6), (1, u "java/lang/Object"), (0, u "<init>"), (0, u "()V"), (89, .class_ 100), (1, u "java/lang/Math$RandomNumberGeneratorHolder"), (71, u "negativeZeroFloatBits"), (0, u "J"), (2, u "negativeZeroDoubleBits"), (24, u "min"), (43, u "$assertionsDisabled"), (0, u "Z"), (88, u "(II)I"), (2, u "twoToTheDoubleScaleDown"), (0, u "D"), (4, u "twoToTheDoubleScaleUp"), (9, u "E"), (3, u "PI"), (2, u "TAU"), (2, u "DEGREES_TO_RADIANS"), (0, u "RADIANS_TO_DEGREES")] 94

def k16m0 : Method := { name := "<init>", desc := "()V", sig := { parameters := [], returnType := none }, accessFlags := 2, code := none }
def k16c1 : Code := { maxStack := 2, maxLocals := 2, code := jdk_29_method_69_code, exceptionTable := #[], attributes := #[] }
def k16m1 : Method := { name := "min", desc := "(II)I", sig := { parameters := [.int, .int], returnType := some .int }, accessFlags := 9, code := some k16c1 }
/-- java/lang/Math -/
def k16 : Class := { plain "java/lang/Math" (some 0) with
  accessFlags := 49
  interfaces := #[]
  cf := some (fileOf pool16 1 #[.nestMembers #[98]] #[{ accessFlags := 2, nameIndex := 7, descriptorIndex := 8, attributes := #[] }, { accessFlags := 9, nameIndex := 201, descriptorIndex := 335, attributes := #[] }] 49 4 #[] #[{ accessFlags := 25, nameIndex := 354, descriptorIndex := 339, attributes := #[] }, { accessFlags := 25, nameIndex := 358, descriptorIndex := 339, attributes := #[] }, { accessFlags := 25, nameIndex := 361, descriptorIndex := 339, attributes := #[] }, { accessFlags := 26, nameIndex := 364, descriptorIndex := 339, attributes := #[] }, { accessFlags := 26, nameIndex := 365, descriptorIndex := 339, attributes := #[] }, { accessFlags := 26, nameIndex := 172, descriptorIndex := 173, attributes := #[] }, { accessFlags := 26, nameIndex := 176, descriptorIndex := 173, attributes := #[] }, { accessFlags := 8, nameIndex := 344, descriptorIndex := 339, attributes := #[] }, { accessFlags := 8, nameIndex := 338, descriptorIndex := 339, attributes := #[] }, { accessFlags := 4120, nameIndex := 245, descriptorIndex := 246, attributes := #[] }])
  fields := #[{ name := "E", type := .double, accessFlags := 25, slot := 0, constantValue := 0 }, { name := "PI", type := .double, accessFlags := 25, slot := 1, constantValue := 0 }, { name := "TAU", type := .double, accessFlags := 25, slot := 2, constantValue := 0 }, { name := "DEGREES_TO_RADIANS", type := .double, accessFlags := 26, slot := 3, constantValue := 0 }, { name := "RADIANS_TO_DEGREES", type := .double, accessFlags := 26, slot := 4, constantValue := 0 }, { name := "negativeZeroFloatBits", type := .long, accessFlags := 26, slot := 5, constantValue := 0 }, { name := "negativeZeroDoubleBits", type := .long, accessFlags := 26, slot := 6, constantValue := 0 }, { name := "twoToTheDoubleScaleUp", type := .double, accessFlags := 8, slot := 7, constantValue := 0 }, { name := "twoToTheDoubleScaleDown", type := .double, accessFlags := 8, slot := 8, constantValue := 0 }, { name := "$assertionsDisabled", type := .boolean, accessFlags := 4120, slot := 9, constantValue := 0 }]
  methods := #[k16m0, k16m1]
  instanceTypes := #[]
  staticTypes := #[.double, .double, .double, .double, .double, .long, .long, .double, .double, .boolean]
  resolved := Array.replicate 460 none
  statics := none }

def pool17 : Array CpInfo := pool [(1, .class_ 2), (0, u "java/lang/String"), (1, .class_ 6), (1, u "java/lang/Object"), (0, u "<init>"), (0, u "()V"), (0, .methodref 1 10), (0, .nameAndType 11 12), (0, u "checkIndex"), (0, u "(II)V"), (1, .class_ 16), (1, u "java/lang/StringLatin1"), (36, u "([BI)C"), (36, u "canEncode"), (14, u "(C)Z"), (15, u "$assertionsDisabled"), (0, u "Z"), (98, .class_ 223), (1, u "java/lang/StringLatin1$LinesSpliterator"), (28, u "charAt"), (127, u "toBytes"), (1, u "(C)[B"), (7, .class_ 391), (0, u "java/lang/StringLatin1$CharsSpliterator")] 3

def k17m0 : Method := { name := "<init>", desc := "()V", sig := { parameters := [], returnType := none }, accessFlags := 0, code := none }
def k17c1 : Code := { maxStack := 2, maxLocals := 2, code := jdk_43_method_2_code, exceptionTable := #[], attributes := #[] }
def k17m1 : Method := { name := "charAt", desc := "([BI)C", sig := { parameters := [(.array .byte), .int], returnType := some .char }, accessFlags := 9, code := some k17c1 }
def k17c2 : Code := { maxStack := 2, maxLocals := 1, code := jdk_43_method_3_code, exceptionTable := #[], attributes := #[] }
def k17m2 : Method := { name := "canEncode", desc := "(C)Z", sig := { parameters := [.char], returnType := some .boolean }, accessFlags := 9, code := some k17c2 }
def k17c3 : Code := { maxStack := 4, maxLocals := 1, code := jdk_43_method_46_code, exceptionTable := #[], attributes := #[] }
def k17m3 : Method := { name := "toBytes", desc := "(C)[B", sig := { parameters := [.char], returnType := some (.array .byte) }, accessFlags := 9, code := some k17c3 }
/-- java/lang/StringLatin1 -/
def k17 : Class := { plain "java/lang/StringLatin1" (some 0) with
  accessFlags := 48
  interfaces := #[]
  cf := some (fileOf pool17 14 #[.nestMembers #[390, 221]] #[{ accessFlags := 0, nameIndex := 7, descriptorIndex := 8, attributes := #[] }, { accessFlags := 9, nameIndex := 252, descriptorIndex := 53, attributes := #[] }, { accessFlags := 9, nameIndex := 90, descriptorIndex := 105, attributes := #[] }, { accessFlags := 9, nameIndex := 380, descriptorIndex := 382, attributes := #[] }] 48 4 #[] #[{ accessFlags := 4120, nameIndex := 121, descriptorIndex := 122, attributes := #[] }])
  fields := #[{ name := "$assertionsDisabled", type := .boolean, accessFlags := 4120, slot := 0, constantValue := 0 }]
  methods := #[k17m0, k17m1, k17m2, k17m3]
  instanceTypes := #[]
  staticTypes := #[.boolean]
  resolved := Array.replicate 395 none
  statics := none }

def pool18 : Array CpInfo := pool [(2, .class_ 4), (1, u "java/lang/Object"), (0, u "<init>"), (0, u "()V"), (17, .class_ 26), (1, u "jdk/internal/util/Preconditions"), (6, u "checkIndex"), (21, .class_ 56), (0, u "jdk/internal/util/Preconditions$4"), (57, .class_ 115), (0, u "jdk/internal/util/Preconditions$1"), (7, u "SIOOBE_FORMATTER"), (0, u "Ljava/util/function/BiFunction;"), (0, .class_ 126), (0, u "jdk/internal/util/Preconditions$2"), (3, u "AIOOBE_FORMATTER"), (0, .class_ 132), (0, u "jdk/internal/util/Preconditions$3"), (3, u "IOOBE_FORMATTER"), (41, u "(IILjava/util/function/BiFunction;)I")] 15

def k18m0 : Method := { name := "<init>", desc := "()V", sig := { parameters := [], returnType := none }, accessFlags := 1, code := none }
def k18c1 : Code := { maxStack := 3, maxLocals := 3, code := jdk_41_method_11_code, exceptionTable := #[], attributes := #[] }
def k18m1 : Method := { name := "checkIndex", desc := "(IILjava/util/function/BiFunction;)I", sig := { parameters := [.int, .int, (.object "java/util/function/BiFunction")], returnType := some .int }, accessFlags := 9, code := some k18c1 }
/-- jdk/internal/util/Preconditions -/
def k18 : Class := { plain "jdk/internal/util/Preconditions" (some 0) with
  accessFlags := 33
  interfaces := #[]
  cf := some (fileOf pool18 24 #[.nestMembers #[55, 131, 125, 114]] #[{ accessFlags := 1, nameIndex := 5, descriptorIndex := 6, attributes := #[] }, { accessFlags := 9, nameIndex := 33, descriptorIndex := 178, attributes := #[] }] 33 2 #[] #[{ accessFlags := 25, nameIndex := 123, descriptorIndex := 124, attributes := #[] }, { accessFlags := 25, nameIndex := 130, descriptorIndex := 124, attributes := #[] }, { accessFlags := 25, nameIndex := 136, descriptorIndex := 124, attributes := #[] }])
  fields := #[{ name := "SIOOBE_FORMATTER", type := (.object "java/util/function/BiFunction"), accessFlags := 25, slot := 0, constantValue := 0 }, { name := "AIOOBE_FORMATTER", type := (.object "java/util/function/BiFunction"), accessFlags := 25, slot := 1, constantValue := 0 }, { name := "IOOBE_FORMATTER", type := (.object "java/util/function/BiFunction"), accessFlags := 25, slot := 2, constantValue := 0 }]
  methods := #[k18m0, k18m1]
  instanceTypes := #[]
  staticTypes := #[(.object "java/util/function/BiFunction"), (.object "java/util/function/BiFunction"), (.object "java/util/function/BiFunction")]
  resolved := Array.replicate 194 none
  statics := some 1 }

def pool19 : Array CpInfo := pool [(9, u "<init>"), (6, .class_ 18), (1, u "java/lang/Object"), (0, u "()V"), (1, .class_ 23), (1, u "jdk/internal/util/ArraysSupport"), (0, u "LOG2_ARRAY_LONG_INDEX_SCALE"), (0, u "I"), (2, u "U"), (0, u "Ljdk/internal/misc/Unsafe;"), (8, u "BIG_ENDIAN"), (0, u "Z"), (8, u "LOG2_BYTE_BIT_SIZE"), (4, u "LOG2_ARRAY_INT_INDEX_SCALE"), (54, u "JLA"), (0, u "Ljdk/internal/access/JavaLangAccess;"), (11, u "LOG2_ARRAY_BOOLEAN_INDEX_SCALE"), (9, u "LOG2_ARRAY_BYTE_INDEX_SCALE"), (5, u "LOG2_ARRAY_CHAR_INDEX_SCALE"), (5, u "LOG2_ARRAY_SHORT_INDEX_SCALE"), (18, u "LOG2_ARRAY_FLOAT_INDEX_SCALE"), (24, u "LOG2_ARRAY_DOUBLE_INDEX_SCALE"), (89, u "T_BOOLEAN"), (2, u "T_CHAR"), (1, u "T_FLOAT"), (1, u "T_DOUBLE"), (1, u "T_BYTE"), (1, u "T_SHORT"), (1, u "T_INT"), (1, u "T_LONG"), (1, u "SOFT_MAX_ARRAY_LENGTH")] 83

def k19m0 : Method := { name := "<init>", desc := "()V", sig := { parameters := [], returnType := none }, accessFlags := 2, code := none }
/-- jdk/internal/util/ArraysSupport -/
def k19 : Class := { plain "jdk/internal/util/ArraysSupport" (some 0) with
  accessFlags := 33
  interfaces := #[]
  cf := some (fileOf pool19 21 #[] #[{ accessFlags := 2, nameIndex := 9, descriptorIndex := 19, attributes := #[] }] 33 16 #[] #[{ accessFlags := 24, nameIndex := 28, descriptorIndex := 29, attributes := #[] }, { accessFlags := 26, nameIndex := 38, descriptorIndex := 39, attributes := #[] }, { accessFlags := 25, nameIndex := 121, descriptorIndex := 25, attributes := #[] }, { accessFlags := 25, nameIndex := 131, descriptorIndex := 25, attributes := #[] }, { accessFlags := 25, nameIndex := 137, descriptorIndex := 25, attributes := #[] }, { accessFlags := 25, nameIndex := 143, descriptorIndex := 25, attributes := #[] }, { accessFlags := 25, nameIndex := 53, descriptorIndex := 25, attributes := #[] }, { accessFlags := 25, nameIndex := 24, descriptorIndex := 25, attributes := #[] }, { accessFlags := 25, nameIndex := 162, descriptorIndex := 25, attributes := #[] }, { accessFlags := 25, nameIndex := 187, descriptorIndex := 25, attributes := #[] }, { accessFlags := 26, nameIndex := 48, descriptorIndex := 25, attributes := #[] }, { accessFlags := 25, nameIndex := 277, descriptorIndex := 25, attributes := #[] }, { accessFlags := 25, nameIndex := 280, descriptorIndex := 25, attributes := #[] }, { accessFlags := 25, nameIndex := 282, descriptorIndex := 25, attributes := #[] }, { accessFlags := 25, nameIndex := 284, descriptorIndex := 25, attributes := #[] }, { accessFlags := 25, nameIndex := 286, descriptorIndex := 25, attributes := #[] }, { accessFlags := 25, nameIndex := 288, descriptorIndex := 25, attributes := #[] }, { accessFlags := 25, nameIndex := 290, descriptorIndex := 25, attributes := #[] }, { accessFlags := 25, nameIndex := 292, descriptorIndex := 25, attributes := #[] }, { accessFlags := 26, nameIndex := 108, descriptorIndex := 109, attributes := #[] }, { accessFlags := 25, nameIndex := 294, descriptorIndex := 25, attributes := #[] }])
  fields := #[{ name := "U", type := (.object "jdk/internal/misc/Unsafe"), accessFlags := 24, slot := 0, constantValue := 0 }, { name := "BIG_ENDIAN", type := .boolean, accessFlags := 26, slot := 1, constantValue := 0 }, { name := "LOG2_ARRAY_BOOLEAN_INDEX_SCALE", type := .int, accessFlags := 25, slot := 2, constantValue := 0 }, { name := "LOG2_ARRAY_BYTE_INDEX_SCALE", type := .int, accessFlags := 25, slot := 3, constantValue := 0 }, { name := "LOG2_ARRAY_CHAR_INDEX_SCALE", type := .int, accessFlags := 25, slot := 4, constantValue := 0 }, { name := "LOG2_ARRAY_SHORT_INDEX_SCALE", type := .int, accessFlags := 25, slot := 5, constantValue := 0 }, { name := "LOG2_ARRAY_INT_INDEX_SCALE", type := .int, accessFlags := 25, slot := 6, constantValue := 0 }, { name := "LOG2_ARRAY_LONG_INDEX_SCALE", type := .int, accessFlags := 25, slot := 7, constantValue := 0 }, { name := "LOG2_ARRAY_FLOAT_INDEX_SCALE", type := .int, accessFlags := 25, slot := 8, constantValue := 0 }, { name := "LOG2_ARRAY_DOUBLE_INDEX_SCALE", type := .int, accessFlags := 25, slot := 9, constantValue := 0 }, { name := "LOG2_BYTE_BIT_SIZE", type := .int, accessFlags := 26, slot := 10, constantValue := 0 }, { name := "T_BOOLEAN", type := .int, accessFlags := 25, slot := 11, constantValue := 0 }, { name := "T_CHAR", type := .int, accessFlags := 25, slot := 12, constantValue := 0 }, { name := "T_FLOAT", type := .int, accessFlags := 25, slot := 13, constantValue := 0 }, { name := "T_DOUBLE", type := .int, accessFlags := 25, slot := 14, constantValue := 0 }, { name := "T_BYTE", type := .int, accessFlags := 25, slot := 15, constantValue := 0 }, { name := "T_SHORT", type := .int, accessFlags := 25, slot := 16, constantValue := 0 }, { name := "T_INT", type := .int, accessFlags := 25, slot := 17, constantValue := 0 }, { name := "T_LONG", type := .int, accessFlags := 25, slot := 18, constantValue := 0 }, { name := "JLA", type := (.object "jdk/internal/access/JavaLangAccess"), accessFlags := 26, slot := 19, constantValue := 0 }, { name := "SOFT_MAX_ARRAY_LENGTH", type := .int, accessFlags := 25, slot := 20, constantValue := 0 }]
  methods := #[k19m0]
  instanceTypes := #[]
  staticTypes := #[(.object "jdk/internal/misc/Unsafe"), .boolean, .int, .int, .int, .int, .int, .int, .int, .int, .int, .int, .int, .int, .int, .int, .int, .int, .int, (.object "jdk/internal/access/JavaLangAccess"), .int]
  resolved := Array.replicate 378 none
  statics := none }

def pool20 : Array CpInfo := pool [(1, u "java/lang/Cloneable"), (0, .class_ 1), (0, u "java/lang/Object"), (0, .class_ 3)] 3

/-- java/lang/Cloneable -/
def k20 : Class := { plain "java/lang/Cloneable" (some 0) with
  accessFlags := 1537
  interfaces := #[]
  cf := some (fileOf pool20 2 #[] #[] 1537 4 #[] #[])
  fields := #[]
  methods := #[]
  instanceTypes := #[]
  staticTypes := #[]
  resolved := Array.replicate 8 none
  statics := none }

/-- the primitive byte -/
def k21 : Class := { plain "byte" none with kind := .primitive 'B', accessFlags := 0x411 }
/-- [B -/
def k22 : Class := { plain "[B" (some 0) with kind := .array 21 .byte, interfaces := #[20, 2], accessFlags := 1041 }

/-- the primitive char -/
def k23 : Class := { plain "char" none with kind := .primitive 'C', accessFlags := 0x411 }
/-- [C -/
def k24 : Class := { plain "[C" (some 0) with kind := .array 23 .char, interfaces := #[20, 2], accessFlags := 1041 }

/-- the primitive int -/
def k25 : Class := { plain "int" none with kind := .primitive 'I', accessFlags := 0x411 }
/-- [I -/
def k26 : Class := { plain "[I" (some 0) with kind := .array 25 .int, interfaces := #[20, 2], accessFlags := 1041 }

def heap : Heap := #[{ cls := 7, slots := #[.long 0, .int 1, .null, .int 0, .null, .int 0, .int 0], vm := .statics 7 },
  { cls := 18, slots := #[.null, .null, .null], vm := .statics 18 }]
def classes : Array Class := #[k0, k1, k2, k3, k4, k5, k6, k7, k8, k9, k10, k11, k12, k13, k14, k15, k16, k17, k18, k19, k20, k21, k22, k23, k24, k25, k26]
def interned : List (Array UInt16 × Addr) := []
def slotsUsed : Nat := 10
def theMethod : MethodId := ⟨1, 2⟩
def args0 : Array Value := #[.int 5, .int 2, .int 65]
def aboutOver (below : List Frame) : State where
  vm := { classes := classes, interned := interned.toArray }
  heap := heap
  slotsUsed := slotsUsed
  threads := #[{ frames := .invoking theMethod args0 :: below }]
def below0 : List Frame := [.native { method := ⟨0, 0⟩, args := #[] }]
def about1 : State := aboutOver below0
def p0 : Program := .bare "" "" ""
def e0 : Env := launch0.env 0 0 0
theorem w_frames : about1.frames = Frame.invoking theMethod args0 :: below0 := rfl
set_option maxRecDepth 65536 in
theorem w_args : argsFit about1.vm theMethod args0 = true := by decide +kernel
set_option maxRecDepth 65536 in
theorem w_heap : heapFits about1 = true := by decide +kernel
set_option maxRecDepth 65536 in
theorem w_runnable : about1.curStatus? = some .runnable := by decide +kernel
set_option maxRecDepth 65536 in
theorem w_alone : about1.alone = true := by decide +kernel
set_option maxRecDepth 65536 in
theorem w_named : about1.methodNamed? x = some theMethod := by decide +kernel
set_option maxRecDepth 65536 in
theorem w_hears : about1.hears theMethod below0 = true := by decide +kernel
set_option maxRecDepth 65536 in
theorem w_ripe : about1.ripe theMethod args0 below0 = true := by decide +kernel
theorem w_running : about1.status = .running := rfl
set_option maxRecDepth 65536 in
theorem w_room : about1.hasRoom e0.platform room_1 = true :=
  launch0.hasRoom_least _ room_1 (by decide +kernel) (by decide +kernel) (by decide +kernel) (by decide +kernel) (by decide +kernel) (by decide +kernel)
theorem allAtoms_all (ts : List Jvm.Cond) (a : Array Jvm.Value) (st : Jvm.State) : (allAtoms ts).before a st = ts.all (fun c => c.before a st) := by
  induction ts with
  | nil => rfl
  | cons c t ih =>
    show (Jvm.Cond.and c (allAtoms t)).before a st = _
    rw [Jvm.Cond.before_and, ih, List.all_cons]
def words1 : List Jvm.Cond := Jvm.Cond.code x code maxLocals ret :: tables_1
/-- a 'code' word, met by the world's own term for the bytes: nothing is compared byte by byte -/
theorem code_word {y : MethodName} {bytes : ByteArray} {mx : Nat} {rt : Option FieldType} {a : Array Value} {s : State} {m : MethodId} {meth : Method} {c : Code} (h1 : s.methodNamed? y = some m) (h2 : s.vm.method? m = some meth) (h3 : meth.code = some c) (h4 : c.code = bytes)
    (h5 : (c.maxLocals == mx && c.exceptionTable.isEmpty && decide (c.maxStack ≤ mostOperands) && decide (meth.sig.returnType = rt) && !meth.locks && decide (parseMethodDescriptor y.desc = some meth.sig)) = true) : (Jvm.Cond.code y bytes mx rt).before a s = true := by
  simp only [Bool.and_eq_true, beq_iff_eq, Bool.not_eq_true', decide_eq_true_eq] at h5
  obtain ⟨⟨⟨⟨⟨g1, g2⟩, g3⟩, g4⟩, g5⟩, g6⟩ := h5
  simp [Cond.before, Cond.holds, Cond.value, h1, h2, h3, h4, g1, g2, g3, g4, g5, g6]
def isCode : Jvm.Cond → Bool
  | .code _ _ _ _ => true
  | _ => false
theorem all_split {L : List Jvm.Cond} {P : Jvm.Cond → Bool} (h1 : L.all (fun c => isCode c || P c) = true) (h2 : ∀ c ∈ L.filter isCode, P c = true) : L.all P = true := by
  refine List.all_eq_true.mpr fun c hc => ?_
  have h := List.all_eq_true.mp h1 c hc
  rcases Bool.eq_false_or_eq_true (isCode c) with hi | hi
  · exact h2 c (List.mem_filter.mpr ⟨hc, hi⟩)
  · simpa [hi] using h
set_option maxRecDepth 65536 in
theorem w_c0 : (Jvm.Cond.code x code maxLocals ret).before args0 about1 = true := code_word (m := ⟨1, 2⟩) (meth := k1m2) (c := k1c2) (by decide +kernel) rfl rfl rfl (by decide +kernel)
set_option maxRecDepth 65536 in
theorem w_c1 : (Jvm.Cond.code ({ cls := "com/example/lazo/lazo/mapping/SqlNameSuffixedPinLaw", name := "mk", desc := "(CCI)Ljava/lang/String;" } : Jvm.MethodName) method_2_code (3 : Nat) (Option.some (Jvm.ClassFile.FieldType.object "java/lang/String"))).before args0 about1 = true := code_word (m := ⟨1, 1⟩) (meth := k1m1) (c := k1c1) (by decide +kernel) rfl rfl rfl (by decide +kernel)
set_option maxRecDepth 65536 in
theorem w_c2 : (Jvm.Cond.code ({ cls := "java/lang/String", name := "<init>", desc := "([C)V" } : Jvm.MethodName) jdk_42_method_3_code (2 : Nat) (Option.none : Option Jvm.ClassFile.FieldType)).before args0 about1 = true := code_word (m := ⟨7, 1⟩) (meth := k7m1) (c := k7c1) (by decide +kernel) rfl rfl rfl (by decide +kernel)
set_option maxRecDepth 65536 in
theorem w_c3 : (Jvm.Cond.code ({ cls := "java/lang/String", name := "<init>", desc := "([CIILjava/lang/Void;)V" } : Jvm.MethodName) jdk_42_method_149_code (6 : Nat) (Option.none : Option Jvm.ClassFile.FieldType)).before args0 about1 = true := code_word (m := ⟨7, 7⟩) (meth := k7m7) (c := k7c7) (by decide +kernel) rfl rfl rfl (by decide +kernel)
set_option maxRecDepth 65536 in
theorem w_c4 : (Jvm.Cond.code ({ cls := "java/lang/Object", name := "<init>", desc := "()V" } : Jvm.MethodName) object_method_1_code (1 : Nat) (Option.none : Option Jvm.ClassFile.FieldType)).before args0 about1 = true := code_word (m := ⟨0, 0⟩) (meth := k0m0) (c := k0c0) (by decide +kernel) rfl rfl rfl (by decide +kernel)
set_option maxRecDepth 65536 in
theorem w_c5 : (Jvm.Cond.code ({ cls := "java/lang/StringUTF16", name := "compress", desc := "([CII)[B" } : Jvm.MethodName) jdk_52_method_16_code (6 : Nat) (Option.some (Jvm.ClassFile.FieldType.array Jvm.ClassFile.FieldType.byte))).before args0 about1 = true := code_word (m := ⟨8, 2⟩) (meth := k8m2) (c := k8c2) (by decide +kernel) rfl rfl rfl (by decide +kernel)
set_option maxRecDepth 65536 in
theorem w_c6 : (Jvm.Cond.code ({ cls := "java/lang/StringUTF16", name := "compress", desc := "([CI[BII)I" } : Jvm.MethodName) jdk_52_method_21_code (7 : Nat) (Option.some Jvm.ClassFile.FieldType.int)).before args0 about1 = true := code_word (m := ⟨8, 3⟩) (meth := k8m3) (c := k8c3) (by decide +kernel) rfl rfl rfl (by decide +kernel)
set_option maxRecDepth 65536 in
theorem w_c7 : (Jvm.Cond.code ({ cls := "java/lang/StringUTF16", name := "coderFromArrayLen", desc := "([BI)B" } : Jvm.MethodName) jdk_52_method_15_code (2 : Nat) (Option.some Jvm.ClassFile.FieldType.byte)).before args0 about1 = true := code_word (m := ⟨8, 1⟩) (meth := k8m1) (c := k8c1) (by decide +kernel) rfl rfl rfl (by decide +kernel)
set_option maxRecDepth 65536 in
theorem w_c8 : (Jvm.Cond.code ({ cls := "com/example/lazo/lazo/mapping/SqlName", name := "<init>", desc := "(Ljava/lang/String;Z)V" } : Jvm.MethodName) prog_16_method_1_code (3 : Nat) (Option.none : Option Jvm.ClassFile.FieldType)).before args0 about1 = true := code_word (m := ⟨10, 0⟩) (meth := k10m0) (c := k10c0) (by decide +kernel) rfl rfl rfl (by decide +kernel)
set_option maxRecDepth 65536 in
theorem w_c9 : (Jvm.Cond.code ({ cls := "java/lang/Record", name := "<init>", desc := "()V" } : Jvm.MethodName) jdk_30_method_1_code (1 : Nat) (Option.none : Option Jvm.ClassFile.FieldType)).before args0 about1 = true := code_word (m := ⟨9, 0⟩) (meth := k9m0) (c := k9c0) (by decide +kernel) rfl rfl rfl (by decide +kernel)
set_option maxRecDepth 65536 in
theorem w_c10 : (Jvm.Cond.code ({ cls := "com/example/lazo/lazo/mapping/SqlName", name := "suffixed", desc := "(Ljava/lang/String;)Lcom/example/lazo/lazo/mapping/SqlName;" } : Jvm.MethodName) prog_16_method_3_code (2 : Nat) (Option.some (Jvm.ClassFile.FieldType.object "com/example/lazo/lazo/mapping/SqlName"))).before args0 about1 = true := code_word (m := ⟨10, 1⟩) (meth := k10m1) (c := k10c1) (by decide +kernel) rfl rfl rfl (by decide +kernel)
set_option maxRecDepth 65536 in
theorem w_c11 : (Jvm.Cond.code ({ cls := "java/lang/StringBuilder", name := "<init>", desc := "()V" } : Jvm.MethodName) jdk_67_method_1_code (1 : Nat) (Option.none : Option Jvm.ClassFile.FieldType)).before args0 about1 = true := code_word (m := ⟨13, 0⟩) (meth := k13m0) (c := k13c0) (by decide +kernel) rfl rfl rfl (by decide +kernel)
set_option maxRecDepth 65536 in
theorem w_c12 : (Jvm.Cond.code ({ cls := "java/lang/AbstractStringBuilder", name := "<init>", desc := "(I)V" } : Jvm.MethodName) jdk_68_method_2_code (2 : Nat) (Option.none : Option Jvm.ClassFile.FieldType)).before args0 about1 = true := code_word (m := ⟨12, 1⟩) (meth := k12m1) (c := k12c1) (by decide +kernel) rfl rfl rfl (by decide +kernel)
set_option maxRecDepth 65536 in
theorem w_c13 : (Jvm.Cond.code ({ cls := "java/lang/StringBuilder", name := "append", desc := "(Ljava/lang/String;)Ljava/lang/StringBuilder;" } : Jvm.MethodName) jdk_67_method_7_code (2 : Nat) (Option.some (Jvm.ClassFile.FieldType.object "java/lang/StringBuilder"))).before args0 about1 = true := code_word (m := ⟨13, 1⟩) (meth := k13m1) (c := k13c1) (by decide +kernel) rfl rfl rfl (by decide +kernel)
set_option maxRecDepth 65536 in
theorem w_c14 : (Jvm.Cond.code ({ cls := "java/lang/AbstractStringBuilder", name := "append", desc := "(Ljava/lang/String;)Ljava/lang/AbstractStringBuilder;" } : Jvm.MethodName) jdk_68_method_22_code (3 : Nat) (Option.some (Jvm.ClassFile.FieldType.object "java/lang/AbstractStringBuilder"))).before args0 about1 = true := code_word (m := ⟨12, 4⟩) (meth := k12m4) (c := k12c4) (by decide +kernel) rfl rfl rfl (by decide +kernel)
set_option maxRecDepth 65536 in
theorem w_c15 : (Jvm.Cond.code ({ cls := "java/lang/String", name := "length", desc := "()I" } : Jvm.MethodName) jdk_42_method_54_code (1 : Nat) (Option.some Jvm.ClassFile.FieldType.int)).before args0 about1 = true := code_word (m := ⟨7, 3⟩) (meth := k7m3) (c := k7c3) (by decide +kernel) rfl rfl rfl (by decide +kernel)
set_option maxRecDepth 65536 in
theorem w_c16 : (Jvm.Cond.code ({ cls := "java/lang/String", name := "coder", desc := "()B" } : Jvm.MethodName) jdk_42_method_152_code (1 : Nat) (Option.some Jvm.ClassFile.FieldType.byte)).before args0 about1 = true := code_word (m := ⟨7, 10⟩) (meth := k7m10) (c := k7c10) (by decide +kernel) rfl rfl rfl (by decide +kernel)
set_option maxRecDepth 65536 in
theorem w_c17 : (Jvm.Cond.code ({ cls := "java/lang/AbstractStringBuilder", name := "ensureCapacityInternal", desc := "(I)V" } : Jvm.MethodName) jdk_68_method_9_code (3 : Nat) (Option.none : Option Jvm.ClassFile.FieldType)).before args0 about1 = true := code_word (m := ⟨12, 3⟩) (meth := k12m3) (c := k12c3) (by decide +kernel) rfl rfl rfl (by decide +kernel)
set_option maxRecDepth 65536 in
theorem w_c18 : (Jvm.Cond.code ({ cls := "java/lang/AbstractStringBuilder", name := "putStringAt", desc := "(ILjava/lang/String;)V" } : Jvm.MethodName) jdk_68_method_73_code (3 : Nat) (Option.none : Option Jvm.ClassFile.FieldType)).before args0 about1 = true := code_word (m := ⟨12, 8⟩) (meth := k12m8) (c := k12c8) (by decide +kernel) rfl rfl rfl (by decide +kernel)
set_option maxRecDepth 65536 in
theorem w_c19 : (Jvm.Cond.code ({ cls := "java/lang/AbstractStringBuilder", name := "inflateIfNeededFor", desc := "(Ljava/lang/String;)V" } : Jvm.MethodName) jdk_68_method_71_code (2 : Nat) (Option.none : Option Jvm.ClassFile.FieldType)).before args0 about1 = true := code_word (m := ⟨12, 7⟩) (meth := k12m7) (c := k12c7) (by decide +kernel) rfl rfl rfl (by decide +kernel)
set_option maxRecDepth 65536 in
theorem w_c20 : (Jvm.Cond.code ({ cls := "java/lang/String", name := "getBytes", desc := "([BIB)V" } : Jvm.MethodName) jdk_42_method_147_code (4 : Nat) (Option.none : Option Jvm.ClassFile.FieldType)).before args0 about1 = true := code_word (m := ⟨7, 6⟩) (meth := k7m6) (c := k7c6) (by decide +kernel) rfl rfl rfl (by decide +kernel)
set_option maxRecDepth 65536 in
theorem w_c21 : (Jvm.Cond.code ({ cls := "java/lang/StringBuilder", name := "toString", desc := "()Ljava/lang/String;" } : Jvm.MethodName) jdk_67_method_42_code (1 : Nat) (Option.some (Jvm.ClassFile.FieldType.object "java/lang/String"))).before args0 about1 = true := code_word (m := ⟨13, 2⟩) (meth := k13m2) (c := k13c2) (by decide +kernel) rfl rfl rfl (by decide +kernel)
set_option maxRecDepth 65536 in
theorem w_c22 : (Jvm.Cond.code ({ cls := "java/lang/String", name := "<init>", desc := "(Ljava/lang/StringBuilder;)V" } : Jvm.MethodName) jdk_42_method_53_code (2 : Nat) (Option.none : Option Jvm.ClassFile.FieldType)).before args0 about1 = true := code_word (m := ⟨7, 2⟩) (meth := k7m2) (c := k7c2) (by decide +kernel) rfl rfl rfl (by decide +kernel)
set_option maxRecDepth 65536 in
theorem w_c23 : (Jvm.Cond.code ({ cls := "java/lang/String", name := "<init>", desc := "(Ljava/lang/AbstractStringBuilder;Ljava/lang/Void;)V" } : Jvm.MethodName) jdk_42_method_150_code (5 : Nat) (Option.none : Option Jvm.ClassFile.FieldType)).before args0 about1 = true := code_word (m := ⟨7, 8⟩) (meth := k7m8) (c := k7c8) (by decide +kernel) rfl rfl rfl (by decide +kernel)
set_option maxRecDepth 65536 in
theorem w_c24 : (Jvm.Cond.code ({ cls := "java/lang/AbstractStringBuilder", name := "getValue", desc := "()[B" } : Jvm.MethodName) jdk_68_method_64_code (1 : Nat) (Option.some (Jvm.ClassFile.FieldType.array Jvm.ClassFile.FieldType.byte))).before args0 about1 = true := code_word (m := ⟨12, 5⟩) (meth := k12m5) (c := k12c5) (by decide +kernel) rfl rfl rfl (by decide +kernel)
set_option maxRecDepth 65536 in
theorem w_c25 : (Jvm.Cond.code ({ cls := "java/lang/StringBuilder", name := "length", desc := "()I" } : Jvm.MethodName) jdk_67_method_93_code (1 : Nat) (Option.some Jvm.ClassFile.FieldType.int)).before args0 about1 = true := code_word (m := ⟨13, 3⟩) (meth := k13m3) (c := k13c3) (by decide +kernel) rfl rfl rfl (by decide +kernel)
set_option maxRecDepth 65536 in
theorem w_c26 : (Jvm.Cond.code ({ cls := "java/lang/AbstractStringBuilder", name := "length", desc := "()I" } : Jvm.MethodName) jdk_68_method_6_code (1 : Nat) (Option.some Jvm.ClassFile.FieldType.int)).before args0 about1 = true := code_word (m := ⟨12, 2⟩) (meth := k12m2) (c := k12c2) (by decide +kernel) rfl rfl rfl (by decide +kernel)
set_option maxRecDepth 65536 in
theorem w_c27 : (Jvm.Cond.code ({ cls := "java/lang/AbstractStringBuilder", name := "isLatin1", desc := "()Z" } : Jvm.MethodName) jdk_68_method_68_code (1 : Nat) (Option.some Jvm.ClassFile.FieldType.boolean)).before args0 about1 = true := code_word (m := ⟨12, 6⟩) (meth := k12m6) (c := k12c6) (by decide +kernel) rfl rfl rfl (by decide +kernel)
set_option maxRecDepth 65536 in
theorem w_c28 : (Jvm.Cond.code ({ cls := "java/util/Arrays", name := "copyOfRange", desc := "([BII)[B" } : Jvm.MethodName) jdk_65_method_132_code (3 : Nat) (Option.some (Jvm.ClassFile.FieldType.array Jvm.ClassFile.FieldType.byte))).before args0 about1 = true := code_word (m := ⟨15, 2⟩) (meth := k15m2) (c := k15c2) (by decide +kernel) rfl rfl rfl (by decide +kernel)
set_option maxRecDepth 65536 in
theorem w_c29 : (Jvm.Cond.code ({ cls := "java/util/Arrays", name := "copyOfRangeByte", desc := "([BII)[B" } : Jvm.MethodName) jdk_65_method_133_code (5 : Nat) (Option.some (Jvm.ClassFile.FieldType.array Jvm.ClassFile.FieldType.byte))).before args0 about1 = true := code_word (m := ⟨15, 3⟩) (meth := k15m3) (c := k15c3) (by decide +kernel) rfl rfl rfl (by decide +kernel)
set_option maxRecDepth 65536 in
theorem w_c30 : (Jvm.Cond.code ({ cls := "java/util/Arrays", name := "checkLength", desc := "(II)V" } : Jvm.MethodName) jdk_65_method_131_code (2 : Nat) (Option.none : Option Jvm.ClassFile.FieldType)).before args0 about1 = true := code_word (m := ⟨15, 1⟩) (meth := k15m1) (c := k15c1) (by decide +kernel) rfl rfl rfl (by decide +kernel)
set_option maxRecDepth 65536 in
theorem w_c31 : (Jvm.Cond.code ({ cls := "java/lang/Math", name := "min", desc := "(II)I" } : Jvm.MethodName) jdk_29_method_69_code (2 : Nat) (Option.some Jvm.ClassFile.FieldType.int)).before args0 about1 = true := code_word (m := ⟨16, 1⟩) (meth := k16m1) (c := k16c1) (by decide +kernel) rfl rfl rfl (by decide +kernel)
set_option maxRecDepth 65536 in
theorem w_c32 : (Jvm.Cond.code ({ cls := "com/example/lazo/lazo/mapping/SqlName", name := "quoted", desc := "()Z" } : Jvm.MethodName) prog_16_method_8_code (1 : Nat) (Option.some Jvm.ClassFile.FieldType.boolean)).before args0 about1 = true := code_word (m := ⟨10, 3⟩) (meth := k10m3) (c := k10c3) (by decide +kernel) rfl rfl rfl (by decide +kernel)
set_option maxRecDepth 65536 in
theorem w_c33 : (Jvm.Cond.code ({ cls := "com/example/lazo/lazo/mapping/SqlName", name := "text", desc := "()Ljava/lang/String;" } : Jvm.MethodName) prog_16_method_7_code (1 : Nat) (Option.some (Jvm.ClassFile.FieldType.object "java/lang/String"))).before args0 about1 = true := code_word (m := ⟨10, 2⟩) (meth := k10m2) (c := k10c2) (by decide +kernel) rfl rfl rfl (by decide +kernel)
set_option maxRecDepth 65536 in
theorem w_c34 : (Jvm.Cond.code ({ cls := "java/lang/String", name := "charAt", desc := "(I)C" } : Jvm.MethodName) jdk_42_method_56_code (2 : Nat) (Option.some Jvm.ClassFile.FieldType.char)).before args0 about1 = true := code_word (m := ⟨7, 4⟩) (meth := k7m4) (c := k7c4) (by decide +kernel) rfl rfl rfl (by decide +kernel)
set_option maxRecDepth 65536 in
theorem w_c35 : (Jvm.Cond.code ({ cls := "java/lang/String", name := "isLatin1", desc := "()Z" } : Jvm.MethodName) jdk_42_method_154_code (1 : Nat) (Option.some Jvm.ClassFile.FieldType.boolean)).before args0 about1 = true := code_word (m := ⟨7, 11⟩) (meth := k7m11) (c := k7c11) (by decide +kernel) rfl rfl rfl (by decide +kernel)
set_option maxRecDepth 65536 in
theorem w_c36 : (Jvm.Cond.code ({ cls := "java/lang/StringLatin1", name := "charAt", desc := "([BI)C" } : Jvm.MethodName) jdk_43_method_2_code (2 : Nat) (Option.some Jvm.ClassFile.FieldType.char)).before args0 about1 = true := code_word (m := ⟨17, 1⟩) (meth := k17m1) (c := k17c1) (by decide +kernel) rfl rfl rfl (by decide +kernel)
set_option maxRecDepth 65536 in
theorem w_c37 : (Jvm.Cond.code ({ cls := "java/lang/String", name := "checkIndex", desc := "(II)V" } : Jvm.MethodName) jdk_42_method_155_code (2 : Nat) (Option.none : Option Jvm.ClassFile.FieldType)).before args0 about1 = true := code_word (m := ⟨7, 12⟩) (meth := k7m12) (c := k7c12) (by decide +kernel) rfl rfl rfl (by decide +kernel)
set_option maxRecDepth 65536 in
theorem w_c38 : (Jvm.Cond.code ({ cls := "jdk/internal/util/Preconditions", name := "checkIndex", desc := "(IILjava/util/function/BiFunction;)I" } : Jvm.MethodName) jdk_41_method_11_code (3 : Nat) (Option.some Jvm.ClassFile.FieldType.int)).before args0 about1 = true := code_word (m := ⟨18, 1⟩) (meth := k18m1) (c := k18c1) (by decide +kernel) rfl rfl rfl (by decide +kernel)
set_option maxRecDepth 65536 in
theorem w_c39 : (Jvm.Cond.code ({ cls := "java/lang/String", name := "valueOf", desc := "(C)Ljava/lang/String;" } : Jvm.MethodName) jdk_42_method_139_code (1 : Nat) (Option.some (Jvm.ClassFile.FieldType.object "java/lang/String"))).before args0 about1 = true := code_word (m := ⟨7, 5⟩) (meth := k7m5) (c := k7c5) (by decide +kernel) rfl rfl rfl (by decide +kernel)
set_option maxRecDepth 65536 in
theorem w_c40 : (Jvm.Cond.code ({ cls := "java/lang/StringLatin1", name := "canEncode", desc := "(C)Z" } : Jvm.MethodName) jdk_43_method_3_code (1 : Nat) (Option.some Jvm.ClassFile.FieldType.boolean)).before args0 about1 = true := code_word (m := ⟨17, 2⟩) (meth := k17m2) (c := k17c2) (by decide +kernel) rfl rfl rfl (by decide +kernel)
set_option maxRecDepth 65536 in
theorem w_c41 : (Jvm.Cond.code ({ cls := "java/lang/StringLatin1", name := "toBytes", desc := "(C)[B" } : Jvm.MethodName) jdk_43_method_46_code (1 : Nat) (Option.some (Jvm.ClassFile.FieldType.array Jvm.ClassFile.FieldType.byte))).before args0 about1 = true := code_word (m := ⟨17, 3⟩) (meth := k17m3) (c := k17c3) (by decide +kernel) rfl rfl rfl (by decide +kernel)
set_option maxRecDepth 65536 in
theorem w_c42 : (Jvm.Cond.code ({ cls := "java/lang/String", name := "<init>", desc := "([BB)V" } : Jvm.MethodName) jdk_42_method_151_code (3 : Nat) (Option.none : Option Jvm.ClassFile.FieldType)).before args0 about1 = true := code_word (m := ⟨7, 9⟩) (meth := k7m9) (c := k7c9) (by decide +kernel) rfl rfl rfl (by decide +kernel)
def codes1 : List Jvm.Cond := [Jvm.Cond.code x code maxLocals ret, Jvm.Cond.code ({ cls := "com/example/lazo/lazo/mapping/SqlNameSuffixedPinLaw", name := "mk", desc := "(CCI)Ljava/lang/String;" } : Jvm.MethodName) method_2_code (3 : Nat) (Option.some (Jvm.ClassFile.FieldType.object "java/lang/String")), Jvm.Cond.code ({ cls := "java/lang/String", name := "<init>", desc := "([C)V" } : Jvm.MethodName) jdk_42_method_3_code (2 : Nat) (Option.none : Option Jvm.ClassFile.FieldType), Jvm.Cond.code ({ cls := "java/lang/String", name := "<init>", desc := "([CIILjava/lang/Void;)V" } : Jvm.MethodName) jdk_42_method_149_code (6 : Nat) (Option.none : Option Jvm.ClassFile.FieldType), Jvm.Cond.code ({ cls := "java/lang/Object", name := "<init>", desc := "()V" } : Jvm.MethodName) object_method_1_code (1 : Nat) (Option.none : Option Jvm.ClassFile.FieldType), Jvm.Cond.code ({ cls := "java/lang/StringUTF16", name := "compress", desc := "([CII)[B" } : Jvm.MethodName) jdk_52_method_16_code (6 : Nat) (Option.some (Jvm.ClassFile.FieldType.array Jvm.ClassFile.FieldType.byte)), Jvm.Cond.code ({ cls := "java/lang/StringUTF16", name := "compress", desc := "([CI[BII)I" } : Jvm.MethodName) jdk_52_method_21_code (7 : Nat) (Option.some Jvm.ClassFile.FieldType.int), Jvm.Cond.code ({ cls := "java/lang/StringUTF16", name := "coderFromArrayLen", desc := "([BI)B" } : Jvm.MethodName) jdk_52_method_15_code (2 : Nat) (Option.some Jvm.ClassFile.FieldType.byte), Jvm.Cond.code ({ cls := "com/example/lazo/lazo/mapping/SqlName", name := "<init>", desc := "(Ljava/lang/String;Z)V" } : Jvm.MethodName) prog_16_method_1_code (3 : Nat) (Option.none : Option Jvm.ClassFile.FieldType), Jvm.Cond.code ({ cls := "java/lang/Record", name := "<init>", desc := "()V" } : Jvm.MethodName) jdk_30_method_1_code (1 : Nat) (Option.none : Option Jvm.ClassFile.FieldType), Jvm.Cond.code ({ cls := "com/example/lazo/lazo/mapping/SqlName", name := "suffixed", desc := "(Ljava/lang/String;)Lcom/example/lazo/lazo/mapping/SqlName;" } : Jvm.MethodName) prog_16_method_3_code (2 : Nat) (Option.some (Jvm.ClassFile.FieldType.object "com/example/lazo/lazo/mapping/SqlName")), Jvm.Cond.code ({ cls := "java/lang/StringBuilder", name := "<init>", desc := "()V" } : Jvm.MethodName) jdk_67_method_1_code (1 : Nat) (Option.none : Option Jvm.ClassFile.FieldType), Jvm.Cond.code ({ cls := "java/lang/AbstractStringBuilder", name := "<init>", desc := "(I)V" } : Jvm.MethodName) jdk_68_method_2_code (2 : Nat) (Option.none : Option Jvm.ClassFile.FieldType), Jvm.Cond.code ({ cls := "java/lang/StringBuilder", name := "append", desc := "(Ljava/lang/String;)Ljava/lang/StringBuilder;" } : Jvm.MethodName) jdk_67_method_7_code (2 : Nat) (Option.some (Jvm.ClassFile.FieldType.object "java/lang/StringBuilder")), Jvm.Cond.code ({ cls := "java/lang/AbstractStringBuilder", name := "append", desc := "(Ljava/lang/String;)Ljava/lang/AbstractStringBuilder;" } : Jvm.MethodName) jdk_68_method_22_code (3 : Nat) (Option.some (Jvm.ClassFile.FieldType.object "java/lang/AbstractStringBuilder")), Jvm.Cond.code ({ cls := "java/lang/String", name := "length", desc := "()I" } : Jvm.MethodName) jdk_42_method_54_code (1 : Nat) (Option.some Jvm.ClassFile.FieldType.int), Jvm.Cond.code ({ cls := "java/lang/String", name := "coder", desc := "()B" } : Jvm.MethodName) jdk_42_method_152_code (1 : Nat) (Option.some Jvm.ClassFile.FieldType.byte), Jvm.Cond.code ({ cls := "java/lang/AbstractStringBuilder", name := "ensureCapacityInternal", desc := "(I)V" } : Jvm.MethodName) jdk_68_method_9_code (3 : Nat) (Option.none : Option Jvm.ClassFile.FieldType), Jvm.Cond.code ({ cls := "java/lang/AbstractStringBuilder", name := "putStringAt", desc := "(ILjava/lang/String;)V" } : Jvm.MethodName) jdk_68_method_73_code (3 : Nat) (Option.none : Option Jvm.ClassFile.FieldType), Jvm.Cond.code ({ cls := "java/lang/AbstractStringBuilder", name := "inflateIfNeededFor", desc := "(Ljava/lang/String;)V" } : Jvm.MethodName) jdk_68_method_71_code (2 : Nat) (Option.none : Option Jvm.ClassFile.FieldType), Jvm.Cond.code ({ cls := "java/lang/String", name := "getBytes", desc := "([BIB)V" } : Jvm.MethodName) jdk_42_method_147_code (4 : Nat) (Option.none : Option Jvm.ClassFile.FieldType), Jvm.Cond.code ({ cls := "java/lang/StringBuilder", name := "toString", desc := "()Ljava/lang/String;" } : Jvm.MethodName) jdk_67_method_42_code (1 : Nat) (Option.some (Jvm.ClassFile.FieldType.object "java/lang/String")), Jvm.Cond.code ({ cls := "java/lang/String", name := "<init>", desc := "(Ljava/lang/StringBuilder;)V" } : Jvm.MethodName) jdk_42_method_53_code (2 : Nat) (Option.none : Option Jvm.ClassFile.FieldType), Jvm.Cond.code ({ cls := "java/lang/String", name := "<init>", desc := "(Ljava/lang/AbstractStringBuilder;Ljava/lang/Void;)V" } : Jvm.MethodName) jdk_42_method_150_code (5 : Nat) (Option.none : Option Jvm.ClassFile.FieldType), Jvm.Cond.code ({ cls := "java/lang/AbstractStringBuilder", name := "getValue", desc := "()[B" } : Jvm.MethodName) jdk_68_method_64_code (1 : Nat) (Option.some (Jvm.ClassFile.FieldType.array Jvm.ClassFile.FieldType.byte)), Jvm.Cond.code ({ cls := "java/lang/StringBuilder", name := "length", desc := "()I" } : Jvm.MethodName) jdk_67_method_93_code (1 : Nat) (Option.some Jvm.ClassFile.FieldType.int), Jvm.Cond.code ({ cls := "java/lang/AbstractStringBuilder", name := "length", desc := "()I" } : Jvm.MethodName) jdk_68_method_6_code (1 : Nat) (Option.some Jvm.ClassFile.FieldType.int), Jvm.Cond.code ({ cls := "java/lang/AbstractStringBuilder", name := "isLatin1", desc := "()Z" } : Jvm.MethodName) jdk_68_method_68_code (1 : Nat) (Option.some Jvm.ClassFile.FieldType.boolean), Jvm.Cond.code ({ cls := "java/util/Arrays", name := "copyOfRange", desc := "([BII)[B" } : Jvm.MethodName) jdk_65_method_132_code (3 : Nat) (Option.some (Jvm.ClassFile.FieldType.array Jvm.ClassFile.FieldType.byte)), Jvm.Cond.code ({ cls := "java/util/Arrays", name := "copyOfRangeByte", desc := "([BII)[B" } : Jvm.MethodName) jdk_65_method_133_code (5 : Nat) (Option.some (Jvm.ClassFile.FieldType.array Jvm.ClassFile.FieldType.byte)), Jvm.Cond.code ({ cls := "java/util/Arrays", name := "checkLength", desc := "(II)V" } : Jvm.MethodName) jdk_65_method_131_code (2 : Nat) (Option.none : Option Jvm.ClassFile.FieldType), Jvm.Cond.code ({ cls := "java/lang/Math", name := "min", desc := "(II)I" } : Jvm.MethodName) jdk_29_method_69_code (2 : Nat) (Option.some Jvm.ClassFile.FieldType.int), Jvm.Cond.code ({ cls := "com/example/lazo/lazo/mapping/SqlName", name := "quoted", desc := "()Z" } : Jvm.MethodName) prog_16_method_8_code (1 : Nat) (Option.some Jvm.ClassFile.FieldType.boolean), Jvm.Cond.code ({ cls := "com/example/lazo/lazo/mapping/SqlName", name := "text", desc := "()Ljava/lang/String;" } : Jvm.MethodName) prog_16_method_7_code (1 : Nat) (Option.some (Jvm.ClassFile.FieldType.object "java/lang/String")), Jvm.Cond.code ({ cls := "java/lang/String", name := "charAt", desc := "(I)C" } : Jvm.MethodName) jdk_42_method_56_code (2 : Nat) (Option.some Jvm.ClassFile.FieldType.char), Jvm.Cond.code ({ cls := "java/lang/String", name := "isLatin1", desc := "()Z" } : Jvm.MethodName) jdk_42_method_154_code (1 : Nat) (Option.some Jvm.ClassFile.FieldType.boolean), Jvm.Cond.code ({ cls := "java/lang/StringLatin1", name := "charAt", desc := "([BI)C" } : Jvm.MethodName) jdk_43_method_2_code (2 : Nat) (Option.some Jvm.ClassFile.FieldType.char), Jvm.Cond.code ({ cls := "java/lang/String", name := "checkIndex", desc := "(II)V" } : Jvm.MethodName) jdk_42_method_155_code (2 : Nat) (Option.none : Option Jvm.ClassFile.FieldType), Jvm.Cond.code ({ cls := "jdk/internal/util/Preconditions", name := "checkIndex", desc := "(IILjava/util/function/BiFunction;)I" } : Jvm.MethodName) jdk_41_method_11_code (3 : Nat) (Option.some Jvm.ClassFile.FieldType.int), Jvm.Cond.code ({ cls := "java/lang/String", name := "valueOf", desc := "(C)Ljava/lang/String;" } : Jvm.MethodName) jdk_42_method_139_code (1 : Nat) (Option.some (Jvm.ClassFile.FieldType.object "java/lang/String")), Jvm.Cond.code ({ cls := "java/lang/StringLatin1", name := "canEncode", desc := "(C)Z" } : Jvm.MethodName) jdk_43_method_3_code (1 : Nat) (Option.some Jvm.ClassFile.FieldType.boolean), Jvm.Cond.code ({ cls := "java/lang/StringLatin1", name := "toBytes", desc := "(C)[B" } : Jvm.MethodName) jdk_43_method_46_code (1 : Nat) (Option.some (Jvm.ClassFile.FieldType.array Jvm.ClassFile.FieldType.byte)), Jvm.Cond.code ({ cls := "java/lang/String", name := "<init>", desc := "([BB)V" } : Jvm.MethodName) jdk_42_method_151_code (3 : Nat) (Option.none : Option Jvm.ClassFile.FieldType)]
set_option maxRecDepth 65536 in
theorem codes_eq : words1.filter isCode = codes1 := rfl
theorem w_codes : ∀ c ∈ words1.filter isCode, c.before args0 about1 = true := by
  rw [codes_eq]
  intro c hc
  simp only [codes1, List.mem_cons, List.not_mem_nil, or_false] at hc
  rcases hc with rfl | rfl | rfl | rfl | rfl | rfl | rfl | rfl | rfl | rfl | rfl | rfl | rfl | rfl | rfl | rfl | rfl | rfl | rfl | rfl | rfl | rfl | rfl | rfl | rfl | rfl | rfl | rfl | rfl | rfl | rfl | rfl | rfl | rfl | rfl | rfl | rfl | rfl | rfl | rfl | rfl | rfl | rfl
  · exact w_c0
  · exact w_c1
  · exact w_c2
  · exact w_c3
  · exact w_c4
  · exact w_c5
  · exact w_c6
  · exact w_c7
  · exact w_c8
  · exact w_c9
  · exact w_c10
  · exact w_c11
  · exact w_c12
  · exact w_c13
  · exact w_c14
  · exact w_c15
  · exact w_c16
  · exact w_c17
  · exact w_c18
  · exact w_c19
  · exact w_c20
  · exact w_c21
  · exact w_c22
  · exact w_c23
  · exact w_c24
  · exact w_c25
  · exact w_c26
  · exact w_c27
  · exact w_c28
  · exact w_c29
  · exact w_c30
  · exact w_c31
  · exact w_c32
  · exact w_c33
  · exact w_c34
  · exact w_c35
  · exact w_c36
  · exact w_c37
  · exact w_c38
  · exact w_c39
  · exact w_c40
  · exact w_c41
  · exact w_c42
set_option maxRecDepth 65536 in
theorem w_t1 : (words1.take 24).all (fun c => isCode c || c.before args0 about1) = true := by decide +kernel
set_option maxRecDepth 65536 in
theorem w_t2 : ((words1.drop 24).take 24).all (fun c => isCode c || c.before args0 about1) = true := by decide +kernel
set_option maxRecDepth 65536 in
theorem w_t3 : (((words1.drop 24).drop 24).take 24).all (fun c => isCode c || c.before args0 about1) = true := by decide +kernel
set_option maxRecDepth 65536 in
theorem w_t4 : ((((words1.drop 24).drop 24).drop 24).take 24).all (fun c => isCode c || c.before args0 about1) = true := by decide +kernel
set_option maxRecDepth 65536 in
theorem w_t5 : (((((words1.drop 24).drop 24).drop 24).drop 24).take 24).all (fun c => isCode c || c.before args0 about1) = true := by decide +kernel
set_option maxRecDepth 65536 in
theorem w_t6 : ((((((words1.drop 24).drop 24).drop 24).drop 24).drop 24).take 24).all (fun c => isCode c || c.before args0 about1) = true := by decide +kernel
set_option maxRecDepth 65536 in
theorem w_t7 : (((((((words1.drop 24).drop 24).drop 24).drop 24).drop 24).drop 24).take 24).all (fun c => isCode c || c.before args0 about1) = true := by decide +kernel
set_option maxRecDepth 65536 in
theorem w_t8 : ((((((((words1.drop 24).drop 24).drop 24).drop 24).drop 24).drop 24).drop 24).take 24).all (fun c => isCode c || c.before args0 about1) = true := by decide +kernel
set_option maxRecDepth 65536 in
theorem w_t9 : (((((((((words1.drop 24).drop 24).drop 24).drop 24).drop 24).drop 24).drop 24).drop 24).take 24).all (fun c => isCode c || c.before args0 about1) = true := by decide +kernel
set_option maxRecDepth 65536 in
theorem w_t10 : (((((((((words1.drop 24).drop 24).drop 24).drop 24).drop 24).drop 24).drop 24).drop 24).drop 24).all (fun c => isCode c || c.before args0 about1) = true := by decide +kernel
theorem w_tables : (allAtoms (Jvm.Cond.code x code maxLocals ret :: tables_1)).before args0 about1 = true := by
  rw [allAtoms_all]
  show words1.all (fun c => c.before args0 about1) = true
  refine all_split ?_ w_codes
  rw [← List.take_append_drop 24 words1, List.all_append, w_t1, ← List.take_append_drop 24 (words1.drop 24), List.all_append, w_t2, ← List.take_append_drop 24 ((words1.drop 24).drop 24), List.all_append, w_t3, ← List.take_append_drop 24 (((words1.drop 24).drop 24).drop 24), List.all_append, w_t4, ← List.take_append_drop 24 ((((words1.drop 24).drop 24).drop 24).drop 24), List.all_append, w_t5, ← List.take_append_drop 24 (((((words1.drop 24).drop 24).drop 24).drop 24).drop 24), List.all_append, w_t6, ← List.take_append_drop 24 ((((((words1.drop 24).drop 24).drop 24).drop 24).drop 24).drop 24), List.all_append, w_t7, ← List.take_append_drop 24 (((((((words1.drop 24).drop 24).drop 24).drop 24).drop 24).drop 24).drop 24), List.all_append, w_t8, ← List.take_append_drop 24 ((((((((words1.drop 24).drop 24).drop 24).drop 24).drop 24).drop 24).drop 24).drop 24), List.all_append, w_t9, w_t10]
  rfl
set_option maxRecDepth 65536 in
theorem w_rest : rest_1_c.before args0 about1 = true := by decide +kernel
set_option maxRecDepth 65536 in
theorem w_case : (Jvm.Cond.and given_1 narrow_1).before args0 about1 = true := by decide +kernel
set_option maxRecDepth 65536 in
theorem w_consts : constsHeld consts_1 about1 := Jvm.Lit.constsHeldB_iff.mp (by decide +kernel)
theorem w_applies : (headSpec (Jvm.Cond.code x code maxLocals ret :: tables_1) room_1).applies x e0.platform about1 = true :=
  (Spec.applies_iff w_frames).mpr ⟨w_running, w_runnable, w_alone, w_named, w_hears, w_ripe, w_room, w_tables⟩
theorem atStart : AtStart classFile x code maxLocals ret World_1 tables_1 room_1 Calls_1 rest_1 Pre_1 launch0 p0 e0 about1 theMethod args0 below0 :=
  ⟨lists_1, trivial, launch0.admits_env _ _ _, launch0.least_env, fairChoices_fair.cas, fairChoices_fair.clock, w_frames, w_args, w_heap, w_applies, ⟨w_consts, trivial⟩, w_rest, w_case⟩
end start1
theorem witness_1 : WitnessClaimed_1 := ⟨start1.p0, start1.e0, start1.about1, start1.theMethod, start1.args0, start1.below0, start1.atStart⟩
end Jvm.Pilot.@@N@@
