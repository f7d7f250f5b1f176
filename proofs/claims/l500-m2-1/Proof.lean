import JvmDerived
import JvmDerived.Pilot.@@N@@Statement
import JvmDerived.Pilot.@@N@@Code
set_option linter.unusedVariables false
set_option linter.unusedSimpArgs false
namespace Jvm.Own
open Jvm Jvm.ClassFile Sem Op Lib Jvm.Free Jvm.Stand Jvm.LawKit Jvm.RoadKit Bundle
/-! OWN LAYER: a wp-style reading of RoadKit's laws. V: the case's view (start state, start arguments, the literals that are held, narrow or wide, the launch). B: a body (name, bytes, max locals, return type, room). K: one invocation. -/
abbrev Vw : Type := State × Array Value × List (String × Nat) × Bool × Launch
abbrev Vw.Z (V : Vw) : State := V.1
abbrev Vw.a0 (V : Vw) : Array Value := V.2.1
abbrev Vw.EL (V : Vw) : List (String × Nat) := V.2.2.1
abbrev Vw.nar (V : Vw) : Bool := V.2.2.2.1
abbrev Vw.l (V : Vw) : Launch := V.2.2.2.2
abbrev Bx : Type := MethodName × ByteArray × Nat × Option FieldType × Room
abbrev Bx.y (B : Bx) : MethodName := B.1
abbrev Bx.code (B : Bx) : ByteArray := B.2.1
abbrev Bx.ml (B : Bx) : Nat := B.2.2.1
abbrev Bx.ret (B : Bx) : Option FieldType := B.2.2.2.1
abbrev Bx.R (B : Bx) : Room := B.2.2.2.2
abbrev Cx : Type := Program × Env × State × MethodId × Array Value × List Frame × Method × Code
abbrev Cx.p (K : Cx) : Program := K.1
abbrev Cx.e (K : Cx) : Env := K.2.1
abbrev Cx.s (K : Cx) : State := K.2.2.1
abbrev Cx.m (K : Cx) : MethodId := K.2.2.2.1
abbrev Cx.args (K : Cx) : Array Value := K.2.2.2.2.1
abbrev Cx.below (K : Cx) : List Frame := K.2.2.2.2.2.1
abbrev Cx.meth (K : Cx) : Method := K.2.2.2.2.2.2.1
abbrev Cx.c (K : Cx) : Code := K.2.2.2.2.2.2.2
abbrev Qt : Type := Option Value → Heap → List Addr → Prop
def ushr (x y : Int32) : Int32 := (x.toUInt32 >>> (y &&& 31).toUInt32).toInt32
def ushrL (x : Int64) (y : Int32) : Int64 := (x.toUInt64 >>> (y &&& 0x3f).toInt64.toUInt64).toInt64
def Fx (K : Cx) (B : Bx) : Prop := K.p.tables.exec = Jvm.exec ∧ K.c.code = B.code ∧ K.c.maxLocals = B.ml ∧ K.meth.sig.returnType = B.ret ∧ K.meth.locks = false ∧ K.meth.name = B.y.name
def Sf (V : Vw) (vm : Vm) (h : Heap) (ps : List Addr) : Prop := ∀ x ∈ ps, x < h.size ∧ Safe V.Z V.EL vm h x
def Std (V : Vw) (K : Cx) (B : Bx) (T : State) (h : Heap) (ps : List Addr) (cs sl : Nat) : Prop :=
  ∃ (locs : List Loc) (vm0 : Vm) (k0 : Nat), Stand K.p V.l K.e B.R (K.s.setVm vm0) K.m K.args K.below K.meth K.c T locs cs sl ∧ T.heap = h ∧ V.Z.Warmed39 vm0 ∧ vm0.findClass B.y.cls = some K.m.cls ∧ K.s.Since vm0 k0 ∧ k0 ≤ h.size ∧
    Fr V.Z.heap.size locs ∧ Ext V.Z.heap h ∧ CHr V.Z V.EL K.s.vm K.s.heap vm0 h ∧ Sf V vm0 h ps ∧ EW V.Z V.a0 V.EL ∧ (V.nar = true → vm0 = K.s.vm ∧ V.EL = []) ∧ Fx K B
def Fnl (V : Vw) (K : Cx) (B : Bx) (Q : Qt) (o : Outcome) (t : State) : Prop :=
  ∃ (v : Option Value) (L : List Loc) (ps : List Addr), o = .returned v ∧ Fr V.Z.heap.size L ∧ Q v t.heap ps ∧ Ext V.Z.heap t.heap ∧ Sf V t.vm t.heap ps ∧ CHr V.Z V.EL K.s.vm K.s.heap t.vm t.heap ∧
    ReturnedEndW K.s o t L B.R.cells B.R.slots ∧ (V.nar = true → FrameEnd K.s o t L B.R.cells B.R.slots)
def Run (V : Vw) (K : Cx) (B : Bx) (Q : Qt) (h : Heap) (ps : List Addr) (cs sl pc : Nat) (L : List Slot) (S : List Value) : Prop :=
  ∀ T, Std V K B T h ps cs sl → ∃ t o, Steps K.p.tables K.e K.below (T.setTop (mkF K.m pc L.toArray S)) t ∧ t.status = .running ∧ Ended t K.below o ∧ Fnl V K B Q o t
/-- the contract of a body, at one heap and for one row of arguments -/
def Con (V : Vw) (B : Bx) (as' : Array Value) (h0 : Heap) (ps : List Addr) (Q : Qt) : Prop :=
  EW V.Z V.a0 V.EL → Ext V.Z.heap h0 → (V.nar = true → V.EL = []) → ∀ ws, MetFree V.l B.y (head1 (Jvm.Cond.code B.y B.code B.ml B.ret :: ws) B.R)
    (fun a U => a = as' ∧ V.Z.Warmed39 U.vm ∧ U.heap = h0 ∧ CHv V.Z V.EL U.vm h0 ∧ Sf V U.vm h0 ps) (fun _ _ _ _ _ => True)
    (fun _ U o U' => ∃ (v : Option Value) (L : List Loc) (ps' : List Addr), o = .returned v ∧ Fr V.Z.heap.size L ∧ Q v U'.heap ps' ∧ Ext V.Z.heap U'.heap ∧ Sf V U'.vm U'.heap ps' ∧ CHr V.Z V.EL U.vm U.heap U'.vm U'.heap ∧
      ReturnedEndW U o U' L B.R.cells B.R.slots ∧ (V.nar = true → FrameEnd U o U' L B.R.cells B.R.slots))
/-- what a call of y gives in the invocation K of B -/
def PreP (B : Bx) (as' : Array Value) (h : Heap) (nc ns : Nat) : Pt → Array Value → Prop := fun A a => a = as' ∧ A.U.heap = h ∧ A.cells + nc ≤ B.R.cells ∧ A.slots + ns ≤ B.R.slots
def PostP (V : Vw) (vm0 : Vm) (h : Heap) (nc ns : Nat) (Q : Qt) : Pt → Array Value → Option Value → Pt → Prop := fun A _ v C =>
  ∃ (L : List Loc) (ps : List Addr), Fr V.Z.heap.size L ∧ Q v C.U.heap ps ∧ Ext V.Z.heap C.U.heap ∧ h.size ≤ C.U.heap.size ∧ Sf V C.U.vm C.U.heap ps ∧ C.locs = A.locs ++ L ∧ C.cells = A.cells + nc ∧ C.slots = A.slots + ns ∧ CHr V.Z V.EL vm0 h C.U.vm C.U.heap
def Pays (V : Vw) (K : Cx) (B : Bx) (y : MethodName) (len W : Nat) (as' : Array Value) (h : Heap) (ps : List Addr) (nc ns : Nat) (Q : Qt) : Prop :=
  ∀ vm0, V.Z.Warmed39 vm0 → CHv V.Z V.EL vm0 h → Sf V vm0 h ps → EW V.Z V.a0 V.EL → Ext V.Z.heap h → (V.nar = true → V.EL = []) →
    (V.nar = true → Back V.l B.R K.p K.e K.below (K.s.setVm vm0) K.args y len W (PreP B as' h nc ns) (PostP V vm0 h nc ns Q)) ∧
    (V.nar = false → BackS V.l B.R K.p K.e K.below (K.s.setVm vm0) K.args y len W (PreP B as' h nc ns) (PostP V vm0 h nc ns Q))
theorem ltN {a n : Nat} (h : a < n) : a < n := h
theorem leN {a n : Nat} (h : a ≤ n) : a ≤ n := h
theorem neN {a b : Nat} (h : a ≠ b) : a < b ∨ b < a := Nat.lt_or_gt_of_ne h
theorem neA {a b : Nat} (h : a < b ∨ b < a) : a ≠ b := fun e => by omega
theorem leA {a b : Nat} (h : a ≤ b) : a ≤ b := h
theorem wd {V : Vw} {Ls : List Jvm.Cond} (hw : ∀ d ∈ Ls, d.before V.a0 V.Z = true) (i : Nat) {d : Jvm.Cond} (h : Ls[i]? = some d) : d.before V.a0 V.Z = true := hw d (List.mem_of_getElem? h)
section Basics
variable {V : Vw} {K : Cx} {B : Bx} {Q : Qt} {T : State} {h h' : Heap} {ps ps' : List Addr} {cs sl pc : Nat} {L : List Slot} {S : List Value}
theorem Sf.nil {vm : Vm} : Sf V vm h [] := fun _ q => nomatch q
theorem Sf.cons {vm : Vm} {x : Addr} (a : x < h.size) (b : Safe V.Z V.EL vm h x) (c : Sf V vm h ps) : Sf V vm h (x :: ps) := fun y q => by
  rcases List.mem_cons.mp q with rfl | q
  · exact ⟨a, b⟩
  · exact c y q
theorem Sf.app {vm : Vm} (c : Sf V vm h ps) (d : Sf V vm h ps') : Sf V vm h (ps ++ ps') := fun y q => (List.mem_append.mp q).elim (c y) (d y)
theorem Sf.sub {vm : Vm} (c : Sf V vm h ps) (d : ∀ x ∈ ps', x ∈ ps) : Sf V vm h ps' := fun y q => c y (d y q)
theorem Sf.go {vm vm1 : Vm} (c : Sf V vm h ps) (A : CHr V.Z V.EL vm h vm1 h') : Sf V vm1 h' ps := fun y q => ⟨Nat.lt_of_lt_of_le (c y q).1 A.2.1, A.safe (c y q).1 (c y q).2⟩
theorem chr0 {Z : State} {vm vm1 : Vm} (q : h.size ≤ h'.size) : CHr Z [] vm h vm1 h' := ⟨(fun _ hp => nomatch hp), q, (fun _ z => by obtain ⟨_, hp, _⟩ := z; exact nomatch hp)⟩
theorem oldWr {Z : State} {a : Addr} {j : Nat} {v : Value} (O : Ext Z.heap h) (W : Wr h h' a j v) (q : Z.heap.size ≤ a) : Ext Z.heap h' := (Old.wr (show Old Z Z.heap.size h from ⟨rfl, O⟩) W q).2
theorem oldKeep {Z : State} {ws : List Addr} (O : Ext Z.heap h) (W : Keep h h' ws) (q : ∀ x ∈ ws, Z.heap.size ≤ x) : Ext Z.heap h' := (Old.keep (show Old Z Z.heap.size h from ⟨rfl, O⟩) W q).2
theorem Ext.trans' {h1 h2 h3 : Heap} (A : Ext h1 h2) (C : Ext h2 h3) : Ext h1 h3 := ⟨Nat.le_trans A.1 C.1, fun a c q => C.2 a c (A.2 a c q)⟩
/-- a step that moves nothing of the heap -/
theorem Run.plain {pc' : Nat} {L' : List Slot} {S' : List Value} (r : Run V K B Q h ps cs sl pc' L' S')
    (st : ∀ T t, At T K.m K.c K.below → K.p.tables.exec = Jvm.exec → K.c.code = B.code → Steps K.p.tables K.e K.below (T.setTop (mkF K.m pc' L'.toArray S')) t → Steps K.p.tables K.e K.below (T.setTop (mkF K.m pc L.toArray S)) t) :
    Run V K B Q h ps cs sl pc L S := fun T hT => by
  obtain ⟨t, o, h1, h2⟩ := r T hT
  obtain ⟨locs, vm0, k0, X, -, -, -, -, -, -, -, -, -, -, -, G⟩ := hT
  exact ⟨t, o, st T t X.here G.1 G.2.1 h1, h2⟩
theorem Run.more {cs' sl' : Nat} (hc : cs ≤ cs') (hs : sl ≤ sl') (r : Run V K B Q h ps cs' sl' pc L S) : Run V K B Q h ps cs sl pc L S := fun T hT => by
  obtain ⟨locs, vm0, k0, X, rest⟩ := hT
  exact r T ⟨locs, vm0, k0, X.more hc hs, rest⟩
theorem Run.less (hs : ∀ x ∈ ps', x ∈ ps) (r : Run V K B Q h ps' cs sl pc L S) : Run V K B Q h ps cs sl pc L S := fun T hT => by
  obtain ⟨locs, vm0, k0, X, e1, e2, e3, e4, e5, e6, e7, e8, e9, e10⟩ := hT
  exact r T ⟨locs, vm0, k0, X, e1, e2, e3, e4, e5, e6, e7, e8, e9.sub hs, e10⟩
/-- what the walk knows at any time: all that stood at the case's start stands -/
theorem Run.old (r : Ext V.Z.heap h → Run V K B Q h ps cs sl pc L S) : Run V K B Q h ps cs sl pc L S := fun T hT => by
  have O : Ext V.Z.heap h := by obtain ⟨locs, vm0, k0, X, e1, e2, e3, e4, e5, e6, e7, e8, e9, e10⟩ := hT; exact e7
  exact r O T hT
/-- a step that moves the state but not the heap -/
theorem Run.still {pc' : Nat} {L' : List Slot} {S' : List Value} (r : Run V K B Q h ps cs sl pc' L' S')
    (st : ∀ T locs vm0, Stand K.p V.l K.e B.R (K.s.setVm vm0) K.m K.args K.below K.meth K.c T locs cs sl → T.heap = h → V.Z.Warmed39 (K.s.setVm vm0).vm → (K.s.setVm vm0).vm.findClass B.y.cls = some K.m.cls → Ext V.Z.heap h → Fx K B →
      ∃ T', Stand K.p V.l K.e B.R (K.s.setVm vm0) K.m K.args K.below K.meth K.c T' locs cs sl ∧ T'.heap = h ∧ ∀ t, Steps K.p.tables K.e K.below (T'.setTop (mkF K.m pc' L'.toArray S')) t → Steps K.p.tables K.e K.below (T.setTop (mkF K.m pc L.toArray S)) t) :
    Run V K B Q h ps cs sl pc L S := fun T hT => by
  obtain ⟨locs, vm0, k0, X, e1, e2, e3, e4, e5, e6, e7, e8, e9, e10, e11, e12⟩ := hT
  obtain ⟨T', X', e', st'⟩ := st T locs vm0 X e1 e2 e3 e7 e12
  obtain ⟨t, o, h1, h2⟩ := r T' ⟨locs, vm0, k0, X', e', e2, e3, e4, e5, e6, e7, e8, e9, e10, e11, e12⟩
  exact ⟨t, o, st' _ h1, h2⟩
/-- a step that writes one slot of a cell that the case has made -/
theorem Run.write {pc' : Nat} {L' : List Slot} {S' : List Value} {a : Addr} {v : Value} {j : Nat} (ha : V.Z.heap.size ≤ a) (hs : ∀ vm, V.Z.vm.Alike vm → Sf V vm h ps → Safe V.Z V.EL vm h a) (r : ∀ h', Wr h h' a j v → Run V K B Q h' ps cs sl pc' L' S')
    (st : ∀ T locs vm0, Stand K.p V.l K.e B.R (K.s.setVm vm0) K.m K.args K.below K.meth K.c T locs cs sl → T.heap = h → V.Z.Warmed39 (K.s.setVm vm0).vm → (K.s.setVm vm0).vm.findClass B.y.cls = some K.m.cls → Fx K B →
      ∃ T' h', Stand K.p V.l K.e B.R (K.s.setVm vm0) K.m K.args K.below K.meth K.c T' (locs ++ [⟨a, j⟩]) cs sl ∧ T'.heap = h' ∧ Wr h h' a j v ∧ ∀ t, Steps K.p.tables K.e K.below (T'.setTop (mkF K.m pc' L'.toArray S')) t → Steps K.p.tables K.e K.below (T.setTop (mkF K.m pc L.toArray S)) t) :
    Run V K B Q h ps cs sl pc L S := fun T hT => by
  obtain ⟨locs, vm0, k0, X, e1, e2, e3, e4, e5, e6, e7, e8, e9, e10, e11, e12⟩ := hT
  obtain ⟨T', h', X', e', W, st'⟩ := st T locs vm0 X e1 e2 e3 e12
  have C := CHr.wr W (hs vm0 e2.alike e9) e8.1
  obtain ⟨t, o, h1, h2⟩ := r h' W T' ⟨_, vm0, k0, X', e', e2, e3, e4, by rw [W.size]; exact e5, Fr.snoc X' e6 ha, oldWr e7 W ha, e8.trans C, e9.go C, e10, e11, e12⟩
  exact ⟨t, o, st' _ h1, h2⟩
/-- a step that makes one cell -/
theorem Run.make {pc' nn : Nat} {L' : List Slot} {S' : Addr → List Value} {P : Heap → Prop} (r : ∀ h', Ext h h' → V.Z.heap.size ≤ h.size → P h' → Run V K B Q h' (h.size :: ps) (cs + 1) (sl + nn) pc' L' (S' h.size))
    (st : ∀ T locs vm0, Stand K.p V.l K.e B.R (K.s.setVm vm0) K.m K.args K.below K.meth K.c T locs cs sl → T.heap = h → V.Z.Warmed39 (K.s.setVm vm0).vm → (K.s.setVm vm0).vm.findClass B.y.cls = some K.m.cls → Fx K B →
      ∃ T' h', Stand K.p V.l K.e B.R (K.s.setVm vm0) K.m K.args K.below K.meth K.c T' locs (cs + 1) (sl + nn) ∧ T'.heap = h' ∧ Ext h h' ∧ h.size < h'.size ∧ P h' ∧ ∀ t, Steps K.p.tables K.e K.below (T'.setTop (mkF K.m pc' L'.toArray (S' h.size))) t → Steps K.p.tables K.e K.below (T.setTop (mkF K.m pc L.toArray S)) t) :
    Run V K B Q h ps cs sl pc L S := fun T hT => by
  obtain ⟨locs, vm0, k0, X, e1, e2, e3, e4, e5, e6, e7, e8, e9, e10, e11, e12⟩ := hT
  obtain ⟨T', h', X', e', E, hlt, hP, st'⟩ := st T locs vm0 X e1 e2 e3 e12
  have C := CHr.ext E e8.1
  obtain ⟨t, o, h1, h2⟩ := r h' E e7.1 hP T' ⟨_, vm0, k0, X', e', e2, e3, e4, Nat.le_trans e5 E.1, e6, Ext.trans' e7 E, e8.trans C, Sf.cons hlt ((Safe.new (Nat.le_refl _)).ext E e8.1) (e9.go C), e10, e11, e12⟩
  exact ⟨t, o, st' _ h1, h2⟩
/-- the way into a body -/
theorem Con.of {as' : Array Value} (hp : plainFor B.y = true) (hl : argsToLocals as' B.ml = L.toArray) (body : ∀ K : Cx, Run V K B Q h ps 0 0 0 L []) : Con V B as' h ps Q := fun hE hO hN ws => by
  refine MetFree.of_bodySF hp hisR ?_
  intro p e s m args below meth c s₁ Bd hml0 hP hK
  obtain ⟨rfl, hZ, hh, hC, hS⟩ := hP
  have X0 : Stand p V.l e B.R s m args below meth c s₁ [] 0 0 := Stand.of_body Bd
  have e0 : s₁.heap = h := by rw [← hh, Bd.state]; rfl
  have hn := (name_of_methodNamed Bd.named Bd.method).1
  obtain ⟨t, o, h1, h2, h3, h4⟩ := body (p, e, s, m, args, below, meth, c) s₁
    ⟨[], s.vm, h.size, X0, e0, hZ, findClass_of_methodNamed Bd.named, (State.WarmedH.refl s).since _, Nat.le_refl _, Fr.nil _, hO, (by show CHr V.Z V.EL s.vm s.heap s.vm h; rw [hh]; exact CHr.refl hC), hS, hE, fun q => ⟨rfl, hN q⟩, Bd.exec, Bd.bytes, hml0, Bd.returns, BodyLoose.notSynchronized Bd, hn⟩
  refine ⟨t, o, ?_, h2, h3, h4⟩
  have q : entryFrame m args B.ml = mkF m 0 L.toArray [] := by simp only [entryFrame, mkF, hl]
  rw [q]; exact h1
/-- a contract pays a call -/
theorem Pays.con {B' : Bx} {as' : Array Value} {len W : Nat} (C : Con V B' as' h ps Q) (wc : (Jvm.Cond.code B'.y B'.code B'.ml B'.ret).before V.a0 V.Z = true) (wz : (Jvm.Cond.initialized B'.y.cls).before V.a0 V.Z = true)
    (hf : B'.R.frames + 1 ≤ B.R.frames) (hl : W + (B'.ml + 11) + B'.R.locals ≤ B.R.locals) : Pays V K B B'.y len W as' h ps B'.R.cells B'.R.slots Q := fun vm0 hZ hC hS hE hO hN => by
  have hM := C hE hO hN []
  refine ⟨fun hn => ?_, fun hn => ?_⟩
  · refine Back.of_free (bytes := B'.code) (maxL := B'.ml) (ret := B'.ret) (E := fun _ first o t L k n => k = B'.R.cells ∧ n = B'.R.slots ∧ ∃ v ps', o = .returned v ∧ Fr V.Z.heap.size L ∧ Q v t.heap ps' ∧ Ext V.Z.heap t.heap ∧ first.heap.size ≤ t.heap.size ∧ Sf V t.vm t.heap ps') hM hf hl
      (fun m meth c A a Y hp => have hU : V.Z.Warmed39 A.U.vm := wtrans (s := K.s.setVm vm0) hZ Y.warmed
        ⟨by show (Cond.and _ .tt).before a A.U = true; rw [Cond.before_and, mv hU wc]; rfl, mv hU wc, mv hU wz, hp.2.2.1, hp.2.2.2⟩)
      (fun m meth c A a g mk Y hp => ?_) (fun _ _ _ _ _ _ _ _ _ => trivial)
      (fun _ _ _ _ ⟨v, L, ps', h1, h2, h3, h4, h5, h6, h7, h8⟩ => ⟨L, _, _, h8 hn, rfl, rfl, v, ps', h1, h2, h3, h4, h6.2.1, h5⟩)
      (fun m meth c A a g mk v t L k n Y hp _ _ ⟨e1, e2, v', ps', e3, e4, e5, e6, e7, e8⟩ => ?_)
    · have A' := CHv.at Y hZ hE hC
      exact ⟨hp.1, wtrans (s := K.s.setVm vm0) hZ Y.warmed, hp.2.1, A'.1, hS.go A'⟩
    · cases e3; subst e1 e2
      have q : h.size ≤ t.heap.size := by rw [← hp.2.1]; exact e7
      exact ⟨L, ps', e4, e5, e6, q, e8, rfl, rfl, rfl, by rw [hN hn]; exact chr0 q⟩
  · refine BackS.of_freeW (bytes := B'.code) (maxL := B'.ml) (ret := B'.ret) (E := fun _ first o t L k n => k = B'.R.cells ∧ n = B'.R.slots ∧ (∃ v ps', o = .returned v ∧ Fr V.Z.heap.size L ∧ Q v t.heap ps' ∧ Ext V.Z.heap t.heap ∧ Sf V t.vm t.heap ps') ∧ CHr V.Z V.EL first.vm first.heap t.vm t.heap) hM hf hl
      (fun m meth c A a Y hp => have hU : V.Z.Warmed39 A.U.vm := wtrans (s := K.s.setVm vm0) hZ Y.warmed
        ⟨by show (Cond.and _ .tt).before a A.U = true; rw [Cond.before_and, mv hU wc]; rfl, mv hU wc, mv hU wz, hp.2.2.1, hp.2.2.2⟩)
      (fun m meth c A a g mk Y hp => ?_) (fun _ _ _ _ _ _ _ _ _ => trivial)
      (fun _ _ _ _ ⟨v, L, ps', h1, h2, h3, h4, h5, h6, h7, h8⟩ => ⟨L, _, _, h7, rfl, rfl, ⟨v, ps', h1, h2, h3, h4, h5⟩, h6⟩)
      (fun m meth c A a g mk v t L k n Y hp _ _ ⟨e1, e2, ⟨v', ps', e3, e4, e5, e6, e8⟩, e7⟩ => ?_)
    · have A' := CHv.at Y hZ hE hC
      exact ⟨hp.1, wtrans (s := K.s.setVm vm0) hZ Y.warmed, hp.2.1, A'.1, hS.go A'⟩
    · cases e3; subst e1 e2
      have q : CHr V.Z V.EL A.U.vm h t.vm t.heap := by rw [← hp.2.1]; exact e7
      exact ⟨L, ps', e4, e5, e6, q.2.1, e8, rfl, rfl, rfl, (CHv.at Y hZ hE hC).trans q⟩
/-- a law that says what it keeps (the pasted laws of the JDK) pays a call -/
theorem Pays.back {y : MethodName} {as' : Array Value} {len W nc ns : Nat} {ws : List Addr} {Q0 : Option Value → Heap → List Loc → Prop}
    (hB : ∀ s : State, V.Z.Warmed39 s.vm → Back V.l B.R K.p K.e K.below s K.args y len W (fun A a => a = as' ∧ A.U.heap = h ∧ A.cells + nc ≤ B.R.cells ∧ A.slots + ns ≤ B.R.slots) (fun A _ v C => ∃ L, Q0 v C.U.heap L ∧ C.locs = A.locs ++ L ∧ C.cells = A.cells + nc ∧ C.slots = A.slots + ns))
    (hQ : ∀ v h' L, Q0 v h' L → Fr V.Z.heap.size L ∧ Keep h h' ws ∧ Q v h' []) (hws : ∀ x ∈ ws, V.Z.heap.size ≤ x) (hsafe : ∀ vm, V.Z.vm.Alike vm → Sf V vm h ps → ∀ x ∈ ws, Safe V.Z V.EL vm h x) :
    Pays V K B y len W as' h ps nc ns Q := fun vm0 hZ hC hS hE hO hN => by
  have hb0 := hB (K.s.setVm vm0) hZ
  have post : ∀ m meth c A a v C, Stand K.p V.l K.e B.R (K.s.setVm vm0) m K.args K.below meth c (Pt.U C) (Pt.locs C) (Pt.cells C) (Pt.slots C) → (∃ L, Q0 v C.U.heap L ∧ C.locs = (Pt.locs A) ++ L ∧ C.cells = (Pt.cells A) + nc ∧ C.slots = (Pt.slots A) + ns) → PostP V vm0 h nc ns Q A a v C := fun m meth c A a v C Y ⟨L, q, r1, r2, r3⟩ => by
    obtain ⟨q1, q2, q3⟩ := hQ _ _ _ q
    have C1 := CHr.keep q2 (hsafe vm0 hZ.alike hS) hC
    exact ⟨L, [], q1, q3, oldKeep hO q2 hws, q2.1, Sf.nil, r1, r2, r3, C1.trans (CHv.at Y hZ hE C1.1)⟩
  refine ⟨fun hn => ?_, fun hn => ?_⟩
  · intro m meth c A g ig mk a X hg hsize hdg hW hn' hp
    obtain ⟨v, C, X', hpost, hst⟩ := hb0 m meth c A g ig mk a X hg hsize hdg hW hn' hp
    exact ⟨v, C, X', post m meth c A a v C X' hpost, hst⟩
  · intro m meth c A g ig mk a X hg hsize hdg hW hn' hp
    obtain ⟨v, C, X', hpost, hst⟩ := hb0 m meth c A g ig mk a X hg hsize hdg hW hn' hp
    have hpo := post m meth c A a v C X' hpost
    refine ⟨v, C, X'.retabled X'.warmed.wide, X'.warmed.since _, ?_, hpo, hst⟩
    rw [hp.2.1]; obtain ⟨L, ps1, -, -, -, q, -⟩ := hpo; exact q
/-- behind a call: the invocation stands again -/
theorem Run.behind {vm0 : Vm} {k0 : Nat} {locs : List Loc} {nc ns : Nat} {Q' : Qt} {v : Option Value} {vm₁ : Vm} {C : Pt} {pc' : Nat} {L' : List Slot} {S' : List Value} {a : Array Value}
    (e2 : V.Z.Warmed39 vm0) (e3 : vm0.findClass B.y.cls = some K.m.cls) (e4 : K.s.Since vm0 k0) (e5 : k0 ≤ h.size) (e6 : Fr V.Z.heap.size locs) (e8 : CHr V.Z V.EL K.s.vm K.s.heap vm0 h) (e9 : Sf V vm0 h ps) (e10 : EW V.Z V.a0 V.EL) (e11 : V.nar = true → vm0 = K.s.vm ∧ V.EL = []) (e12 : Fx K B)
    (X : (V.nar = true ∧ Stand K.p V.l K.e B.R (K.s.setVm vm0) K.m K.args K.below K.meth K.c C.U C.locs C.cells C.slots) ∨ (V.nar = false ∧ Stand K.p V.l K.e B.R ((K.s.setVm vm0).setVm C.U.vm) K.m K.args K.below K.meth K.c C.U C.locs C.cells C.slots ∧ (K.s.setVm vm0).Since C.U.vm C.U.heap.size))
    (hp : PostP V vm0 h nc ns Q' ⟨T.setVm vm₁, locs, cs, sl⟩ a v C) (r : ∀ v h' ps', Q' v h' ps' → h.size ≤ h'.size → Run V K B Q h' (ps' ++ ps) (cs + nc) (sl + ns) pc' L' (v.toList ++ S')) :
    ∃ t o, Steps K.p.tables K.e K.below (C.U.setTop (mkF K.m pc' L'.toArray (v.toList ++ S'))) t ∧ t.status = .running ∧ Ended t K.below o ∧ Fnl V K B Q o t := by
  obtain ⟨Lc, ps', q1, q2, q3, q4, q5, q6, q7, q8, q9⟩ := hp
  rcases X with ⟨hn, X⟩ | ⟨hn, X, hS⟩
  · refine r v _ ps' q2 q4 C.U ⟨_, vm0, k0, by rw [← q7, ← q8]; exact X, rfl, e2, e3, e4, Nat.le_trans e5 q4, by rw [q6]; exact e6.app q1, q3, ?_, ?_, e10, e11, e12⟩
    · rw [(e11 hn).2]; exact chr0 (Nat.le_trans e8.2.1 q4)
    · intro x hx
      refine ⟨?_, by rw [(e11 hn).2]; exact fun ⟨_, hp, _⟩ => nomatch hp⟩
      rcases List.mem_append.mp hx with hx | hx
      · exact (q5 x hx).1
      · exact Nat.lt_of_lt_of_le (e9 x hx).1 q4
  · obtain ⟨X1, S1, W1, F1⟩ := rebS (Z := V.Z) (own := B.y.cls) e4 e5 X hS q4 e2 e3
    exact r v _ ps' q2 q4 C.U ⟨_, C.U.vm, _, by rw [← q7, ← q8]; exact X1, rfl, W1, F1, S1, Nat.le_refl _, by rw [q6]; exact e6.app q1, q3, e8.trans q9, q5.app (e9.go q9), e10, fun q => absurd (hn.symm.trans q) (by decide), e12⟩
end Basics
end Jvm.Own
namespace Jvm.Own
open Jvm Jvm.ClassFile Sem Op Lib Jvm.Free Jvm.Stand Jvm.LawKit Jvm.RoadKit Bundle
section Rules
variable {V : Vw} {K : Cx} {B : Bx} {Q : Qt} {T : State} {h h' : Heap} {ps ps' : List Addr} {cs sl pc : Nat} {L : List Slot} {S : List Value}
theorem r_iload {k : Nat} {v : Int32} (pc' : Nat) (hp : pc + 2 = pc') (hd : decode B.code pc = .ok (.iload k, 2)) (hl : L[k]? = some (.val (.int v))) (r : Run V K B Q h ps cs sl pc' L (.int v :: S)) : Run V K B Q h ps cs sl pc L (S) := by
  subst hp; exact r.plain fun T t hA hx hc st => XS.iload hA hx rfl (hb hc hd) (by show L.toArray[_]? = _; rw [List.getElem?_toArray]; exact hl) st
theorem r_iloadN {k : Fin 4} {v : Int32} (pc' : Nat) (hp : pc + 1 = pc') (hd : decode B.code pc = .ok (.iload_n k, 1)) (hl : L[k.val]? = some (.val (.int v))) (r : Run V K B Q h ps cs sl pc' L (.int v :: S)) : Run V K B Q h ps cs sl pc L (S) := by
  subst hp; exact r.plain fun T t hA hx hc st => XS.iloadN hA hx rfl (hb hc hd) (by show L.toArray[_]? = _; rw [List.getElem?_toArray]; exact hl) st
theorem r_istore {k : Nat} {x : Int32} (L' : List Slot) (pc' : Nat) (hp : pc + 2 = pc') (hd : decode B.code pc = .ok (.istore k, 2)) (hl : storeLocals L.toArray k (.int x) = some L'.toArray) (r : Run V K B Q h ps cs sl pc' L' (S)) : Run V K B Q h ps cs sl pc L (.int x :: S) := by
  subst hp; exact r.plain fun T t hA hx hc st => XS.istore hA hx rfl (hb hc hd) rfl hl st
theorem r_istoreN {k : Fin 4} {x : Int32} (L' : List Slot) (pc' : Nat) (hp : pc + 1 = pc') (hd : decode B.code pc = .ok (.istore_n k, 1)) (hl : storeLocals L.toArray k.val (.int x) = some L'.toArray) (r : Run V K B Q h ps cs sl pc' L' (S)) : Run V K B Q h ps cs sl pc L (.int x :: S) := by
  subst hp; exact r.plain fun T t hA hx hc st => XS.istoreN hA hx rfl (hb hc hd) rfl hl st
theorem r_lload {k : Nat} {v : Int64} (pc' : Nat) (hp : pc + 2 = pc') (hd : decode B.code pc = .ok (.lload k, 2)) (hl : L[k]? = some (.val (.long v))) (r : Run V K B Q h ps cs sl pc' L (.long v :: S)) : Run V K B Q h ps cs sl pc L (S) := by
  subst hp; exact r.plain fun T t hA hx hc st => XS.lload hA hx rfl (hb hc hd) (by show L.toArray[_]? = _; rw [List.getElem?_toArray]; exact hl) st
theorem r_lloadN {k : Fin 4} {v : Int64} (pc' : Nat) (hp : pc + 1 = pc') (hd : decode B.code pc = .ok (.lload_n k, 1)) (hl : L[k.val]? = some (.val (.long v))) (r : Run V K B Q h ps cs sl pc' L (.long v :: S)) : Run V K B Q h ps cs sl pc L (S) := by
  subst hp; exact r.plain fun T t hA hx hc st => XS.lloadN hA hx rfl (hb hc hd) (by show L.toArray[_]? = _; rw [List.getElem?_toArray]; exact hl) st
theorem r_lstore {k : Nat} {x : Int64} (L' : List Slot) (pc' : Nat) (hp : pc + 2 = pc') (hd : decode B.code pc = .ok (.lstore k, 2)) (hl : storeLocals L.toArray k (.long x) = some L'.toArray) (r : Run V K B Q h ps cs sl pc' L' (S)) : Run V K B Q h ps cs sl pc L (.long x :: S) := by
  subst hp; exact r.plain fun T t hA hx hc st => XS.lstore hA hx rfl (hb hc hd) rfl hl st
theorem r_lstoreN {k : Fin 4} {x : Int64} (L' : List Slot) (pc' : Nat) (hp : pc + 1 = pc') (hd : decode B.code pc = .ok (.lstore_n k, 1)) (hl : storeLocals L.toArray k.val (.long x) = some L'.toArray) (r : Run V K B Q h ps cs sl pc' L' (S)) : Run V K B Q h ps cs sl pc L (.long x :: S) := by
  subst hp; exact r.plain fun T t hA hx hc st => XS.lstoreN hA hx rfl (hb hc hd) rfl hl st
theorem r_aload {k : Nat} {v : Value} (pc' : Nat) (hp : pc + 2 = pc') (hd : decode B.code pc = .ok (.aload k, 2)) (hl : L[k]? = some (.val v)) (hv : v.isRef = true) (r : Run V K B Q h ps cs sl pc' L (v :: S)) : Run V K B Q h ps cs sl pc L (S) := by
  subst hp; exact r.plain fun T t hA hx hc st => XS.aload hA hx rfl (hb hc hd) (by show L.toArray[_]? = _; rw [List.getElem?_toArray]; exact hl) hv st
theorem r_aloadN {k : Fin 4} {v : Value} (pc' : Nat) (hp : pc + 1 = pc') (hd : decode B.code pc = .ok (.aload_n k, 1)) (hl : L[k.val]? = some (.val v)) (hv : v.isRef = true) (r : Run V K B Q h ps cs sl pc' L (v :: S)) : Run V K B Q h ps cs sl pc L (S) := by
  subst hp; exact r.plain fun T t hA hx hc st => XS.aloadN hA hx rfl (hb hc hd) (by show L.toArray[_]? = _; rw [List.getElem?_toArray]; exact hl) hv st
theorem r_astore {k : Nat} {x : Value} (L' : List Slot) (pc' : Nat) (hp : pc + 2 = pc') (hd : decode B.code pc = .ok (.astore k, 2)) (hv : x.isRef = true) (hl : storeLocals L.toArray k x = some L'.toArray) (r : Run V K B Q h ps cs sl pc' L' (S)) : Run V K B Q h ps cs sl pc L (x :: S) := by
  subst hp; exact r.plain fun T t hA hx hc st => XS.astore hA hx rfl (hb hc hd) rfl hv hl st
theorem r_astoreN {k : Fin 4} {x : Value} (L' : List Slot) (pc' : Nat) (hp : pc + 1 = pc') (hd : decode B.code pc = .ok (.astore_n k, 1)) (hv : x.isRef = true) (hl : storeLocals L.toArray k.val x = some L'.toArray) (r : Run V K B Q h ps cs sl pc' L' (S)) : Run V K B Q h ps cs sl pc L (x :: S) := by
  subst hp; exact r.plain fun T t hA hx hc st => XS.astoreN hA hx rfl (hb hc hd) rfl hv hl st
theorem r_iconst {i : Int} (v : Int32) (pc' : Nat) (hp : pc + 1 = pc') (hd : decode B.code pc = .ok (.iconst i, 1)) (hv : Int32.ofInt i = v) (r : Run V K B Q h ps cs sl pc' L (.int v :: S)) : Run V K B Q h ps cs sl pc L (S) := by
  subst hp; exact r.plain fun T t hA hx hc st => XT.iconstV hA hx rfl v (hb hc hd) hv st
theorem r_bipush {i : Int} (v : Int32) (pc' : Nat) (hp : pc + 2 = pc') (hd : decode B.code pc = .ok (.bipush i, 2)) (hv : (Int8.ofInt i).toInt32 = v) (r : Run V K B Q h ps cs sl pc' L (.int v :: S)) : Run V K B Q h ps cs sl pc L (S) := by
  subst hp; exact r.plain fun T t hA hx hc st => XT.bipushV hA hx rfl v (hb hc hd) hv st
theorem r_sipush {i : Int} (v : Int32) (pc' : Nat) (hp : pc + 3 = pc') (hd : decode B.code pc = .ok (.sipush i, 3)) (hv : (Int16.ofInt i).toInt32 = v) (r : Run V K B Q h ps cs sl pc' L (.int v :: S)) : Run V K B Q h ps cs sl pc L (S) := by
  subst hp; exact r.plain fun T t hA hx hc st => XT.sipushV hA hx rfl v (hb hc hd) hv st
theorem r_lconst {k : Fin 2} (v : Int64) (pc' : Nat) (hp : pc + 1 = pc') (hd : decode B.code pc = .ok (.lconst k, 1)) (hv : Int64.ofNat k = v) (r : Run V K B Q h ps cs sl pc' L (.long v :: S)) : Run V K B Q h ps cs sl pc L (S) := by
  subst hp; exact r.plain fun T t hA hx hc st => XT.lconstV hA hx rfl v (hb hc hd) hv st
theorem r_null  (pc' : Nat) (hp : pc + 1 = pc') (hd : decode B.code pc = .ok (.aconst_null, 1)) (r : Run V K B Q h ps cs sl pc' L (.null :: S)) : Run V K B Q h ps cs sl pc L (S) := by
  subst hp; exact r.plain fun T t hA hx hc st => XS.aconstNull hA hx rfl (hb hc hd) st
theorem r_iadd {x y : Int32} (pc' : Nat) (hp : pc + 1 = pc') (hd : decode B.code pc = .ok (.iadd, 1)) (r : Run V K B Q h ps cs sl pc' L (.int (x + y) :: S)) : Run V K B Q h ps cs sl pc L (.int y :: .int x :: S) := by
  subst hp; exact r.plain fun T t hA hx hc st => XS.iadd hA hx rfl (hb hc hd) rfl st
theorem r_isub {x y : Int32} (pc' : Nat) (hp : pc + 1 = pc') (hd : decode B.code pc = .ok (.isub, 1)) (r : Run V K B Q h ps cs sl pc' L (.int (x - y) :: S)) : Run V K B Q h ps cs sl pc L (.int y :: .int x :: S) := by
  subst hp; exact r.plain fun T t hA hx hc st => XS.isub hA hx rfl (hb hc hd) rfl st
theorem r_imul {x y : Int32} (pc' : Nat) (hp : pc + 1 = pc') (hd : decode B.code pc = .ok (.imul, 1)) (r : Run V K B Q h ps cs sl pc' L (.int (x * y) :: S)) : Run V K B Q h ps cs sl pc L (.int y :: .int x :: S) := by
  subst hp; exact r.plain fun T t hA hx hc st => XS.imul hA hx rfl (hb hc hd) rfl st
theorem r_iand {x y : Int32} (pc' : Nat) (hp : pc + 1 = pc') (hd : decode B.code pc = .ok (.iand, 1)) (r : Run V K B Q h ps cs sl pc' L (.int (x &&& y) :: S)) : Run V K B Q h ps cs sl pc L (.int y :: .int x :: S) := by
  subst hp; exact r.plain fun T t hA hx hc st => XS.iand hA hx rfl (hb hc hd) rfl st
theorem r_ior {x y : Int32} (pc' : Nat) (hp : pc + 1 = pc') (hd : decode B.code pc = .ok (.ior, 1)) (r : Run V K B Q h ps cs sl pc' L (.int (x ||| y) :: S)) : Run V K B Q h ps cs sl pc L (.int y :: .int x :: S) := by
  subst hp; exact r.plain fun T t hA hx hc st => XS.ior hA hx rfl (hb hc hd) rfl st
theorem r_ixor {x y : Int32} (pc' : Nat) (hp : pc + 1 = pc') (hd : decode B.code pc = .ok (.ixor, 1)) (r : Run V K B Q h ps cs sl pc' L (.int (x ^^^ y) :: S)) : Run V K B Q h ps cs sl pc L (.int y :: .int x :: S) := by
  subst hp; exact r.plain fun T t hA hx hc st => XS.ixor hA hx rfl (hb hc hd) rfl st
theorem r_ishl {x y : Int32} (pc' : Nat) (hp : pc + 1 = pc') (hd : decode B.code pc = .ok (.ishl, 1)) (r : Run V K B Q h ps cs sl pc' L (.int (x <<< (y &&& 31)) :: S)) : Run V K B Q h ps cs sl pc L (.int y :: .int x :: S) := by
  subst hp; exact r.plain fun T t hA hx hc st => XS.ishl hA hx rfl (hb hc hd) rfl st
theorem r_ishr {x y : Int32} (pc' : Nat) (hp : pc + 1 = pc') (hd : decode B.code pc = .ok (.ishr, 1)) (r : Run V K B Q h ps cs sl pc' L (.int (x >>> (y &&& 31)) :: S)) : Run V K B Q h ps cs sl pc L (.int y :: .int x :: S) := by
  subst hp; exact r.plain fun T t hA hx hc st => XS.ishr hA hx rfl (hb hc hd) rfl st
theorem r_iushr {x y : Int32} (pc' : Nat) (hp : pc + 1 = pc') (hd : decode B.code pc = .ok (.iushr, 1)) (r : Run V K B Q h ps cs sl pc' L (.int (ushr x y) :: S)) : Run V K B Q h ps cs sl pc L (.int y :: .int x :: S) := by
  subst hp; exact r.plain fun T t hA hx hc st => XS.iushr hA hx rfl (hb hc hd) rfl st
theorem r_ladd {x y : Int64} (pc' : Nat) (hp : pc + 1 = pc') (hd : decode B.code pc = .ok (.ladd, 1)) (r : Run V K B Q h ps cs sl pc' L (.long (x + y) :: S)) : Run V K B Q h ps cs sl pc L (.long y :: .long x :: S) := by
  subst hp; exact r.plain fun T t hA hx hc st => XS.ladd hA hx rfl (hb hc hd) rfl st
theorem r_lsub {x y : Int64} (pc' : Nat) (hp : pc + 1 = pc') (hd : decode B.code pc = .ok (.lsub, 1)) (r : Run V K B Q h ps cs sl pc' L (.long (x - y) :: S)) : Run V K B Q h ps cs sl pc L (.long y :: .long x :: S) := by
  subst hp; exact r.plain fun T t hA hx hc st => XS.lsub hA hx rfl (hb hc hd) rfl st
theorem r_lmul {x y : Int64} (pc' : Nat) (hp : pc + 1 = pc') (hd : decode B.code pc = .ok (.lmul, 1)) (r : Run V K B Q h ps cs sl pc' L (.long (x * y) :: S)) : Run V K B Q h ps cs sl pc L (.long y :: .long x :: S) := by
  subst hp; exact r.plain fun T t hA hx hc st => XS.lmul hA hx rfl (hb hc hd) rfl st
theorem r_land {x y : Int64} (pc' : Nat) (hp : pc + 1 = pc') (hd : decode B.code pc = .ok (.land, 1)) (r : Run V K B Q h ps cs sl pc' L (.long (x &&& y) :: S)) : Run V K B Q h ps cs sl pc L (.long y :: .long x :: S) := by
  subst hp; exact r.plain fun T t hA hx hc st => XS.land hA hx rfl (hb hc hd) rfl st
theorem r_lor {x y : Int64} (pc' : Nat) (hp : pc + 1 = pc') (hd : decode B.code pc = .ok (.lor, 1)) (r : Run V K B Q h ps cs sl pc' L (.long (x ||| y) :: S)) : Run V K B Q h ps cs sl pc L (.long y :: .long x :: S) := by
  subst hp; exact r.plain fun T t hA hx hc st => XS.lor hA hx rfl (hb hc hd) rfl st
theorem r_lxor {x y : Int64} (pc' : Nat) (hp : pc + 1 = pc') (hd : decode B.code pc = .ok (.lxor, 1)) (r : Run V K B Q h ps cs sl pc' L (.long (x ^^^ y) :: S)) : Run V K B Q h ps cs sl pc L (.long y :: .long x :: S) := by
  subst hp; exact r.plain fun T t hA hx hc st => XS.lxor hA hx rfl (hb hc hd) rfl st
theorem r_lshl {x : Int64} {y : Int32} (pc' : Nat) (hp : pc + 1 = pc') (hd : decode B.code pc = .ok (.lshl, 1)) (r : Run V K B Q h ps cs sl pc' L (.long (x <<< (y &&& 0x3f).toInt64) :: S)) : Run V K B Q h ps cs sl pc L (.int y :: .long x :: S) := by
  subst hp; exact r.plain fun T t hA hx hc st => XS.lshl hA hx rfl (hb hc hd) rfl st
theorem r_lshr {x : Int64} {y : Int32} (pc' : Nat) (hp : pc + 1 = pc') (hd : decode B.code pc = .ok (.lshr, 1)) (r : Run V K B Q h ps cs sl pc' L (.long (x >>> (y &&& 0x3f).toInt64) :: S)) : Run V K B Q h ps cs sl pc L (.int y :: .long x :: S) := by
  subst hp; exact r.plain fun T t hA hx hc st => XS.lshr hA hx rfl (hb hc hd) rfl st
theorem r_lushr {x : Int64} {y : Int32} (pc' : Nat) (hp : pc + 1 = pc') (hd : decode B.code pc = .ok (.lushr, 1)) (r : Run V K B Q h ps cs sl pc' L (.long (ushrL x y) :: S)) : Run V K B Q h ps cs sl pc L (.int y :: .long x :: S) := by
  subst hp; exact r.plain fun T t hA hx hc st => XS.lushr hA hx rfl (hb hc hd) rfl st
theorem r_idiv {x y : Int32} (pc' : Nat) (hp : pc + 1 = pc') (hd : decode B.code pc = .ok (.idiv, 1)) (hy : y ≠ 0) (r : Run V K B Q h ps cs sl pc' L (.int (x / y) :: S)) : Run V K B Q h ps cs sl pc L (.int y :: .int x :: S) := by
  subst hp; exact r.plain fun T t hA hx hc st => XS.idiv hA hx rfl (hb hc hd) rfl hy st
theorem r_irem {x y : Int32} (pc' : Nat) (hp : pc + 1 = pc') (hd : decode B.code pc = .ok (.irem, 1)) (hy : y ≠ 0) (r : Run V K B Q h ps cs sl pc' L (.int (x % y) :: S)) : Run V K B Q h ps cs sl pc L (.int y :: .int x :: S) := by
  subst hp; exact r.plain fun T t hA hx hc st => XS.irem hA hx rfl (hb hc hd) rfl hy (by rw [irem_eq_mod]; exact st)
theorem r_ineg {x : Int32} (pc' : Nat) (hp : pc + 1 = pc') (hd : decode B.code pc = .ok (.ineg, 1)) (r : Run V K B Q h ps cs sl pc' L (.int (-x) :: S)) : Run V K B Q h ps cs sl pc L (.int x :: S) := by
  subst hp; exact r.plain fun T t hA hx hc st => XS.ineg hA hx rfl (hb hc hd) rfl st
theorem r_lneg {x : Int64} (pc' : Nat) (hp : pc + 1 = pc') (hd : decode B.code pc = .ok (.lneg, 1)) (r : Run V K B Q h ps cs sl pc' L (.long (-x) :: S)) : Run V K B Q h ps cs sl pc L (.long x :: S) := by
  subst hp; exact r.plain fun T t hA hx hc st => XS.lneg hA hx rfl (hb hc hd) rfl st
theorem r_lcmp {x y : Int64} (pc' : Nat) (hp : pc + 1 = pc') (hd : decode B.code pc = .ok (.lcmp, 1)) (r : Run V K B Q h ps cs sl pc' L (.int (XT.cmpL x y) :: S)) : Run V K B Q h ps cs sl pc L (.long y :: .long x :: S) := by
  subst hp; exact r.plain fun T t hA hx hc st => XT.lcmp hA hx rfl (hb hc hd) rfl st
theorem r_i2l {x : Int32} (pc' : Nat) (hp : pc + 1 = pc') (hd : decode B.code pc = .ok (.i2l, 1)) (r : Run V K B Q h ps cs sl pc' L (.long x.toInt64 :: S)) : Run V K B Q h ps cs sl pc L (.int x :: S) := by
  subst hp; exact r.plain fun T t hA hx hc st => XS.i2l hA hx rfl (hb hc hd) rfl st
theorem r_i2b {x : Int32} (pc' : Nat) (hp : pc + 1 = pc') (hd : decode B.code pc = .ok (.i2b, 1)) (r : Run V K B Q h ps cs sl pc' L (.int x.toInt8.toInt32 :: S)) : Run V K B Q h ps cs sl pc L (.int x :: S) := by
  subst hp; exact r.plain fun T t hA hx hc st => XS.i2b hA hx rfl (hb hc hd) rfl st
theorem r_i2c {x : Int32} (pc' : Nat) (hp : pc + 1 = pc') (hd : decode B.code pc = .ok (.i2c, 1)) (r : Run V K B Q h ps cs sl pc' L (.int x.toUInt32.toUInt16.toUInt32.toInt32 :: S)) : Run V K B Q h ps cs sl pc L (.int x :: S) := by
  subst hp; exact r.plain fun T t hA hx hc st => XS.i2c hA hx rfl (hb hc hd) rfl st
theorem r_i2s {x : Int32} (pc' : Nat) (hp : pc + 1 = pc') (hd : decode B.code pc = .ok (.i2s, 1)) (r : Run V K B Q h ps cs sl pc' L (.int x.toInt16.toInt32 :: S)) : Run V K B Q h ps cs sl pc L (.int x :: S) := by
  subst hp; exact r.plain fun T t hA hx hc st => XS.i2s hA hx rfl (hb hc hd) rfl st
theorem r_l2i {x : Int64} (pc' : Nat) (hp : pc + 1 = pc') (hd : decode B.code pc = .ok (.l2i, 1)) (r : Run V K B Q h ps cs sl pc' L (.int x.toInt32 :: S)) : Run V K B Q h ps cs sl pc L (.long x :: S) := by
  subst hp; exact r.plain fun T t hA hx hc st => XS.l2i hA hx rfl (hb hc hd) rfl st
theorem r_dup {x : Value} (pc' : Nat) (hp : pc + 1 = pc') (hd : decode B.code pc = .ok (.dup, 1)) (hv : x.category = 1) (r : Run V K B Q h ps cs sl pc' L (x :: x :: S)) : Run V K B Q h ps cs sl pc L (x :: S) := by
  subst hp; exact r.plain fun T t hA hx hc st => XS.dup hA hx rfl (hb hc hd) rfl hv st
theorem r_pop {x : Value} (pc' : Nat) (hp : pc + 1 = pc') (hd : decode B.code pc = .ok (.pop, 1)) (hv : x.category = 1) (r : Run V K B Q h ps cs sl pc' L (S)) : Run V K B Q h ps cs sl pc L (x :: S) := by
  subst hp; exact r.plain fun T t hA hx hc st => XS.pop hA hx rfl (hb hc hd) rfl hv st
theorem r_dup2 {x y : Value} (pc' : Nat) (hp : pc + 1 = pc') (hd : decode B.code pc = .ok (.dup2, 1)) (hv : x.category = 1) (hv' : y.category = 1) (r : Run V K B Q h ps cs sl pc' L (x :: y :: x :: y :: S)) : Run V K B Q h ps cs sl pc L (x :: y :: S) := by
  subst hp; exact r.plain fun T t hA hx hc st => XT.dup2 hA hx rfl (hb hc hd) rfl hv hv' st
theorem r_dup2L {x : Int64} (pc' : Nat) (hp : pc + 1 = pc') (hd : decode B.code pc = .ok (.dup2, 1)) (r : Run V K B Q h ps cs sl pc' L (.long x :: .long x :: S)) : Run V K B Q h ps cs sl pc L (.long x :: S) := by
  subst hp; exact r.plain fun T t hA hx hc st => XT.dup2L hA hx rfl (hb hc hd) rfl st
theorem r_dupX1 {x y : Value} (pc' : Nat) (hp : pc + 1 = pc') (hd : decode B.code pc = .ok (.dup_x1, 1)) (hv : x.category = 1) (hv' : y.category = 1) (r : Run V K B Q h ps cs sl pc' L (x :: y :: x :: S)) : Run V K B Q h ps cs sl pc L (x :: y :: S) := by
  subst hp; exact r.plain fun T t hA hx hc st => XT.dupX1 hA hx rfl (hb hc hd) rfl hv hv' st
theorem r_iinc {k : Nat} {cst : Int} {x : Int32} (v : Int32) (L' : List Slot) (pc' : Nat) (hp : pc + 3 = pc') (hd : decode B.code pc = .ok (.iinc k cst, 3)) (hv : Int32.ofInt cst = v) (hl : L[k]? = some (.val (.int x))) (hl' : storeLocals L.toArray k (.int (x + v)) = some L'.toArray) (r : Run V K B Q h ps cs sl pc' L' (S)) : Run V K B Q h ps cs sl pc L (S) := by
  subst hp; exact r.plain fun T t hA hx hc st => XT.iincV hA hx rfl v (hb hc hd) hv (by show L.toArray[_]? = _; rw [List.getElem?_toArray]; exact hl) hl' st
theorem r_goto {o : Int} (pc' : Nat) (hd : decode B.code pc = .ok (.goto o, 3)) (ho : 0 ≤ (pc : Int) + o) (hp : ((pc : Int) + o).toNat = pc') (r : Run V K B Q h ps cs sl pc' L S) : Run V K B Q h ps cs sl pc L S :=
  r.plain fun T t hA hx hc st => XS.goto hA hx rfl rfl (hb hc hd) ho hp st
theorem r_icmp_eq {o : Int} {x y : Int32} (pc' pc'' : Nat) (hd : decode B.code pc = .ok (.if_icmp .eq o, 3)) (ho : 0 ≤ (pc : Int) + o) (hp : ((pc : Int) + o).toNat = pc') (hp' : pc + 3 = pc'') (t : x = y → Run V K B Q h ps cs sl pc' L S) (f : ¬ x = y → Run V K B Q h ps cs sl pc'' L S) : Run V K B Q h ps cs sl pc L (.int y :: .int x :: S) := by
  subst hp'
  by_cases q : x = y
  · exact (t q).plain fun T t hA hx hc st => XS.icmpYes hA hx rfl rfl (hb hc hd) rfl (XT.ii_eq_t q) ho hp st
  · exact (f q).plain fun T t hA hx hc st => XS.icmpNo hA hx rfl (hb hc hd) rfl (XT.ii_eq_f q) st
theorem r_if_eq {o : Int} {x : Int32} (pc' pc'' : Nat) (hd : decode B.code pc = .ok (.ifCond .eq o, 3)) (ho : 0 ≤ (pc : Int) + o) (hp : ((pc : Int) + o).toNat = pc') (hp' : pc + 3 = pc'') (t : x = 0 → Run V K B Q h ps cs sl pc' L S) (f : ¬ x = 0 → Run V K B Q h ps cs sl pc'' L S) : Run V K B Q h ps cs sl pc L (.int x :: S) := by
  subst hp'
  by_cases q : x = 0
  · exact (t q).plain fun T t hA hx hc st => XS.ifYes hA hx rfl rfl (hb hc hd) rfl (XT.i0_eq_t q) ho hp st
  · exact (f q).plain fun T t hA hx hc st => XS.ifNo hA hx rfl (hb hc hd) rfl (XT.i0_eq_f q) st
theorem r_lcmp_eq {o : Int} {x y : Int64} (pc1 pc' pc'' : Nat) (hd0 : decode B.code pc = .ok (.lcmp, 1)) (h1 : pc + 1 = pc1) (hd : decode B.code pc1 = .ok (.ifCond .eq o, 3)) (ho : 0 ≤ (pc1 : Int) + o) (hp : ((pc1 : Int) + o).toNat = pc') (hp' : pc1 + 3 = pc'') (t : x = y → Run V K B Q h ps cs sl pc' L S) (f : ¬ x = y → Run V K B Q h ps cs sl pc'' L S) : Run V K B Q h ps cs sl pc L (.long y :: .long x :: S) := by
  refine r_lcmp _ h1 hd0 ?_
  subst hp'
  by_cases q : x = y
  · exact (t q).plain fun T t hA hx hc st => XS.ifYes hA hx rfl rfl (hb hc hd) rfl (XT.ll_eq_t q) ho hp st
  · exact (f q).plain fun T t hA hx hc st => XS.ifNo hA hx rfl (hb hc hd) rfl (XT.ll_eq_f q) st
theorem r_icmp_ne {o : Int} {x y : Int32} (pc' pc'' : Nat) (hd : decode B.code pc = .ok (.if_icmp .ne o, 3)) (ho : 0 ≤ (pc : Int) + o) (hp : ((pc : Int) + o).toNat = pc') (hp' : pc + 3 = pc'') (t : ¬ x = y → Run V K B Q h ps cs sl pc' L S) (f : x = y → Run V K B Q h ps cs sl pc'' L S) : Run V K B Q h ps cs sl pc L (.int y :: .int x :: S) := by
  subst hp'
  by_cases q : ¬ x = y
  · exact (t q).plain fun T t hA hx hc st => XS.icmpYes hA hx rfl rfl (hb hc hd) rfl (XT.ii_ne_t q) ho hp st
  · exact (f (Decidable.not_not.mp q)).plain fun T t hA hx hc st => XS.icmpNo hA hx rfl (hb hc hd) rfl (XT.ii_ne_f (Decidable.not_not.mp q)) st
theorem r_if_ne {o : Int} {x : Int32} (pc' pc'' : Nat) (hd : decode B.code pc = .ok (.ifCond .ne o, 3)) (ho : 0 ≤ (pc : Int) + o) (hp : ((pc : Int) + o).toNat = pc') (hp' : pc + 3 = pc'') (t : ¬ x = 0 → Run V K B Q h ps cs sl pc' L S) (f : x = 0 → Run V K B Q h ps cs sl pc'' L S) : Run V K B Q h ps cs sl pc L (.int x :: S) := by
  subst hp'
  by_cases q : ¬ x = 0
  · exact (t q).plain fun T t hA hx hc st => XS.ifYes hA hx rfl rfl (hb hc hd) rfl (XT.i0_ne_t q) ho hp st
  · exact (f (Decidable.not_not.mp q)).plain fun T t hA hx hc st => XS.ifNo hA hx rfl (hb hc hd) rfl (XT.i0_ne_f (Decidable.not_not.mp q)) st
theorem r_lcmp_ne {o : Int} {x y : Int64} (pc1 pc' pc'' : Nat) (hd0 : decode B.code pc = .ok (.lcmp, 1)) (h1 : pc + 1 = pc1) (hd : decode B.code pc1 = .ok (.ifCond .ne o, 3)) (ho : 0 ≤ (pc1 : Int) + o) (hp : ((pc1 : Int) + o).toNat = pc') (hp' : pc1 + 3 = pc'') (t : ¬ x = y → Run V K B Q h ps cs sl pc' L S) (f : x = y → Run V K B Q h ps cs sl pc'' L S) : Run V K B Q h ps cs sl pc L (.long y :: .long x :: S) := by
  refine r_lcmp _ h1 hd0 ?_
  subst hp'
  by_cases q : ¬ x = y
  · exact (t q).plain fun T t hA hx hc st => XS.ifYes hA hx rfl rfl (hb hc hd) rfl (XT.ll_ne_t q) ho hp st
  · exact (f (Decidable.not_not.mp q)).plain fun T t hA hx hc st => XS.ifNo hA hx rfl (hb hc hd) rfl (XT.ll_ne_f (Decidable.not_not.mp q)) st
theorem r_icmp_lt {o : Int} {x y : Int32} (pc' pc'' : Nat) (hd : decode B.code pc = .ok (.if_icmp .lt o, 3)) (ho : 0 ≤ (pc : Int) + o) (hp : ((pc : Int) + o).toNat = pc') (hp' : pc + 3 = pc'') (t : x < y → Run V K B Q h ps cs sl pc' L S) (f : ¬ x < y → Run V K B Q h ps cs sl pc'' L S) : Run V K B Q h ps cs sl pc L (.int y :: .int x :: S) := by
  subst hp'
  by_cases q : x < y
  · exact (t q).plain fun T t hA hx hc st => XS.icmpYes hA hx rfl rfl (hb hc hd) rfl (XT.ii_lt_t q) ho hp st
  · exact (f q).plain fun T t hA hx hc st => XS.icmpNo hA hx rfl (hb hc hd) rfl (XT.ii_lt_f q) st
theorem r_if_lt {o : Int} {x : Int32} (pc' pc'' : Nat) (hd : decode B.code pc = .ok (.ifCond .lt o, 3)) (ho : 0 ≤ (pc : Int) + o) (hp : ((pc : Int) + o).toNat = pc') (hp' : pc + 3 = pc'') (t : x < 0 → Run V K B Q h ps cs sl pc' L S) (f : ¬ x < 0 → Run V K B Q h ps cs sl pc'' L S) : Run V K B Q h ps cs sl pc L (.int x :: S) := by
  subst hp'
  by_cases q : x < 0
  · exact (t q).plain fun T t hA hx hc st => XS.ifYes hA hx rfl rfl (hb hc hd) rfl (XT.i0_lt_t q) ho hp st
  · exact (f q).plain fun T t hA hx hc st => XS.ifNo hA hx rfl (hb hc hd) rfl (XT.i0_lt_f q) st
theorem r_lcmp_lt {o : Int} {x y : Int64} (pc1 pc' pc'' : Nat) (hd0 : decode B.code pc = .ok (.lcmp, 1)) (h1 : pc + 1 = pc1) (hd : decode B.code pc1 = .ok (.ifCond .lt o, 3)) (ho : 0 ≤ (pc1 : Int) + o) (hp : ((pc1 : Int) + o).toNat = pc') (hp' : pc1 + 3 = pc'') (t : x < y → Run V K B Q h ps cs sl pc' L S) (f : ¬ x < y → Run V K B Q h ps cs sl pc'' L S) : Run V K B Q h ps cs sl pc L (.long y :: .long x :: S) := by
  refine r_lcmp _ h1 hd0 ?_
  subst hp'
  by_cases q : x < y
  · exact (t q).plain fun T t hA hx hc st => XS.ifYes hA hx rfl rfl (hb hc hd) rfl (XT.ll_lt_t q) ho hp st
  · exact (f q).plain fun T t hA hx hc st => XS.ifNo hA hx rfl (hb hc hd) rfl (XT.ll_lt_f q) st
theorem r_icmp_ge {o : Int} {x y : Int32} (pc' pc'' : Nat) (hd : decode B.code pc = .ok (.if_icmp .ge o, 3)) (ho : 0 ≤ (pc : Int) + o) (hp : ((pc : Int) + o).toNat = pc') (hp' : pc + 3 = pc'') (t : ¬ x < y → Run V K B Q h ps cs sl pc' L S) (f : x < y → Run V K B Q h ps cs sl pc'' L S) : Run V K B Q h ps cs sl pc L (.int y :: .int x :: S) := by
  subst hp'
  by_cases q : ¬ x < y
  · exact (t q).plain fun T t hA hx hc st => XS.icmpYes hA hx rfl rfl (hb hc hd) rfl (XT.ii_ge_t q) ho hp st
  · exact (f (Decidable.not_not.mp q)).plain fun T t hA hx hc st => XS.icmpNo hA hx rfl (hb hc hd) rfl (XT.ii_ge_f (Decidable.not_not.mp q)) st
theorem r_if_ge {o : Int} {x : Int32} (pc' pc'' : Nat) (hd : decode B.code pc = .ok (.ifCond .ge o, 3)) (ho : 0 ≤ (pc : Int) + o) (hp : ((pc : Int) + o).toNat = pc') (hp' : pc + 3 = pc'') (t : ¬ x < 0 → Run V K B Q h ps cs sl pc' L S) (f : x < 0 → Run V K B Q h ps cs sl pc'' L S) : Run V K B Q h ps cs sl pc L (.int x :: S) := by
  subst hp'
  by_cases q : ¬ x < 0
  · exact (t q).plain fun T t hA hx hc st => XS.ifYes hA hx rfl rfl (hb hc hd) rfl (XT.i0_ge_t q) ho hp st
  · exact (f (Decidable.not_not.mp q)).plain fun T t hA hx hc st => XS.ifNo hA hx rfl (hb hc hd) rfl (XT.i0_ge_f (Decidable.not_not.mp q)) st
theorem r_lcmp_ge {o : Int} {x y : Int64} (pc1 pc' pc'' : Nat) (hd0 : decode B.code pc = .ok (.lcmp, 1)) (h1 : pc + 1 = pc1) (hd : decode B.code pc1 = .ok (.ifCond .ge o, 3)) (ho : 0 ≤ (pc1 : Int) + o) (hp : ((pc1 : Int) + o).toNat = pc') (hp' : pc1 + 3 = pc'') (t : ¬ x < y → Run V K B Q h ps cs sl pc' L S) (f : x < y → Run V K B Q h ps cs sl pc'' L S) : Run V K B Q h ps cs sl pc L (.long y :: .long x :: S) := by
  refine r_lcmp _ h1 hd0 ?_
  subst hp'
  by_cases q : ¬ x < y
  · exact (t q).plain fun T t hA hx hc st => XS.ifYes hA hx rfl rfl (hb hc hd) rfl (XT.ll_ge_t q) ho hp st
  · exact (f (Decidable.not_not.mp q)).plain fun T t hA hx hc st => XS.ifNo hA hx rfl (hb hc hd) rfl (XT.ll_ge_f (Decidable.not_not.mp q)) st
theorem r_icmp_gt {o : Int} {x y : Int32} (pc' pc'' : Nat) (hd : decode B.code pc = .ok (.if_icmp .gt o, 3)) (ho : 0 ≤ (pc : Int) + o) (hp : ((pc : Int) + o).toNat = pc') (hp' : pc + 3 = pc'') (t : y < x → Run V K B Q h ps cs sl pc' L S) (f : ¬ y < x → Run V K B Q h ps cs sl pc'' L S) : Run V K B Q h ps cs sl pc L (.int y :: .int x :: S) := by
  subst hp'
  by_cases q : y < x
  · exact (t q).plain fun T t hA hx hc st => XS.icmpYes hA hx rfl rfl (hb hc hd) rfl (XT.ii_gt_t q) ho hp st
  · exact (f q).plain fun T t hA hx hc st => XS.icmpNo hA hx rfl (hb hc hd) rfl (XT.ii_gt_f q) st
theorem r_if_gt {o : Int} {x : Int32} (pc' pc'' : Nat) (hd : decode B.code pc = .ok (.ifCond .gt o, 3)) (ho : 0 ≤ (pc : Int) + o) (hp : ((pc : Int) + o).toNat = pc') (hp' : pc + 3 = pc'') (t : 0 < x → Run V K B Q h ps cs sl pc' L S) (f : ¬ 0 < x → Run V K B Q h ps cs sl pc'' L S) : Run V K B Q h ps cs sl pc L (.int x :: S) := by
  subst hp'
  by_cases q : 0 < x
  · exact (t q).plain fun T t hA hx hc st => XS.ifYes hA hx rfl rfl (hb hc hd) rfl (XT.i0_gt_t q) ho hp st
  · exact (f q).plain fun T t hA hx hc st => XS.ifNo hA hx rfl (hb hc hd) rfl (XT.i0_gt_f q) st
theorem r_lcmp_gt {o : Int} {x y : Int64} (pc1 pc' pc'' : Nat) (hd0 : decode B.code pc = .ok (.lcmp, 1)) (h1 : pc + 1 = pc1) (hd : decode B.code pc1 = .ok (.ifCond .gt o, 3)) (ho : 0 ≤ (pc1 : Int) + o) (hp : ((pc1 : Int) + o).toNat = pc') (hp' : pc1 + 3 = pc'') (t : y < x → Run V K B Q h ps cs sl pc' L S) (f : ¬ y < x → Run V K B Q h ps cs sl pc'' L S) : Run V K B Q h ps cs sl pc L (.long y :: .long x :: S) := by
  refine r_lcmp _ h1 hd0 ?_
  subst hp'
  by_cases q : y < x
  · exact (t q).plain fun T t hA hx hc st => XS.ifYes hA hx rfl rfl (hb hc hd) rfl (XT.ll_gt_t q) ho hp st
  · exact (f q).plain fun T t hA hx hc st => XS.ifNo hA hx rfl (hb hc hd) rfl (XT.ll_gt_f q) st
theorem r_icmp_le {o : Int} {x y : Int32} (pc' pc'' : Nat) (hd : decode B.code pc = .ok (.if_icmp .le o, 3)) (ho : 0 ≤ (pc : Int) + o) (hp : ((pc : Int) + o).toNat = pc') (hp' : pc + 3 = pc'') (t : ¬ y < x → Run V K B Q h ps cs sl pc' L S) (f : y < x → Run V K B Q h ps cs sl pc'' L S) : Run V K B Q h ps cs sl pc L (.int y :: .int x :: S) := by
  subst hp'
  by_cases q : ¬ y < x
  · exact (t q).plain fun T t hA hx hc st => XS.icmpYes hA hx rfl rfl (hb hc hd) rfl (XT.ii_le_t q) ho hp st
  · exact (f (Decidable.not_not.mp q)).plain fun T t hA hx hc st => XS.icmpNo hA hx rfl (hb hc hd) rfl (XT.ii_le_f (Decidable.not_not.mp q)) st
theorem r_if_le {o : Int} {x : Int32} (pc' pc'' : Nat) (hd : decode B.code pc = .ok (.ifCond .le o, 3)) (ho : 0 ≤ (pc : Int) + o) (hp : ((pc : Int) + o).toNat = pc') (hp' : pc + 3 = pc'') (t : ¬ 0 < x → Run V K B Q h ps cs sl pc' L S) (f : 0 < x → Run V K B Q h ps cs sl pc'' L S) : Run V K B Q h ps cs sl pc L (.int x :: S) := by
  subst hp'
  by_cases q : ¬ 0 < x
  · exact (t q).plain fun T t hA hx hc st => XS.ifYes hA hx rfl rfl (hb hc hd) rfl (XT.i0_le_t q) ho hp st
  · exact (f (Decidable.not_not.mp q)).plain fun T t hA hx hc st => XS.ifNo hA hx rfl (hb hc hd) rfl (XT.i0_le_f (Decidable.not_not.mp q)) st
theorem r_lcmp_le {o : Int} {x y : Int64} (pc1 pc' pc'' : Nat) (hd0 : decode B.code pc = .ok (.lcmp, 1)) (h1 : pc + 1 = pc1) (hd : decode B.code pc1 = .ok (.ifCond .le o, 3)) (ho : 0 ≤ (pc1 : Int) + o) (hp : ((pc1 : Int) + o).toNat = pc') (hp' : pc1 + 3 = pc'') (t : ¬ y < x → Run V K B Q h ps cs sl pc' L S) (f : y < x → Run V K B Q h ps cs sl pc'' L S) : Run V K B Q h ps cs sl pc L (.long y :: .long x :: S) := by
  refine r_lcmp _ h1 hd0 ?_
  subst hp'
  by_cases q : ¬ y < x
  · exact (t q).plain fun T t hA hx hc st => XS.ifYes hA hx rfl rfl (hb hc hd) rfl (XT.ll_le_t q) ho hp st
  · exact (f (Decidable.not_not.mp q)).plain fun T t hA hx hc st => XS.ifNo hA hx rfl (hb hc hd) rfl (XT.ll_le_f (Decidable.not_not.mp q)) st
theorem r_ifnull_t {o : Int} (pc' : Nat) (hd : decode B.code pc = .ok (.ifnull o, 3)) (ho : 0 ≤ (pc : Int) + o) (hp : ((pc : Int) + o).toNat = pc') (r : Run V K B Q h ps cs sl pc' L S) : Run V K B Q h ps cs sl pc L (.null :: S) :=
  r.plain fun T t hA hx hc st => XS.ifnullYes hA hx rfl rfl (hb hc hd) rfl ho hp st
theorem r_ifnull_f {o : Int} {b : Nat} (pc' : Nat) (hp : pc + 3 = pc') (hd : decode B.code pc = .ok (.ifnull o, 3)) (r : Run V K B Q h ps cs sl pc' L S) : Run V K B Q h ps cs sl pc L (.ref b :: S) := by
  subst hp; exact r.plain fun T t hA hx hc st => XS.ifnullNo hA hx rfl (hb hc hd) rfl st
theorem r_ifnonnull_t {o : Int} {b : Nat} (pc' : Nat) (hd : decode B.code pc = .ok (.ifnonnull o, 3)) (ho : 0 ≤ (pc : Int) + o) (hp : ((pc : Int) + o).toNat = pc') (r : Run V K B Q h ps cs sl pc' L S) : Run V K B Q h ps cs sl pc L (.ref b :: S) :=
  r.plain fun T t hA hx hc st => XS.ifnonnullYes hA hx rfl rfl (hb hc hd) rfl ho hp st
theorem r_ifnonnull_f {o : Int} (pc' : Nat) (hp : pc + 3 = pc') (hd : decode B.code pc = .ok (.ifnonnull o, 3)) (r : Run V K B Q h ps cs sl pc' L S) : Run V K B Q h ps cs sl pc L (.null :: S) := by
  subst hp; exact r.plain fun T t hA hx hc st => XS.ifnonnullNo hA hx rfl (hb hc hd) rfl st
theorem r_acmp_eq {o : Int} {x y : Value} (pc' pc'' : Nat) (hd : decode B.code pc = .ok (.if_acmp .eq o, 3)) (hx1 : x.isRef = true) (hy1 : y.isRef = true) (ho : 0 ≤ (pc : Int) + o) (hp : ((pc : Int) + o).toNat = pc') (hp' : pc + 3 = pc'') (t : x = y → Run V K B Q h ps cs sl pc' L S) (f : ¬ x = y → Run V K B Q h ps cs sl pc'' L S) : Run V K B Q h ps cs sl pc L (y :: x :: S) := by
  subst hp'
  by_cases q : x = y
  · exact (t q).plain fun T t hA hx hc st => XT.acmpYes hA hx rfl rfl (hb hc hd) rfl hx1 hy1 (XT.aa_eq_t q) ho hp st
  · exact (f q).plain fun T t hA hx hc st => XT.acmpNo hA hx rfl (hb hc hd) rfl hx1 hy1 (XT.aa_eq_f q) st
theorem r_acmp_ne {o : Int} {x y : Value} (pc' pc'' : Nat) (hd : decode B.code pc = .ok (.if_acmp .ne o, 3)) (hx1 : x.isRef = true) (hy1 : y.isRef = true) (ho : 0 ≤ (pc : Int) + o) (hp : ((pc : Int) + o).toNat = pc') (hp' : pc + 3 = pc'') (t : ¬ x = y → Run V K B Q h ps cs sl pc' L S) (f : x = y → Run V K B Q h ps cs sl pc'' L S) : Run V K B Q h ps cs sl pc L (y :: x :: S) := by
  subst hp'
  by_cases q : ¬ x = y
  · exact (t q).plain fun T t hA hx hc st => XT.acmpYes hA hx rfl rfl (hb hc hd) rfl hx1 hy1 (XT.aa_ne_t q) ho hp st
  · exact (f (Decidable.not_not.mp q)).plain fun T t hA hx hc st => XT.acmpNo hA hx rfl (hb hc hd) rfl hx1 hy1 (XT.aa_ne_f (Decidable.not_not.mp q)) st
theorem r_ldcI {i : Nat} {v : Int32} (pc' : Nat) (hp : pc + 2 = pc') (hd : decode B.code pc = .ok (.ldc i, 2)) (w : (Jvm.Cond.constant B.y.cls i v).before V.a0 V.Z = true) (r : Run V K B Q h ps cs sl pc' L (.int v :: S)) : Run V K B Q h ps cs sl pc L S := by
  subst hp; exact r.still fun T locs vm0 X eT hZ ho O G => ⟨T, X, eT, fun t st => Jvm.Stand.ldcI X G.1 ho (mv hZ w) rfl (hb G.2.1 hd) st⟩
theorem r_ldcWI {i : Nat} {v : Int32} (pc' : Nat) (hp : pc + 3 = pc') (hd : decode B.code pc = .ok (.ldc_w i, 3)) (w : (Jvm.Cond.constant B.y.cls i v).before V.a0 V.Z = true) (r : Run V K B Q h ps cs sl pc' L (.int v :: S)) : Run V K B Q h ps cs sl pc L S := by
  subst hp; exact r.still fun T locs vm0 X eT hZ ho O G => ⟨T, X, eT, fun t st => Jvm.Stand.ldcWI X G.1 ho (mv hZ w) rfl (hb G.2.1 hd) st⟩
theorem r_ldc2J {i : Nat} {v : Int64} (pc' : Nat) (hp : pc + 3 = pc') (hd : decode B.code pc = .ok (.ldc2_w i, 3)) (w : (Jvm.Cond.constantLong B.y.cls i v).before V.a0 V.Z = true) (r : Run V K B Q h ps cs sl pc' L (.long v :: S)) : Run V K B Q h ps cs sl pc L S := by
  subst hp; exact r.still fun T locs vm0 X eT hZ ho O G => ⟨T, X, eT, fun t st => Jvm.Stand.ldc2J X G.1 ho (mv hZ w) rfl (hb G.2.1 hd) st⟩
theorem r_getfield {i : Nat} {O n d : String} {a : Nat} {v : Value} (pc' : Nat) (hp : pc + 3 = pc') (hd : decode B.code pc = .ok (.getfield i, 3)) (w : (Jvm.Cond.fieldLink B.y.cls i O n d).before V.a0 V.Z = true) (F : Fld V.Z h a O n d v) (r : Run V K B Q h ps cs sl pc' L (v :: S)) : Run V K B Q h ps cs sl pc L (.ref a :: S) := by
  subst hp; exact r.still fun T locs vm0 X eT hZ ho O G => getF X G.1 hZ ho (host := "") (Or.inl w) Via.refl eT F (g := mkF K.m pc L.toArray (.ref a :: S)) rfl rfl (hb G.2.1 hd)
theorem r_getstatic {i : Nat} {O n d : String} {v : Value} (pc' : Nat) (hp : pc + 3 = pc') (hd : decode B.code pc = .ok (.getstatic i, 3)) (w : (Jvm.Cond.fieldLink B.y.cls i O n d).before V.a0 V.Z = true) (F : Sta V.Z V.Z.heap O n d v) (r : Run V K B Q h ps cs sl pc' L (v :: S)) : Run V K B Q h ps cs sl pc L S := by
  subst hp; exact r.still fun T locs vm0 X eT hZ ho O G => getS X G.1 hZ ho (host := "") w Via.refl eT (F.ext O) (g := mkF K.m pc L.toArray S) rfl (hb G.2.1 hd)
theorem r_putfield {i kk : Nat} {O n d C : String} {a : Nat} {v old : Value} {ty : FieldType} (pc' : Nat) (hp : pc + 3 = pc') (hd : decode B.code pc = .ok (.putfield i, 3)) (w : (Jvm.Cond.fieldLink B.y.cls i O n d).before V.a0 V.Z = true) (F : Fld V.Z h a O n d old) (E : Exa V.Z h a C)
    (Lw : (Jvm.Cond.lays C O n d).before V.a0 V.Z = true ∨ ((Jvm.Cond.laysFinal C O n d).before V.a0 V.Z = true ∧ B.y.cls = O ∧ B.y.name = "<init>")) (wi : (Jvm.Cond.instantiable C kk).before V.a0 V.Z = true) (hty : parseFieldDescriptor d = some ty) (hn : narrow ty v = v) (hf : fits ty v = true)
    (ha : V.Z.heap.size ≤ a) (hs : C ≠ "java/lang/String" ∧ C ≠ "[B" ∨ a ∈ ps) (r : ∀ h', Wr h h' a (RoadKit.slotOf V.Z O n d) v → Run V K B Q h' ps cs sl pc' L S) : Run V K B Q h ps cs sl pc L (v :: .ref a :: S) := by
  subst hp; exact Run.write ha (fun vm al P => hs.elim (fun q => Safe.exa al E q.1 q.2) (fun q => (P a q).2)) r fun T locs vm0 X eT hZ ho G => putF X G.1 hZ ho (host := "") (Or.inl w) Via.refl eT F E (Lw.imp id fun q => ⟨q.1, q.2.1, G.2.2.2.2.2.trans q.2.2⟩) wi hty hn hf (g := mkF K.m pc L.toArray (v :: .ref a :: S)) rfl rfl (hb G.2.1 hd)
theorem r_new {i n : Nat} {C : String} (pc' : Nat) (hp : pc + 3 = pc') (hd : decode B.code pc = .ok (.new i, 3)) (w : (Jvm.Cond.classLink B.y.cls i C).before V.a0 V.Z = true) (wi : (Jvm.Cond.instantiable C n).before V.a0 V.Z = true) (wz : (Jvm.Cond.initialized C).before V.a0 V.Z = true) (hc : cs + 1 ≤ B.R.cells) (hl : sl + n ≤ B.R.slots)
    (r : ∀ (a : Nat) h', a = h.size → V.Z.heap.size ≤ a → Ext h h' → Exa V.Z h' a C → (∀ {O nm d : String} {ty : FieldType}, RoadKit.Laid V.Z V.a0 C O nm d → parseFieldDescriptor d = some ty → Fld V.Z h' a O nm d (defaultValue ty)) → Run V K B Q h' (a :: ps) (cs + 1) (sl + n) pc' L (.ref a :: S)) : Run V K B Q h ps cs sl pc L S := by
  subst hp; refine Run.make (S' := fun a => .ref a :: S) (P := fun h' => Exa V.Z h' h.size C ∧ ∀ {O nm d : String} {ty : FieldType}, RoadKit.Laid V.Z V.a0 C O nm d → parseFieldDescriptor d = some ty → Fld V.Z h' h.size O nm d (defaultValue ty)) (fun h' E hz q => r _ h' rfl hz E q.1 q.2) fun T locs vm0 X eT hZ ho G => ?_
  obtain ⟨T', h', X', e', E, A, D, -, st⟩ := newO X G.1 hZ ho w wi wz eT (g := mkF K.m pc L.toArray S) rfl (hb G.2.1 hd) hc hl
  exact ⟨T', h', X', e', E, A.lt, ⟨A, D⟩, st⟩
theorem r_newarray {aty : ArrayType} {n : Int32} (cap : Nat) (pc' : Nat) (hp : pc + 2 = pc') (hd : decode B.code pc = .ok (.newarray aty, 2)) (w : (Jvm.Cond.arrayClass (newarray.typeOf aty)).before V.a0 V.Z = true) (hn : ¬ n < 0) (hcap : n.toNatClampNeg ≤ cap) (hbig : cap * 8 ≤ 536870912) (hc : cs + 1 ≤ B.R.cells) (hl : sl + cap ≤ B.R.slots)
    (r : ∀ (a : Nat) h' k, a = h.size → V.Z.heap.size ≤ a → Ext h h' → Arv V.Z h' a k (newarray.typeOf aty) n [] (defaultValue (newarray.typeOf aty)) → Run V K B Q h' (a :: ps) (cs + 1) (sl + cap) pc' L (.ref a :: S)) : Run V K B Q h ps cs sl pc L (.int n :: S) := by
  subst hp; refine Run.make (S' := fun a => .ref a :: S) (P := fun h' => ∃ k, Arv V.Z h' h.size k (newarray.typeOf aty) n [] (defaultValue (newarray.typeOf aty))) (fun h' E hz ⟨k, q⟩ => r _ h' k rfl hz E q) fun T locs vm0 X eT hZ ho G => ?_
  obtain ⟨T', h', cA, X', e', E, A, st⟩ := newP X G.1 hZ w eT (g := mkF K.m pc L.toArray (.int n :: S)) rfl (hb G.2.1 hd) rfl hn hcap hbig hc hl
  exact ⟨T', h', X', e', E, A.lt, ⟨cA, Arv.new A hn⟩, st⟩
theorem r_anewarray {i : Nat} {C : String} {n : Int32} (cap : Nat) (pc' : Nat) (hp : pc + 3 = pc') (hd : decode B.code pc = .ok (.anewarray i, 3)) (w1 : (Jvm.Cond.classLink B.y.cls i C).before V.a0 V.Z = true) (w2 : (Jvm.Cond.arrayOver (.object C)).before V.a0 V.Z = true) (hn : ¬ n < 0) (hcap : n.toNatClampNeg ≤ cap) (hbig : cap * 8 ≤ 536870912) (hc : cs + 1 ≤ B.R.cells) (hl : sl + cap ≤ B.R.slots)
    (r : ∀ (a : Nat) h' k, a = h.size → V.Z.heap.size ≤ a → Ext h h' → Arv V.Z h' a k (.object C) n [] .null → Ovr V.Z k C → Run V K B Q h' (a :: ps) (cs + 1) (sl + cap) pc' L (.ref a :: S)) : Run V K B Q h ps cs sl pc L (.int n :: S) := by
  subst hp; refine Run.make (S' := fun a => .ref a :: S) (P := fun h' => ∃ k, Arv V.Z h' h.size k (.object C) n [] .null ∧ Ovr V.Z k C) (fun h' E hz ⟨k, q, q'⟩ => r _ h' k rfl hz E q q') fun T locs vm0 X eT hZ ho G => ?_
  obtain ⟨T', h', cA, X', e', E, A, O, st⟩ := newR X G.1 hZ ho w1 w2 eT (g := mkF K.m pc L.toArray (.int n :: S)) rfl (hb G.2.1 hd) rfl hn hcap hbig hc hl
  exact ⟨T', h', X', e', E, A.lt, ⟨cA, Arv.new A hn, O⟩, st⟩
theorem r_iaload {a : Nat} {k : ClassId} {z j : Int32} {vs : List Value} {dv v : Value} (pc' : Nat) (hp : pc + 1 = pc') (hd : decode B.code pc = .ok (.iaload, 1)) (A : Arv V.Z h a k .int z vs dv) (hj : ¬ j < 0 ∧ j < z) (hv : vs.getD j.toNatClampNeg dv = v) (r : Run V K B Q h ps cs sl pc' L (v :: S)) : Run V K B Q h ps cs sl pc L (.int j :: .ref a :: S) := by
  subst hp; refine r.still fun T locs vm0 X eT hZ ho O G => ⟨T, X, eT, fun t st => ?_⟩
  obtain ⟨c, A1, q1, S1, N1, H1, G1⟩ := A
  exact X.iaload G.1 (by rw [eT]; exact A1.1) (State.isArrayOf_alike hZ.alike A1.2.1) A1.2.2 (inb_of S1 hj) (H1.at (inb_of S1 hj) hv) (g := mkF K.m pc L.toArray (.int j :: .ref a :: S)) rfl rfl (hb G.2.1 hd) _ st
theorem r_caload {a : Nat} {k : ClassId} {z j : Int32} {vs : List Value} {dv v : Value} (pc' : Nat) (hp : pc + 1 = pc') (hd : decode B.code pc = .ok (.caload, 1)) (A : Arv V.Z h a k .char z vs dv) (hj : ¬ j < 0 ∧ j < z) (hv : vs.getD j.toNatClampNeg dv = v) (r : Run V K B Q h ps cs sl pc' L (v :: S)) : Run V K B Q h ps cs sl pc L (.int j :: .ref a :: S) := by
  subst hp; refine r.still fun T locs vm0 X eT hZ ho O G => ⟨T, X, eT, fun t st => ?_⟩
  obtain ⟨c, A1, q1, S1, N1, H1, G1⟩ := A
  exact X.caload G.1 (by rw [eT]; exact A1.1) (State.isArrayOf_alike hZ.alike A1.2.1) A1.2.2 (inb_of S1 hj) (H1.at (inb_of S1 hj) hv) (g := mkF K.m pc L.toArray (.int j :: .ref a :: S)) rfl rfl (hb G.2.1 hd) _ st
theorem r_baload {a : Nat} {k : ClassId} {z j : Int32} {vs : List Value} {dv v : Value} (pc' : Nat) (hp : pc + 1 = pc') (hd : decode B.code pc = .ok (.baload, 1)) (A : Arv V.Z h a k .byte z vs dv) (hj : ¬ j < 0 ∧ j < z) (hv : vs.getD j.toNatClampNeg dv = v) (r : Run V K B Q h ps cs sl pc' L (v :: S)) : Run V K B Q h ps cs sl pc L (.int j :: .ref a :: S) := by
  subst hp; refine r.still fun T locs vm0 X eT hZ ho O G => ⟨T, X, eT, fun t st => ?_⟩
  obtain ⟨c, A1, q1, S1, N1, H1, G1⟩ := A
  exact X.baloadBytes G.1 (by rw [eT]; exact A1.1) (State.isArrayOf_alike hZ.alike A1.2.1) A1.2.2 (inb_of S1 hj) (H1.at (inb_of S1 hj) hv) (g := mkF K.m pc L.toArray (.int j :: .ref a :: S)) rfl rfl (hb G.2.1 hd) _ st
theorem r_saload {a : Nat} {k : ClassId} {z j : Int32} {vs : List Value} {dv v : Value} (pc' : Nat) (hp : pc + 1 = pc') (hd : decode B.code pc = .ok (.saload, 1)) (A : Arv V.Z h a k .short z vs dv) (hj : ¬ j < 0 ∧ j < z) (hv : vs.getD j.toNatClampNeg dv = v) (r : Run V K B Q h ps cs sl pc' L (v :: S)) : Run V K B Q h ps cs sl pc L (.int j :: .ref a :: S) := by
  subst hp; refine r.still fun T locs vm0 X eT hZ ho O G => ⟨T, X, eT, fun t st => ?_⟩
  obtain ⟨c, A1, q1, S1, N1, H1, G1⟩ := A
  exact X.saload G.1 (by rw [eT]; exact A1.1) (State.isArrayOf_alike hZ.alike A1.2.1) A1.2.2 (inb_of S1 hj) (H1.at (inb_of S1 hj) hv) (g := mkF K.m pc L.toArray (.int j :: .ref a :: S)) rfl rfl (hb G.2.1 hd) _ st
theorem r_laload {a : Nat} {k : ClassId} {z j : Int32} {vs : List Value} {dv v : Value} (pc' : Nat) (hp : pc + 1 = pc') (hd : decode B.code pc = .ok (.laload, 1)) (A : Arv V.Z h a k .long z vs dv) (hj : ¬ j < 0 ∧ j < z) (hv : vs.getD j.toNatClampNeg dv = v) (r : Run V K B Q h ps cs sl pc' L (v :: S)) : Run V K B Q h ps cs sl pc L (.int j :: .ref a :: S) := by
  subst hp; refine r.still fun T locs vm0 X eT hZ ho O G => ⟨T, X, eT, fun t st => ?_⟩
  obtain ⟨c, A1, q1, S1, N1, H1, G1⟩ := A
  exact X.laload G.1 (by rw [eT]; exact A1.1) (State.isArrayOf_alike hZ.alike A1.2.1) A1.2.2 (inb_of S1 hj) (H1.at (inb_of S1 hj) hv) (g := mkF K.m pc L.toArray (.int j :: .ref a :: S)) rfl rfl (hb G.2.1 hd) _ st
theorem r_aaload {a : Nat} {k : ClassId} {ty : FieldType} {z j : Int32} {vs : List Value} {dv v : Value} (pc' : Nat) (hp : pc + 1 = pc') (hd : decode B.code pc = .ok (.aaload, 1)) (A : Arv V.Z h a k ty z vs dv) (hty : ty.isReference = true) (hj : ¬ j < 0 ∧ j < z) (hv : vs.getD j.toNatClampNeg dv = v) (r : Run V K B Q h ps cs sl pc' L (v :: S)) : Run V K B Q h ps cs sl pc L (.int j :: .ref a :: S) := by
  subst hp; refine r.still fun T locs vm0 X eT hZ ho O G => ⟨T, X, eT, fun t st => ?_⟩
  obtain ⟨c, A1, q1, S1, N1, H1, G1⟩ := A
  exact X.aaload G.1 (by rw [eT]; exact A1.1) (State.isArrayOf_alike hZ.alike A1.2.1) hty A1.2.2 (inb_of S1 hj) (H1.at (inb_of S1 hj) hv) (g := mkF K.m pc L.toArray (.int j :: .ref a :: S)) rfl rfl (hb G.2.1 hd) _ st
theorem r_arraylength {a : Nat} {k : ClassId} {ty : FieldType} {z : Int32} {vs : List Value} {dv : Value} (pc' : Nat) (hp : pc + 1 = pc') (hd : decode B.code pc = .ok (.arraylength, 1)) (A : Arv V.Z h a k ty z vs dv) (r : Run V K B Q h ps cs sl pc' L (.int z :: S)) : Run V K B Q h ps cs sl pc L (.ref a :: S) := by
  subst hp; refine r.still fun T locs vm0 X eT hZ ho O G => ⟨T, X, eT, fun t st => ?_⟩
  obtain ⟨c, A1, q1, S1, N1, H1, G1⟩ := A
  exact X.arraylength G.1 (by rw [eT]; exact A1.1) (State.isArrayOf_alike hZ.alike A1.2.1) (g := mkF K.m pc L.toArray (.ref a :: S)) rfl rfl (hb G.2.1 hd) _ (by rw [len_of S1 N1]; exact st)
theorem r_castore {a : Nat} {k : ClassId} {z j x : Int32} {vs : List Value} {dv : Value} (i : Nat) (pc' : Nat) (hp : pc + 1 = pc') (hd : decode B.code pc = .ok (.castore, 1)) (A : Arv V.Z h a k .char z vs dv) (hj : ¬ j < 0 ∧ j < z) (ji : j.toNatClampNeg = i) (hi : i < vs.length) (ha : V.Z.heap.size ≤ a) (x' : Int32) (hx' : nar .char x = x')
    (r : ∀ h', Wr h h' a i (.int x') → Arv V.Z h' a k .char z (vs.set i (.int x')) dv → Run V K B Q h' ps cs sl pc' L S) : Run V K B Q h ps cs sl pc L (.int x :: .int j :: .ref a :: S) := by
  subst hp hx' ji; refine Run.write ha (fun vm al P => Safe.arr al A.choose_spec.1 (by decide)) (fun h' W => r h' W ?_) fun T locs vm0 X eT hZ ho G => ?_
  · obtain ⟨c, A1, q1, S1, N1, H1, G1⟩ := A
    exact Arv.set A1 q1 S1 N1 H1 G1 (fits_nar_char x) W _ rfl hi
  · obtain ⟨c, A1, q1, S1, N1, H1, G1⟩ := A
    exact stC X G.1 hZ eT A1 (inb_of S1 hj) (g := mkF K.m pc L.toArray (.int x :: .int j :: .ref a :: S)) rfl rfl (hb G.2.1 hd)
theorem r_bastore {a : Nat} {k : ClassId} {z j x : Int32} {vs : List Value} {dv : Value} (i : Nat) (pc' : Nat) (hp : pc + 1 = pc') (hd : decode B.code pc = .ok (.bastore, 1)) (A : Arv V.Z h a k .byte z vs dv) (hj : ¬ j < 0 ∧ j < z) (ji : j.toNatClampNeg = i) (hi : i < vs.length) (ha : V.Z.heap.size ≤ a) (hs : a ∈ ps) (x' : Int32) (hx' : x.toInt8.toInt32 = x')
    (r : ∀ h', Wr h h' a i (.int x') → Arv V.Z h' a k .byte z (vs.set i (.int x')) dv → Run V K B Q h' ps cs sl pc' L S) : Run V K B Q h ps cs sl pc L (.int x :: .int j :: .ref a :: S) := by
  subst hp hx' ji; refine Run.write ha (fun vm al P => (P a hs).2) (fun h' W => r h' W ?_) fun T locs vm0 X eT hZ ho G => ?_
  · obtain ⟨c, A1, q1, S1, N1, H1, G1⟩ := A
    exact Arv.set A1 q1 S1 N1 H1 G1 (fits_nar_byte x) W _ rfl hi
  · obtain ⟨c, A1, q1, S1, N1, H1, G1⟩ := A
    exact stB X G.1 hZ eT A1 (inb_of S1 hj) (g := mkF K.m pc L.toArray (.int x :: .int j :: .ref a :: S)) rfl rfl (hb G.2.1 hd)
theorem r_iastore {a : Nat} {k : ClassId} {z j x : Int32} {vs : List Value} {dv : Value} (i : Nat) (pc' : Nat) (hp : pc + 1 = pc') (hd : decode B.code pc = .ok (.iastore, 1)) (A : Arv V.Z h a k .int z vs dv) (hj : ¬ j < 0 ∧ j < z) (ji : j.toNatClampNeg = i) (hi : i < vs.length) (ha : V.Z.heap.size ≤ a) (x' : Int32) (hx' : x = x')
    (r : ∀ h', Wr h h' a i (.int x') → Arv V.Z h' a k .int z (vs.set i (.int x')) dv → Run V K B Q h' ps cs sl pc' L S) : Run V K B Q h ps cs sl pc L (.int x :: .int j :: .ref a :: S) := by
  subst hp hx' ji; refine Run.write ha (fun vm al P => Safe.arr al A.choose_spec.1 (by decide)) (fun h' W => r h' W ?_) fun T locs vm0 X eT hZ ho G => ?_
  · obtain ⟨c, A1, q1, S1, N1, H1, G1⟩ := A
    exact Arv.set A1 q1 S1 N1 H1 G1 (rfl) W _ rfl hi
  · obtain ⟨c, A1, q1, S1, N1, H1, G1⟩ := A
    exact stI X G.1 hZ eT A1 (inb_of S1 hj) (g := mkF K.m pc L.toArray (.int x :: .int j :: .ref a :: S)) rfl rfl (hb G.2.1 hd)
theorem r_aastore {a : Nat} {k : ClassId} {C : String} {z j : Int32} {x : Value} {vs : List Value} {dv : Value} (i : Nat) (pc' : Nat) (hp : pc + 1 = pc') (hd : decode B.code pc = .ok (.aastore, 1)) (A : Arv V.Z h a k (.object C) z vs dv) (F : ∀ c, Arr V.Z h a c (.object C) → c.cls = k → Sto V.Z h a x) (hj : ¬ j < 0 ∧ j < z) (ji : j.toNatClampNeg = i) (hi : i < vs.length) (ha : V.Z.heap.size ≤ a) (hfx : fits (.object C) x = true)
    (r : ∀ h', Wr h h' a i x → Arv V.Z h' a k (.object C) z (vs.set i x) dv → Run V K B Q h' ps cs sl pc' L S) : Run V K B Q h ps cs sl pc L (x :: .int j :: .ref a :: S) := by
  subst hp ji; refine Run.write ha (fun vm al P => Safe.arr al A.choose_spec.1 (by simp)) (fun h' W => r h' W ?_) fun T locs vm0 X eT hZ ho G => ?_
  · obtain ⟨c, A1, q1, S1, N1, H1, G1⟩ := A
    exact Arv.set A1 q1 S1 N1 H1 G1 hfx W _ rfl hi
  · obtain ⟨c, A1, q1, S1, N1, H1, G1⟩ := A
    exact stR X G.1 hZ eT A1 (inb_of S1 hj) rfl (F c A1 q1) (g := mkF K.m pc L.toArray (x :: .int j :: .ref a :: S)) rfl rfl (hb G.2.1 hd)
theorem r_instY {i : Nat} {C : String} {a : Nat} (pc' : Nat) (hp : pc + 3 = pc') (hd : decode B.code pc = .ok (.instanceof i, 3)) (w : (Jvm.Cond.classLink B.y.cls i C).before V.a0 V.Z = true) (F : Ins V.Z h a C true) (r : Run V K B Q h ps cs sl pc' L (.int 1 :: S)) : Run V K B Q h ps cs sl pc L (.ref a :: S) := by
  subst hp; exact r.still fun T locs vm0 X eT hZ ho O G => instY X G.1 hZ ho w eT F (g := mkF K.m pc L.toArray (.ref a :: S)) rfl rfl (hb G.2.1 hd)
theorem r_instNo {i : Nat} {C D : String} {a : Nat} (pc' : Nat) (hp : pc + 3 = pc') (hd : decode B.code pc = .ok (.instanceof i, 3)) (w : (Jvm.Cond.classLink B.y.cls i D).before V.a0 V.Z = true) (E : Exa V.Z h a C) (F : ∃ c t, V.Z.vm.findClass C = some c ∧ V.Z.vm.findClass D = some t ∧ V.Z.vm.assignable c t = false) (r : Run V K B Q h ps cs sl pc' L (.int 0 :: S)) : Run V K B Q h ps cs sl pc L (.ref a :: S) := by
  subst hp; exact r.still fun T locs vm0 X eT hZ ho O G => instNo X G.1 hZ ho w eT E F (g := mkF K.m pc L.toArray (.ref a :: S)) rfl rfl (hb G.2.1 hd)
theorem r_cast {i : Nat} {C : String} {a : Nat} (pc' : Nat) (hp : pc + 3 = pc') (hd : decode B.code pc = .ok (.checkcast i, 3)) (w : (Jvm.Cond.classLink B.y.cls i C).before V.a0 V.Z = true) (F : Ins V.Z h a C true) (r : Run V K B Q h ps cs sl pc' L (.ref a :: S)) : Run V K B Q h ps cs sl pc L (.ref a :: S) := by
  subst hp; exact r.still fun T locs vm0 X eT hZ ho O G => castY X G.1 hZ ho w eT F (g := mkF K.m pc L.toArray (.ref a :: S)) rfl rfl (hb G.2.1 hd)
theorem r_initO {i : Nat} {a : Nat} (W : Nat) (pc' : Nat) (hp : pc + 3 = pc') (hd : decode B.code pc = .ok (.invokespecial i, 3)) (w1 : (Jvm.Cond.methodLink B.y.cls i Lib.objectInit).before V.a0 V.Z = true) (w2 : (Jvm.Cond.instanceMethod Lib.objectInit).before V.a0 V.Z = true) (w3 : (Jvm.Cond.code Lib.objectInit ⟨#[0xb1]⟩ 1 none).before V.a0 V.Z = true) (hsz : L.length = B.ml) (hf : 1 ≤ B.R.frames) (hW : (S.map fun v => v.category).sum ≤ W) (hl : W + 12 ≤ B.R.locals) (r : Run V K B Q h ps cs sl pc' L S) : Run V K B Q h ps cs sl pc L (.ref a :: S) := by
  subst hp; exact r.still fun T locs vm0 X eT hZ ho O G => initO X G.1 hZ ho w1 w2 w3 eT (g := mkF K.m pc L.toArray (.ref a :: S)) rfl (by rw [G.2.2.1]; simpa using hsz) rfl (hb G.2.1 hd) hf (W := W) (by simpa using hW) hl
theorem Run.ret {v : Option Value} (hv : K.meth.sig.returnType = none → v = none) (hc : cs ≤ B.R.cells) (hs : sl ≤ B.R.slots) (qps : List Addr) (hq : ∀ x ∈ qps, x ∈ ps) (q : Q v h qps)
    (st : ∀ T locs vm0 fs, Stand K.p V.l K.e B.R (K.s.setVm vm0) K.m K.args K.below K.meth K.c T locs cs sl → Fx K B → (∀ (f : JFrame) (acts : List Action), f.method = K.m → f.locked = none → f.entered = [] → (doReturn K.e (T.setTop f) acts v).1 = T.setFrames fs) → Steps K.p.tables K.e K.below (T.setTop (mkF K.m pc L.toArray S)) (T.setFrames fs)) :
    Run V K B Q h ps cs sl pc L S := fun T hT => by
  obtain ⟨locs, vm0, k0, X, e1, e2, e3, e4, e5, e6, e7, e8, e9, e10, e11, e12⟩ := hT
  have hl : K.meth.locks = false := e12.2.2.2.2.1
  have C := e8.trans (CHv.at X e2 e10 e8.1)
  have A := CHv.at X e2 e10 e8.1
  cases hn : V.nar
  · obtain ⟨fs, hr, hrun, hend, w1, w2, w3, w4⟩ := X.leaveW e4 (by rw [e1]; exact e5) hv hl
    refine ⟨_, _, st T locs vm0 fs X e12 hr, hrun, hend, v, locs, qps, rfl, e6, by show Q v T.heap qps; rw [e1]; exact q, by show Ext V.Z.heap T.heap; rw [e1]; exact e7, by show Sf V T.vm T.heap qps; rw [e1]; exact (e9.sub hq).go A, by show CHr V.Z V.EL K.s.vm K.s.heap T.vm T.heap; rw [e1]; exact C, ⟨w1, w2, w3, w4.mono hc hs⟩, fun z => absurd (hn.symm.trans z) (by decide)⟩
  · obtain ⟨rfl, -⟩ := e11 hn
    obtain ⟨fs, hr, hrun, hend, w1, w2⟩ := X.leave hv hl
    refine ⟨_, _, st T locs _ fs X e12 hr, hrun, hend, v, locs, qps, rfl, e6, by show Q v T.heap qps; rw [e1]; exact q, by show Ext V.Z.heap T.heap; rw [e1]; exact e7, by show Sf V T.vm T.heap qps; rw [e1]; exact (e9.sub hq).go A, by show CHr V.Z V.EL K.s.vm K.s.heap T.vm T.heap; rw [e1]; exact C, ReturnedEndW.of_narrow ⟨v, rfl⟩ w1 (w2.mono hc hs), fun z => ⟨⟨v, rfl⟩, w1, w2.mono hc hs⟩⟩
theorem r_ret (hr : B.ret = none) (hd : decode B.code pc = .ok (.return_, 1)) (hc : cs ≤ B.R.cells) (hs : sl ≤ B.R.slots) (qps : List Addr) (hq : ∀ x ∈ qps, x ∈ ps) (q : Q none h qps) : Run V K B Q h ps cs sl pc L [] :=
  Run.ret (fun _ => rfl) hc hs qps hq q fun T locs vm0 fs X G hl => X.returnOut G.1 (G.2.2.2.1.trans hr) (hb G.2.1 hd) hl
theorem r_iret {z : Int32} (hr : B.ret = some .int) (hd : decode B.code pc = .ok (.ireturn, 1)) (hc : cs ≤ B.R.cells) (hs : sl ≤ B.R.slots) (qps : List Addr) (hq : ∀ x ∈ qps, x ∈ ps) (q : Q (some (.int z)) h qps) : Run V K B Q h ps cs sl pc L (.int z :: S) := by
  intro T hT; have G : Fx K B := by obtain ⟨locs, vm0, k0, X, e1, e2, e3, e4, e5, e6, e7, e8, e9, e10, e11, e12⟩ := hT; exact e12
  exact Run.ret (fun z => by rw [G.2.2.2.1.trans hr] at z; cases z) hc hs qps hq q (fun T locs vm0 fs X G hl => retOut X G.1 (G.2.2.2.1.trans hr) rfl (Or.inl ⟨rfl, Or.inl rfl, _, rfl⟩) (hb G.2.1 hd) hl) T hT
theorem r_nret {z : Int32} {t : FieldType} (z' : Int32) (hr : B.ret = some t) (ht : t = .boolean ∨ t = .byte ∨ t = .char ∨ t = .short) (hz : RoadKit.nar t z = z') (hd : decode B.code pc = .ok (.ireturn, 1)) (hc : cs ≤ B.R.cells) (hs : sl ≤ B.R.slots) (qps : List Addr) (hq : ∀ x ∈ qps, x ∈ ps) (q : Q (some (.int z')) h qps) : Run V K B Q h ps cs sl pc L (.int z :: S) := by
  subst hz; intro T hT; have G : Fx K B := by obtain ⟨locs, vm0, k0, X, e1, e2, e3, e4, e5, e6, e7, e8, e9, e10, e11, e12⟩ := hT; exact e12
  exact Run.ret (fun z => by rw [G.2.2.2.1.trans hr] at z; cases z) hc hs qps hq q (fun T locs vm0 fs X G hl => retN X G.1 (G.2.2.2.1.trans hr) ht (hb G.2.1 hd) hl) T hT
theorem r_lret {z : Int64} (hr : B.ret = some .long) (hd : decode B.code pc = .ok (.lreturn, 1)) (hc : cs ≤ B.R.cells) (hs : sl ≤ B.R.slots) (qps : List Addr) (hq : ∀ x ∈ qps, x ∈ ps) (q : Q (some (.long z)) h qps) : Run V K B Q h ps cs sl pc L (.long z :: S) := by
  intro T hT; have G : Fx K B := by obtain ⟨locs, vm0, k0, X, e1, e2, e3, e4, e5, e6, e7, e8, e9, e10, e11, e12⟩ := hT; exact e12
  exact Run.ret (fun z => by rw [G.2.2.2.1.trans hr] at z; cases z) hc hs qps hq q (fun T locs vm0 fs X G hl => retOut X G.1 (G.2.2.2.1.trans hr) rfl (Or.inr (Or.inl ⟨rfl, rfl, _, rfl⟩)) (hb G.2.1 hd) hl) T hT
theorem r_aret {x : Value} {t : FieldType} (hr : B.ret = some t) (ht : t.isReference = true) (hx : x.isRef = true) (hd : decode B.code pc = .ok (.areturn, 1)) (hc : cs ≤ B.R.cells) (hs : sl ≤ B.R.slots) (qps : List Addr) (hq : ∀ x ∈ qps, x ∈ ps) (q : Q (some x) h qps) : Run V K B Q h ps cs sl pc L (x :: S) := by
  intro T hT; have G : Fx K B := by obtain ⟨locs, vm0, k0, X, e1, e2, e3, e4, e5, e6, e7, e8, e9, e10, e11, e12⟩ := hT; exact e12
  have hn : narrow t x = x := by rcases ref_cases hx with rfl | ⟨a, rfl⟩ <;> cases t <;> first | rfl | cases ht
  exact Run.ret (fun z => by rw [G.2.2.2.1.trans hr] at z; cases z) hc hs qps hq q (fun T locs vm0 fs X G hl => retOut X G.1 (G.2.2.2.1.trans hr) hn (Or.inr (Or.inr (Or.inr (Or.inr ⟨rfl, ht, hx⟩)))) (hb G.2.1 hd) hl) T hT
theorem r_static {i W nc ns : Nat} {y : MethodName} {Q' : Qt} {bytes : ByteArray} {ml : Nat} {ret : Option FieldType} {argsL S0 : List Value} {as' : Array Value} (pc' : Nat) (hp : pc + 3 = pc') (hd : decode B.code pc = .ok (.invokestatic i, 3)) (w1 : (Jvm.Cond.methodLink B.y.cls i y).before V.a0 V.Z = true) (w2 : (Jvm.Cond.static y).before V.a0 V.Z = true) (w3 : (Jvm.Cond.initialized y.cls).before V.a0 V.Z = true) (w4 : (Jvm.Cond.code y bytes ml ret).before V.a0 V.Z = true)
    (hy : y.cls ≠ "java/lang/invoke/MethodHandle" ∧ y.cls ≠ "java/lang/invoke/VarHandle") (P : Pays V K B y 3 W as' h ps nc ns Q') (hlen : ∀ sig, parseMethodDescriptor y.desc = some sig → argsL.length = sig.parameters.length) (hS : S0 = argsL.reverse ++ S) (ha : argsL.toArray = as') (hsz : L.length = B.ml) (hW : (S.map fun v => v.category).sum ≤ W) (hc : cs + nc ≤ B.R.cells) (hs : sl + ns ≤ B.R.slots) (r : ∀ v h' ps', Q' v h' ps' → h.size ≤ h'.size → Run V K B Q h' (ps' ++ ps) (cs + nc) (sl + ns) pc' L (v.toList ++ S)) : Run V K B Q h ps cs sl pc L S0 := fun T hT => by
  subst hp hS ha
  obtain ⟨locs, vm0, k0, X, e1, e2, e3, e4, e5, e6, e7, e8, e9, e10, e11, e12⟩ := hT
  have P1 := P vm0 e2 e8.1 e9 e10 e7 fun q => (e11 q).2
  have hsize : (mkF K.m pc L.toArray (argsL.reverse ++ S)).locals.size = K.c.maxLocals := by rw [e12.2.2.1]; simpa using hsz
  have hZ : V.Z.Warmed39 (K.s.setVm vm0).vm := e2
  cases hn : V.nar
  · obtain ⟨v, vm₁, C, -, X', hS', -, hpo, st⟩ := callSS X e12.1 e3 (mvT hZ w1) (mvT hZ w2) (mvT hZ w3) (mvT hZ w4) hy (P1.2 hn) (g := mkF K.m pc L.toArray (argsL.reverse ++ S)) rfl hsize hlen rfl (by simpa using hW) (hb e12.2.1 hd) (fun vm₁ _ => ⟨rfl, e1, hc, hs⟩)
    obtain ⟨t, o, s1, s2⟩ := Run.behind e2 e3 e4 e5 e6 e8 e9 e10 e11 e12 (Or.inr ⟨hn, X', hS'⟩) hpo r
    exact ⟨t, o, st.trans s1, s2⟩
  · obtain ⟨v, vm₁, C, -, X', hpo, st⟩ := Jvm.LawKit.callS X e12.1 e3 (mvT hZ w1) (mvT hZ w2) (mvT hZ w3) (mvT hZ w4) hy (P1.1 hn) (g := mkF K.m pc L.toArray (argsL.reverse ++ S)) rfl hsize hlen rfl (by simpa using hW) (hb e12.2.1 hd) (fun vm₁ _ => ⟨rfl, e1, hc, hs⟩)
    obtain ⟨t, o, s1, s2⟩ := Run.behind e2 e3 e4 e5 e6 e8 e9 e10 e11 e12 (Or.inl ⟨hn, X'⟩) hpo r
    exact ⟨t, o, st _ s1, s2⟩
theorem r_special {i W nc ns : Nat} {y : MethodName} {Q' : Qt} {bytes : ByteArray} {ml : Nat} {argsL S0 : List Value} {a : Nat} {as' : Array Value} (pc' : Nat) (hp : pc + 3 = pc') (hd : decode B.code pc = .ok (.invokespecial i, 3)) (hy1 : y.name = "<init>") (w1 : (Jvm.Cond.methodLink B.y.cls i y).before V.a0 V.Z = true) (w2 : (Jvm.Cond.instanceMethod y).before V.a0 V.Z = true) (w4 : (Jvm.Cond.code y bytes ml none).before V.a0 V.Z = true)
    (hy : y.cls ≠ "java/lang/invoke/MethodHandle" ∧ y.cls ≠ "java/lang/invoke/VarHandle") (P : Pays V K B y 3 W as' h ps nc ns Q') (hlen : ∀ sig, parseMethodDescriptor y.desc = some sig → argsL.length = sig.parameters.length) (hS : S0 = argsL.reverse ++ .ref a :: S) (ha : (.ref a :: argsL).toArray = as') (hsz : L.length = B.ml) (hW : (S.map fun v => v.category).sum ≤ W) (hc : cs + nc ≤ B.R.cells) (hs : sl + ns ≤ B.R.slots) (r : ∀ v h' ps', Q' v h' ps' → h.size ≤ h'.size → Run V K B Q h' (ps' ++ ps) (cs + nc) (sl + ns) pc' L (v.toList ++ S)) : Run V K B Q h ps cs sl pc L S0 := fun T hT => by
  subst hp hS ha
  obtain ⟨locs, vm0, k0, X, e1, e2, e3, e4, e5, e6, e7, e8, e9, e10, e11, e12⟩ := hT
  have P1 := P vm0 e2 e8.1 e9 e10 e7 fun q => (e11 q).2
  have hsize : (mkF K.m pc L.toArray (argsL.reverse ++ .ref a :: S)).locals.size = K.c.maxLocals := by rw [e12.2.2.1]; simpa using hsz
  have hZ : V.Z.Warmed39 (K.s.setVm vm0).vm := e2
  cases hn : V.nar
  · obtain ⟨v, vm₁, C, -, X', hS', -, hpo, st⟩ := X.specialBackS e12.1 hy1 e3 (mvT hZ w1) (mvT hZ w2) (mvT hZ w4) hy (P1.2 hn) (g := mkF K.m pc L.toArray (argsL.reverse ++ .ref a :: S)) rfl hsize (Steps.refl _) hlen rfl (by simpa using hW) (hb e12.2.1 hd) (fun vm₁ _ => ⟨rfl, e1, hc, hs⟩)
    obtain ⟨t, o, s1, s2⟩ := Run.behind e2 e3 e4 e5 e6 e8 e9 e10 e11 e12 (Or.inr ⟨hn, X', hS'⟩) hpo r
    exact ⟨t, o, st.trans s1, s2⟩
  · obtain ⟨v, vm₁, C, -, X', hpo, st⟩ := X.specialBack e12.1 hy1 e3 (mvT hZ w1) (mvT hZ w2) (mvT hZ w4) hy (P1.1 hn) (g := mkF K.m pc L.toArray (argsL.reverse ++ .ref a :: S)) rfl hsize (Steps.refl _) hlen rfl (by simpa using hW) (hb e12.2.1 hd) (fun vm₁ _ => ⟨rfl, e1, hc, hs⟩)
    obtain ⟨t, o, s1, s2⟩ := Run.behind e2 e3 e4 e5 e6 e8 e9 e10 e11 e12 (Or.inl ⟨hn, X'⟩) hpo r
    exact ⟨t, o, st.trans s1, s2⟩
theorem nfS {C0 : String} {y : MethodName} (w : (Jvm.Cond.selects C0 y y).before V.a0 V.Z = true) : ∀ s : State, V.Z.Warmed39 s.vm → NotFace s y := fun s hZ => notFace_of_selects (args := #[]) (mvT hZ w)
theorem r_virtual {i W nc ns : Nat} {y : MethodName} {Q' : Qt} {z : MethodName} {C0 : String} {argsL S0 : List Value} {a : Nat} {as' : Array Value} (pc' : Nat) (hp : pc + 3 = pc') (hd : decode B.code pc = .ok (.invokevirtual i, 3)) (w1 : (Jvm.Cond.methodLink B.y.cls i y).before V.a0 V.Z = true) (w2 : (Jvm.Cond.declares y).before V.a0 V.Z = true) (w3 : (Jvm.Cond.selects C0 y z).before V.a0 V.Z = true) (w4 : (Jvm.Cond.instanceMethod z).before V.a0 V.Z = true)
    (hnf : ∀ s : State, V.Z.Warmed39 s.vm → NotFace s y) (hy : y.cls ≠ "java/lang/invoke/MethodHandle" ∧ y.cls ≠ "java/lang/invoke/VarHandle") (E : Exa V.Z h a C0) (P : Pays V K B z 3 W as' h ps nc ns Q') (hlen : ∀ sig, parseMethodDescriptor y.desc = some sig → argsL.length = sig.parameters.length) (hS : S0 = argsL.reverse ++ .ref a :: S) (ha : (.ref a :: argsL).toArray = as') (hsz : L.length = B.ml) (hW : (S.map fun v => v.category).sum ≤ W) (hc : cs + nc ≤ B.R.cells) (hs : sl + ns ≤ B.R.slots) (r : ∀ v h' ps', Q' v h' ps' → h.size ≤ h'.size → Run V K B Q h' (ps' ++ ps) (cs + nc) (sl + ns) pc' L (v.toList ++ S)) : Run V K B Q h ps cs sl pc L S0 := fun T hT => by
  subst hp hS ha
  obtain ⟨locs, vm0, k0, X, e1, e2, e3, e4, e5, e6, e7, e8, e9, e10, e11, e12⟩ := hT
  have P1 := P vm0 e2 e8.1 e9 e10 e7 fun q => (e11 q).2
  have hsize : (mkF K.m pc L.toArray (argsL.reverse ++ .ref a :: S)).locals.size = K.c.maxLocals := by rw [e12.2.2.1]; simpa using hsz
  have hZ : V.Z.Warmed39 (K.s.setVm vm0).vm := e2
  obtain ⟨cq, kq, q1, q2, q3⟩ := isOf (s := K.s.setVm vm0) hZ e1 E
  cases hn : V.nar
  · obtain ⟨v, vm₁, C, -, X', hS', -, hpo, st⟩ := X.virtualBackS e12.1 e3 (mvT hZ w1) (mvT hZ w2) (hnf _ hZ) (mvT hZ w3) (mvT hZ w4) hy (P1.2 hn) q1 q3 (g := mkF K.m pc L.toArray (argsL.reverse ++ .ref a :: S)) rfl hsize (Steps.refl _) hlen rfl (by simpa using hW) (hb e12.2.1 hd) (fun vm₁ _ => ⟨rfl, e1, hc, hs⟩)
    obtain ⟨t, o, s1, s2⟩ := Run.behind e2 e3 e4 e5 e6 e8 e9 e10 e11 e12 (Or.inr ⟨hn, X', hS'⟩) hpo r
    exact ⟨t, o, st.trans s1, s2⟩
  · obtain ⟨v, vm₁, C, -, X', hpo, st⟩ := X.virtualBack e12.1 e3 (mvT hZ w1) (mvT hZ w2) (hnf _ hZ) (mvT hZ w3) (mvT hZ w4) hy (P1.1 hn) q1 q3 (g := mkF K.m pc L.toArray (argsL.reverse ++ .ref a :: S)) rfl hsize (Steps.refl _) hlen rfl (by simpa using hW) (hb e12.2.1 hd) (fun vm₁ _ => ⟨rfl, e1, hc, hs⟩)
    obtain ⟨t, o, s1, s2⟩ := Run.behind e2 e3 e4 e5 e6 e8 e9 e10 e11 e12 (Or.inl ⟨hn, X'⟩) hpo r
    exact ⟨t, o, st.trans s1, s2⟩
theorem r_ldcS {i : Nat} {text : String} (vs : List Value) (z : Int32) (n : Nat) (pc' : Nat) (hp : pc + 2 = pc') (hd : decode B.code pc = .ok (.ldc i, 2)) (w : (Jvm.Cond.stringLink B.y.cls i text).before V.a0 V.Z = true) (wS : ∀ a ∈ Bundle.stringAtoms, a.before V.a0 V.Z = true) (hmem : (B.y.cls, i) ∈ V.EL) (hnar : V.nar = false)
    (ht : (∀ c ∈ text.toList, c.toNat < 256) ∧ text.toList.map (fun c => Value.int (Jvm.Lit.byteI c.toNat.toUInt16)) = vs) (hz : ¬ z < 0) (hl : z.toNatClampNeg = vs.length) (hn : 4 * text.toList.length ≤ n) (hbig : n ≤ 536870912) (hc : cs + 2 ≤ B.R.cells) (hl' : sl + (n + 4) ≤ B.R.slots)
    (r : ∀ (a b : Nat) k h', Ext h h' → Exa V.Z h' a "java/lang/String" → Fld V.Z h' a "java/lang/String" "coder" "B" (.int 0) → Fld V.Z h' a "java/lang/String" "value" "[B" (.ref b) → Arv V.Z h' b k .byte z vs (.int 0) → (∀ x ∈ ps, x ≠ a ∧ x ≠ b) → Run V K B Q h' ps (cs + 2) (sl + (n + 4)) pc' L (.ref a :: S)) : Run V K B Q h ps cs sl pc L S := fun T hT => by
  subst hp
  obtain ⟨locs, vm0, k0, X, e1, e2, e3, e4, e5, e6, e7, e8, e9, e10, e11, e12⟩ := hT
  obtain ⟨a, T', h', k1, b, k, X', q1, q2, q3, q4, q5, q6, q7, q8, q9, q10, q11, q12, q13, q14, q15, st⟩ := ldcCH X e12.1 e2 e3 w wS e1 e4 e5 e10 hmem e8.1 ht hz hl (g := mkF K.m pc L.toArray S) rfl (hb e12.2.1 hd) hn hbig hc hl'
  have S' : Sf V T'.vm h' ps := e9.go q13
  obtain ⟨t, o, s1, s2⟩ := r a b k h' q2 q7 q8 q9 q10 (fun x hx => q15 x (S' x hx).2) T' ⟨_, _, k1, X', q1, q5, q6, q3, q4, e6, Ext.trans' e7 q2, e8.trans q13, S', e10, fun q => absurd (hnar.symm.trans q) (by decide), e12⟩
  exact ⟨t, o, st _ s1, s2⟩
end Rules
end Jvm.Own
namespace Jvm.Own
open Jvm Jvm.ClassFile Sem Op Lib Jvm.Free Jvm.Stand Jvm.LawKit Jvm.RoadKit Bundle
section More
variable {V : Vw} {K : Cx} {B : Bx} {Q : Qt} {T : State} {h h' : Heap} {ps ps' : List Addr} {cs sl pc : Nat} {L : List Slot} {S : List Value}
theorem r_gen {x : Int32} (r : ∀ z, z = x → Run V K B Q h ps cs sl pc L (.int z :: S)) : Run V K B Q h ps cs sl pc L (.int x :: S) := r x rfl
theorem r_genL {x : Int64} (r : ∀ z, z = x → Run V K B Q h ps cs sl pc L (.long z :: S)) : Run V K B Q h ps cs sl pc L (.long x :: S) := r x rfl
theorem layL {as' : Array Value} {n : Nat} {L : List Slot} (h : Jvm.Sym.laidSlots as'.toList ++ List.replicate (n - (Jvm.Sym.laidSlots as'.toList).length) .unset = L) : argsToLocals as' n = L.toArray :=
  Array.toList_inj.mp (by rw [Jvm.Sym.argsToLocals_toList, h])
theorem nc16 (x : Int32) : RoadKit.nar .char x.toUInt32.toUInt16.toUInt32.toInt32 = x.toUInt32.toUInt16.toUInt32.toInt32 := by
  show x.toUInt32.toUInt16.toUInt32.toInt32.toUInt32.toUInt16.toUInt32.toInt32 = _
  simp only [UInt32.toUInt32_toInt32, UInt16.toUInt16_toUInt32]
theorem nc8 (x : Int32) : RoadKit.nar .char (x &&& 255).toUInt32.toUInt16.toUInt32.toInt32 = x &&& 255 := by rw [nc16, i2c_mask]
theorem ncm (x : Int32) : RoadKit.nar .char (x &&& 255) = x &&& 255 := i2c_mask x
/-- 0 to 255 -/
def By (x : Int32) : Prop := ¬ x < 0 ∧ ¬ 255 < x
theorem By.mask (x : Int32) : By (x &&& 255) := by
  have h := c_and x 255 (by decide)
  refine ⟨fun q => ?_, fun q => ?_⟩
  · rw [Int32.lt_iff_toInt_lt] at q; have : (0 : Int32).toInt = 0 := rfl; omega
  · rw [Int32.lt_iff_toInt_lt] at q; have : (255 : Int32).toInt = 255 := rfl; omega
end More
end Jvm.Own
namespace Jvm.Own
open Jvm Jvm.ClassFile Sem Op Lib Jvm.Free Jvm.Stand Jvm.LawKit Jvm.RoadKit Bundle
section More2
variable {V : Vw} {K : Cx} {B : Bx} {Q : Qt} {T : State} {h h' : Heap} {ps ps' : List Addr} {cs sl pc : Nat} {L : List Slot} {S : List Value}
theorem r_instNull {i : Nat} (pc' : Nat) (hp : pc + 3 = pc') (hd : decode B.code pc = .ok (.instanceof i, 3)) (r : Run V K B Q h ps cs sl pc' L (.int 0 :: S)) : Run V K B Q h ps cs sl pc L (.null :: S) := by
  subst hp; exact r.still fun T locs vm0 X eT hZ ho O G => ⟨T, X, eT, fun t st => X.instanceofNull G.1 (g := mkF K.m pc L.toArray (.null :: S)) rfl rfl (hb G.2.1 hd) _ st⟩
theorem noCast {Z : State} {a0 : Array Value} {C S K : String} {n : Nat} (w : (Jvm.Cond.superclass C S).before a0 Z = true) (w0 : (Jvm.Cond.noSuperclass S).before a0 Z = true) (wi : (Jvm.Cond.instantiable K n).before a0 Z = true) (h1 : C ≠ K) (h2 : S ≠ K) : ∃ c t, Z.vm.findClass C = some c ∧ Z.vm.findClass K = some t ∧ Z.vm.assignable c t = false := by
  obtain ⟨t, kt, i1, i2, i3, i4, -⟩ := Cond.instantiable_spec wi
  obtain ⟨cS, kS, s1, s2, s3, -, -⟩ := Cond.noSuperclass_spec w0
  have neS := ids_ne s1 i1 h2
  obtain ⟨c, h0⟩ := found_sup w
  obtain ⟨p, k, kp, q1, q2, q3, q4, q5, -, q7⟩ := Cond.superclass_spec h0 w
  cases q1.symm.trans s1
  have neC := ids_ne h0 i1 h1
  have nS : ∀ f, Z.vm.isSubclassAux f cS t = false := fun f => by
    cases f with
    | zero => rfl
    | succ f => simp [Vm.isSubclassAux, neS, s2, s3]
  have nC : ∀ f, Z.vm.isSubclassAux f c t = false := fun f => by
    cases f with
    | zero => rfl
    | succ f => simp [Vm.isSubclassAux, neC, q2, q4, nS]
  have i5 : kt.isInterface = false := by simp only [Bool.or_eq_false_iff] at i4; exact i4.1
  refine ⟨c, t, h0, i1, ?_⟩
  show Z.vm.assignableAux (255 + 1) c t = false
  simp [Vm.assignableAux, neC, q2, i2, q5, i3, i5, Vm.isSubclass, nC]
end More2
end Jvm.Own
namespace Jvm.Own
open Jvm Jvm.ClassFile Sem Op Lib Jvm.Free Jvm.Stand Jvm.LawKit Jvm.RoadKit Bundle
section More3
variable {V : Vw} {K : Cx} {B : Bx} {Q : Qt} {T : State} {h h' : Heap} {ps ps' : List Addr} {cs sl pc : Nat} {L : List Slot} {S : List Value}
/-- ldc of a String constant, opaque -/
theorem r_ldcO {i : Nat} {text : String} (n : Nat) (pc' : Nat) (hp : pc + 2 = pc') (hd : decode B.code pc = .ok (.ldc i, 2)) (w : (Jvm.Cond.stringLink B.y.cls i text).before V.a0 V.Z = true) (wS : ∀ a ∈ Bundle.stringAtoms, a.before V.a0 V.Z = true) (hnar : V.nar = false)
    (hn : 4 * text.toList.length ≤ n) (hbig : n ≤ 536870912) (hc : cs + 2 ≤ B.R.cells) (hl' : sl + (n + 4) ≤ B.R.slots) (r : ∀ (a : Nat) h', Ext h h' → Run V K B Q h' ps (cs + 2) (sl + (n + 4)) pc' L (.ref a :: S)) : Run V K B Q h ps cs sl pc L S := fun T hT => by
  subst hp
  obtain ⟨locs, vm0, k0, X, e1, e2, e3, e4, e5, e6, e7, e8, e9, e10, e11, e12⟩ := hT
  obtain ⟨a, T', h', k1, X', q1, q2, q3, q4, q5, q6, q13, q14, st⟩ := ldcOH X e12.1 e2 e3 w wS e1 e4 e5 e10 e8.1 (g := mkF K.m pc L.toArray S) rfl (hb e12.2.1 hd) hn hbig hc hl'
  obtain ⟨t, o, s1, s2⟩ := r a h' q2 T' ⟨_, _, k1, X', q1, q5, q6, q3, q4, e6, Ext.trans' e7 q2, e8.trans q13, e9.go q13, e10, fun q => absurd (hnar.symm.trans q) (by decide), e12⟩
  exact ⟨t, o, st _ s1, s2⟩
end More3
end Jvm.Own
namespace Jvm.Own
open Jvm Jvm.ClassFile Sem Op Lib Jvm.Free Jvm.Stand Jvm.LawKit Jvm.RoadKit Bundle
section Again
variable {V : Vw} {K : Cx} {B : Bx} {Q : Qt} {T : State} {h h' : Heap} {ps ps' : List Addr} {cs sl pc : Nat} {L : List Slot} {S : List Value}
/-- 'Std' at a table where the entry i of the body's class is booked as the String a -/
def StdL (V : Vw) (K : Cx) (B : Bx) (ix : Nat) (ad : Addr) (T : State) (h : Heap) (ps : List Addr) (cs sl : Nat) : Prop :=
  ∃ (locs : List Loc) (vm0 : Vm) (k0 : Nat), Stand K.p V.l K.e B.R (K.s.setVm vm0) K.m K.args K.below K.meth K.c T locs cs sl ∧ T.heap = h ∧ V.Z.Warmed39 vm0 ∧ vm0.findClass B.y.cls = some K.m.cls ∧ K.s.Since vm0 k0 ∧ k0 ≤ h.size ∧
    Fr V.Z.heap.size locs ∧ Ext V.Z.heap h ∧ CHr V.Z V.EL K.s.vm K.s.heap vm0 h ∧ Sf V vm0 h ps ∧ EW V.Z V.a0 V.EL ∧ (V.nar = true → vm0 = K.s.vm ∧ V.EL = []) ∧ Fx K B ∧ Lit (K.s.setVm vm0) B.y.cls ix ad
def RunL (V : Vw) (K : Cx) (B : Bx) (Q : Qt) (ix : Nat) (ad : Addr) (h : Heap) (ps : List Addr) (cs sl pc : Nat) (L : List Slot) (S : List Value) : Prop :=
  ∀ T, StdL V K B ix ad T h ps cs sl → ∃ t o, Steps K.p.tables K.e K.below (T.setTop (mkF K.m pc L.toArray S)) t ∧ t.status = .running ∧ Ended t K.below o ∧ Fnl V K B Q o t
theorem rL_aloadN {ix : Nat} {ad : Addr} {k : Fin 4} {v : Value} (pc' : Nat) (hp : pc + 1 = pc') (hd : decode B.code pc = .ok (.aload_n k, 1)) (hl : L[k.val]? = some (.val v)) (hv : v.isRef = true) (r : RunL V K B Q ix ad h ps cs sl pc' L (v :: S)) : RunL V K B Q ix ad h ps cs sl pc L (S) := fun T hT => by
  subst hp
  obtain ⟨t, o, h1, h2⟩ := r T hT
  obtain ⟨locs, vm0, k0, X, -, -, -, -, -, -, -, -, -, -, -, G, -⟩ := hT
  exact ⟨t, o, XS.aloadN X.here G.1 rfl (hb G.2.1 hd) (by show L.toArray[_]? = _; rw [List.getElem?_toArray]; exact hl) hv h1, h2⟩
theorem rL_getfield {ix : Nat} {ad : Addr} {i : Nat} {O n d : String} {a : Nat} {v : Value} (pc' : Nat) (hp : pc + 3 = pc') (hd : decode B.code pc = .ok (.getfield i, 3)) (w : (Jvm.Cond.fieldLink B.y.cls i O n d).before V.a0 V.Z = true) (F : Fld V.Z h a O n d v) (r : RunL V K B Q ix ad h ps cs sl pc' L (v :: S)) : RunL V K B Q ix ad h ps cs sl pc L (.ref a :: S) := fun T hT => by
  subst hp
  obtain ⟨locs, vm0, k0, X, e1, e2, e3, e4, e5, e6, e7, e8, e9, e10, e11, e12, e13⟩ := hT
  obtain ⟨T', X', e', st'⟩ := getF X e12.1 e2 e3 (host := "") (Or.inl w) Via.refl e1 F (g := mkF K.m pc L.toArray (.ref a :: S)) rfl rfl (hb e12.2.1 hd)
  obtain ⟨t, o, h1, h2⟩ := r T' ⟨locs, vm0, k0, X', e', e2, e3, e4, e5, e6, e7, e8, e9, e10, e11, e12, e13⟩
  exact ⟨t, o, st' _ h1, h2⟩
theorem rL_putfield {ix : Nat} {ad : Addr} {i kk : Nat} {O n d C : String} {a : Nat} {v old : Value} {ty : FieldType} (pc' : Nat) (hp : pc + 3 = pc') (hd : decode B.code pc = .ok (.putfield i, 3)) (w : (Jvm.Cond.fieldLink B.y.cls i O n d).before V.a0 V.Z = true) (F : Fld V.Z h a O n d old) (E : Exa V.Z h a C)
    (Lw : (Jvm.Cond.lays C O n d).before V.a0 V.Z = true ∨ ((Jvm.Cond.laysFinal C O n d).before V.a0 V.Z = true ∧ B.y.cls = O ∧ B.y.name = "<init>")) (wi : (Jvm.Cond.instantiable C kk).before V.a0 V.Z = true) (hty : parseFieldDescriptor d = some ty) (hn : narrow ty v = v) (hf : fits ty v = true)
    (ha : V.Z.heap.size ≤ a) (hs : C ≠ "java/lang/String" ∧ C ≠ "[B" ∨ a ∈ ps) (r : ∀ h', Wr h h' a (RoadKit.slotOf V.Z O n d) v → RunL V K B Q ix ad h' ps cs sl pc' L S) : RunL V K B Q ix ad h ps cs sl pc L (v :: .ref a :: S) := fun T hT => by
  subst hp
  obtain ⟨locs, vm0, k0, X, e1, e2, e3, e4, e5, e6, e7, e8, e9, e10, e11, e12, e13⟩ := hT
  obtain ⟨T', h', X', e', W, st'⟩ := putF X e12.1 e2 e3 (host := "") (Or.inl w) Via.refl e1 F E (Lw.imp id fun q => ⟨q.1, q.2.1, e12.2.2.2.2.2.trans q.2.2⟩) wi hty hn hf (g := mkF K.m pc L.toArray (v :: .ref a :: S)) rfl rfl (hb e12.2.1 hd)
  have C := CHr.wr W (hs.elim (fun q => Safe.exa e2.alike E q.1 q.2) (fun q => (e9 a q).2)) e8.1
  obtain ⟨t, o, h1, h2⟩ := r h' W T' ⟨_, vm0, k0, X', e', e2, e3, e4, by rw [W.size]; exact e5, Fr.snoc X' e6 ha, oldWr e7 W ha, e8.trans C, e9.go C, e10, e11, e12, e13⟩
  exact ⟨t, o, st' _ h1, h2⟩
theorem rL_again {ix : Nat} {ad : Nat} {text : String} (pc' : Nat) (hp : pc + 2 = pc') (hd : decode B.code pc = .ok (.ldc ix, 2)) (w : (Jvm.Cond.stringLink B.y.cls ix text).before V.a0 V.Z = true) (r : Run V K B Q h ps cs sl pc' L (.ref ad :: S)) : RunL V K B Q ix ad h ps cs sl pc L S := fun T hT => by
  subst hp
  obtain ⟨locs, vm0, k0, X, e1, e2, e3, e4, e5, e6, e7, e8, e9, e10, e11, e12, e13⟩ := hT
  obtain ⟨t, o, h1, h2⟩ := r T ⟨locs, vm0, k0, X, e1, e2, e3, e4, e5, e6, e7, e8, e9, e10, e11, e12⟩
  exact ⟨t, o, ldcAgain X e12.1 e2 e3 w e13 (g := mkF K.m pc L.toArray S) rfl (hb e12.2.1 hd) _ h1, h2⟩
theorem r_ldcSL {i : Nat} {text : String} (vs : List Value) (z : Int32) (n : Nat) (pc' : Nat) (hp : pc + 2 = pc') (hd : decode B.code pc = .ok (.ldc i, 2)) (w : (Jvm.Cond.stringLink B.y.cls i text).before V.a0 V.Z = true) (wS : ∀ a ∈ Bundle.stringAtoms, a.before V.a0 V.Z = true) (hmem : (B.y.cls, i) ∈ V.EL) (hnar : V.nar = false)
    (ht : (∀ c ∈ text.toList, c.toNat < 256) ∧ text.toList.map (fun c => Value.int (Jvm.Lit.byteI c.toNat.toUInt16)) = vs) (hz : ¬ z < 0) (hl : z.toNatClampNeg = vs.length) (hn : 4 * text.toList.length ≤ n) (hbig : n ≤ 536870912) (hc : cs + 2 ≤ B.R.cells) (hl' : sl + (n + 4) ≤ B.R.slots)
    (r : ∀ (a b : Nat) k h', Ext h h' → Exa V.Z h' a "java/lang/String" → Fld V.Z h' a "java/lang/String" "coder" "B" (.int 0) → Fld V.Z h' a "java/lang/String" "value" "[B" (.ref b) → Arv V.Z h' b k .byte z vs (.int 0) → (∀ x ∈ ps, x ≠ a ∧ x ≠ b) → RunL V K B Q i a h' ps (cs + 2) (sl + (n + 4)) pc' L (.ref a :: S)) : Run V K B Q h ps cs sl pc L S := fun T hT => by
  subst hp
  obtain ⟨locs, vm0, k0, X, e1, e2, e3, e4, e5, e6, e7, e8, e9, e10, e11, e12⟩ := hT
  obtain ⟨a, T', h', k1, b, k, X', q1, q2, q3, q4, q5, q6, q7, q8, q9, q10, q11, q12, q13, q14, q15, st⟩ := ldcCH X e12.1 e2 e3 w wS e1 e4 e5 e10 hmem e8.1 ht hz hl (g := mkF K.m pc L.toArray S) rfl (hb e12.2.1 hd) hn hbig hc hl'
  have S' : Sf V T'.vm h' ps := e9.go q13
  obtain ⟨t, o, s1, s2⟩ := r a b k h' q2 q7 q8 q9 q10 (fun x hx => q15 x (S' x hx).2) T' ⟨_, _, k1, X', q1, q5, q6, q3, q4, e6, Ext.trans' e7 q2, e8.trans q13, S', e10, fun q => absurd (hnar.symm.trans q) (by decide), e12, q14⟩
  exact ⟨t, o, st _ s1, s2⟩
end Again
end Jvm.Own
namespace Jvm.Own
open Jvm Jvm.ClassFile Sem Op Lib Jvm.Free Jvm.Stand Jvm.LawKit Jvm.RoadKit Bundle
section PaysMore
variable {V : Vw} {K : Cx} {B : Bx} {Q : Qt} {h : Heap} {ps : List Addr}
theorem Pays.more {y : MethodName} {as' : Array Value} {len W nc ns nc' ns' : Nat} (P : Pays V K B y len W as' h ps nc ns Q) (hc : nc ≤ nc') (hs : ns ≤ ns') : Pays V K B y len W as' h ps nc' ns' Q := fun vm0 hZ hC hS hE hO hN => by
  obtain ⟨p1, p2⟩ := P vm0 hZ hC hS hE hO hN
  refine ⟨fun hn => ?_, fun hn => ?_⟩
  · intro m meth c A g ig mk a X hg hsize hdg hW hn' hp
    have c1 := hp.2.2.1
    have c2 := hp.2.2.2
    obtain ⟨v, C, X', hpost, hst⟩ := p1 hn m meth c A g ig mk a X hg hsize hdg hW hn' ⟨hp.1, hp.2.1, Nat.le_trans (Nat.add_le_add_left hc _) c1, Nat.le_trans (Nat.add_le_add_left hs _) c2⟩
    obtain ⟨L, ps', q1, q2, q3, q4, q5, q6, q7, q8, q9⟩ := hpost
    exact ⟨v, ⟨C.U, C.locs, A.cells + nc', A.slots + ns'⟩, X'.more (show C.cells ≤ A.cells + nc' from by rw [q7]; exact Nat.add_le_add_left hc _) (show C.slots ≤ A.slots + ns' from by rw [q8]; exact Nat.add_le_add_left hs _), ⟨L, ps', q1, q2, q3, q4, q5, q6, rfl, rfl, q9⟩, hst⟩
  · intro m meth c A g ig mk a X hg hsize hdg hW hn' hp
    have c1 := hp.2.2.1
    have c2 := hp.2.2.2
    obtain ⟨v, C, X', k1, k2, hpost, hst⟩ := p2 hn m meth c A g ig mk a X hg hsize hdg hW hn' ⟨hp.1, hp.2.1, Nat.le_trans (Nat.add_le_add_left hc _) c1, Nat.le_trans (Nat.add_le_add_left hs _) c2⟩
    obtain ⟨L, ps', q1, q2, q3, q4, q5, q6, q7, q8, q9⟩ := hpost
    exact ⟨v, ⟨C.U, C.locs, A.cells + nc', A.slots + ns'⟩, X'.more (show C.cells ≤ A.cells + nc' from by rw [q7]; exact Nat.add_le_add_left hc _) (show C.slots ≤ A.slots + ns' from by rw [q8]; exact Nat.add_le_add_left hs _), k1, k2, ⟨L, ps', q1, q2, q3, q4, q5, q6, rfl, rfl, q9⟩, hst⟩
end PaysMore
end Jvm.Own
/- laws to paste: Road.backV, Road.chN, Road.eqW, Road.codOf (cut by pick.py; bodies as the Statement names them) -/
namespace Jvm.Pilot.@@N@@
namespace StrChars
open Jvm Sem ClassFile Op Lib Jvm.Stand Jvm.Free.XT Jvm.Free.ALB Jvm.Free.JM Jvm.Free
open Jvm.Lib.Cold (StaticIs)
/-- a char array whose places are chars -/
def Ch (a : Addr) (A : Cell) (U : State) : Prop := Arr .char a A U ∧ Typed .char A
theorem Ch.mv {a : Addr} {A : Cell} {U U' : State} (h : Ch a A U) (hal : U.vm.Alike U'.vm) (hh : U'.heap = U.heap) : Ch a A U' := ⟨h.1.mv hal hh, h.2⟩
theorem Ch.keep {a : Addr} {A : Cell} {U U' : State} (h : Ch a A U) (hal : U.vm.Alike U'.vm) (hk : U'.heap[a]? = some A) : Ch a A U' := ⟨h.1.keep hal hk, h.2⟩
/-- what place i of a char[]'s cell holds -/
def cv (A : Cell) (i : Nat) : Int32 := match A.slots[i]? with | some (.int x) => x | _ => 0
theorem Ch.get {a : Addr} {A : Cell} {U : State} (h : Ch a A U) {i : Nat} (hi : i < A.slots.size) : A.slots[i]? = some (.int (cv A i)) := by
  have e := Array.getElem?_eq_getElem hi
  have f := h.2 i _ e
  unfold cv; rw [e]
  generalize A.slots[i] = v at f
  cases v <;> simp [fits] at f ⊢
/-- the byte that i2b leaves of a char -/
def lo8 (x : Int32) : Int32 := x.toInt8.toInt32
theorem fits_lo8 (y : Int32) : fits .byte (.int (lo8 y)) = true := by
  have h1 := y.toInt8.le_toInt
  have h2 := y.toInt8.toInt_lt
  simp only [lo8, fits, Bool.and_eq_true, decide_eq_true_eq, Int32.le_iff_toInt_le, Int8.toInt_toInt32, show (-128 : Int32).toInt = -128 from by decide, show (127 : Int32).toInt = 127 from by decide]
  omega
/-- A' is A but that each place j of lo .. hi - 1 holds f j -/
def Laid (A A' : Cell) (lo hi : Nat) (f : Nat → Value) : Prop := A'.cls = A.cls ∧ A'.vm = A.vm ∧ A'.slots.size = A.slots.size ∧ ∀ i, A'.slots[i]? = if lo ≤ i ∧ i < hi then some (f i) else A.slots[i]?
theorem Laid.zero (A : Cell) (lo : Nat) (f : Nat → Value) : Laid A A lo (lo + 0) f := ⟨rfl, rfl, rfl, fun i => by rw [if_neg (by omega)]⟩
theorem Laid.step {A Ak : Cell} {lo k : Nat} {f : Nat → Value} {v : Value} (h : Laid A Ak lo k f) (hlo : lo ≤ k) (hk : k < Ak.slots.size) (hv : v = f k) : Laid A (Ak.setSlot k v) lo (k + 1) f := by
  refine ⟨h.1, h.2.1, by simpa [Cell.setSlot] using h.2.2.1, fun i => ?_⟩
  by_cases e : k = i
  · subst e; rw [Cell.slots_setSlot_self v hk, if_pos (by omega), hv]
  · rw [Cell.slots_setSlot_ne v e, h.2.2.2 i]
    by_cases q : lo ≤ i ∧ i < k
    · rw [if_pos q, if_pos (by omega)]
    · rw [if_neg q, if_neg (by omega)]
def U16 : String := "java/lang/StringUTF16"
namespace Cmp5
def yN : MethodName := ⟨"java/lang/StringUTF16", "compress", "([CI[BII)I"⟩
abbrev yB : ByteArray := jdk_52_method_21_code
theorem d0 : decode yB 0 = .ok (.iconst 0, 1) := by decide +kernel
theorem d1 : decode yB 1 = .ok (.istore 5, 2) := by decide +kernel
theorem d3 : decode yB 3 = .ok (.iload 5, 2) := by decide +kernel
theorem d5 : decode yB 5 = .ok (.iload 4, 2) := by decide +kernel
theorem d7 : decode yB 7 = .ok (.if_icmp (.ge) 37, 3) := by decide +kernel
theorem d10 : decode yB 10 = .ok (.aload_n 0, 1) := by decide +kernel
theorem d11 : decode yB 11 = .ok (.iload_n 1, 1) := by decide +kernel
theorem d12 : decode yB 12 = .ok (.caload, 1) := by decide +kernel
theorem d13 : decode yB 13 = .ok (.istore 6, 2) := by decide +kernel
theorem d15 : decode yB 15 = .ok (.iload 6, 2) := by decide +kernel
theorem d17 : decode yB 17 = .ok (.sipush 255, 3) := by decide +kernel
theorem d20 : decode yB 20 = .ok (.if_icmp (.le) 6, 3) := by decide +kernel
theorem d26 : decode yB 26 = .ok (.aload_n 2, 1) := by decide +kernel
theorem d27 : decode yB 27 = .ok (.iload_n 3, 1) := by decide +kernel
theorem d28 : decode yB 28 = .ok (.iload 6, 2) := by decide +kernel
theorem d30 : decode yB 30 = .ok (.i2b, 1) := by decide +kernel
theorem d31 : decode yB 31 = .ok (.bastore, 1) := by decide +kernel
theorem d32 : decode yB 32 = .ok (.iinc 1 1, 3) := by decide +kernel
theorem d35 : decode yB 35 = .ok (.iinc 3 1, 3) := by decide +kernel
theorem d38 : decode yB 38 = .ok (.iinc 5 1, 3) := by decide +kernel
theorem d41 : decode yB 41 = .ok (.goto (-38), 3) := by decide +kernel
theorem d44 : decode yB 44 = .ok (.iload 4, 2) := by decide +kernel
theorem d46 : decode yB 46 = .ok (.ireturn, 1) := by decide +kernel
def site : List Cond := []
def tab : Cond := tabOf yN yB 7 (some .int) site
def P (b : Addr) (A : Cell) (d : Addr) (B : Cell) (o q len : Nat) (args : Array Value) (s : State) : Prop := args = #[.ref b, .int (Int32.ofNat o), .ref d, .int (Int32.ofNat q), .int (Int32.ofNat len)] ∧ Ch b A s ∧ Arr .byte d B s ∧ b ≠ d ∧ o + len ≤ A.slots.size ∧ q + len ≤ B.slots.size ∧ ∀ i, i < len → ¬ 255 < cv A (o + i)
def E (b : Addr) (A : Cell) (d : Addr) (B : Cell) (o q len : Nat) (r : Option Value) (s u : State) : Prop := r = some (.int (Int32.ofNat len)) ∧ ∃ B', Put d B' s u ∧ Laid B B' q (q + len) (fun j => Value.int (lo8 (cv A (o + (j - q)))))
/-- no char of the range above 255: len; the places written hold each char's low byte -/
theorem law (l : Launch) (b : Addr) (A : Cell) (d : Addr) (B : Cell) (o q len : Nat) : Law l yN 5 5 0 0 yB 7 (some .int) site (P b A d B o q len) (E b A d B o q len) (copyLocs d q len) 0 0 := by
  refine Law.of_walk (plainFor_of_name (by decide +kernel)) (by decide +kernel) (by decide +kernel) (by decide) (fun _ _ h => by rw [h.1]; rfl) (fun _ U U' hal hh h => ⟨h.1, h.2.1.mv hal hh, h.2.2.1.mv hal hh, h.2.2.2⟩) (fun r U U' V V' h1 hal h2 h => ⟨h.1, h.2.elim fun B' q => ⟨B', q.1.mv h1 h2, q.2⟩⟩) ?_
  intro p e s m args below meth c s₁ X0 hexec hbytes hml hret hlk hnm hown hh0 W hP
  obtain ⟨rfl, hA, hB, hne, l1, l2, hp⟩ := hP
  have c1 : Steps p.tables e below (s₁.setTop (entryFrame m #[.ref b, .int (Int32.ofNat o), .ref d, .int (Int32.ofNat q), .int (Int32.ofNat len)] 7)) (s₁.setTop (mkF m 0 #[.val (.ref b), .val (.int (Int32.ofNat o)), .val (.ref d), .val (.int (Int32.ofNat q)), .val (.int (Int32.ofNat len)), .unset, .unset] [])) := entry rfl
  have hA0 := hA.1.mv X0.warmed.alike hh0
  have hB0 := hB.mv X0.warmed.alike hh0
  have a31 := hA.1.2.2.2
  have c2 : Steps p.tables e below (s₁.setTop (entryFrame m #[.ref b, .int (Int32.ofNat o), .ref d, .int (Int32.ofNat q), .int (Int32.ofNat len)] 7)) (s₁.setTop (mkF m 3 #[.val (.ref b), .val (.int (Int32.ofNat o)), .val (.ref d), .val (.int (Int32.ofNat q)), .val (.int (Int32.ofNat len)), .val (.int 0), .unset] [])) := c1.trans (by
    refine iconstV X0.here hexec rfl 0 (hb hbytes d0) (by decide) ?_
    refine XS.istore X0.here hexec rfl (hb hbytes d1) rfl rfl ?_
    exact Steps.refl _)
  have loop : ∀ (r i : Nat), i + r = len → ∀ (z : Slot), (z = .unset ∨ ∃ w, z = .val w ∧ w.category = 1) → ∀ (Tl : State) (Bk : Cell), Stand p l e { frames := 0, locals := 0, cells := 0, slots := 0 } s m #[.ref b, .int (Int32.ofNat o), .ref d, .int (Int32.ofNat q), .int (Int32.ofNat len)] below meth c Tl ([] ++ copyLocs d q i) 0 0 → Put d Bk s₁ Tl → Laid B Bk q (q + i) (fun j => Value.int (lo8 (cv A (o + (j - q))))) →
      Steps p.tables e below (s₁.setTop (entryFrame m #[.ref b, .int (Int32.ofNat o), .ref d, .int (Int32.ofNat q), .int (Int32.ofNat len)] 7)) (Tl.setTop (mkF m 3 #[.val (.ref b), .val (.int (Int32.ofNat (o + i))), .val (.ref d), .val (.int (Int32.ofNat (q + i))), .val (.int (Int32.ofNat len)), .val (.int (Int32.ofNat i)), z] [])) → ∃ (T' : State) (B' : Cell) (z' : Slot), Stand p l e { frames := 0, locals := 0, cells := 0, slots := 0 } s m #[.ref b, .int (Int32.ofNat o), .ref d, .int (Int32.ofNat q), .int (Int32.ofNat len)] below meth c T' ([] ++ copyLocs d q len) 0 0 ∧ Put d B' s₁ T' ∧ Laid B B' q (q + len) (fun j => Value.int (lo8 (cv A (o + (j - q))))) ∧
      Steps p.tables e below (s₁.setTop (entryFrame m #[.ref b, .int (Int32.ofNat o), .ref d, .int (Int32.ofNat q), .int (Int32.ofNat len)] 7)) (T'.setTop (mkF m 3 #[.val (.ref b), .val (.int (Int32.ofNat (o + len))), .val (.ref d), .val (.int (Int32.ofNat (q + len))), .val (.int (Int32.ofNat len)), .val (.int (Int32.ofNat len)), z'] [])) := by
    intro r
    induction r with
    | zero =>
      intro i hi z hz Tl Bk Xl pl fl cl
      have hil : i = len := by omega
      rw [hil] at Xl fl cl
      exact ⟨Tl, Bk, z, Xl, pl, fl, cl⟩
    | succ r ih =>
      intro i hi z hz Tl Bk Xl pl fl cl
      have all := X0.warmed.alike.symm.trans Xl.warmed.alike
      have hAl := hA0.keep all (pl.other hne hA0.1)
      have hBk := hB0.like all pl.1 fl.1 fl.2.1 fl.2.2.1
      have hlt : q + i < Bk.slots.size := by rw [fl.2.2.1]; omega
      have c3 : Steps p.tables e below (s₁.setTop (entryFrame m #[.ref b, .int (Int32.ofNat o), .ref d, .int (Int32.ofNat q), .int (Int32.ofNat len)] 7)) (Tl.setTop (mkF m 12 #[.val (.ref b), .val (.int (Int32.ofNat (o + i))), .val (.ref d), .val (.int (Int32.ofNat (q + i))), .val (.int (Int32.ofNat len)), .val (.int (Int32.ofNat i)), z] [.int (Int32.ofNat (o + i)), .ref b])) := cl.trans (by
        refine XS.iload Xl.here hexec rfl (hb hbytes d3) rfl ?_
        refine XS.iload Xl.here hexec rfl (hb hbytes d5) rfl ?_
        refine XS.icmpNo Xl.here hexec rfl (hb hbytes d7) rfl (ii_ge_f (lt32 (by omega) (by omega))) ?_
        refine XS.aloadN Xl.here hexec rfl (hb hbytes d10) rfl rfl ?_
        refine XS.iloadN Xl.here hexec rfl (hb hbytes d11) rfl ?_
        exact Steps.refl _)
      have c4 : Steps p.tables e below (s₁.setTop (entryFrame m #[.ref b, .int (Int32.ofNat o), .ref d, .int (Int32.ofNat q), .int (Int32.ofNat len)] 7)) (Tl.setTop (mkF m 13 #[.val (.ref b), .val (.int (Int32.ofNat (o + i))), .val (.ref d), .val (.int (Int32.ofNat (q + i))), .val (.int (Int32.ofNat len)), .val (.int (Int32.ofNat i)), z] [.int (cv A (o + i))])) := c3.trans (by
        refine Xl.aget hexec hAl rfl (hA.get (i := o + i) (by omega)) rfl rfl (hb hbytes d12) ?_
        exact Steps.refl _)
      have c5 : Steps p.tables e below (s₁.setTop (entryFrame m #[.ref b, .int (Int32.ofNat o), .ref d, .int (Int32.ofNat q), .int (Int32.ofNat len)] 7)) (Tl.setTop (mkF m 15 #[.val (.ref b), .val (.int (Int32.ofNat (o + i))), .val (.ref d), .val (.int (Int32.ofNat (q + i))), .val (.int (Int32.ofNat len)), .val (.int (Int32.ofNat i)), .val (.int (cv A (o + i)))] [])) := c4.trans (by
        refine XS.istoreS Xl.here hexec rfl (hb hbytes d13) rfl rfl hz ?_
        exact Steps.refl _)
      have c6 : Steps p.tables e below (s₁.setTop (entryFrame m #[.ref b, .int (Int32.ofNat o), .ref d, .int (Int32.ofNat q), .int (Int32.ofNat len)] 7)) (Tl.setTop (mkF m 31 #[.val (.ref b), .val (.int (Int32.ofNat (o + i))), .val (.ref d), .val (.int (Int32.ofNat (q + i))), .val (.int (Int32.ofNat len)), .val (.int (Int32.ofNat i)), .val (.int (cv A (o + i)))] [.int (lo8 (cv A (o + i))), .int (Int32.ofNat (q + i)), .ref d])) := c5.trans (by
        refine XS.iload Xl.here hexec rfl (hb hbytes d15) rfl ?_
        refine sipushV Xl.here hexec rfl 255 (hb hbytes d17) (by decide) ?_
        refine XS.icmpYes Xl.here hexec rfl (pc0 := 20) rfl (hb hbytes d20) rfl (ii_le_t (hp i (by omega))) (by decide) rfl ?_
        refine XS.aloadN Xl.here hexec rfl (hb hbytes d26) rfl rfl ?_
        refine XS.iloadN Xl.here hexec rfl (hb hbytes d27) rfl ?_
        refine XS.iload Xl.here hexec rfl (hb hbytes d28) rfl ?_
        refine i2b Xl.here hexec rfl (hb hbytes d30) rfl ?_
        exact Steps.refl _)
      obtain ⟨T7, X7, p7, st7⟩ := Xl.aput hexec hBk rfl hlt rfl (fits_lo8 (cv A (o + i))) (g := (mkF m 31 #[.val (.ref b), .val (.int (Int32.ofNat (o + i))), .val (.ref d), .val (.int (Int32.ofNat (q + i))), .val (.int (Int32.ofNat len)), .val (.int (Int32.ofNat i)), .val (.int (cv A (o + i)))] [.int (lo8 (cv A (o + i))), .int (Int32.ofNat (q + i)), .ref d])) rfl (rest := []) rfl (hb hbytes d31)
      have c8 : Steps p.tables e below (s₁.setTop (entryFrame m #[.ref b, .int (Int32.ofNat o), .ref d, .int (Int32.ofNat q), .int (Int32.ofNat len)] 7)) (T7.setTop (mkF m 32 #[.val (.ref b), .val (.int (Int32.ofNat (o + i))), .val (.ref d), .val (.int (Int32.ofNat (q + i))), .val (.int (Int32.ofNat len)), .val (.int (Int32.ofNat i)), .val (.int (cv A (o + i)))] [])) := c6.trans (st7 _ (Steps.refl _))
      have c9 : Steps p.tables e below (s₁.setTop (entryFrame m #[.ref b, .int (Int32.ofNat o), .ref d, .int (Int32.ofNat q), .int (Int32.ofNat len)] 7)) (T7.setTop (mkF m 3 #[.val (.ref b), .val (.int (Int32.ofNat (o + i) + 1)), .val (.ref d), .val (.int (Int32.ofNat (q + i) + 1)), .val (.int (Int32.ofNat len)), .val (.int (Int32.ofNat i + 1)), .val (.int (cv A (o + i)))] [])) := c8.trans (by
        refine iincV X7.here hexec rfl 1 (hb hbytes d32) (by decide) rfl rfl ?_
        refine iincV X7.here hexec rfl 1 (hb hbytes d35) (by decide) rfl rfl ?_
        refine iincV X7.here hexec rfl 1 (hb hbytes d38) (by decide) rfl rfl ?_
        refine XS.goto X7.here hexec rfl (pc0 := 41) rfl (hb hbytes d41) (by decide) rfl ?_
        exact Steps.refl _)
      have c10 : Steps p.tables e below (s₁.setTop (entryFrame m #[.ref b, .int (Int32.ofNat o), .ref d, .int (Int32.ofNat q), .int (Int32.ofNat len)] 7)) (T7.setTop (mkF m 3 #[.val (.ref b), .val (.int (Int32.ofNat (o + (i + 1)))), .val (.ref d), .val (.int (Int32.ofNat (q + (i + 1)))), .val (.int (Int32.ofNat len)), .val (.int (Int32.ofNat (i + 1))), .val (.int (cv A (o + i)))] [])) := by
        have := c9
        rw [succ32, succ32, succ32] at this
        exact this
      exact ih (i + 1) (by omega) _ (Or.inr ⟨_, rfl, rfl⟩) T7 _ (by rw [copyLocs_step, ← List.append_assoc]; exact X7) (pl.trans p7) (fl.step (by omega) hlt (by simp)) c10
  obtain ⟨T9, B9, z9, X9, p9, f9, g9⟩ := loop len 0 (by omega) .unset (Or.inl rfl) s₁ B (by simpa [copyLocs] using X0) ⟨hB0.1, fun _ _ => rfl, rfl⟩ (Laid.zero _ _ _) c2
  have c11 : Steps p.tables e below (s₁.setTop (entryFrame m #[.ref b, .int (Int32.ofNat o), .ref d, .int (Int32.ofNat q), .int (Int32.ofNat len)] 7)) (T9.setTop (mkF m 46 #[.val (.ref b), .val (.int (Int32.ofNat (o + len))), .val (.ref d), .val (.int (Int32.ofNat (q + len))), .val (.int (Int32.ofNat len)), .val (.int (Int32.ofNat len)), z9] [.int (Int32.ofNat len)])) := g9.trans (by
    refine XS.iload X9.here hexec rfl (hb hbytes d3) rfl ?_
    refine XS.iload X9.here hexec rfl (hb hbytes d5) rfl ?_
    refine XS.icmpYes X9.here hexec rfl (pc0 := 7) rfl (hb hbytes d7) rfl (ii_ge_t (nlt32 (by omega) (Nat.le_refl _))) (by decide) rfl ?_
    refine XS.iload X9.here hexec rfl (hb hbytes d44) rfl ?_
    exact Steps.refl _)
  exact ⟨T9, some (.int (Int32.ofNat len)), _, _, _, X9, by simp, rfl, rfl, (fun h => by cases h), ⟨rfl, B9, p9.from hh0, f9⟩, fun fs hl => c11.trans (X9.ireturnOut hexec hret rfl (Or.inl rfl) (hb hbytes d46) hl)⟩
end Cmp5
namespace Cmp3
def yN : MethodName := ⟨"java/lang/StringUTF16", "compress", "([CII)[B"⟩
abbrev yB : ByteArray := jdk_52_method_16_code
theorem d0 : decode yB 0 = .ok (.iload_n 2, 1) := by decide +kernel
theorem d1 : decode yB 1 = .ok (.newarray .byte, 2) := by decide +kernel
theorem d3 : decode yB 3 = .ok (.astore_n 3, 1) := by decide +kernel
theorem d4 : decode yB 4 = .ok (.aload_n 0, 1) := by decide +kernel
theorem d5 : decode yB 5 = .ok (.iload_n 1, 1) := by decide +kernel
theorem d6 : decode yB 6 = .ok (.aload_n 3, 1) := by decide +kernel
theorem d7 : decode yB 7 = .ok (.iconst 0, 1) := by decide +kernel
theorem d8 : decode yB 8 = .ok (.iload_n 2, 1) := by decide +kernel
theorem d9 : decode yB 9 = .ok (.invokestatic 115, 3) := by decide +kernel
theorem d12 : decode yB 12 = .ok (.istore 4, 2) := by decide +kernel
theorem d14 : decode yB 14 = .ok (.iload 4, 2) := by decide +kernel
theorem d16 : decode yB 16 = .ok (.iload_n 2, 1) := by decide +kernel
theorem d17 : decode yB 17 = .ok (.if_icmp (.eq) 40, 3) := by decide +kernel
theorem d57 : decode yB 57 = .ok (.aload_n 3, 1) := by decide +kernel
theorem d58 : decode yB 58 = .ok (.areturn, 1) := by decide +kernel
def site : List Cond := [.arrayClass .byte, Cmp5.tab] ++ staticW U16 115 Cmp5.yN
def tab : Cond := tabOf yN yB 6 (some (.array .byte)) site
def P (b : Addr) (A : Cell) (o len : Nat) (args : Array Value) (s : State) : Prop := args = #[.ref b, .int (Int32.ofNat o), .int (Int32.ofNat len)] ∧ Ch b A s ∧ o + len ≤ A.slots.size ∧ len ≤ 536870912 ∧ ∀ i, i < len → ¬ 255 < cv A (o + i)
def E (b : Addr) (A : Cell) (o len : Nat) (r : Option Value) (s u : State) : Prop := NewArr .byte "[B" len (fun j => .int (lo8 (cv A (o + j)))) r s u ∧ u.heap.size = s.heap.size + 1
/-- no char of the range above 255: a new byte[] of their low bytes -/
theorem law (l : Launch) (b : Addr) (A : Cell) (o len : Nat) : Law l yN 3 3 1 18 yB 6 (some (.array .byte)) site (P b A o len) (E b A o len) [] 1 len := by
  refine Law.of_walk (plainFor_of_name (by decide +kernel)) (by decide +kernel) (by decide +kernel) (by decide) (fun _ _ h => by rw [h.1]; rfl) (fun _ U U' hal hh h => ⟨h.1, h.2.1.mv hal hh, h.2.2⟩) (fun r U U' V V' h1 hal h2 h => ⟨NewArr.mv r U U' V V' h1 hal h2 h.1, by rw [h1, h2]; exact h.2⟩) ?_
  intro p e s m args below meth c s₁ X0 hexec hbytes hml hret hlk hnm hown hh0 W hP
  obtain ⟨rfl, hA, l1, l2, hp⟩ := hP
  have a31 := hA.1.2.2.2
  have c1 : Steps p.tables e below (s₁.setTop (entryFrame m #[.ref b, .int (Int32.ofNat o), .int (Int32.ofNat len)] 6)) (s₁.setTop (mkF m 0 #[.val (.ref b), .val (.int (Int32.ofNat o)), .val (.int (Int32.ofNat len)), .unset, .unset, .unset] [])) := entry rfl
  have c2 : Steps p.tables e below (s₁.setTop (entryFrame m #[.ref b, .int (Int32.ofNat o), .int (Int32.ofNat len)] 6)) (s₁.setTop (mkF m 1 #[.val (.ref b), .val (.int (Int32.ofNat o)), .val (.int (Int32.ofNat len)), .unset, .unset, .unset] [.int (Int32.ofNat len)])) := c1.trans (by
    refine XS.iloadN X0.here hexec rfl (hb hbytes d0) rfl ?_
    exact Steps.refl _)
  obtain ⟨T3, B3, X3, ba3, bs3, bv3, bh3, bf3, st3⟩ := X0.anew hexec (atype := .byte) (wk W (.arrayClass .byte)) rfl (by show len * 1 ≤ _; omega) (by omega) (g := (mkF m 1 #[.val (.ref b), .val (.int (Int32.ofNat o)), .val (.int (Int32.ofNat len)), .unset, .unset, .unset] [.int (Int32.ofNat len)])) rfl (hb hbytes d1) (rest := []) rfl (Nat.le_refl _) (by show 0 + len ≤ len; omega)
  rw [hh0] at ba3 st3
  have kp3 : XT.Kept s T3 := (XT.Kept.of_eq hh0).push bh3
  have hA3 := hA.keep X3.warmed.alike (kp3 _ _ hA.1.1)
  have hne : b ≠ s.heap.size := hA.1.ne
  have c4 : Steps p.tables e below (s₁.setTop (entryFrame m #[.ref b, .int (Int32.ofNat o), .int (Int32.ofNat len)] 6)) (T3.setTop (mkF m 3 #[.val (.ref b), .val (.int (Int32.ofNat o)), .val (.int (Int32.ofNat len)), .unset, .unset, .unset] [.ref s.heap.size])) := c2.trans (st3 _ (Steps.refl _))
  have c5 : Steps p.tables e below (s₁.setTop (entryFrame m #[.ref b, .int (Int32.ofNat o), .int (Int32.ofNat len)] 6)) (T3.setTop (mkF m 9 #[.val (.ref b), .val (.int (Int32.ofNat o)), .val (.int (Int32.ofNat len)), .val (.ref s.heap.size), .unset, .unset] [.int (Int32.ofNat len), .int 0, .ref s.heap.size, .int (Int32.ofNat o), .ref b])) := c4.trans (by
    refine XS.astoreN X3.here hexec rfl (hb hbytes d3) rfl rfl rfl ?_
    refine XS.aloadN X3.here hexec rfl (hb hbytes d4) rfl rfl ?_
    refine XS.iloadN X3.here hexec rfl (hb hbytes d5) rfl ?_
    refine XS.aloadN X3.here hexec rfl (hb hbytes d6) rfl rfl ?_
    refine iconstV X3.here hexec rfl 0 (hb hbytes d7) (by decide) ?_
    refine XS.iloadN X3.here hexec rfl (hb hbytes d8) rfl ?_
    exact Steps.refl _)
  obtain ⟨v6, T6, X6, E6, g6⟩ := X3.callS hexec (Cmp5.law l b A s.heap.size B3 o 0 len) hown (wks W (staticW U16 115 Cmp5.yN)) (wk W Cmp5.tab) (W := 0) (Nat.le_of_ble_eq_true rfl) (Nat.le_of_ble_eq_true rfl) (Nat.le_refl _) (by show 0 + len + 0 ≤ len; omega) (g := (mkF m 9 #[.val (.ref b), .val (.int (Int32.ofNat o)), .val (.int (Int32.ofNat len)), .val (.ref s.heap.size), .unset, .unset] [.int (Int32.ofNat len), .int (Int32.ofNat 0), .ref s.heap.size, .int (Int32.ofNat o), .ref b])) rfl (by rw [hml]; rfl) c5 (argsL := [.ref b, .int (Int32.ofNat o), .ref s.heap.size, .int (Int32.ofNat 0), .int (Int32.ofNat len)]) (rest := []) rfl rfl (by show 2 * 0 + 0 ≤ _; decide) (hb hbytes d9) (⟨rfl, hA3, ba3, hne, l1, by rw [bs3]; simp, hp⟩)
  obtain ⟨rfl, B6, p6, f6⟩ := E6
  have c7 : Steps p.tables e below (s₁.setTop (entryFrame m #[.ref b, .int (Int32.ofNat o), .int (Int32.ofNat len)] 6)) (T6.setTop (mkF m 12 #[.val (.ref b), .val (.int (Int32.ofNat o)), .val (.int (Int32.ofNat len)), .val (.ref s.heap.size), .unset, .unset] [.int (Int32.ofNat len)])) := g6
  have c8 : Steps p.tables e below (s₁.setTop (entryFrame m #[.ref b, .int (Int32.ofNat o), .int (Int32.ofNat len)] 6)) (T6.setTop (mkF m 58 #[.val (.ref b), .val (.int (Int32.ofNat o)), .val (.int (Int32.ofNat len)), .val (.ref s.heap.size), .val (.int (Int32.ofNat len)), .unset] [.ref s.heap.size])) := c7.trans (by
    refine XS.istore X6.here hexec rfl (hb hbytes d12) rfl rfl ?_
    refine XS.iload X6.here hexec rfl (hb hbytes d14) rfl ?_
    refine XS.iloadN X6.here hexec rfl (hb hbytes d16) rfl ?_
    refine XS.icmpYes X6.here hexec rfl (pc0 := 17) rfl (hb hbytes d17) rfl (ii_eq_t rfl) (by decide) rfl ?_
    refine XS.aloadN X6.here hexec rfl (hb hbytes d57) rfl rfl ?_
    exact Steps.refl _)
  have X8 := X6.wide (L' := []) (cells' := 1) (slots' := len) (fun x hx hlt => by
    simp only [List.nil_append, copyLocs, List.mem_map, List.mem_range] at hx
    obtain ⟨i, -, rfl⟩ := hx
    exact absurd hlt (Nat.lt_irrefl _)) (Nat.le_refl _) (by omega)
  exact ⟨T6, some (.ref s.heap.size), _, _, _, X8, rfl, rfl, rfl, (fun h => by cases h), ⟨⟨rfl, B6, ba3.like (X3.warmed.alike.symm.trans X6.warmed.alike) p6.1 f6.1 f6.2.1 f6.2.2.1, f6.2.1.trans bv3, by rw [X6.warmed.alike.findClass, f6.1]; exact bf3, by rw [f6.2.2.1, bs3]; simp, fun j hj => by rw [f6.2.2.2 j, if_pos (by omega)]; rfl, kp3.put p6 (Nat.le_refl _)⟩, by rw [p6.2.2, bh3, hh0]; simp⟩, fun fs hl => c8.trans (X8.areturnOut hexec rfl hret rfl (hb hbytes d58) hl)⟩
end Cmp3
namespace CodL
def yN : MethodName := ⟨"java/lang/StringUTF16", "coderFromArrayLen", "([BI)B"⟩
abbrev yB : ByteArray := jdk_52_method_15_code
theorem d0 : decode yB 0 = .ok (.iload_n 1, 1) := by decide +kernel
theorem d1 : decode yB 1 = .ok (.aload_n 0, 1) := by decide +kernel
theorem d2 : decode yB 2 = .ok (.arraylength, 1) := by decide +kernel
theorem d3 : decode yB 3 = .ok (.isub, 1) := by decide +kernel
theorem d4 : decode yB 4 = .ok (.bipush 31, 2) := by decide +kernel
theorem d6 : decode yB 6 = .ok (.iushr, 1) := by decide +kernel
theorem d7 : decode yB 7 = .ok (.i2b, 1) := by decide +kernel
theorem d8 : decode yB 8 = .ok (.ireturn, 1) := by decide +kernel
def site : List Cond := []
def tab : Cond := tabOf yN yB 2 (some .byte) site
def P (d : Addr) (B : Cell) (args : Array Value) (s : State) : Prop := args = #[.ref d, .int (Int32.ofNat B.slots.size)] ∧ Arr .byte d B s
def E (r : Option Value) (s u : State) : Prop := XT.PureE (some (.int 0)) r s u
/-- an array as long as the number of chars: LATIN1 -/
theorem law (l : Launch) (d : Addr) (B : Cell) : Law l yN 2 2 0 0 yB 2 (some .byte) site (P d B) E [] 0 0 := by
  refine Law.of_walk (plainFor_of_name (by decide +kernel)) (by decide +kernel) (by decide +kernel) (by decide) (fun _ _ h => by rw [h.1]; rfl) (fun _ U U' hal hh h => ⟨h.1, h.2.mv hal hh⟩) (fun r U U' V V' h1 hal h2 h => XT.PureE.mv r U U' V V' h1 hal h2 h) ?_
  intro p e s m args below meth c s₁ X0 hexec hbytes hml hret hlk hnm hown hh0 W hP
  obtain ⟨rfl, hB⟩ := hP
  have hB0 := hB.mv X0.warmed.alike hh0
  have c1 : Steps p.tables e below (s₁.setTop (entryFrame m #[.ref d, .int (Int32.ofNat B.slots.size)] 2)) (s₁.setTop (mkF m 0 #[.val (.ref d), .val (.int (Int32.ofNat B.slots.size))] [])) := entry rfl
  have c2 : Steps p.tables e below (s₁.setTop (entryFrame m #[.ref d, .int (Int32.ofNat B.slots.size)] 2)) (s₁.setTop (mkF m 2 #[.val (.ref d), .val (.int (Int32.ofNat B.slots.size))] [.ref d, .int (Int32.ofNat B.slots.size)])) := c1.trans (by
    refine XS.iloadN X0.here hexec rfl (hb hbytes d0) rfl ?_
    refine XS.aloadN X0.here hexec rfl (hb hbytes d1) rfl rfl ?_
    exact Steps.refl _)
  have c3 : Steps p.tables e below (s₁.setTop (entryFrame m #[.ref d, .int (Int32.ofNat B.slots.size)] 2)) (s₁.setTop (mkF m 8 #[.val (.ref d), .val (.int (Int32.ofNat B.slots.size))] [.int (lo8 (ushr (Int32.ofNat B.slots.size - Int32.ofNat B.slots.size) 31))])) := c2.trans (by
    refine X0.alen hexec hB0 rfl rfl (hb hbytes d2) ?_
    refine XS.isub X0.here hexec rfl (hb hbytes d3) rfl ?_
    refine bipushV X0.here hexec rfl 31 (hb hbytes d4) (by decide) ?_
    refine iushr X0.here hexec rfl (hb hbytes d6) rfl ?_
    refine i2b X0.here hexec rfl (hb hbytes d7) rfl ?_
    exact Steps.refl _)
  have e0 : lo8 (ushr (Int32.ofNat B.slots.size - Int32.ofNat B.slots.size) 31) = 0 := by rw [Int32.sub_self]; decide
  rw [e0] at c3
  exact ⟨s₁, some (.int 0), _, _, _, X0, rfl, rfl, rfl, (fun h => by cases h), ⟨rfl, hh0⟩, fun fs hl => c3.trans (X0.ireturnOut hexec hret rfl (Or.inr (Or.inr (Or.inl rfl))) (hb hbytes d8) hl)⟩
end CodL
/-- the String at a is Latin-1 over a new byte[] (the heap's one new cell): the low bytes of the len chars of A from o on; every cell but a is kept -/
def Got (a : Addr) (D : Cell) (fV fC : Field) (A : Cell) (o len : Nat) (r : Option Value) (s u : State) : Prop := r = none ∧ ∃ D' V : Cell, Blank "java/lang/String" a D' u ∧ Same D D' [fV.slot, fC.slot] ∧ D'.slots[fV.slot]? = some (.ref s.heap.size) ∧ D'.slots[fC.slot]? = some (.int 0) ∧ Arr .byte s.heap.size V u ∧ V.vm = .none ∧ u.vm.findClass "[B" = some V.cls ∧ V.slots.size = len ∧ (∀ j, j < len → V.slots[j]? = some (.int (lo8 (cv A (o + j))))) ∧ (∀ (y : Addr) (c : Cell), y ≠ a → s.heap[y]? = some c → u.heap[y]? = some c) ∧ u.heap.size = s.heap.size + 1
theorem Got.mv {a : Addr} {D A : Cell} {fV fC : Field} {o len : Nat} : ∀ r (U U' V V' : State), U'.heap = U.heap → V.vm.Alike V'.vm → V'.heap = V.heap → Got a D fV fC A o len r U V → Got a D fV fC A o len r U' V' :=
  fun r U U' V V' h1 hal h2 ⟨e0, D', X, a1, a2, a3, a4, a5, a6, a7, a8, a9, a10, a11⟩ => ⟨e0, D', X, a1.mv hal h2, a2, by rw [h1]; exact a3, a4, by rw [h1]; exact a5.mv hal h2, a6, by rw [hal.findClass]; exact a7, a8, a9, by rw [h1, h2]; exact a10, by rw [h1, h2]; exact a11⟩
namespace New4
def yN : MethodName := ⟨"java/lang/String", "<init>", "([CIILjava/lang/Void;)V"⟩
abbrev yB : ByteArray := jdk_42_method_149_code
theorem d0 : decode yB 0 = .ok (.aload_n 0, 1) := by decide +kernel
theorem d1 : decode yB 1 = .ok (.invokespecial 1, 3) := by decide +kernel
theorem d4 : decode yB 4 = .ok (.iload_n 3, 1) := by decide +kernel
theorem d5 : decode yB 5 = .ok (.ifCond (.ne) 22, 3) := by decide +kernel
theorem d27 : decode yB 27 = .ok (.getstatic 38, 3) := by decide +kernel
theorem d30 : decode yB 30 = .ok (.ifCond (.eq) 28, 3) := by decide +kernel
theorem d33 : decode yB 33 = .ok (.aload_n 1, 1) := by decide +kernel
theorem d34 : decode yB 34 = .ok (.iload_n 2, 1) := by decide +kernel
theorem d35 : decode yB 35 = .ok (.iload_n 3, 1) := by decide +kernel
theorem d36 : decode yB 36 = .ok (.invokestatic 177, 3) := by decide +kernel
theorem d39 : decode yB 39 = .ok (.astore 5, 2) := by decide +kernel
theorem d41 : decode yB 41 = .ok (.aload_n 0, 1) := by decide +kernel
theorem d42 : decode yB 42 = .ok (.aload 5, 2) := by decide +kernel
theorem d44 : decode yB 44 = .ok (.iload_n 3, 1) := by decide +kernel
theorem d45 : decode yB 45 = .ok (.invokestatic 47, 3) := by decide +kernel
theorem d48 : decode yB 48 = .ok (.putfield 15, 3) := by decide +kernel
theorem d51 : decode yB 51 = .ok (.aload_n 0, 1) := by decide +kernel
theorem d52 : decode yB 52 = .ok (.aload 5, 2) := by decide +kernel
theorem d54 : decode yB 54 = .ok (.putfield 9, 3) := by decide +kernel
theorem d57 : decode yB 57 = .ok (.return_, 1) := by decide +kernel
def site : List Cond := [.fieldLink "java/lang/String" 38 "java/lang/String" "COMPACT_STRINGS" "Z", Cmp3.tab, CodL.tab, .laysFinal "java/lang/String" "java/lang/String" "value" "[B", .fieldLink "java/lang/String" 9 "java/lang/String" "value" "[B", .laysFinal "java/lang/String" "java/lang/String" "coder" "B", .fieldLink "java/lang/String" 15 "java/lang/String" "coder" "B"] ++ objW "java/lang/String" 1 ++ staticW "java/lang/String" 177 Cmp3.yN ++ staticW "java/lang/String" 47 CodL.yN
def tab : Cond := tabOf yN yB 6 none site
def P (a : Addr) (D : Cell) (fV fC : Field) (b : Addr) (A : Cell) (z : Int32) (o len : Nat) (args : Array Value) (s : State) : Prop := args = #[.ref a, .ref b, .int (Int32.ofNat o), .int (Int32.ofNat len), .null] ∧ Blank "java/lang/String" a D s ∧ Found "java/lang/String" "value" "[B" fV s ∧ Found "java/lang/String" "coder" "B" fC s ∧ Ch b A s ∧ StaticIs s "java/lang/String" "COMPACT_STRINGS" "Z" (.int z) ∧ ¬ z = 0 ∧ 0 < len ∧ o + len ≤ A.slots.size ∧ len ≤ 536870912 ∧ ∀ i, i < len → ¬ 255 < cv A (o + i)
def E (a : Addr) (D : Cell) (fV fC : Field) (A : Cell) (o len : Nat) (r : Option Value) (s u : State) : Prop := Got a D fV fC A o len r s u
/-- len > 0, no char of the range above 255: a Latin-1 String of their low bytes -/
theorem law (l : Launch) (a : Addr) (D : Cell) (fV fC : Field) (b : Addr) (A : Cell) (z : Int32) (o len : Nat) : Law l yN 5 4 2 35 yB 6 none site (P a D fV fC b A z o len) (E a D fV fC A o len) [⟨a, fC.slot⟩, ⟨a, fV.slot⟩] 1 len := by
  refine Law.of_walk (plainFor_of_name (by decide +kernel)) (by decide +kernel) (by decide +kernel) (by decide) (fun _ _ h => by rw [h.1]; rfl) (fun _ U U' hal hh h => ⟨h.1, h.2.1.mv hal hh, h.2.2.1.al hal, h.2.2.2.1.al hal, h.2.2.2.2.1.mv hal hh, h.2.2.2.2.2.1.there hal hh, h.2.2.2.2.2.2⟩) (fun r U U' V V' h1 hal h2 h => Got.mv r U U' V V' h1 hal h2 h) ?_
  intro p e s m args below meth c s₁ X0 hexec hbytes hml hret hlk hnm hown hh0 W hP
  obtain ⟨rfl, hB, f1, f2, hA, s1, hz, l0, l1, l2, hp⟩ := hP
  have a31 := hA.1.2.2.2
  have c1 : Steps p.tables e below (s₁.setTop (entryFrame m #[.ref a, .ref b, .int (Int32.ofNat o), .int (Int32.ofNat len), .null] 6)) (s₁.setTop (mkF m 0 #[.val (.ref a), .val (.ref b), .val (.int (Int32.ofNat o)), .val (.int (Int32.ofNat len)), .val .null, .unset] [])) := entry rfl
  have c2 : Steps p.tables e below (s₁.setTop (entryFrame m #[.ref a, .ref b, .int (Int32.ofNat o), .int (Int32.ofNat len), .null] 6)) (s₁.setTop (mkF m 1 #[.val (.ref a), .val (.ref b), .val (.int (Int32.ofNat o)), .val (.int (Int32.ofNat len)), .val .null, .unset] [.ref a])) := c1.trans (by
    refine XS.aloadN X0.here hexec rfl (hb hbytes d0) rfl rfl ?_
    exact Steps.refl _)
  obtain ⟨T3, X3, q3, st3⟩ := X0.oinit hexec hown (wks W (objW "java/lang/String" 1)) (g := (mkF m 1 #[.val (.ref a), .val (.ref b), .val (.int (Int32.ofNat o)), .val (.int (Int32.ofNat len)), .val .null, .unset] [.ref a])) rfl (by rw [hml]; rfl) (rest := []) rfl (hb hbytes d1) (W := 0) (by show 2 * 0 + 0 ≤ _; decide) (Nat.le_of_ble_eq_true rfl) (Nat.le_of_ble_eq_true rfl)
  have hh3 := q3.trans hh0
  have c4 : Steps p.tables e below (s₁.setTop (entryFrame m #[.ref a, .ref b, .int (Int32.ofNat o), .int (Int32.ofNat len), .null] 6)) (T3.setTop (mkF m 27 #[.val (.ref a), .val (.ref b), .val (.int (Int32.ofNat o)), .val (.int (Int32.ofNat len)), .val .null, .unset] [])) := (c2.trans (st3 _ (Steps.refl _))).trans (by
    refine XS.iloadN X3.here hexec rfl (hb hbytes d4) rfl ?_
    refine XS.ifYes X3.here hexec rfl (pc0 := 5) rfl (hb hbytes d5) rfl (i0_ne_t (nz32 (by omega) l0)) (by decide) rfl ?_
    exact Steps.refl _)
  obtain ⟨T5, X5, q5, st5⟩ := X3.sget hexec hown (wk W (.fieldLink "java/lang/String" 38 "java/lang/String" "COMPACT_STRINGS" "Z")) s1 (fun _ _ h => by rw [hh3]; exact h) (g := (mkF m 27 #[.val (.ref a), .val (.ref b), .val (.int (Int32.ofNat o)), .val (.int (Int32.ofNat len)), .val .null, .unset] [])) rfl (hb hbytes d27)
  have hh5 := q5.trans hh3
  have c6 : Steps p.tables e below (s₁.setTop (entryFrame m #[.ref a, .ref b, .int (Int32.ofNat o), .int (Int32.ofNat len), .null] 6)) (T5.setTop (mkF m 30 #[.val (.ref a), .val (.ref b), .val (.int (Int32.ofNat o)), .val (.int (Int32.ofNat len)), .val .null, .unset] [.int z])) := c4.trans (st5 _ (Steps.refl _))
  have c7 : Steps p.tables e below (s₁.setTop (entryFrame m #[.ref a, .ref b, .int (Int32.ofNat o), .int (Int32.ofNat len), .null] 6)) (T5.setTop (mkF m 36 #[.val (.ref a), .val (.ref b), .val (.int (Int32.ofNat o)), .val (.int (Int32.ofNat len)), .val .null, .unset] [.int (Int32.ofNat len), .int (Int32.ofNat o), .ref b])) := c6.trans (by
    refine XS.ifNo X5.here hexec rfl (hb hbytes d30) rfl (i0_eq_f hz) ?_
    refine XS.aloadN X5.here hexec rfl (hb hbytes d33) rfl rfl ?_
    refine XS.iloadN X5.here hexec rfl (hb hbytes d34) rfl ?_
    refine XS.iloadN X5.here hexec rfl (hb hbytes d35) rfl ?_
    exact Steps.refl _)
  obtain ⟨v8, T8, X8, E8, g8⟩ := X5.callS hexec (Cmp3.law l b A o len) hown (wks W (staticW "java/lang/String" 177 Cmp3.yN)) (wk W Cmp3.tab) (W := 0) (Nat.le_of_ble_eq_true rfl) (Nat.le_of_ble_eq_true rfl) (Nat.le_refl _) (by show 0 + len ≤ len; omega) (g := (mkF m 36 #[.val (.ref a), .val (.ref b), .val (.int (Int32.ofNat o)), .val (.int (Int32.ofNat len)), .val .null, .unset] [.int (Int32.ofNat len), .int (Int32.ofNat o), .ref b])) rfl (by rw [hml]; rfl) c7 (argsL := [.ref b, .int (Int32.ofNat o), .int (Int32.ofNat len)]) (rest := []) rfl rfl (by show 2 * 0 + 0 ≤ _; decide) (hb hbytes d36) (⟨rfl, hA.mv X5.warmed.alike hh5, l1, l2, hp⟩)
  obtain ⟨e8, z8⟩ := E8
  obtain ⟨rfl, N, n1, n2, n3, n4, n5, n6⟩ := NewArr.mv _ T5 s _ _ hh5.symm (Vm.Alike.refl _) rfl e8
  rw [hh5] at z8
  have hB1 := hB.keep X8.warmed.alike (n6 _ _ hB.1)
  have hne : s.heap.size ≠ a := (Nat.ne_of_lt (Array.getElem?_eq_some_iff.mp hB.1).1).symm
  have c9 : Steps p.tables e below (s₁.setTop (entryFrame m #[.ref a, .ref b, .int (Int32.ofNat o), .int (Int32.ofNat len), .null] 6)) (T8.setTop (mkF m 39 #[.val (.ref a), .val (.ref b), .val (.int (Int32.ofNat o)), .val (.int (Int32.ofNat len)), .val .null, .unset] [.ref s.heap.size])) := g8
  have c10 : Steps p.tables e below (s₁.setTop (entryFrame m #[.ref a, .ref b, .int (Int32.ofNat o), .int (Int32.ofNat len), .null] 6)) (T8.setTop (mkF m 45 #[.val (.ref a), .val (.ref b), .val (.int (Int32.ofNat o)), .val (.int (Int32.ofNat len)), .val .null, .val (.ref s.heap.size)] [.int (Int32.ofNat N.slots.size), .ref s.heap.size, .ref a])) := by
    have hc : Steps p.tables e below (s₁.setTop (entryFrame m #[.ref a, .ref b, .int (Int32.ofNat o), .int (Int32.ofNat len), .null] 6)) (T8.setTop (mkF m 45 #[.val (.ref a), .val (.ref b), .val (.int (Int32.ofNat o)), .val (.int (Int32.ofNat len)), .val .null, .val (.ref s.heap.size)] [.int (Int32.ofNat len), .ref s.heap.size, .ref a])) := c9.trans (by
      refine XS.astore X8.here hexec rfl (hb hbytes d39) rfl rfl rfl ?_
      refine XS.aloadN X8.here hexec rfl (hb hbytes d41) rfl rfl ?_
      refine XS.aload X8.here hexec rfl (hb hbytes d42) rfl rfl ?_
      refine XS.iloadN X8.here hexec rfl (hb hbytes d44) rfl ?_
      exact Steps.refl _)
    rw [n4]; exact hc
  obtain ⟨v11, T11, X11, E11, g11⟩ := X8.callS hexec (CodL.law l s.heap.size N) hown (wks W (staticW "java/lang/String" 47 CodL.yN)) (wk W CodL.tab) (W := 1) (Nat.le_of_ble_eq_true rfl) (Nat.le_of_ble_eq_true rfl) (Nat.le_refl _) (by show 0 + len + 0 ≤ len; omega) (g := (mkF m 45 #[.val (.ref a), .val (.ref b), .val (.int (Int32.ofNat o)), .val (.int (Int32.ofNat len)), .val .null, .val (.ref s.heap.size)] [.int (Int32.ofNat N.slots.size), .ref s.heap.size, .ref a])) rfl (by rw [hml]; rfl) c10 (argsL := [.ref s.heap.size, .int (Int32.ofNat N.slots.size)]) (rest := [.ref a]) rfl rfl (by show 2 * 0 + (1 + 0) ≤ _; decide) (hb hbytes d45) (⟨rfl, n1⟩)
  obtain ⟨rfl, q11⟩ := E11
  have hB11 := hB1.mv (X8.warmed.alike.symm.trans X11.warmed.alike) q11
  have c12 : Steps p.tables e below (s₁.setTop (entryFrame m #[.ref a, .ref b, .int (Int32.ofNat o), .int (Int32.ofNat len), .null] 6)) (T11.setTop (mkF m 48 #[.val (.ref a), .val (.ref b), .val (.int (Int32.ofNat o)), .val (.int (Int32.ofNat len)), .val .null, .val (.ref s.heap.size)] [.int 0, .ref a])) := g11
  obtain ⟨T13, X13, p13, bl13, sl13, st13⟩ := X11.finit hexec hown (wk W (.fieldLink "java/lang/String" 15 "java/lang/String" "coder" "B")) (Or.inr ⟨_, (wk W (.laysFinal "java/lang/String" "java/lang/String" "coder" "B"))⟩) (Or.inl ⟨rfl, hnm⟩) f2 (Or.inl rfl) hB11 (t := .byte) (by decide +kernel) rfl (g := (mkF m 48 #[.val (.ref a), .val (.ref b), .val (.int (Int32.ofNat o)), .val (.int (Int32.ofNat len)), .val .null, .val (.ref s.heap.size)] [.int 0, .ref a])) rfl (rest := []) rfl (hb hbytes d48)
  have c14 : Steps p.tables e below (s₁.setTop (entryFrame m #[.ref a, .ref b, .int (Int32.ofNat o), .int (Int32.ofNat len), .null] 6)) (T13.setTop (mkF m 54 #[.val (.ref a), .val (.ref b), .val (.int (Int32.ofNat o)), .val (.int (Int32.ofNat len)), .val .null, .val (.ref s.heap.size)] [.ref s.heap.size, .ref a])) := (c12.trans (st13 _ (Steps.refl _))).trans (by
    refine XS.aloadN X13.here hexec rfl (hb hbytes d51) rfl rfl ?_
    refine XS.aload X13.here hexec rfl (hb hbytes d52) rfl rfl ?_
    exact Steps.refl _)
  obtain ⟨T15, X15, p15, bl15, sl15, st15⟩ := X13.finit hexec hown (wk W (.fieldLink "java/lang/String" 9 "java/lang/String" "value" "[B")) (Or.inr ⟨_, (wk W (.laysFinal "java/lang/String" "java/lang/String" "value" "[B"))⟩) (Or.inl ⟨rfl, hnm⟩) f1 (Or.inl rfl) bl13 (t := (.array .byte)) (by decide +kernel) rfl (g := (mkF m 54 #[.val (.ref a), .val (.ref b), .val (.int (Int32.ofNat o)), .val (.int (Int32.ofNat len)), .val .null, .val (.ref s.heap.size)] [.ref s.heap.size, .ref a])) rfl (rest := []) rfl (hb hbytes d54)
  have c16 : Steps p.tables e below (s₁.setTop (entryFrame m #[.ref a, .ref b, .int (Int32.ofNat o), .int (Int32.ofNat len), .null] 6)) (T15.setTop (mkF m 57 #[.val (.ref a), .val (.ref b), .val (.int (Int32.ofNat o)), .val (.int (Int32.ofNat len)), .val .null, .val (.ref s.heap.size)] [])) := c14.trans (st15 _ (Steps.refl _))
  have ap := apart (Or.inr ⟨_, (wk W (.laysFinal "java/lang/String" "java/lang/String" "value" "[B"))⟩) (Or.inr ⟨_, (wk W (.laysFinal "java/lang/String" "java/lang/String" "coder" "B"))⟩) f1 f2 (t₁ := .array .byte) (t₂ := .byte) (by decide +kernel) (by decide +kernel) (by decide)
  have al := X8.warmed.alike.symm.trans X15.warmed.alike
  have n7 : T11.heap[s.heap.size]? = some N := by rw [q11]; exact n1.1
  exact ⟨T15, none, _, _, _, X15, by simp, rfl, by omega, (fun _ => rfl), ⟨rfl, _, N, bl15, ((Same.refl D _).set _ (by simp)).set _ (by simp), sl15, (Cell.slots_setSlot_ne _ ap).trans sl13, n1.keep al (p15.other hne (p13.other hne n7)), n2, by rw [al.findClass]; exact n3, n4, n5, fun y c h1 h2 => p15.other h1 (p13.other h1 (by rw [q11]; exact n6 y c h2)), by rw [p15.2.2, p13.2.2, q11]; exact z8⟩, fun fs hl => c16.trans (X15.returnOut hexec hret (hb hbytes d57) hl)⟩
end New4
namespace New1
def yN : MethodName := ⟨"java/lang/String", "<init>", "([C)V"⟩
abbrev yB : ByteArray := jdk_42_method_3_code
theorem d0 : decode yB 0 = .ok (.aload_n 0, 1) := by decide +kernel
theorem d1 : decode yB 1 = .ok (.aload_n 1, 1) := by decide +kernel
theorem d2 : decode yB 2 = .ok (.iconst 0, 1) := by decide +kernel
theorem d3 : decode yB 3 = .ok (.aload_n 1, 1) := by decide +kernel
theorem d4 : decode yB 4 = .ok (.arraylength, 1) := by decide +kernel
theorem d5 : decode yB 5 = .ok (.aconst_null, 1) := by decide +kernel
theorem d6 : decode yB 6 = .ok (.invokespecial 27, 3) := by decide +kernel
theorem d9 : decode yB 9 = .ok (.return_, 1) := by decide +kernel
def site : List Cond := [New4.tab] ++ initW "java/lang/String" 27 New4.yN
def tab : Cond := tabOf yN yB 2 none site
def P (a : Addr) (D : Cell) (fV fC : Field) (b : Addr) (A : Cell) (z : Int32) (args : Array Value) (s : State) : Prop := args = #[.ref a, .ref b] ∧ Blank "java/lang/String" a D s ∧ Found "java/lang/String" "value" "[B" fV s ∧ Found "java/lang/String" "coder" "B" fC s ∧ Ch b A s ∧ StaticIs s "java/lang/String" "COMPACT_STRINGS" "Z" (.int z) ∧ ¬ z = 0 ∧ 0 < A.slots.size ∧ A.slots.size ≤ 536870912 ∧ ∀ i, i < A.slots.size → ¬ 255 < cv A i
def E (a : Addr) (D : Cell) (fV fC : Field) (A : Cell) (r : Option Value) (s u : State) : Prop := Got a D fV fC A 0 A.slots.size r s u
/-- new String(chars), not empty, no char above 255: a Latin-1 String of their low bytes -/
theorem law (l : Launch) (a : Addr) (D : Cell) (fV fC : Field) (b : Addr) (A : Cell) (z : Int32) : Law l yN 2 1 3 52 yB 2 none site (P a D fV fC b A z) (E a D fV fC A) [⟨a, fC.slot⟩, ⟨a, fV.slot⟩] 1 A.slots.size := by
  refine Law.of_walk (plainFor_of_name (by decide +kernel)) (by decide +kernel) (by decide +kernel) (by decide) (fun _ _ h => by rw [h.1]; rfl) (fun _ U U' hal hh h => ⟨h.1, h.2.1.mv hal hh, h.2.2.1.al hal, h.2.2.2.1.al hal, h.2.2.2.2.1.mv hal hh, h.2.2.2.2.2.1.there hal hh, h.2.2.2.2.2.2⟩) (fun r U U' V V' h1 hal h2 h => Got.mv r U U' V V' h1 hal h2 h) ?_
  intro p e s m args below meth c s₁ X0 hexec hbytes hml hret hlk hnm hown hh0 W hP
  obtain ⟨rfl, hB, f1, f2, hA, s1, hz, l0, l2, hp⟩ := hP
  have c1 : Steps p.tables e below (s₁.setTop (entryFrame m #[.ref a, .ref b] 2)) (s₁.setTop (mkF m 0 #[.val (.ref a), .val (.ref b)] [])) := entry rfl
  have c2 : Steps p.tables e below (s₁.setTop (entryFrame m #[.ref a, .ref b] 2)) (s₁.setTop (mkF m 6 #[.val (.ref a), .val (.ref b)] [.null, .int (Int32.ofNat A.slots.size), .int 0, .ref b, .ref a])) := c1.trans (by
    refine XS.aloadN X0.here hexec rfl (hb hbytes d0) rfl rfl ?_
    refine XS.aloadN X0.here hexec rfl (hb hbytes d1) rfl rfl ?_
    refine iconstV X0.here hexec rfl 0 (hb hbytes d2) (by decide) ?_
    refine XS.aloadN X0.here hexec rfl (hb hbytes d3) rfl rfl ?_
    refine X0.alen hexec (hA.1.mv X0.warmed.alike hh0) rfl rfl (hb hbytes d4) ?_
    refine XS.aconstNull X0.here hexec rfl (hb hbytes d5) ?_
    exact Steps.refl _)
  obtain ⟨v3, T3, X3, E3, g3⟩ := X0.callN hexec (New4.law l a D fV fC b A z 0 A.slots.size) rfl hown (wks W (initW "java/lang/String" 27 New4.yN)) (W New4.tab (by simp only [site, List.mem_cons, List.mem_append, true_or, or_true])) (W := 0) (Nat.le_of_ble_eq_true rfl) (Nat.le_of_ble_eq_true rfl) (Nat.le_refl _) (by show 0 + A.slots.size ≤ A.slots.size; omega) (g := (mkF m 6 #[.val (.ref a), .val (.ref b)] [.null, .int (Int32.ofNat A.slots.size), .int (Int32.ofNat 0), .ref b, .ref a])) rfl (by rw [hml]; rfl) c2 (argsL := [.ref b, .int (Int32.ofNat 0), .int (Int32.ofNat A.slots.size), .null]) (rest := []) rfl rfl (by show 2 * 0 + 0 ≤ _; decide) (hb hbytes d6) (⟨rfl, hB.mv X0.warmed.alike hh0, f1.al X0.warmed.alike, f2.al X0.warmed.alike, hA.mv X0.warmed.alike hh0, s1.there X0.warmed.alike hh0, hz, l0, by omega, l2, fun i hi => by rw [Nat.zero_add]; exact hp i hi⟩)
  have e0 := Got.mv _ s₁ s _ _ hh0.symm (Vm.Alike.refl _) rfl E3
  obtain rfl := e0.1
  have c4 : Steps p.tables e below (s₁.setTop (entryFrame m #[.ref a, .ref b] 2)) (T3.setTop (mkF m 9 #[.val (.ref a), .val (.ref b)] [])) := g3
  exact ⟨T3, none, _, _, _, X3, by simp, rfl, by omega, (fun _ => rfl), e0, fun fs hl => c4.trans (X3.returnOut hexec hret (hb hbytes d9) hl)⟩
theorem pays {l : Launch} {R : Room} {p : Program} {e : Env} {below : List Frame} {s : State} {sargs : Array Value} {len W : Nat} (a : Addr) (D : Cell) (fV fC : Field) (b : Addr) (A : Cell) (z : Int32) (htab : tab.before sargs s = true) (hfr : 4 ≤ R.frames) (hlo : W + 65 ≤ R.locals) :
    Back l R p e below s sargs yN len W (fun A₁ a₁ => A₁.cells + 1 ≤ R.cells ∧ A₁.slots + A.slots.size ≤ R.slots ∧ P a D fV fC b A z a₁ A₁.U) (fun A₁ _ v₁ B₁ => E a D fV fC A v₁ A₁.U B₁.U ∧ B₁.locs = A₁.locs ++ [⟨a, fC.slot⟩, ⟨a, fV.slot⟩] ∧ B₁.cells = A₁.cells + 1 ∧ B₁.slots = A₁.slots + A.slots.size) :=
  (law l a D fV fC b A z).pays htab hfr (by omega)
end New1
/-- the byte, read back as charAt reads it, is the char -/
theorem lo8_mask {x : Int32} (h0 : ¬ x < 0) (h1 : ¬ 255 < x) : lo8 x &&& 255 = x := by
  have t : ∀ k : Fin 256, lo8 (Int32.ofNat k.val) &&& 255 = Int32.ofNat k.val := by decide +kernel
  rw [Int32.lt_iff_toInt_lt] at h0 h1
  have e0 : (0 : Int32).toInt = 0 := rfl
  have e1 : (255 : Int32).toInt = 255 := rfl
  obtain ⟨k, hk⟩ : ∃ k : Nat, x.toInt = k := ⟨x.toInt.toNat, by omega⟩
  have hx : x = Int32.ofNat k := Int32.toInt_inj.mp (by rw [hk, Int32.toInt_ofNat_small (by omega)])
  rw [hx]
  exact t ⟨k, by omega⟩
end StrChars
namespace StrChars.Road
open Jvm Sem ClassFile Op Lib Jvm.Stand Jvm.Free Jvm.Free.XT
open Jvm.Lib.Cold (StaticIs)
abbrev ST : String := "java/lang/String"
/-- every table word that New1's law asks, flat -/
abbrev words : List Jvm.Cond := [.code New1.yN New1.yB 2 none, .initialized ST, .methodLink ST 27 New4.yN, .instanceMethod New4.yN,
  .code New4.yN New4.yB 6 none, .fieldLink ST 38 ST "COMPACT_STRINGS" "Z", .laysFinal ST ST "value" "[B", .fieldLink ST 9 ST "value" "[B", .laysFinal ST ST "coder" "B", .fieldLink ST 15 ST "coder" "B",
  .methodLink ST 1 Lib.objectInit, .instanceMethod Lib.objectInit, .code Lib.objectInit ⟨#[0xb1]⟩ 1 none, .methodLink ST 177 Cmp3.yN, .static Cmp3.yN, .methodLink ST 47 CodL.yN, .static CodL.yN,
  .code Cmp3.yN Cmp3.yB 6 (some (.array .byte)), .initialized U16, .arrayClass .byte, .methodLink U16 115 Cmp5.yN, .static Cmp5.yN, .code Cmp5.yN Cmp5.yB 7 (some .int), .code CodL.yN CodL.yB 2 (some .byte)]
theorem tab_of {a : Array Value} {s : State} (h : ∀ w ∈ words, w.before a s = true) : New1.tab.before a s = true := by
  have h5 : Cmp5.tab.before a s = true := unparts (wk h (.code Cmp5.yN Cmp5.yB 7 (some .int))) (wks h (.initialized Cmp5.yN.cls :: Cmp5.site))
  have hc : CodL.tab.before a s = true := unparts (wk h (.code CodL.yN CodL.yB 2 (some .byte))) (wks h (.initialized CodL.yN.cls :: CodL.site))
  have q5 : ∀ w ∈ Cmp5.tab :: words, w.before a s = true := fun w hw => (List.mem_cons.mp hw).elim (fun e => e ▸ h5) (h w)
  have h3 : Cmp3.tab.before a s = true := unparts (wk q5 (.code Cmp3.yN Cmp3.yB 6 (some (.array .byte)))) (wks q5 (.initialized Cmp3.yN.cls :: Cmp3.site))
  have q3 : ∀ w ∈ Cmp3.tab :: CodL.tab :: words, w.before a s = true := fun w hw => (List.mem_cons.mp hw).elim (fun e => e ▸ h3) fun hw => (List.mem_cons.mp hw).elim (fun e => e ▸ hc) (h w)
  have h4 : New4.tab.before a s = true := unparts (wk q3 (.code New4.yN New4.yB 6 none)) (wks q3 (.initialized New4.yN.cls :: New4.site))
  have q4 : ∀ w ∈ New4.tab :: words, w.before a s = true := fun w hw => (List.mem_cons.mp hw).elim (fun e => e ▸ h4) (h w)
  exact unparts (wk q4 (.code New1.yN New1.yB 2 none)) (wks q4 (.initialized New1.yN.cls :: New1.site))
/-- the words ride from the start Z to the walk's own state -/
theorem moved {Z s : State} {a0 args : Array Value} (hZ : Z.Warmed39 s.vm) (hw : ∀ d ∈ words, d.before a0 Z = true) : ∀ d ∈ words, d.before args s = true := fun d hd => by
  have q := hw d hd
  have t : ∀ d ∈ words, d = .arrayClass .byte ∨ (d.onTables && d.keepsFace) = true := by decide +kernel
  rcases t d hd with rfl | t
  · exact RoadKit.mvA hZ q
  · exact RoadKit.mv hZ q t
/-- WHAT COMES BACK, over the tables of the start Z: h the heap at the call, h' behind it -/
def Q (Z : State) (x : Addr) (A : Cell) (h : Heap) (v : Option Value) (h' : Heap) (L : List Loc) : Prop := v = none ∧ (∀ y ∈ L, y.base = x) ∧ RoadKit.Keep h h' [x] ∧ h'.size = h.size + 1 ∧ RoadKit.Exa Z h' x ST ∧ RoadKit.Fld Z h' x ST "value" "[B" (.ref h.size) ∧ RoadKit.Fld Z h' x ST "coder" "B" (.int 0) ∧
  (∃ V : Cell, RoadKit.Arr Z h' h.size V .byte ∧ V.vm = .none ∧ Z.vm.findClass "[B" = some V.cls ∧ V.slots.size = A.slots.size ∧ ∀ j, j < A.slots.size → V.slots[j]? = some (.int (lo8 (cv A j)))) ∧
  ∀ (O n d : String) (w : Value), RoadKit.Fld Z h x O n d w → RoadKit.slotOf Z O n d ≠ RoadKit.slotOf Z ST "value" "[B" → RoadKit.slotOf Z O n d ≠ RoadKit.slotOf Z ST "coder" "B" → RoadKit.Fld Z h' x O n d w
/-- **new String(chars) AT A CALL, IN THE ROAD'S FORM**: for specialBack behind newO: x the fresh String, b the char[] with the cell A -/
theorem back {p : Program} {l : Launch} {e : Env} {R : Room} {s : State} {args : Array Value} {below : List Frame} {len W : Nat} {Z : State} {a0 : Array Value} {h : Heap} (hZ : Z.Warmed39 s.vm) (hw : ∀ d ∈ words, d.before a0 Z = true) {kI : Nat} (wi : (Jvm.Cond.instantiable ST kI).before a0 Z = true)
    {x b : Addr} {A : Cell} {z : Int32} {v0 c0 : Value} (E : RoadKit.Exa Z h x ST) (V : RoadKit.Fld Z h x ST "value" "[B" v0) (C : RoadKit.Fld Z h x ST "coder" "B" c0) (K : RoadKit.Arr Z h b A .char) (hty : Typed .char A) (S : RoadKit.Sta Z h ST "COMPACT_STRINGS" "Z" (.int z)) (hz : ¬ z = 0)
    (l0 : 0 < A.slots.size) (l2 : A.slots.size ≤ 536870912) (hp : ∀ i, i < A.slots.size → ¬ 255 < cv A i) (hfr : 4 ≤ R.frames) (hlo : W + 65 ≤ R.locals) :
    Back l R p e below s args New1.yN len W (fun P a => a = #[.ref x, .ref b] ∧ P.U.heap = h ∧ P.cells + 1 ≤ R.cells ∧ P.slots + A.slots.size ≤ R.slots)
      (fun P _ v B => ∃ L, Q Z x A h v B.U.heap L ∧ B.locs = P.locs ++ L ∧ B.cells = P.cells + 1 ∧ B.slots = P.slots + A.slots.size) := by
  intro m meth c P g ig mk a X hg hsize hdg hW hn hp'
  obtain ⟨rfl, rfl, r1, r2⟩ := hp'
  have al : Z.vm.Alike P.U.vm := hZ.alike.trans X.warmed.alike
  obtain ⟨D, cfV, kV, iV, fV, hD, gV, stV, knV, obV, asV, slV⟩ := id V
  obtain ⟨D', cfC, kC, iC, fC, hD', gC, stC, -, -, asC, slC⟩ := id C
  cases hD.symm.trans hD'
  obtain ⟨D2, kD, e1, e2, e3, e4, e5⟩ := id E
  cases hD.symm.trans e1
  obtain ⟨c2, k2, i1, i2, i3, -⟩ := Cond.instantiable_spec wi
  cases e2.symm.trans i1
  cases e3.symm.trans i2
  obtain ⟨kU, u1, u2⟩ := al.2.2 _ _ e3
  have hB : Blank ST x D P.U := ⟨hD, ⟨knV, fun q hq => by rw [hq] at obV; cases obV⟩, by rw [al.findClass]; exact e2, kU, u1, by rw [u2]; exact i3, by rw [u2]; exact e5 i3⟩
  have F1 : Found ST "value" "[B" fV P.U := ⟨SBG.found_only al ⟨cfV, kV, iV, gV⟩, stV⟩
  have F2 : Found ST "coder" "B" fC P.U := ⟨SBG.found_only al ⟨cfC, kC, iC, gC⟩, stC⟩
  have hA : Ch b A P.U := ⟨⟨K.1, State.isArrayOf_alike al K.2.1, K.2.2, by omega⟩, hty⟩
  have hS : StaticIs P.U ST "COMPACT_STRINGS" "Z" (.int z) := by
    obtain ⟨cfS, iS, kS, fS, st, cS, t1, t2, t3, t4, t5, t6, t7⟩ := S
    exact StaticIs.there (s := { Z with heap := P.U.heap }) ⟨cfS, iS, kS, fS, st, cS, t1, t2, t3, t4, t5, (fun q => by rw [q] at t6; cases t6), t7⟩ al rfl
  obtain ⟨v, B, X', ⟨⟨hv, E', V', q1, q2, q3, q4, q5, q6, q7, q8, q9, q10, q11⟩, hl, hc, hs⟩, st⟩ := New1.pays x D fV fC b A z (tab_of (moved hZ hw)) hfr hlo m meth c P g ig mk _ X hg hsize hdg hW hn ⟨r1, r2, rfl, hB, F1, F2, hA, hS, hz, l0, l2, hp⟩
  have al' : Z.vm.Alike B.U.vm := hZ.alike.trans X'.warmed.alike
  have hsz : E'.slots.size = D.slots.size := by
    obtain ⟨-, -, -, kB, w1, w2, w3⟩ := q1
    obtain ⟨kB', y1, y2⟩ := al'.2.2 _ _ e3
    rw [q2.2.1] at w1
    cases w1.symm.trans y1
    rw [w3, e5 i3, y2]
  refine ⟨v, B, X', ⟨_, ⟨hv, ?_, ⟨by omega, fun y cy hy hn' => q10 y cy (by simpa using hn') hy, fun y cy hy => ?_⟩, q11, ⟨E', _, q1.1, by rw [q2.2.1]; exact e2, by rw [q2.2.1]; exact e3, by rw [q2.1]; exact obV, fun _ => by rw [hsz]; exact e5 i3⟩,
    ⟨E', cfV, kV, iV, fV, q1.1, gV, stV, by rw [q2.1]; exact knV, by rw [q2.1]; exact obV, by rw [q2.2.1]; exact asV, q3⟩, ⟨E', cfC, kC, iC, fC, q1.1, gC, stC, by rw [q2.1]; exact knV, by rw [q2.1]; exact obV, by rw [q2.2.1]; exact asC, q4⟩,
    ⟨V', ⟨q5.1, State.isArrayOf_alike al'.symm q5.2.1, q5.2.2.1⟩, q6, by rw [← al'.findClass]; exact q7, q8, fun j hj => by have := q9 j hj; rwa [Nat.zero_add] at this⟩, fun O n d w F n1 n2 => ?_⟩, hl, hc, hs⟩, st⟩
  · intro y hy
    simp only [List.mem_cons, List.not_mem_nil, or_false] at hy
    rcases hy with rfl | rfl <;> rfl
  · by_cases q : y = x
    · subst q
      cases hD.symm.trans hy
      exact ⟨E', q1.1, q2.2.1, q2.1, hsz⟩
    · exact ⟨cy, q10 y cy q hy, rfl, rfl, rfl⟩
  · obtain ⟨D3, cf, k, i, f, g1, g2, g3, g4, g5, g6, g7⟩ := F
    cases hD.symm.trans g1
    simp only [RoadKit.slotOf, g2, gV, gC, Option.map_some, Option.getD_some] at n1 n2
    exact ⟨E', cf, k, i, f, q1.1, g2, g3, by rw [q2.1]; exact g4, by rw [q2.1]; exact g5, by rw [q2.2.1]; exact g6, by rw [q2.2.2 f.slot (by simp [n1, n2])]; exact g7⟩
end StrChars.Road
namespace StrChars.Road
open Jvm Sem ClassFile Op Lib Jvm.Stand Jvm.Free Jvm.Free.XT
/-- WHAT COMES BACK, the byte[] as a list of values -/
def QA (Z : State) (x : Addr) (zn : Int32) (cs : List Int32) (h : Heap) (v : Option Value) (h' : Heap) (L : List Loc) : Prop := v = none ∧ (∀ y ∈ L, y.base = x) ∧ RoadKit.Keep h h' [x] ∧ h'.size = h.size + 1 ∧ RoadKit.Exa Z h' x ST ∧ RoadKit.Fld Z h' x ST "value" "[B" (.ref h.size) ∧ RoadKit.Fld Z h' x ST "coder" "B" (.int 0) ∧
  (∃ kb, Z.vm.findClass "[B" = some kb ∧ RoadKit.Arv Z h' h.size kb .byte zn (cs.map fun c => .int (lo8 c)) (.int 0)) ∧
  ∀ (O n d : String) (w : Value), RoadKit.Fld Z h x O n d w → RoadKit.slotOf Z O n d ≠ RoadKit.slotOf Z ST "value" "[B" → RoadKit.slotOf Z O n d ≠ RoadKit.slotOf Z ST "coder" "B" → RoadKit.Fld Z h' x O n d w
/-- **new String(chars) AT A CALL, THE ARRAYS AS LISTS**: the char[] at b holds cs, not empty, no char above 255 -/
theorem backArv {p : Program} {l : Launch} {e : Env} {R : Room} {s : State} {args : Array Value} {below : List Frame} {len W : Nat} {Z : State} {a0 : Array Value} {h : Heap} (hZ : Z.Warmed39 s.vm) (hw : ∀ d ∈ words, d.before a0 Z = true) {kI : Nat} (wi : (Jvm.Cond.instantiable ST kI).before a0 Z = true)
    {x b : Addr} {k : ClassId} {zn z : Int32} {cs : List Int32} {dv v0 c0 : Value} (E : RoadKit.Exa Z h x ST) (V : RoadKit.Fld Z h x ST "value" "[B" v0) (C : RoadKit.Fld Z h x ST "coder" "B" c0) (K : RoadKit.Arv Z h b k .char zn (cs.map Value.int) dv) (S : RoadKit.Sta Z h ST "COMPACT_STRINGS" "Z" (.int z)) (hz : ¬ z = 0)
    (hlen : zn.toNatClampNeg = cs.length) (h0 : 0 < cs.length) (hbig : cs.length ≤ 536870912) (hall : ∀ c ∈ cs, ¬ 255 < c) (hfr : 4 ≤ R.frames) (hlo : W + 65 ≤ R.locals) :
    Back l R p e below s args New1.yN len W (fun P a => a = #[.ref x, .ref b] ∧ P.U.heap = h ∧ P.cells + 1 ≤ R.cells ∧ P.slots + cs.length ≤ R.slots)
      (fun P _ v B => ∃ L, QA Z x zn cs h v B.U.heap L ∧ B.locs = P.locs ++ L ∧ B.cells = P.cells + 1 ∧ B.slots = P.slots + cs.length) := by
  obtain ⟨A, K1, K2, K3, K4, K5, K6⟩ := K
  have e : A.slots.size = cs.length := K3.trans hlen
  have hat : ∀ (i : Nat) (hi : i < cs.length), A.slots[i]? = some (.int cs[i]) := fun i hi => by rw [K5 i (by omega)]; simp [List.getD_eq_getElem?_getD, hi]
  have hcv : ∀ (i : Nat) (hi : i < cs.length), cv A i = cs[i] := fun i hi => by unfold cv; rw [hat i hi]
  have hty : Typed .char A := fun i v hv => by
    have hi : i < A.slots.size := (Array.getElem?_eq_some_iff.mp hv).1
    have q := K5 i hi
    rw [hv] at q
    rw [Option.some.inj q]
    exact K6 i hi
  refine Back.mono (back hZ hw wi E V C K1 hty S hz (by omega) (by omega) (fun i hi => by rw [hcv i (by omega)]; exact hall _ (List.getElem_mem _)) hfr hlo) (fun P a hp => ⟨hp.1, hp.2.1, hp.2.2.1, by rw [e]; exact hp.2.2.2⟩) (fun P a v B hp hq => ?_)
  obtain ⟨L, ⟨q1, q2, q3, q4, q5, q6, q7, ⟨V', v1, v2, v3, v4, v5⟩, q9⟩, hl, hc, hs⟩ := hq
  refine ⟨L, ⟨q1, q2, q3, q4, q5, q6, q7, ⟨V'.cls, v3, V', v1, rfl, by rw [v4, e, hlen], K4, fun i hi => ?_, fun i hi => ?_⟩, q9⟩, hl, hc, by rw [hs, e]⟩
  · have hi' : i < cs.length := by omega
    rw [v5 i (by omega), hcv i hi']; simp [List.getD_eq_getElem?_getD, hi']
  · have hi' : i < cs.length := by omega
    simp only [List.getD_eq_getElem?_getD, List.getElem?_map, List.getElem?_eq_getElem hi', Option.map_some, Option.getD_some]
    exact fits_lo8 _
end StrChars.Road
namespace StrChars.Road
open Jvm Sem ClassFile Op Lib Jvm.Stand Jvm.Free Jvm.Free.XT
/-- WHAT COMES BACK, in the writer's own shape -/
def QV (Z : State) (x : Addr) (N : Int32) (bs : List Int32) (h : Heap) (n0 : Nat) (v : Option Value) (h' : Heap) (L : List Loc) : Prop := v = none ∧ RoadKit.Fr n0 L ∧ RoadKit.Keep h h' [x] ∧ RoadKit.Exa Z h' x ST ∧ RoadKit.Fld Z h' x ST "coder" "B" (.int 0) ∧
  ∃ (t : Addr) (kb : ClassId), n0 ≤ t ∧ h.size ≤ t ∧ ¬ t = x ∧ RoadKit.Fld Z h' x ST "value" "[B" (.ref t) ∧ RoadKit.Arv Z h' t kb .byte N (bs.map Value.int) (.int 0)
/-- **new String(chars) AT A CALL, FOR THE WRITER**: a char[] of n known ints, each 0 to 255 -/
theorem backV {p : Program} {l : Launch} {e : Env} {R : Room} {s : State} {args : Array Value} {below : List Frame} {len W : Nat} {Z : State} {a0 : Array Value} {h : Heap} (hZ : Z.Warmed39 s.vm) (hw : ∀ d ∈ words, d.before a0 Z = true) {kI : Nat} (wi : (Jvm.Cond.instantiable ST kI).before a0 Z = true)
    {x b : Addr} {kC : ClassId} {cs bs : List Int32} {d v0 c0 : Value} {z N : Int32} {n n0 : Nat} (hx0 : n0 ≤ x) (hh0 : n0 ≤ h.size) (E : RoadKit.Exa Z h x ST) (V : RoadKit.Fld Z h x ST "value" "[B" v0) (C : RoadKit.Fld Z h x ST "coder" "B" c0) (K : RoadKit.Arv Z h b kC .char N (cs.map Value.int) d) (S : RoadKit.Sta Z h ST "COMPACT_STRINGS" "Z" (.int z)) (hz : ¬ z = 0)
    (hn : cs.length = n) (hN : N = Int32.ofNat n) (l0 : 0 < n) (l2 : n ≤ 4000) (hp : ∀ c ∈ cs, ¬ c < 0 ∧ ¬ (255 : Int32) < c) (hb : bs = cs.map (fun c => c.toInt8.toInt32)) (hfr : 4 ≤ R.frames) (hlo : W + 65 ≤ R.locals) :
    Back l R p e below s args (⟨"java/lang/String", "<init>", "([C)V"⟩ : MethodName) len W (fun P a => a = #[.ref x, .ref b] ∧ P.U.heap = h ∧ P.cells + 1 ≤ R.cells ∧ P.slots + n ≤ R.slots)
      (fun P _ v B => ∃ L, QV Z x N bs h n0 v B.U.heap L ∧ B.locs = P.locs ++ L ∧ B.cells = P.cells + 1 ∧ B.slots = P.slots + n) := by
  subst hn hN hb
  refine Back.mono (backArv hZ hw wi E V C K S hz (n32 (by omega)) l0 (by omega) (fun c hc => (hp c hc).2) hfr hlo) (fun P a hp => hp) (fun P a v B hp hq => ?_)
  obtain ⟨L, ⟨q1, q2, q3, q4, q5, q6, q7, ⟨kb, v1, v2⟩, q9⟩, hl, hc, hs⟩ := hq
  exact ⟨L, ⟨q1, fun y hy => by rw [q2 y hy]; exact hx0, q3, q5, q7, h.size, kb, hh0, Nat.le_refl _, Nat.ne_of_gt E.lt, q6, by rw [List.map_map]; exact v2⟩, hl, hc, hs⟩
end StrChars.Road
namespace StrChars
open Jvm Sem ClassFile Op Lib Jvm.Stand Jvm.Free.XT Jvm.Free.ALB Jvm.Free.JM Jvm.Free
open Jvm.Lib.Cold (StaticIs)
def hi8 (x : Int32) : Int32 := lo8 (x >>> ((8 : Int32) &&& 31))
/-- what StringUTF16.getChar makes of two bytes -/
def pairCh (u v : Int32) : Int32 := (((u &&& 255) <<< ((0 : Int32) &&& 31)) ||| ((v &&& 255) <<< ((8 : Int32) &&& 31))).toUInt32.toUInt16.toUInt32.toInt32
theorem lo8_and (x : Int32) : (lo8 x &&& 255).toBitVec.toNat = x.toBitVec.toNat % 256 := by
  have h : (lo8 x).toBitVec = (x.toBitVec.signExtend 8).signExtend 32 := by rw [lo8, Int8.toBitVec_toInt32, Int32.toBitVec_toInt8]
  rw [Int32.toBitVec_and, BitVec.toNat_and, h]
  have e : ((x.toBitVec.signExtend 8).signExtend 32).toNat % 256 = x.toBitVec.toNat % 256 := by
    rw [BitVec.toNat_signExtend]
    have hlt := x.toBitVec.isLt
    simp only [BitVec.toNat_setWidth, BitVec.toNat_signExtend]
    split <;> split <;> omega
  rw [← e]
  exact Nat.and_two_pow_sub_one_eq_mod _ 8
theorem pair_says {c : Int32} (h0 : ¬ c < 0) (h1 : ¬ 65535 < c) : pairCh (lo8 c) (hi8 c) = c := by
  rw [Int32.lt_iff_toInt_lt] at h0 h1
  have e0 : (0 : Int32).toInt = 0 := rfl
  have e1 : (65535 : Int32).toInt = 65535 := rfl
  have hc : c.toInt = c.toBitVec.toNat := by
    have := c.toBitVec.isLt
    have e : c.toInt = c.toBitVec.toInt := rfl
    rw [e] at h0 h1
    rw [e]
    rw [BitVec.toInt_eq_toNat_cond] at h0 h1 ⊢
    split at h0 <;> split <;> omega
  have hn : c.toBitVec.toNat < 65536 := by omega
  have a1 := lo8_and c
  have a2 : (hi8 c &&& 255).toBitVec.toNat = c.toBitVec.toNat / 256 := by
    rw [hi8, lo8_and]
    have e : ((8 : Int32) &&& 31) = 8 := by decide
    rw [e, Int32.toBitVec_shiftRight]
    have e2 : ((8 : Int32).toBitVec.smod 32) = 8#32 := by decide
    rw [e2, BitVec.sshiftRight_eq', BitVec.toNat_sshiftRight_of_msb_false (by rw [BitVec.msb_eq_false_iff_two_mul_lt]; omega)]
    show c.toBitVec.toNat >>> 8 % 256 = _
    rw [Nat.shiftRight_eq_div_pow]
    omega
  unfold pairCh
  apply Int32.toBitVec_inj.mp
  apply BitVec.eq_of_toNat_eq
  have f0 : ((0 : Int32) &&& 31) = 0 := by decide
  have f8 : ((8 : Int32) &&& 31) = 8 := by decide
  rw [f0, f8]
  have g : (((lo8 c &&& 255) <<< (0 : Int32)) ||| ((hi8 c &&& 255) <<< (8 : Int32))).toBitVec.toNat = c.toBitVec.toNat := by
    rw [Int32.toBitVec_or, Int32.toBitVec_shiftLeft, Int32.toBitVec_shiftLeft]
    have s0 : ((0 : Int32).toBitVec.smod 32) = 0#32 := by decide
    have s8 : ((8 : Int32).toBitVec.smod 32) = 8#32 := by decide
    rw [s0, s8, BitVec.toNat_or]
    simp only [BitVec.shiftLeft_eq', BitVec.toNat_shiftLeft, a1, a2]
    show (c.toBitVec.toNat % 256) <<< 0 % 2 ^ 32 ||| (c.toBitVec.toNat / 256) <<< 8 % 2 ^ 32 = _
    rw [Nat.shiftLeft_zero, Nat.mod_eq_of_lt (show c.toBitVec.toNat % 256 < 2 ^ 32 by omega), Nat.mod_eq_of_lt (show (c.toBitVec.toNat / 256) <<< 8 < 2 ^ 32 by rw [Nat.shiftLeft_eq]; omega), Nat.or_comm, ← Nat.shiftLeft_add_eq_or_of_lt (by omega), Nat.shiftLeft_eq]
    omega
  show BitVec.toNat (((((lo8 c &&& 255) <<< (0 : Int32)) ||| ((hi8 c &&& 255) <<< (8 : Int32))).toBitVec.setWidth 16).setWidth 32) = _
  rw [BitVec.toNat_setWidth, BitVec.toNat_setWidth, g]
  omega
end StrChars
namespace StrChars
open Jvm Sem ClassFile Op Lib Jvm.Stand Jvm.Free.XT Jvm.Free.ALB Jvm.Free.JM Jvm.Free
open Jvm.Lib.Cold (StaticIs)
/-- charAt's cast of a byte read back -/
def chr8 (u : Int32) : Int32 := (u &&& 255).toUInt32.toUInt16.toUInt32.toInt32
theorem chr8_lo8 {c : Int32} (h0 : ¬ c < 0) (h1 : ¬ 255 < c) : chr8 (lo8 c) = c := by
  have t : ∀ k : Fin 256, (Int32.ofNat k.val).toUInt32.toUInt16.toUInt32.toInt32 = Int32.ofNat k.val := by decide +kernel
  unfold chr8
  rw [lo8_mask h0 h1]
  rw [Int32.lt_iff_toInt_lt] at h0 h1
  have e0 : (0 : Int32).toInt = 0 := rfl
  have e1 : (255 : Int32).toInt = 255 := rfl
  obtain ⟨k, hk⟩ : ∃ k : Nat, c.toInt = k := ⟨c.toInt.toNat, by omega⟩
  have hx : c = Int32.ofNat k := Int32.toInt_inj.mp (by rw [hk, Int32.toInt_ofNat_small (by omega)])
  rw [hx]
  exact t ⟨k, by omega⟩
theorem narrow_ch {c : Int32} (h0 : ¬ c < 0) (h1 : ¬ 65535 < c) : narrow .char (.int c) = .int c := by
  have q : narrow .char (.int (pairCh (lo8 c) (hi8 c))) = .int (pairCh (lo8 c) (hi8 c)) := narrow_c _
  rwa [pair_says h0 h1] at q
/-- the array's cell V codes the n chars f 0 .. f (n - 1) by the coder cd, as the JDK does: coder 1 just where some char is above 255 -/
def Cod (cd : Int32) (n : Nat) (f : Nat → Int32) (V : Cell) : Prop := (cd = 0 ∧ V.slots.size = n ∧ ∀ j, j < n → V.slots[j]? = some (.int (lo8 (f j))) ∧ ¬ 255 < f j) ∨ (cd = 1 ∧ V.slots.size = 2 * n ∧ (∀ j, j < n → V.slots[2 * j]? = some (.int (lo8 (f j))) ∧ V.slots[2 * j + 1]? = some (.int (hi8 (f j)))) ∧ ∃ j, j < n ∧ 255 < f j)
theorem Cod.cd {cd : Int32} {n : Nat} {f : Nat → Int32} {V : Cell} (h : Cod cd n f V) : cd = 0 ∨ cd = 1 := h.imp (fun q => q.1) fun q => q.1
/-- **x is a String of the n chars f 0 .. f (n - 1)**, Latin-1 or UTF-16; its array at t has the cell V -/
def Txt (x t : Addr) (V : Cell) (cd : Int32) (n : Nat) (f : Nat → Int32) (U : State) : Prop := Exact "java/lang/String" x U ∧ Has x "java/lang/String" "value" "[B" (.ref t) U ∧ Has x "java/lang/String" "coder" "B" (.int cd) U ∧ XT.Arr .byte t V U ∧ Cod cd n f V ∧ ∀ j, j < n → ¬ f j < 0 ∧ ¬ 65535 < f j
theorem Txt.mv {x t : Addr} {V : Cell} {cd : Int32} {n : Nat} {f : Nat → Int32} {U U' : State} (h : Txt x t V cd n f U) (hal : U.vm.Alike U'.vm) (hh : U'.heap = U.heap) : Txt x t V cd n f U' := ⟨h.1.mv hal hh, h.2.1.mv hal hh, h.2.2.1.mv hal hh, h.2.2.2.1.mv hal hh, h.2.2.2.2⟩
namespace IsL
def yN : MethodName := ⟨"java/lang/String", "isLatin1", "()Z"⟩
abbrev yB : ByteArray := jdk_42_method_154_code
theorem d0 : decode yB 0 = .ok (.getstatic 38, 3) := by decide +kernel
theorem d3 : decode yB 3 = .ok (.ifCond (.eq) 14, 3) := by decide +kernel
theorem d6 : decode yB 6 = .ok (.aload_n 0, 1) := by decide +kernel
theorem d7 : decode yB 7 = .ok (.getfield 15, 3) := by decide +kernel
theorem d10 : decode yB 10 = .ok (.ifCond (.ne) 7, 3) := by decide +kernel
theorem d13 : decode yB 13 = .ok (.iconst 1, 1) := by decide +kernel
theorem d14 : decode yB 14 = .ok (.goto 4, 3) := by decide +kernel
theorem d17 : decode yB 17 = .ok (.iconst 0, 1) := by decide +kernel
theorem d18 : decode yB 18 = .ok (.ireturn, 1) := by decide +kernel
def site : List Cond := [.fieldLink "java/lang/String" 38 "java/lang/String" "COMPACT_STRINGS" "Z", .fieldLink "java/lang/String" 15 "java/lang/String" "coder" "B"]
def tab : Cond := tabOf yN yB 1 (some .boolean) site
def P (x : Addr) (cd z : Int32) (args : Array Value) (s : State) : Prop := args = #[.ref x] ∧ Has x "java/lang/String" "coder" "B" (.int cd) s ∧ (cd = 0 ∨ cd = 1) ∧ StaticIs s "java/lang/String" "COMPACT_STRINGS" "Z" (.int z) ∧ ¬ z = 0
def E (cd : Int32) (r : Option Value) (s u : State) : Prop := XT.PureE (some (.int (1 - cd))) r s u
theorem law (l : Launch) (x : Addr) (cd z : Int32) : Law l yN 1 0 0 0 yB 1 (some .boolean) site (P x cd z) (E cd) [] 0 0 := by
  refine Law.of_walk (plainFor_of_name (by decide +kernel)) (by decide +kernel) (by decide +kernel) (by decide) (fun _ _ h => by rw [h.1]; rfl) (fun _ U U' hal hh h => ⟨h.1, h.2.1.mv hal hh, h.2.2.1, h.2.2.2.1.there hal hh, h.2.2.2.2⟩) (fun r U U' V V' h1 hal h2 h => XT.PureE.mv r U U' V V' h1 hal h2 h) ?_
  intro p e s m args below meth c s₁ X0 hexec hbytes hml hret hlk hnm hown hh0 W hP
  obtain ⟨rfl, hx, hc, s1, hz⟩ := hP
  have c1 : Steps p.tables e below (s₁.setTop (entryFrame m #[.ref x] 1)) (s₁.setTop (mkF m 0 #[.val (.ref x)] [])) := entry rfl
  obtain ⟨T2, X2, q2, st2⟩ := X0.sget hexec hown (wk W (.fieldLink "java/lang/String" 38 "java/lang/String" "COMPACT_STRINGS" "Z")) s1 (fun _ _ h => by rw [hh0]; exact h) (g := (mkF m 0 #[.val (.ref x)] [])) rfl (hb hbytes d0)
  have hh2 := q2.trans hh0
  have c3 : Steps p.tables e below (s₁.setTop (entryFrame m #[.ref x] 1)) (T2.setTop (mkF m 7 #[.val (.ref x)] [.ref x])) := (c1.trans (st2 _ (Steps.refl _))).trans (by
    refine XS.ifNo X2.here hexec rfl (hb hbytes d3) rfl (i0_eq_f hz) ?_
    refine XS.aloadN X2.here hexec rfl (hb hbytes d6) rfl rfl ?_
    exact Steps.refl _)
  obtain ⟨T4, X4, q4, st4⟩ := X2.hget hexec hown (wk W (.fieldLink "java/lang/String" 15 "java/lang/String" "coder" "B")) (hx.mv X2.warmed.alike hh2) (g := (mkF m 7 #[.val (.ref x)] [.ref x])) rfl (rest := []) rfl (hb hbytes d7)
  have c5 : Steps p.tables e below (s₁.setTop (entryFrame m #[.ref x] 1)) (T4.setTop (mkF m 10 #[.val (.ref x)] [.int cd])) := c3.trans (st4 _ (Steps.refl _))
  have c6 : Steps p.tables e below (s₁.setTop (entryFrame m #[.ref x] 1)) (T4.setTop (mkF m 18 #[.val (.ref x)] [.int (1 - cd)])) := by
    rcases hc with rfl | rfl
    · exact c5.trans (by
        refine XS.ifNo X4.here hexec rfl (hb hbytes d10) rfl (i0_ne_f rfl) ?_
        refine iconstV X4.here hexec rfl 1 (hb hbytes d13) (by decide) ?_
        refine XS.goto X4.here hexec rfl (pc0 := 14) rfl (hb hbytes d14) (by decide) rfl ?_
        exact Steps.refl _)
    · exact c5.trans (by
        refine XS.ifYes X4.here hexec rfl (pc0 := 10) rfl (hb hbytes d10) rfl (i0_ne_t (by decide)) (by decide) rfl ?_
        refine iconstV X4.here hexec rfl 0 (hb hbytes d17) (by decide) ?_
        exact Steps.refl _)
  exact ⟨T4, some (.int (1 - cd)), _, _, _, X4, rfl, rfl, rfl, (fun h => by cases h), ⟨rfl, q4.trans hh2⟩, fun fs hl => c6.trans (X4.ireturnOut hexec hret (by rcases hc with rfl | rfl <;> rfl) (Or.inr (Or.inl rfl)) (hb hbytes d18) hl)⟩
end IsL
namespace LChA
def yN : MethodName := ⟨"java/lang/StringLatin1", "charAt", "([BI)C"⟩
abbrev yB : ByteArray := jdk_43_method_2_code
theorem d0 : decode yB 0 = .ok (.iload_n 1, 1) := by decide +kernel
theorem d1 : decode yB 1 = .ok (.aload_n 0, 1) := by decide +kernel
theorem d2 : decode yB 2 = .ok (.arraylength, 1) := by decide +kernel
theorem d3 : decode yB 3 = .ok (.invokestatic 9, 3) := by decide +kernel
theorem d6 : decode yB 6 = .ok (.aload_n 0, 1) := by decide +kernel
theorem d7 : decode yB 7 = .ok (.iload_n 1, 1) := by decide +kernel
theorem d8 : decode yB 8 = .ok (.baload, 1) := by decide +kernel
theorem d9 : decode yB 9 = .ok (.sipush 255, 3) := by decide +kernel
theorem d12 : decode yB 12 = .ok (.iand, 1) := by decide +kernel
theorem d13 : decode yB 13 = .ok (.i2c, 1) := by decide +kernel
theorem d14 : decode yB 14 = .ok (.ireturn, 1) := by decide +kernel
def site : List Cond := [JO.Str_checkIndex.tab] ++ staticW "java/lang/StringLatin1" 9 JO.Str_checkIndex.yN
def tab : Cond := tabOf yN yB 2 (some .char) site
def P (t : Addr) (V : Cell) (i : Nat) (u : Int32) (fm : Value) (args : Array Value) (s : State) : Prop := args = #[.ref t, .int (Int32.ofNat i)] ∧ XT.Arr .byte t V s ∧ V.slots[i]? = some (.int u) ∧ (StaticIs s "jdk/internal/util/Preconditions" "SIOOBE_FORMATTER" "Ljava/util/function/BiFunction;" fm ∧ fm.isRef = true)
def E (u : Int32) (r : Option Value) (s w : State) : Prop := XT.PureE (some (.int (chr8 u))) r s w
theorem law (l : Launch) (t : Addr) (V : Cell) (i : Nat) (u : Int32) (fm : Value) : Law l yN 2 2 2 27 yB 2 (some .char) site (P t V i u fm) (E u) [] 0 0 := by
  refine Law.of_walk (plainFor_of_name (by decide +kernel)) (by decide +kernel) (by decide +kernel) (by decide) (fun _ _ h => by rw [h.1]; rfl) (fun _ U U' hal hh h => ⟨h.1, h.2.1.mv hal hh, h.2.2.1, h.2.2.2.1.there hal hh, h.2.2.2.2⟩) (fun r U U' V V' h1 hal h2 h => XT.PureE.mv r U U' V V' h1 hal h2 h) ?_
  intro p e s m args below meth c s₁ X0 hexec hbytes hml hret hlk hnm hown hh0 W hP
  obtain ⟨rfl, hV, hu, s1, rf⟩ := hP
  have v31 := hV.2.2.2
  have hi : i < V.slots.size := (Array.getElem?_eq_some_iff.mp hu).1
  have c1 : Steps p.tables e below (s₁.setTop (entryFrame m #[.ref t, .int (Int32.ofNat i)] 2)) (s₁.setTop (mkF m 0 #[.val (.ref t), .val (.int (Int32.ofNat i))] [])) := entry rfl
  have c2 : Steps p.tables e below (s₁.setTop (entryFrame m #[.ref t, .int (Int32.ofNat i)] 2)) (s₁.setTop (mkF m 3 #[.val (.ref t), .val (.int (Int32.ofNat i))] [.int (Int32.ofNat V.slots.size), .int (Int32.ofNat i)])) := c1.trans (by
    refine XS.iloadN X0.here hexec rfl (hb hbytes d0) rfl ?_
    refine XS.aloadN X0.here hexec rfl (hb hbytes d1) rfl rfl ?_
    refine X0.alen hexec (hV.mv X0.warmed.alike hh0) rfl rfl (hb hbytes d2) ?_
    exact Steps.refl _)
  obtain ⟨v3, T3, X3, E3, g3⟩ := X0.callS hexec (JO.Str_checkIndex.law l (Int32.ofNat i) (Int32.ofNat V.slots.size) fm) hown (wks W (staticW "java/lang/StringLatin1" 9 JO.Str_checkIndex.yN)) (wk W JO.Str_checkIndex.tab) (W := 0) (Nat.le_of_ble_eq_true rfl) (Nat.le_of_ble_eq_true rfl) (Nat.le_refl _) (Nat.le_refl _) (g := (mkF m 3 #[.val (.ref t), .val (.int (Int32.ofNat i))] [.int (Int32.ofNat V.slots.size), .int (Int32.ofNat i)])) rfl (by rw [hml]; rfl) c2 (argsL := [.int (Int32.ofNat i), .int (Int32.ofNat V.slots.size)]) (rest := []) rfl rfl (by show 2 * 0 + 0 ≤ _; decide) (hb hbytes d3) (⟨rfl, rf, s1.there X0.warmed.alike hh0, Int32.ofNat_not_neg (by omega), lt32 v31 hi⟩)
  obtain ⟨rfl, q3⟩ := E3
  have hh3 := q3.trans hh0
  have c4 : Steps p.tables e below (s₁.setTop (entryFrame m #[.ref t, .int (Int32.ofNat i)] 2)) (T3.setTop (mkF m 14 #[.val (.ref t), .val (.int (Int32.ofNat i))] [.int (chr8 u)])) := Steps.trans g3 (by
    refine XS.aloadN X3.here hexec rfl (hb hbytes d6) rfl rfl ?_
    refine XS.iloadN X3.here hexec rfl (hb hbytes d7) rfl ?_
    refine X3.aget hexec (hV.mv X3.warmed.alike hh3) rfl hu rfl rfl (hb hbytes d8) ?_
    refine sipushV X3.here hexec rfl 255 (hb hbytes d9) (by decide) ?_
    refine XS.iand X3.here hexec rfl (hb hbytes d12) rfl ?_
    refine i2c X3.here hexec rfl (hb hbytes d13) rfl ?_
    exact Steps.refl _)
  exact ⟨T3, some (.int (chr8 u)), _, _, _, X3, rfl, rfl, rfl, (fun h => by cases h), ⟨rfl, hh3⟩, fun fs hl => c4.trans (X3.ireturnOut hexec hret (narrow_c _) (Or.inr (Or.inr (Or.inr (Or.inl rfl)))) (hb hbytes d14) hl)⟩
end LChA
end StrChars
namespace StrChars.Road
open Jvm Sem ClassFile Op Lib Jvm.Stand Jvm.Free Jvm.Free.XT
open Jvm.Lib.Cold (StaticIs)
theorem consq {a : Array Value} {s : State} {c : Jvm.Cond} {L : List Jvm.Cond} (h0 : c.before a s = true) (h : ∀ w ∈ L, w.before a s = true) : ∀ w ∈ c :: L, w.before a s = true := fun w hw => (List.mem_cons.mp hw).elim (fun e => e ▸ h0) (h w)
/-- the bytes of the chars cs, low before high -/
def wideBytes : List Int32 → List Value
  | [] => []
  | c :: cs => .int (lo8 c) :: .int (hi8 c) :: wideBytes cs
theorem wide_lo (d : Value) : ∀ (cs : List Int32) (j : Nat), j < cs.length → (wideBytes cs).getD (2 * j) d = .int (lo8 (cs.getD j 0))
  | [], j, h => absurd h (Nat.not_lt_zero j)
  | c :: cs, 0, _ => rfl
  | c :: cs, j + 1, h => by
    have q := wide_lo d cs j (by simpa using h)
    rw [show 2 * (j + 1) = 2 * j + 1 + 1 from by omega]
    simpa [wideBytes] using q
theorem wide_hi (d : Value) : ∀ (cs : List Int32) (j : Nat), j < cs.length → (wideBytes cs).getD (2 * j + 1) d = .int (hi8 (cs.getD j 0))
  | [], j, h => absurd h (Nat.not_lt_zero j)
  | c :: cs, 0, _ => rfl
  | c :: cs, j + 1, h => by
    have q := wide_hi d cs j (by simpa using h)
    rw [show 2 * (j + 1) + 1 = 2 * j + 1 + 1 + 1 from by omega]
    simpa [wideBytes] using q
theorem low_at (d : Value) (cs : List Int32) (j : Nat) (h : j < cs.length) : (cs.map fun c => Value.int (lo8 c)).getD j d = .int (lo8 (cs.getD j 0)) := by
  simp [List.getD_eq_getElem?_getD, h]
/-- an array of N2 bytes vs codes the chars cs by the coder cd -/
def CodA (cs : List Int32) (cd N2 : Int32) (vs : List Value) : Prop := (cd = 0 ∧ N2 = Int32.ofNat cs.length ∧ vs = (cs.map fun c => Value.int (lo8 c)) ∧ ∀ c ∈ cs, ¬ 255 < c) ∨ (cd = 1 ∧ N2 = Int32.ofNat (2 * cs.length) ∧ vs = wideBytes cs ∧ ∃ c ∈ cs, 255 < c)
theorem CodA.cod {cs : List Int32} {cd N2 : Int32} {vs : List Value} {V : Cell} (h : CodA cs cd N2 vs) (hn : 2 * cs.length < 2 ^ 31) (hs : V.slots.size = N2.toNatClampNeg) (hv : RoadKit.Has V vs (.int 0)) : Cod cd cs.length (fun j => cs.getD j 0) V := by
  rcases h with ⟨rfl, rfl, rfl, h⟩ | ⟨rfl, rfl, rfl, c, hc, hw⟩
  · rw [n32 (by omega)] at hs
    exact Or.inl ⟨rfl, hs, fun j hj => ⟨by rw [hv j (by omega), low_at _ _ _ hj], by
      have e : cs.getD j 0 = cs[j] := by simp [List.getD_eq_getElem?_getD, hj]
      show ¬ 255 < cs.getD j 0
      rw [e]; exact h _ (List.getElem_mem _)⟩⟩
  · rw [n32 (by omega)] at hs
    obtain ⟨j, hj, rfl⟩ := List.getElem_of_mem hc
    exact Or.inr ⟨rfl, hs, fun j hj => ⟨by rw [hv _ (by omega), wide_lo _ _ _ hj], by rw [hv _ (by omega), wide_hi _ _ _ hj]⟩, j, hj, by
      have e : cs.getD j 0 = cs[j] := by simp [List.getD_eq_getElem?_getD, hj]
      show 255 < cs.getD j 0
      rw [e]; exact hw⟩
/-- an object of exactly java/lang/String, its two fields found: as the laws ask it -/
theorem strObj {Z U : State} {a0 : Array Value} {kI : Nat} (wi : (Jvm.Cond.instantiable ST kI).before a0 Z = true) (al : Z.vm.Alike U.vm) {x : Addr} {v0 c0 : Value} (E : RoadKit.Exa Z U.heap x ST) (V : RoadKit.Fld Z U.heap x ST "value" "[B" v0) (C : RoadKit.Fld Z U.heap x ST "coder" "B" c0) :
    ∃ (D : Cell) (fV fC : Field), Blank ST x D U ∧ Found ST "value" "[B" fV U ∧ Found ST "coder" "B" fC U ∧ D.slots[fV.slot]? = some v0 ∧ D.slots[fC.slot]? = some c0 ∧ RoadKit.slotOf Z ST "value" "[B" = fV.slot ∧ RoadKit.slotOf Z ST "coder" "B" = fC.slot := by
  obtain ⟨D, cfV, kV, iV, fV, hD, gV, stV, knV, obV, asV, slV⟩ := V
  obtain ⟨D', cfC, kC, iC, fC, hD', gC, stC, -, -, asC, slC⟩ := C
  cases hD.symm.trans hD'
  obtain ⟨D2, kD, e1, e2, e3, e4, e5⟩ := E
  cases hD.symm.trans e1
  obtain ⟨c2, k2, i1, i2, i3, -⟩ := Cond.instantiable_spec wi
  cases e2.symm.trans i1
  cases e3.symm.trans i2
  obtain ⟨kU, u1, u2⟩ := al.2.2 _ _ e3
  exact ⟨D, fV, fC, ⟨hD, ⟨knV, fun q hq => by rw [hq] at obV; cases obV⟩, by rw [al.findClass]; exact e2, kU, u1, by rw [u2]; exact i3, by rw [u2]; exact e5 i3⟩, ⟨SBG.found_only al ⟨cfV, kV, iV, gV⟩, stV⟩, ⟨SBG.found_only al ⟨cfC, kC, iC, gC⟩, stC⟩, slV, slC, by simp [RoadKit.slotOf, gV], by simp [RoadKit.slotOf, gC]⟩
theorem sta_is {Z U : State} (al : Z.vm.Alike U.vm) {C n d : String} {v : Value} (S : RoadKit.Sta Z U.heap C n d v) : StaticIs U C n d v := by
  obtain ⟨cfS, iS, kS, fS, st, cS, t1, t2, t3, t4, t5, t6, t7⟩ := S
  exact StaticIs.there (s := { Z with heap := U.heap }) ⟨cfS, iS, kS, fS, st, cS, t1, t2, t3, t4, t5, (fun q => by rw [q] at t6; cases t6), t7⟩ al rfl
end StrChars.Road
namespace StrChars
open Jvm Sem ClassFile Op Lib Jvm.Stand Jvm.Free.XT Jvm.Free.ALB Jvm.Free.JM Jvm.Free
open Jvm.Lib.Cold (StaticIs)
/-- what place i of a byte[]'s cell holds -/
def yv (A : Cell) (i : Nat) : Int32 := match A.slots[i]? with | some (.int x) => x | _ => 0
theorem yv_get {a : Addr} {A : Cell} {U : State} (h : XT.Arr .byte a A U) (ht : Typed .byte A) {i : Nat} (hi : i < A.slots.size) : A.slots[i]? = some (.int (yv A i)) := by
  have e := Array.getElem?_eq_getElem hi
  have f := ht i _ e
  unfold yv; rw [e]
  generalize A.slots[i] = v at f
  cases v <;> simp [fits] at f ⊢
/-- the two arrays are equal, place for place -/
def EqC (A B : Cell) : Prop := A.slots.size = B.slots.size ∧ ∀ i, i < A.slots.size → yv A i = yv B i
/-- a boolean that says whether p -/
def Says01 (q : Prop) (r : Option Value) (s u : State) : Prop := ∃ v : Int32, r = some (.int v) ∧ u.heap = s.heap ∧ ((v = 1 ∧ q) ∨ (v = 0 ∧ ¬ q))
theorem Says01.mv {q : Prop} : ∀ r (U U' V V' : State), U'.heap = U.heap → V.vm.Alike V'.vm → V'.heap = V.heap → Says01 q r U V → Says01 q r U' V' :=
  fun r U U' V V' h1 _ h2 ⟨v, a, b, c⟩ => ⟨v, a, by rw [h1, h2]; exact b, c⟩
namespace LEq
def yN : MethodName := ⟨"java/lang/StringLatin1", "equals", "([B[B)Z"⟩
abbrev yB : ByteArray := jdk_43_method_13_code
theorem d0 : decode yB 0 = .ok (.aload_n 0, 1) := by decide +kernel
theorem d1 : decode yB 1 = .ok (.arraylength, 1) := by decide +kernel
theorem d2 : decode yB 2 = .ok (.aload_n 1, 1) := by decide +kernel
theorem d3 : decode yB 3 = .ok (.arraylength, 1) := by decide +kernel
theorem d4 : decode yB 4 = .ok (.if_icmp (.ne) 30, 3) := by decide +kernel
theorem d7 : decode yB 7 = .ok (.iconst 0, 1) := by decide +kernel
theorem d8 : decode yB 8 = .ok (.istore_n 2, 1) := by decide +kernel
theorem d9 : decode yB 9 = .ok (.iload_n 2, 1) := by decide +kernel
theorem d10 : decode yB 10 = .ok (.aload_n 0, 1) := by decide +kernel
theorem d11 : decode yB 11 = .ok (.arraylength, 1) := by decide +kernel
theorem d12 : decode yB 12 = .ok (.if_icmp (.ge) 20, 3) := by decide +kernel
theorem d15 : decode yB 15 = .ok (.aload_n 0, 1) := by decide +kernel
theorem d16 : decode yB 16 = .ok (.iload_n 2, 1) := by decide +kernel
theorem d17 : decode yB 17 = .ok (.baload, 1) := by decide +kernel
theorem d18 : decode yB 18 = .ok (.aload_n 1, 1) := by decide +kernel
theorem d19 : decode yB 19 = .ok (.iload_n 2, 1) := by decide +kernel
theorem d20 : decode yB 20 = .ok (.baload, 1) := by decide +kernel
theorem d21 : decode yB 21 = .ok (.if_icmp (.eq) 5, 3) := by decide +kernel
theorem d24 : decode yB 24 = .ok (.iconst 0, 1) := by decide +kernel
theorem d25 : decode yB 25 = .ok (.ireturn, 1) := by decide +kernel
theorem d26 : decode yB 26 = .ok (.iinc 2 1, 3) := by decide +kernel
theorem d29 : decode yB 29 = .ok (.goto (-20), 3) := by decide +kernel
theorem d32 : decode yB 32 = .ok (.iconst 1, 1) := by decide +kernel
theorem d33 : decode yB 33 = .ok (.ireturn, 1) := by decide +kernel
theorem d34 : decode yB 34 = .ok (.iconst 0, 1) := by decide +kernel
theorem d35 : decode yB 35 = .ok (.ireturn, 1) := by decide +kernel
def site : List Cond := []
def tab : Cond := tabOf yN yB 3 (some .boolean) site
def P (a : Addr) (A : Cell) (b : Addr) (B : Cell) (args : Array Value) (s : State) : Prop := args = #[.ref a, .ref b] ∧ XT.Arr .byte a A s ∧ Typed .byte A ∧ XT.Arr .byte b B s ∧ Typed .byte B
/-- whether two byte[] are equal, place for place -/
theorem law (l : Launch) (a : Addr) (A : Cell) (b : Addr) (B : Cell) : Law l yN 2 2 0 0 yB 3 (some .boolean) site (P a A b B) (Says01 (EqC A B)) [] 0 0 := by
  refine Law.of_walk (plainFor_of_name (by decide +kernel)) (by decide +kernel) (by decide +kernel) (by decide) (fun _ _ h => by rw [h.1]; rfl) (fun _ U U' hal hh h => ⟨h.1, h.2.1.mv hal hh, h.2.2.1, h.2.2.2.1.mv hal hh, h.2.2.2.2⟩) (fun r U U' V V' h1 hal h2 h => Says01.mv r U U' V V' h1 hal h2 h) ?_
  intro p e s m args below meth c s₁ X0 hexec hbytes hml hret hlk hnm hown hh0 W hP
  obtain ⟨rfl, hA, tA, hB, tB⟩ := hP
  have a31 := hA.2.2.2
  have b31 := hB.2.2.2
  have hA0 := hA.mv X0.warmed.alike hh0
  have hB0 := hB.mv X0.warmed.alike hh0
  have c1 : Steps p.tables e below (s₁.setTop (entryFrame m #[.ref a, .ref b] 3)) (s₁.setTop (mkF m 0 #[.val (.ref a), .val (.ref b), .unset] [])) := entry rfl
  have c2 : Steps p.tables e below (s₁.setTop (entryFrame m #[.ref a, .ref b] 3)) (s₁.setTop (mkF m 4 #[.val (.ref a), .val (.ref b), .unset] [.int (Int32.ofNat B.slots.size), .int (Int32.ofNat A.slots.size)])) := c1.trans (by
    refine XS.aloadN X0.here hexec rfl (hb hbytes d0) rfl rfl ?_
    refine X0.alen hexec hA0 rfl rfl (hb hbytes d1) ?_
    refine XS.aloadN X0.here hexec rfl (hb hbytes d2) rfl rfl ?_
    refine X0.alen hexec hB0 rfl rfl (hb hbytes d3) ?_
    exact Steps.refl _)
  by_cases hs : A.slots.size = B.slots.size
  · have c3 : Steps p.tables e below (s₁.setTop (entryFrame m #[.ref a, .ref b] 3)) (s₁.setTop (mkF m 9 #[.val (.ref a), .val (.ref b), .val (.int 0)] [])) := c2.trans (by
      refine XS.icmpNo X0.here hexec rfl (hb hbytes d4) rfl (ii_ne_f (by rw [hs])) ?_
      refine iconstV X0.here hexec rfl 0 (hb hbytes d7) (by decide) ?_
      refine XS.istoreN X0.here hexec rfl (hb hbytes d8) rfl rfl ?_
      exact Steps.refl _)
    have loop : ∀ (r i : Nat), i + r = A.slots.size → (∀ j, j < i → yv A j = yv B j) → Steps p.tables e below (s₁.setTop (entryFrame m #[.ref a, .ref b] 3)) (s₁.setTop (mkF m 9 #[.val (.ref a), .val (.ref b), .val (.int (Int32.ofNat i))] [])) → ∃ (pc : Nat) (Ls : Array Slot) (v : Int32), (pc = 25 ∨ pc = 33) ∧ ((v = 1 ∧ EqC A B) ∨ (v = 0 ∧ ¬ EqC A B)) ∧ Steps p.tables e below (s₁.setTop (entryFrame m #[.ref a, .ref b] 3)) (s₁.setTop (mkF m pc Ls [.int v])) := by
      intro r
      induction r with
      | zero =>
        intro i hi he cl
        exact ⟨33, _, 1, Or.inr rfl, Or.inl ⟨rfl, hs, fun j hj => he j (by omega)⟩, cl.trans (by
          refine XS.iloadN X0.here hexec rfl (hb hbytes d9) rfl ?_
          refine XS.aloadN X0.here hexec rfl (hb hbytes d10) rfl rfl ?_
          refine X0.alen hexec hA0 rfl rfl (hb hbytes d11) ?_
          refine XS.icmpYes X0.here hexec rfl (pc0 := 12) rfl (hb hbytes d12) rfl (ii_ge_t (nlt32 (by omega) (by omega))) (by decide) rfl ?_
          refine iconstV X0.here hexec rfl 1 (hb hbytes d32) (by decide) ?_
          exact Steps.refl _)⟩
      | succ r ih =>
        intro i hi he cl
        have c4 : Steps p.tables e below (s₁.setTop (entryFrame m #[.ref a, .ref b] 3)) (s₁.setTop (mkF m 21 #[.val (.ref a), .val (.ref b), .val (.int (Int32.ofNat i))] [.int (yv B i), .int (yv A i)])) := cl.trans (by
          refine XS.iloadN X0.here hexec rfl (hb hbytes d9) rfl ?_
          refine XS.aloadN X0.here hexec rfl (hb hbytes d10) rfl rfl ?_
          refine X0.alen hexec hA0 rfl rfl (hb hbytes d11) ?_
          refine XS.icmpNo X0.here hexec rfl (hb hbytes d12) rfl (ii_ge_f (lt32 (by omega) (by omega))) ?_
          refine XS.aloadN X0.here hexec rfl (hb hbytes d15) rfl rfl ?_
          refine XS.iloadN X0.here hexec rfl (hb hbytes d16) rfl ?_
          refine X0.aget hexec hA0 rfl (yv_get hA tA (i := i) (by omega)) rfl rfl (hb hbytes d17) ?_
          refine XS.aloadN X0.here hexec rfl (hb hbytes d18) rfl rfl ?_
          refine XS.iloadN X0.here hexec rfl (hb hbytes d19) rfl ?_
          refine X0.aget hexec hB0 rfl (yv_get hB tB (i := i) (by omega)) rfl rfl (hb hbytes d20) ?_
          exact Steps.refl _)
        by_cases hv : yv A i = yv B i
        · have c5 : Steps p.tables e below (s₁.setTop (entryFrame m #[.ref a, .ref b] 3)) (s₁.setTop (mkF m 9 #[.val (.ref a), .val (.ref b), .val (.int (Int32.ofNat i + 1))] [])) := c4.trans (by
            refine XS.icmpYes X0.here hexec rfl (pc0 := 21) rfl (hb hbytes d21) rfl (ii_eq_t hv) (by decide) rfl ?_
            refine iincV X0.here hexec rfl 1 (hb hbytes d26) (by decide) rfl rfl ?_
            refine XS.goto X0.here hexec rfl (pc0 := 29) rfl (hb hbytes d29) (by decide) rfl ?_
            exact Steps.refl _)
          rw [succ32] at c5
          exact ih (i + 1) (by omega) (fun j hj => by
            by_cases e : j = i
            · rw [e]; exact hv
            · exact he j (by omega)) c5
        · exact ⟨25, _, 0, Or.inl rfl, Or.inr ⟨rfl, fun q => hv (q.2 i (by omega))⟩, c4.trans (by
            refine XS.icmpNo X0.here hexec rfl (hb hbytes d21) rfl (ii_eq_f hv) ?_
            refine iconstV X0.here hexec rfl 0 (hb hbytes d24) (by decide) ?_
            exact Steps.refl _)⟩
    obtain ⟨pc, Ls, v, hpc, hv, cz⟩ := loop A.slots.size 0 (by omega) (fun j hj => absurd hj (Nat.not_lt_zero j)) c3
    have nv : narrow .boolean (.int v) = .int v := by rcases hv with ⟨rfl, -⟩ | ⟨rfl, -⟩ <;> rfl
    rcases hpc with rfl | rfl
    · exact ⟨s₁, some (.int v), _, _, _, X0, rfl, rfl, rfl, (fun h => by cases h), ⟨v, rfl, hh0, hv⟩, fun fs hl => cz.trans (X0.ireturnOut hexec hret nv (Or.inr (Or.inl rfl)) (hb hbytes d25) hl)⟩
    · exact ⟨s₁, some (.int v), _, _, _, X0, rfl, rfl, rfl, (fun h => by cases h), ⟨v, rfl, hh0, hv⟩, fun fs hl => cz.trans (X0.ireturnOut hexec hret nv (Or.inr (Or.inl rfl)) (hb hbytes d33) hl)⟩
  · have c3 : Steps p.tables e below (s₁.setTop (entryFrame m #[.ref a, .ref b] 3)) (s₁.setTop (mkF m 35 #[.val (.ref a), .val (.ref b), .unset] [.int 0])) := c2.trans (by
      refine XS.icmpYes X0.here hexec rfl (pc0 := 4) rfl (hb hbytes d4) rfl (ii_ne_t (ne32 a31 b31 hs)) (by decide) rfl ?_
      refine iconstV X0.here hexec rfl 0 (hb hbytes d34) (by decide) ?_
      exact Steps.refl _)
    exact ⟨s₁, some (.int 0), _, _, _, X0, rfl, rfl, rfl, (fun h => by cases h), ⟨0, rfl, hh0, Or.inr ⟨rfl, fun q => hs q.1⟩⟩, fun fs hl => c3.trans (X0.ireturnOut hexec hret rfl (Or.inr (Or.inl rfl)) (hb hbytes d35) hl)⟩
end LEq
theorem Cod.ty {cd : Int32} {n : Nat} {f : Nat → Int32} {V : Cell} (h : Cod cd n f V) : Typed .byte V := fun i v hv => by
  have hi : i < V.slots.size := (Array.getElem?_eq_some_iff.mp hv).1
  rcases h with ⟨-, k1, k2⟩ | ⟨-, k1, k2, -⟩
  · rw [(k2 i (by omega)).1] at hv; cases hv; exact fits_lo8 _
  · rcases Nat.mod_two_eq_zero_or_one i with e | e
    · obtain ⟨j, rfl⟩ : ∃ j, i = 2 * j := ⟨i / 2, by omega⟩
      rw [(k2 j (by omega)).1] at hv; cases hv; exact fits_lo8 _
    · obtain ⟨j, rfl⟩ : ∃ j, i = 2 * j + 1 := ⟨i / 2, by omega⟩
      rw [(k2 j (by omega)).2] at hv; cases hv; exact fits_lo8 _
/-- the same text -/
def SameT (n : Nat) (f : Nat → Int32) (k : Nat) (g : Nat → Int32) : Prop := n = k ∧ ∀ j, j < n → f j = g j
theorem lo8_inj {x y : Int32} (h0 : ¬ x < 0) (h1 : ¬ 255 < x) (k0 : ¬ y < 0) (k1 : ¬ 255 < y) (h : lo8 x = lo8 y) : x = y := by
  rw [← lo8_mask h0 h1, ← lo8_mask k0 k1, h]
/-- arrays coded by one coder are equal just where the texts are -/
theorem Cod.eqv {cd : Int32} {n k : Nat} {f g : Nat → Int32} {V V' : Cell} (h : Cod cd n f V) (h' : Cod cd k g V') (hf : ∀ j, j < n → ¬ f j < 0 ∧ ¬ 65535 < f j) (hg : ∀ j, j < k → ¬ g j < 0 ∧ ¬ 65535 < g j) : EqC V V' ↔ SameT n f k g := by
  have yvv : ∀ {W : Cell} {i : Nat} {x : Int32}, W.slots[i]? = some (.int x) → yv W i = x := fun q => by unfold yv; rw [q]
  rcases h with ⟨rfl, k1, k2⟩ | ⟨rfl, k1, k2, -⟩
  · rcases h' with ⟨-, m1, m2⟩ | ⟨e, -⟩
    · constructor
      · rintro ⟨e1, e2⟩
        refine ⟨by omega, fun j hj => ?_⟩
        have q := e2 j (by omega)
        rw [yvv (k2 j hj).1, yvv (m2 j (by omega)).1] at q
        exact lo8_inj (hf j hj).1 (k2 j hj).2 (hg j (by omega)).1 (m2 j (by omega)).2 q
      · rintro ⟨rfl, e2⟩
        refine ⟨by omega, fun j hj => ?_⟩
        rw [yvv (k2 j (by omega)).1, yvv (m2 j (by omega)).1, e2 j (by omega)]
    · exact absurd e (by decide)
  · rcases h' with ⟨e, -⟩ | ⟨-, m1, m2, -⟩
    · exact absurd e (by decide)
    · constructor
      · rintro ⟨e1, e2⟩
        refine ⟨by omega, fun j hj => ?_⟩
        have q1 := e2 (2 * j) (by omega)
        have q2 := e2 (2 * j + 1) (by omega)
        rw [yvv (k2 j hj).1, yvv (m2 j (by omega)).1] at q1
        rw [yvv (k2 j hj).2, yvv (m2 j (by omega)).2] at q2
        rw [← pair_says (hf j hj).1 (hf j hj).2, ← pair_says (hg j (by omega)).1 (hg j (by omega)).2, q1, q2]
      · rintro ⟨rfl, e2⟩
        refine ⟨by omega, fun i hi => ?_⟩
        rcases Nat.mod_two_eq_zero_or_one i with e | e
        · obtain ⟨j, rfl⟩ : ∃ j, i = 2 * j := ⟨i / 2, by omega⟩
          rw [yvv (k2 j (by omega)).1, yvv (m2 j (by omega)).1, e2 j (by omega)]
        · obtain ⟨j, rfl⟩ : ∃ j, i = 2 * j + 1 := ⟨i / 2, by omega⟩
          rw [yvv (k2 j (by omega)).2, yvv (m2 j (by omega)).2, e2 j (by omega)]
/-- two codings differ: so do the texts -/
theorem Cod.dif {cd cd' : Int32} {n k : Nat} {f g : Nat → Int32} {V V' : Cell} (h : Cod cd n f V) (h' : Cod cd' k g V') (hne : ¬ cd = cd') : ¬ SameT n f k g := by
  rintro ⟨rfl, e⟩
  rcases h with ⟨rfl, -, k2⟩ | ⟨rfl, -, -, j, hj, hw⟩
  · rcases h' with ⟨rfl, -⟩ | ⟨-, -, -, j, hj, hw⟩
    · exact hne rfl
    · exact (k2 j hj).2 (by rw [e j hj]; exact hw)
  · rcases h' with ⟨-, -, m2⟩ | ⟨rfl, -⟩
    · exact (m2 j hj).2 (by rw [← e j hj]; exact hw)
    · exact hne rfl
/-- an object of exactly C is an instance of C -/
theorem cinst {p : Program} {l : Launch} {e : Env} {R : Room} {s : State} {m : MethodId} {args : Array Value} {below : List Frame} {meth : Method} {c : Code} {T : State} {locs : List Loc} {cells slots : Nat} (X : Stand p l e R s m args below meth c T locs cells slots) (hexec : p.tables.exec = Jvm.exec) {own C : String} {index : Nat} (hown : s.vm.findClass own = some m.cls) (hlink : (Cond.classLink own index C).before args s = true) {a : Addr} (hE : Exact C a T)
    {g : JFrame} (hg : g.method = m) {rest : List Value} (hstack : g.stack = .ref a :: rest) (hdg : decode c.code g.pc = .ok (.instanceof index, 3)) :
    ∃ T', Stand p l e R s m args below meth c T' locs cells slots ∧ T'.heap = T.heap ∧ ∀ target, Steps p.tables e below (T'.setTop { g with pc := g.pc + 3, stack := .int 1 :: rest }) target → Steps p.tables e below (T.setTop g) target := by
  obtain ⟨cB, h1, D, h2, h3, h4⟩ := hE
  have h1' : s.vm.findClass C = some cB := by rw [← X.warmed.alike.findClass]; exact h1
  obtain ⟨vm', X', st⟩ := X.instanceofYes hexec hown hlink h2 h4 h1' (by rw [h3]; exact Jvm.Free.SB.assignable_self _ _) hg hstack hdg
  exact ⟨_, X', rfl, st⟩
theorem cself {p : Program} {l : Launch} {e : Env} {R : Room} {s : State} {m : MethodId} {args : Array Value} {below : List Frame} {meth : Method} {c : Code} {T : State} {locs : List Loc} {cells slots : Nat} (X : Stand p l e R s m args below meth c T locs cells slots) (hexec : p.tables.exec = Jvm.exec) {own C : String} {index : Nat} (hown : s.vm.findClass own = some m.cls) (hlink : (Cond.classLink own index C).before args s = true) {a : Addr} (hE : Exact C a T)
    {g : JFrame} (hg : g.method = m) {rest : List Value} (hstack : g.stack = .ref a :: rest) (hdg : decode c.code g.pc = .ok (.checkcast index, 3)) :
    ∃ T', Stand p l e R s m args below meth c T' locs cells slots ∧ T'.heap = T.heap ∧ ∀ target, Steps p.tables e below (T'.setTop { g with pc := g.pc + 3, stack := .ref a :: rest }) target → Steps p.tables e below (T.setTop g) target := by
  obtain ⟨cB, h1, D, h2, h3, h4⟩ := hE
  have h1' : s.vm.findClass C = some cB := by rw [← X.warmed.alike.findClass]; exact h1
  obtain ⟨vm', X', st⟩ := X.checkcastYes hexec hown hlink h2 h4 h1' (by rw [h3]; exact Jvm.Free.SB.assignable_self _ _) hg hstack hdg
  exact ⟨_, X', rfl, fun t h => st t (by rw [← hstack] at h; exact h)⟩
namespace SEq
def yN : MethodName := ⟨"java/lang/String", "equals", "(Ljava/lang/Object;)Z"⟩
abbrev yB : ByteArray := jdk_42_method_66_code
theorem d0 : decode yB 0 = .ok (.aload_n 0, 1) := by decide +kernel
theorem d1 : decode yB 1 = .ok (.aload_n 1, 1) := by decide +kernel
theorem d2 : decode yB 2 = .ok (.if_acmp (.ne) 5, 3) := by decide +kernel
theorem d5 : decode yB 5 = .ok (.iconst 1, 1) := by decide +kernel
theorem d6 : decode yB 6 = .ok (.ireturn, 1) := by decide +kernel
theorem d7 : decode yB 7 = .ok (.aload_n 1, 1) := by decide +kernel
theorem d8 : decode yB 8 = .ok (.instanceof 10, 3) := by decide +kernel
theorem d11 : decode yB 11 = .ok (.ifCond (.eq) 43, 3) := by decide +kernel
theorem d14 : decode yB 14 = .ok (.aload_n 1, 1) := by decide +kernel
theorem d15 : decode yB 15 = .ok (.checkcast 10, 3) := by decide +kernel
theorem d18 : decode yB 18 = .ok (.astore_n 2, 1) := by decide +kernel
theorem d19 : decode yB 19 = .ok (.getstatic 38, 3) := by decide +kernel
theorem d22 : decode yB 22 = .ok (.ifCond (.eq) 14, 3) := by decide +kernel
theorem d25 : decode yB 25 = .ok (.aload_n 0, 1) := by decide +kernel
theorem d26 : decode yB 26 = .ok (.getfield 15, 3) := by decide +kernel
theorem d29 : decode yB 29 = .ok (.aload_n 2, 1) := by decide +kernel
theorem d30 : decode yB 30 = .ok (.getfield 15, 3) := by decide +kernel
theorem d33 : decode yB 33 = .ok (.if_icmp (.ne) 21, 3) := by decide +kernel
theorem d36 : decode yB 36 = .ok (.aload_n 0, 1) := by decide +kernel
theorem d37 : decode yB 37 = .ok (.getfield 9, 3) := by decide +kernel
theorem d40 : decode yB 40 = .ok (.aload_n 2, 1) := by decide +kernel
theorem d41 : decode yB 41 = .ok (.getfield 9, 3) := by decide +kernel
theorem d44 : decode yB 44 = .ok (.invokestatic 541, 3) := by decide +kernel
theorem d47 : decode yB 47 = .ok (.ifCond (.eq) 7, 3) := by decide +kernel
theorem d50 : decode yB 50 = .ok (.iconst 1, 1) := by decide +kernel
theorem d51 : decode yB 51 = .ok (.goto 4, 3) := by decide +kernel
theorem d54 : decode yB 54 = .ok (.iconst 0, 1) := by decide +kernel
theorem d55 : decode yB 55 = .ok (.ireturn, 1) := by decide +kernel
def site : List Cond := [.classLink "java/lang/String" 10 "java/lang/String", .fieldLink "java/lang/String" 38 "java/lang/String" "COMPACT_STRINGS" "Z", .fieldLink "java/lang/String" 15 "java/lang/String" "coder" "B", .fieldLink "java/lang/String" 9 "java/lang/String" "value" "[B", LEq.tab] ++ staticW "java/lang/String" 541 LEq.yN
def tab : Cond := tabOf yN yB 3 (some .boolean) site
def P (x t : Addr) (V : Cell) (cd : Int32) (n : Nat) (f : Nat → Int32) (y t' : Addr) (V' : Cell) (cd' : Int32) (k : Nat) (g : Nat → Int32) (z : Int32) (args : Array Value) (s : State) : Prop := args = #[.ref x, .ref y] ∧ Txt x t V cd n f s ∧ Txt y t' V' cd' k g s ∧ StaticIs s "java/lang/String" "COMPACT_STRINGS" "Z" (.int z) ∧ ¬ z = 0
/-- equals(Object) of two Strings: whether the texts are the same -/
theorem law (l : Launch) (x t : Addr) (V : Cell) (cd : Int32) (n : Nat) (f : Nat → Int32) (y t' : Addr) (V' : Cell) (cd' : Int32) (k : Nat) (g : Nat → Int32) (z : Int32) : Law l yN 2 1 1 14 yB 3 (some .boolean) site (P x t V cd n f y t' V' cd' k g z) (Says01 (SameT n f k g)) [] 0 0 := by
  refine Law.of_walk (plainFor_of_name (by decide +kernel)) (by decide +kernel) (by decide +kernel) (by decide) (fun _ _ h => by rw [h.1]; rfl) (fun _ U U' hal hh h => ⟨h.1, h.2.1.mv hal hh, h.2.2.1.mv hal hh, h.2.2.2.1.there hal hh, h.2.2.2.2⟩) (fun r U U' V V' h1 hal h2 h => Says01.mv r U U' V V' h1 hal h2 h) ?_
  intro p e s m args below meth c s₁ X0 hexec hbytes hml hret hlk hnm hown hh0 W hP
  obtain ⟨rfl, hx, hy, s1, hz⟩ := hP
  have c1 : Steps p.tables e below (s₁.setTop (entryFrame m #[.ref x, .ref y] 3)) (s₁.setTop (mkF m 2 #[.val (.ref x), .val (.ref y), .unset] [.ref y, .ref x])) := Steps.trans (entry rfl) (by
    show Steps p.tables e below (s₁.setTop (mkF m 0 #[.val (.ref x), .val (.ref y), .unset] [])) _
    refine XS.aloadN X0.here hexec rfl (hb hbytes d0) rfl rfl ?_
    refine XS.aloadN X0.here hexec rfl (hb hbytes d1) rfl rfl ?_
    exact Steps.refl _)
  by_cases hxy : x = y
  · have c2 : Steps p.tables e below (s₁.setTop (entryFrame m #[.ref x, .ref y] 3)) (s₁.setTop (mkF m 6 #[.val (.ref x), .val (.ref y), .unset] [.int 1])) := c1.trans (by
      refine acmpNo X0.here hexec rfl (hb hbytes d2) rfl rfl rfl (by simp [acmp, hxy]) ?_
      refine iconstV X0.here hexec rfl 1 (hb hbytes d5) (by decide) ?_
      exact Steps.refl _)
    subst hxy
    have ec : cd = cd' := by
      obtain ⟨D, fd, a1, a2, a3⟩ := hx.2.2.1
      obtain ⟨D', fd', b1, b2, b3⟩ := hy.2.2.1
      cases a1.symm.trans b1
      obtain ⟨q1, q2, q3, q4⟩ := a2.1
      obtain ⟨r1, r2, r3, r4⟩ := b2.1
      cases q4.symm.trans r4
      cases a3.symm.trans b3; rfl
    have et : t = t' := by
      obtain ⟨D, fd, a1, a2, a3⟩ := hx.2.1
      obtain ⟨D', fd', b1, b2, b3⟩ := hy.2.1
      cases a1.symm.trans b1
      obtain ⟨q1, q2, q3, q4⟩ := a2.1
      obtain ⟨r1, r2, r3, r4⟩ := b2.1
      cases q4.symm.trans r4
      cases a3.symm.trans b3; rfl
    subst ec et
    have ev : V = V' := by cases hx.2.2.2.1.1.symm.trans hy.2.2.2.1.1; rfl
    subst ev
    have hs : SameT n f k g := (Cod.eqv hx.2.2.2.2.1 hy.2.2.2.2.1 hx.2.2.2.2.2 hy.2.2.2.2.2).mp ⟨rfl, fun _ _ => rfl⟩
    exact ⟨s₁, some (.int 1), _, _, _, X0, rfl, rfl, rfl, (fun h => by cases h), ⟨1, rfl, hh0, Or.inl ⟨rfl, hs⟩⟩, fun fs hl => c2.trans (X0.ireturnOut hexec hret rfl (Or.inr (Or.inl rfl)) (hb hbytes d6) hl)⟩
  · have c2 : Steps p.tables e below (s₁.setTop (entryFrame m #[.ref x, .ref y] 3)) (s₁.setTop (mkF m 8 #[.val (.ref x), .val (.ref y), .unset] [.ref y])) := c1.trans (by
      refine acmpYes X0.here hexec rfl (pc0 := 2) rfl (hb hbytes d2) rfl rfl rfl (by simp [acmp, hxy]) (by decide) rfl ?_
      refine XS.aloadN X0.here hexec rfl (hb hbytes d7) rfl rfl ?_
      exact Steps.refl _)
    obtain ⟨T3, X3, q3, st3⟩ := cinst X0 hexec hown (wk W (.classLink "java/lang/String" 10 "java/lang/String")) (hy.mv X0.warmed.alike hh0).1 (g := (mkF m 8 #[.val (.ref x), .val (.ref y), .unset] [.ref y])) rfl (rest := []) rfl (hb hbytes d8)
    have hh3 := q3.trans hh0
    have c4 : Steps p.tables e below (s₁.setTop (entryFrame m #[.ref x, .ref y] 3)) (T3.setTop (mkF m 15 #[.val (.ref x), .val (.ref y), .unset] [.ref y])) := (c2.trans (st3 _ (Steps.refl _))).trans (by
      refine XS.ifNo X3.here hexec rfl (hb hbytes d11) rfl (i0_eq_f (by decide)) ?_
      refine XS.aloadN X3.here hexec rfl (hb hbytes d14) rfl rfl ?_
      exact Steps.refl _)
    obtain ⟨T5, X5, q5, st5⟩ := cself X3 hexec hown (wk W (.classLink "java/lang/String" 10 "java/lang/String")) (hy.mv X3.warmed.alike hh3).1 (g := (mkF m 15 #[.val (.ref x), .val (.ref y), .unset] [.ref y])) rfl (rest := []) rfl (hb hbytes d15)
    have hh5 := q5.trans hh3
    have c6 : Steps p.tables e below (s₁.setTop (entryFrame m #[.ref x, .ref y] 3)) (T5.setTop (mkF m 19 #[.val (.ref x), .val (.ref y), .val (.ref y)] [])) := (c4.trans (st5 _ (Steps.refl _))).trans (by
      refine XS.astoreN X5.here hexec rfl (hb hbytes d18) rfl rfl rfl ?_
      exact Steps.refl _)
    obtain ⟨T7, X7, q7, st7⟩ := X5.sget hexec hown (wk W (.fieldLink "java/lang/String" 38 "java/lang/String" "COMPACT_STRINGS" "Z")) s1 (fun _ _ h => by rw [hh5]; exact h) (g := (mkF m 19 #[.val (.ref x), .val (.ref y), .val (.ref y)] [])) rfl (hb hbytes d19)
    have hh7 := q7.trans hh5
    have c8 : Steps p.tables e below (s₁.setTop (entryFrame m #[.ref x, .ref y] 3)) (T7.setTop (mkF m 26 #[.val (.ref x), .val (.ref y), .val (.ref y)] [.ref x])) := (c6.trans (st7 _ (Steps.refl _))).trans (by
      refine XS.ifNo X7.here hexec rfl (hb hbytes d22) rfl (i0_eq_f hz) ?_
      refine XS.aloadN X7.here hexec rfl (hb hbytes d25) rfl rfl ?_
      exact Steps.refl _)
    obtain ⟨T9, X9, q9, st9⟩ := X7.hget hexec hown (wk W (.fieldLink "java/lang/String" 15 "java/lang/String" "coder" "B")) (hx.mv X7.warmed.alike hh7).2.2.1 (g := (mkF m 26 #[.val (.ref x), .val (.ref y), .val (.ref y)] [.ref x])) rfl (rest := []) rfl (hb hbytes d26)
    have hh9 := q9.trans hh7
    have c10 : Steps p.tables e below (s₁.setTop (entryFrame m #[.ref x, .ref y] 3)) (T9.setTop (mkF m 30 #[.val (.ref x), .val (.ref y), .val (.ref y)] [.ref y, .int cd])) := (c8.trans (st9 _ (Steps.refl _))).trans (by
      refine XS.aloadN X9.here hexec rfl (hb hbytes d29) rfl rfl ?_
      exact Steps.refl _)
    obtain ⟨T11, X11, q11, st11⟩ := X9.hget hexec hown (wk W (.fieldLink "java/lang/String" 15 "java/lang/String" "coder" "B")) (hy.mv X9.warmed.alike hh9).2.2.1 (g := (mkF m 30 #[.val (.ref x), .val (.ref y), .val (.ref y)] [.ref y, .int cd])) rfl (rest := [.int cd]) rfl (hb hbytes d30)
    have hh11 := q11.trans hh9
    have c12 : Steps p.tables e below (s₁.setTop (entryFrame m #[.ref x, .ref y] 3)) (T11.setTop (mkF m 33 #[.val (.ref x), .val (.ref y), .val (.ref y)] [.int cd', .int cd])) := c10.trans (st11 _ (Steps.refl _))
    by_cases hcd : cd = cd'
    · subst hcd
      have c13 : Steps p.tables e below (s₁.setTop (entryFrame m #[.ref x, .ref y] 3)) (T11.setTop (mkF m 37 #[.val (.ref x), .val (.ref y), .val (.ref y)] [.ref x])) := c12.trans (by
        refine XS.icmpNo X11.here hexec rfl (hb hbytes d33) rfl (ii_ne_f rfl) ?_
        refine XS.aloadN X11.here hexec rfl (hb hbytes d36) rfl rfl ?_
        exact Steps.refl _)
      obtain ⟨T14, X14, q14, st14⟩ := X11.hget hexec hown (wk W (.fieldLink "java/lang/String" 9 "java/lang/String" "value" "[B")) (hx.mv X11.warmed.alike hh11).2.1 (g := (mkF m 37 #[.val (.ref x), .val (.ref y), .val (.ref y)] [.ref x])) rfl (rest := []) rfl (hb hbytes d37)
      have hh14 := q14.trans hh11
      have c15 : Steps p.tables e below (s₁.setTop (entryFrame m #[.ref x, .ref y] 3)) (T14.setTop (mkF m 41 #[.val (.ref x), .val (.ref y), .val (.ref y)] [.ref y, .ref t])) := (c13.trans (st14 _ (Steps.refl _))).trans (by
        refine XS.aloadN X14.here hexec rfl (hb hbytes d40) rfl rfl ?_
        exact Steps.refl _)
      obtain ⟨T16, X16, q16, st16⟩ := X14.hget hexec hown (wk W (.fieldLink "java/lang/String" 9 "java/lang/String" "value" "[B")) (hy.mv X14.warmed.alike hh14).2.1 (g := (mkF m 41 #[.val (.ref x), .val (.ref y), .val (.ref y)] [.ref y, .ref t])) rfl (rest := [.ref t]) rfl (hb hbytes d41)
      have hh16 := q16.trans hh14
      have c17 : Steps p.tables e below (s₁.setTop (entryFrame m #[.ref x, .ref y] 3)) (T16.setTop (mkF m 44 #[.val (.ref x), .val (.ref y), .val (.ref y)] [.ref t', .ref t])) := c15.trans (st16 _ (Steps.refl _))
      obtain ⟨v18, T18, X18, E18, g18⟩ := X16.callS hexec (LEq.law l t V t' V') hown (wks W (staticW "java/lang/String" 541 LEq.yN)) (wk W LEq.tab) (W := 0) (Nat.le_of_ble_eq_true rfl) (Nat.le_of_ble_eq_true rfl) (Nat.le_refl _) (Nat.le_refl _) (g := (mkF m 44 #[.val (.ref x), .val (.ref y), .val (.ref y)] [.ref t', .ref t])) rfl (by rw [hml]; rfl) c17 (argsL := [.ref t, .ref t']) (rest := []) rfl rfl (by show 2 * 0 + 0 ≤ _; decide) (hb hbytes d44) (⟨rfl, hx.2.2.2.1.mv X16.warmed.alike hh16, hx.2.2.2.2.1.ty, hy.2.2.2.1.mv X16.warmed.alike hh16, hy.2.2.2.2.1.ty⟩)
      obtain ⟨v, rfl, q18, hv⟩ := E18
      have iff := Cod.eqv hx.2.2.2.2.1 hy.2.2.2.2.1 hx.2.2.2.2.2 hy.2.2.2.2.2
      rcases hv with ⟨rfl, he⟩ | ⟨rfl, he⟩
      · have c19 : Steps p.tables e below (s₁.setTop (entryFrame m #[.ref x, .ref y] 3)) (T18.setTop (mkF m 55 #[.val (.ref x), .val (.ref y), .val (.ref y)] [.int 1])) := Steps.trans g18 (by
          refine XS.ifNo X18.here hexec rfl (hb hbytes d47) rfl (i0_eq_f (by decide)) ?_
          refine iconstV X18.here hexec rfl 1 (hb hbytes d50) (by decide) ?_
          refine XS.goto X18.here hexec rfl (pc0 := 51) rfl (hb hbytes d51) (by decide) rfl ?_
          exact Steps.refl _)
        exact ⟨T18, some (.int 1), _, _, _, X18, rfl, rfl, rfl, (fun h => by cases h), ⟨1, rfl, q18.trans hh16, Or.inl ⟨rfl, iff.mp he⟩⟩, fun fs hl => c19.trans (X18.ireturnOut hexec hret rfl (Or.inr (Or.inl rfl)) (hb hbytes d55) hl)⟩
      · have c19 : Steps p.tables e below (s₁.setTop (entryFrame m #[.ref x, .ref y] 3)) (T18.setTop (mkF m 55 #[.val (.ref x), .val (.ref y), .val (.ref y)] [.int 0])) := Steps.trans g18 (by
          refine XS.ifYes X18.here hexec rfl (pc0 := 47) rfl (hb hbytes d47) rfl (i0_eq_t rfl) (by decide) rfl ?_
          refine iconstV X18.here hexec rfl 0 (hb hbytes d54) (by decide) ?_
          exact Steps.refl _)
        exact ⟨T18, some (.int 0), _, _, _, X18, rfl, rfl, rfl, (fun h => by cases h), ⟨0, rfl, q18.trans hh16, Or.inr ⟨rfl, fun q => he (iff.mpr q)⟩⟩, fun fs hl => c19.trans (X18.ireturnOut hexec hret rfl (Or.inr (Or.inl rfl)) (hb hbytes d55) hl)⟩
    · have c13 : Steps p.tables e below (s₁.setTop (entryFrame m #[.ref x, .ref y] 3)) (T11.setTop (mkF m 55 #[.val (.ref x), .val (.ref y), .val (.ref y)] [.int 0])) := c12.trans (by
        refine XS.icmpYes X11.here hexec rfl (pc0 := 33) rfl (hb hbytes d33) rfl (ii_ne_t hcd) (by decide) rfl ?_
        refine iconstV X11.here hexec rfl 0 (hb hbytes d54) (by decide) ?_
        exact Steps.refl _)
      exact ⟨T11, some (.int 0), _, _, _, X11, rfl, rfl, rfl, (fun h => by cases h), ⟨0, rfl, hh11, Or.inr ⟨rfl, Cod.dif hx.2.2.2.2.1 hy.2.2.2.2.1 hcd⟩⟩, fun fs hl => c13.trans (X11.ireturnOut hexec hret rfl (Or.inr (Or.inl rfl)) (hb hbytes d55) hl)⟩
theorem pays {l : Launch} {R : Room} {p : Program} {e : Env} {below : List Frame} {s : State} {sargs : Array Value} {len W : Nat} (x t : Addr) (V : Cell) (cd : Int32) (n : Nat) (f : Nat → Int32) (y t' : Addr) (V' : Cell) (cd' : Int32) (k : Nat) (g : Nat → Int32) (z : Int32) (htab : tab.before sargs s = true) (hfr : 2 ≤ R.frames) (hlo : W + 28 ≤ R.locals) :
    Back l R p e below s sargs yN len W (fun A₁ a₁ => A₁.cells + 0 ≤ R.cells ∧ A₁.slots + 0 ≤ R.slots ∧ P x t V cd n f y t' V' cd' k g z a₁ A₁.U) (fun A₁ _ v₁ B₁ => Says01 (SameT n f k g) v₁ A₁.U B₁.U ∧ B₁.locs = A₁.locs ++ [] ∧ B₁.cells = A₁.cells + 0 ∧ B₁.slots = A₁.slots + 0) :=
  (law l x t V cd n f y t' V' cd' k g z).pays htab hfr (by omega)
end SEq
end StrChars
namespace StrChars.Road
open Jvm Sem ClassFile Op Lib Jvm.Stand Jvm.Free Jvm.Free.XT
open Jvm.Lib.Cold (StaticIs)
/-- the words of String.equals(Object) -/
abbrev wordsEq : List Jvm.Cond := [.code SEq.yN SEq.yB 3 (some .boolean), .initialized ST, .classLink ST 10 ST, .fieldLink ST 38 ST "COMPACT_STRINGS" "Z", .fieldLink ST 15 ST "coder" "B", .fieldLink ST 9 ST "value" "[B", .methodLink ST 541 LEq.yN, .static LEq.yN, .code LEq.yN LEq.yB 3 (some .boolean), .initialized "java/lang/StringLatin1"]
theorem tabEq_of {a : Array Value} {s : State} (h : ∀ w ∈ wordsEq, w.before a s = true) : SEq.tab.before a s = true := by
  have hl : LEq.tab.before a s = true := unparts (wk h (.code LEq.yN LEq.yB 3 (some .boolean))) (wks h (.initialized LEq.yN.cls :: LEq.site))
  have q := consq hl h
  exact unparts (wk q (.code SEq.yN SEq.yB 3 (some .boolean))) (wks q (.initialized SEq.yN.cls :: SEq.site))
theorem movedEq {Z s : State} {a0 args : Array Value} (hZ : Z.Warmed39 s.vm) (hw : ∀ d ∈ wordsEq, d.before a0 Z = true) : ∀ d ∈ wordsEq, d.before args s = true := fun d hd => by
  have t : ∀ d ∈ wordsEq, (d.onTables && d.keepsFace) = true := by decide +kernel
  exact RoadKit.mv hZ (hw d hd) (t d hd)
/-- the road's facts of a String, as the laws ask it -/
theorem txt_of {Z U : State} {a0 : Array Value} {kI : Nat} (wi : (Jvm.Cond.instantiable ST kI).before a0 Z = true) (al : Z.vm.Alike U.vm) {x t : Addr} {kb : ClassId} {cs : List Int32} {cd N2 : Int32} {vs : List Value} (E : RoadKit.Exa Z U.heap x ST) (V : RoadKit.Fld Z U.heap x ST "value" "[B" (.ref t)) (C : RoadKit.Fld Z U.heap x ST "coder" "B" (.int cd)) (K : RoadKit.Arv Z U.heap t kb .byte N2 vs (.int 0)) (hc : CodA cs cd N2 vs) (hb : ∀ c ∈ cs, ¬ c < 0 ∧ ¬ (65535 : Int32) < c) (l2 : cs.length ≤ 4000) :
    ∃ A, Txt x t A cd cs.length (fun j => cs.getD j 0) U := by
  obtain ⟨A, K1, K2, K3, K4, K5, K6⟩ := K
  have hcod := hc.cod (by omega) K3 K5
  obtain ⟨D, fV, fC, hB, F1, F2, g1, g2, -, -⟩ := strObj wi al E V C
  exact ⟨A, ⟨_, hB.2.2.1, D, hB.1, rfl, by cases q : D.vm <;> first | rfl | exact absurd q (hB.2.1.2 _)⟩, Has.of hB F1 g1, Has.of hB F2 g2, ⟨K1.1, State.isArrayOf_alike al K1.2.1, K1.2.2, by rcases hcod with ⟨-, q, -⟩ | ⟨-, q, -⟩ <;> omega⟩, hcod, fun j hj => by
    have e : cs.getD j 0 = cs[j] := by simp [List.getD_eq_getElem?_getD, hj]
    show ¬ cs.getD j 0 < 0 ∧ ¬ 65535 < cs.getD j 0
    rw [e]; exact hb _ (List.getElem_mem _)⟩
theorem same_list (cs ds : List Int32) : SameT cs.length (fun j => cs.getD j 0) ds.length (fun j => ds.getD j 0) ↔ cs = ds := by
  constructor
  · rintro ⟨e, q⟩
    refine List.ext_getElem e fun j h1 h2 => ?_
    have := q j h1
    simpa [List.getD_eq_getElem?_getD, h1, h2] using this
  · rintro rfl
    exact ⟨rfl, fun _ _ => rfl⟩
/-- **equals(Object) OF TWO SUCH STRINGS**: 1 just where the chars are the same -/
theorem eqW {p : Program} {l : Launch} {e : Env} {R : Room} {s : State} {args : Array Value} {below : List Frame} {len W : Nat} {Z : State} {a0 : Array Value} {h : Heap} (hZ : Z.Warmed39 s.vm) (hw : ∀ d ∈ wordsEq, d.before a0 Z = true) {kI : Nat} (wi : (Jvm.Cond.instantiable ST kI).before a0 Z = true)
    {x t : Addr} {kb : ClassId} {cs : List Int32} {cd N2 : Int32} {vs : List Value} (E : RoadKit.Exa Z h x ST) (V : RoadKit.Fld Z h x ST "value" "[B" (.ref t)) (C : RoadKit.Fld Z h x ST "coder" "B" (.int cd)) (K : RoadKit.Arv Z h t kb .byte N2 vs (.int 0)) (hc : CodA cs cd N2 vs) (hb : ∀ c ∈ cs, ¬ c < 0 ∧ ¬ (65535 : Int32) < c) (l2 : cs.length ≤ 4000)
    {y t' : Addr} {kb' : ClassId} {ds : List Int32} {cd' N2' : Int32} {vs' : List Value} (E' : RoadKit.Exa Z h y ST) (V' : RoadKit.Fld Z h y ST "value" "[B" (.ref t')) (C' : RoadKit.Fld Z h y ST "coder" "B" (.int cd')) (K' : RoadKit.Arv Z h t' kb' .byte N2' vs' (.int 0)) (hc' : CodA ds cd' N2' vs') (hb' : ∀ c ∈ ds, ¬ c < 0 ∧ ¬ (65535 : Int32) < c) (l2' : ds.length ≤ 4000)
    {z : Int32} (S : RoadKit.Sta Z h ST "COMPACT_STRINGS" "Z" (.int z)) (hz : ¬ z = 0) (hfr : 2 ≤ R.frames) (hlo : W + 28 ≤ R.locals) :
    Back l R p e below s args (⟨"java/lang/String", "equals", "(Ljava/lang/Object;)Z"⟩ : MethodName) len W (fun P a => a = #[.ref x, .ref y] ∧ P.U.heap = h ∧ P.cells + 0 ≤ R.cells ∧ P.slots + 0 ≤ R.slots)
      (fun P _ v B => ∃ L, (((v = some (.int 1) ∧ cs = ds) ∨ (v = some (.int 0) ∧ ¬ cs = ds)) ∧ L = [] ∧ B.U.heap = h) ∧ B.locs = P.locs ++ L ∧ B.cells = P.cells + 0 ∧ B.slots = P.slots + 0) := by
  intro m meth c P g ig mk a X hg hsize hdg hW hn hp'
  obtain ⟨rfl, rfl, r1, r2⟩ := hp'
  have al : Z.vm.Alike P.U.vm := hZ.alike.trans X.warmed.alike
  obtain ⟨A, hx⟩ := txt_of wi al E V C K hc hb l2
  obtain ⟨A', hy⟩ := txt_of wi al E' V' C' K' hc' hb' l2'
  obtain ⟨v, B, X', ⟨⟨w, hv, hh, hq⟩, hl, hk, hs⟩, st⟩ := SEq.pays x t A cd cs.length (fun j => cs.getD j 0) y t' A' cd' ds.length (fun j => ds.getD j 0) z (tabEq_of (movedEq hZ hw)) hfr hlo m meth c P g ig mk _ X hg hsize hdg hW hn ⟨r1, r2, rfl, hx, hy, sta_is al S, hz⟩
  refine ⟨v, B, X', ⟨[], ⟨?_, rfl, hh⟩, hl, hk, hs⟩, st⟩
  rcases hq with ⟨rfl, q⟩ | ⟨rfl, q⟩
  · exact Or.inl ⟨hv, (same_list cs ds).mp q⟩
  · exact Or.inr ⟨hv, fun e => q ((same_list cs ds).mpr e)⟩
end StrChars.Road
namespace StrChars
open Jvm Sem ClassFile Op Lib Jvm.Stand Jvm.Free.XT Jvm.Free.ALB Jvm.Free.JM Jvm.Free
open Jvm.Lib.Cold (StaticIs)
namespace ChN
def yN : MethodName := ⟨"java/lang/String", "charAt", "(I)C"⟩
abbrev yB : ByteArray := jdk_42_method_56_code
theorem d0 : decode yB 0 = .ok (.aload_n 0, 1) := by decide +kernel
theorem d1 : decode yB 1 = .ok (.invokevirtual 492, 3) := by decide +kernel
theorem d4 : decode yB 4 = .ok (.ifCond (.eq) 12, 3) := by decide +kernel
theorem d7 : decode yB 7 = .ok (.aload_n 0, 1) := by decide +kernel
theorem d8 : decode yB 8 = .ok (.getfield 9, 3) := by decide +kernel
theorem d11 : decode yB 11 = .ok (.iload_n 1, 1) := by decide +kernel
theorem d12 : decode yB 12 = .ok (.invokestatic 495, 3) := by decide +kernel
theorem d15 : decode yB 15 = .ok (.ireturn, 1) := by decide +kernel
def site : List Cond := [.fieldLink "java/lang/String" 9 "java/lang/String" "value" "[B", IsL.tab, LChA.tab] ++ virtW "java/lang/String" 492 "java/lang/String" IsL.yN IsL.yN ++ staticW "java/lang/String" 495 LChA.yN
def tab : Cond := tabOf yN yB 2 (some .char) site
def P (x t : Addr) (V : Cell) (n : Nat) (f : Nat → Int32) (z : Int32) (fm : Value) (i : Nat) (args : Array Value) (s : State) : Prop := args = #[.ref x, .int (Int32.ofNat i)] ∧ Txt x t V 0 n f s ∧ i < n ∧ StaticIs s "java/lang/String" "COMPACT_STRINGS" "Z" (.int z) ∧ ¬ z = 0 ∧ StaticIs s "jdk/internal/util/Preconditions" "SIOOBE_FORMATTER" "Ljava/util/function/BiFunction;" fm ∧ fm.isRef = true
def E (f : Nat → Int32) (i : Nat) (r : Option Value) (s u : State) : Prop := XT.PureE (some (.int (f i))) r s u
/-- charAt(i) of a Latin-1 String of n chars, i < n: f i -/
theorem law (l : Launch) (x t : Addr) (V : Cell) (n : Nat) (f : Nat → Int32) (z : Int32) (fm : Value) (i : Nat) : Law l yN 2 1 3 40 yB 2 (some .char) site (P x t V n f z fm i) (E f i) [] 0 0 := by
  refine Law.of_walk (plainFor_of_name (by decide +kernel)) (by decide +kernel) (by decide +kernel) (by decide) (fun _ _ h => by rw [h.1]; rfl) (fun _ U U' hal hh h => ⟨h.1, h.2.1.mv hal hh, h.2.2.1, h.2.2.2.1.there hal hh, h.2.2.2.2.1, h.2.2.2.2.2.1.there hal hh, h.2.2.2.2.2.2⟩) (fun r U U' V V' h1 hal h2 h => XT.PureE.mv r U U' V V' h1 hal h2 h) ?_
  intro p e s m args below meth c s₁ X0 hexec hbytes hml hret hlk hnm hown hh0 W hP
  obtain ⟨rfl, hx, hi, s1, hz, s3, rf⟩ := hP
  have v31 := hx.2.2.2.1.2.2.2
  have hr := hx.2.2.2.2.2 i hi
  have hx0 := hx.mv X0.warmed.alike hh0
  have c1 : Steps p.tables e below (s₁.setTop (entryFrame m #[.ref x, .int (Int32.ofNat i)] 2)) (s₁.setTop (mkF m 1 #[.val (.ref x), .val (.int (Int32.ofNat i))] [.ref x])) := Steps.trans (entry rfl) (by
    show Steps p.tables e below (s₁.setTop (mkF m 0 #[.val (.ref x), .val (.int (Int32.ofNat i))] [])) _
    refine XS.aloadN X0.here hexec rfl (hb hbytes d0) rfl rfl ?_
    exact Steps.refl _)
  obtain ⟨v2, T2, X2, E2, g2⟩ := X0.callV hexec (IsL.law l x 0 z) hown (wks W (virtW "java/lang/String" 492 "java/lang/String" IsL.yN IsL.yN)) rfl (by decide) (wk W IsL.tab) (W := 0) (Nat.le_of_ble_eq_true rfl) (Nat.le_of_ble_eq_true rfl) (Nat.le_refl _) (Nat.le_refl _) (hx0.1.fc X0.warmed.alike) hx0.1.is (g := (mkF m 1 #[.val (.ref x), .val (.int (Int32.ofNat i))] [.ref x])) rfl (by rw [hml]; rfl) c1 (argsL := []) (rest := []) rfl rfl (by show 2 * 0 + 0 ≤ _; decide) (hb hbytes d1) (⟨rfl, hx0.2.2.1, hx.2.2.2.2.1.cd, s1.there X0.warmed.alike hh0, hz⟩)
  obtain ⟨rfl, q2⟩ := E2
  have hh2 := q2.trans hh0
  have hx2 := hx.mv X2.warmed.alike hh2
  obtain ⟨-, k1, k2⟩ | ⟨k0, -⟩ := hx.2.2.2.2.1
  · have c3 : Steps p.tables e below (s₁.setTop (entryFrame m #[.ref x, .int (Int32.ofNat i)] 2)) (T2.setTop (mkF m 8 #[.val (.ref x), .val (.int (Int32.ofNat i))] [.ref x])) := Steps.trans g2 (by
      refine XS.ifNo X2.here hexec rfl (hb hbytes d4) rfl (i0_eq_f (by decide)) ?_
      refine XS.aloadN X2.here hexec rfl (hb hbytes d7) rfl rfl ?_
      exact Steps.refl _)
    obtain ⟨T4, X4, q4, st4⟩ := X2.hget hexec hown (wk W (.fieldLink "java/lang/String" 9 "java/lang/String" "value" "[B")) hx2.2.1 (g := (mkF m 8 #[.val (.ref x), .val (.int (Int32.ofNat i))] [.ref x])) rfl (rest := []) rfl (hb hbytes d8)
    have hh4 := q4.trans hh2
    have c5 : Steps p.tables e below (s₁.setTop (entryFrame m #[.ref x, .int (Int32.ofNat i)] 2)) (T4.setTop (mkF m 12 #[.val (.ref x), .val (.int (Int32.ofNat i))] [.int (Int32.ofNat i), .ref t])) := (c3.trans (st4 _ (Steps.refl _))).trans (by
      refine XS.iloadN X4.here hexec rfl (hb hbytes d11) rfl ?_
      exact Steps.refl _)
    obtain ⟨v6, T6, X6, E6, g6⟩ := X4.callS hexec (LChA.law l t V i (lo8 (f i)) fm) hown (wks W (staticW "java/lang/String" 495 LChA.yN)) (wk W LChA.tab) (W := 0) (Nat.le_of_ble_eq_true rfl) (Nat.le_of_ble_eq_true rfl) (Nat.le_refl _) (Nat.le_refl _) (g := (mkF m 12 #[.val (.ref x), .val (.int (Int32.ofNat i))] [.int (Int32.ofNat i), .ref t])) rfl (by rw [hml]; rfl) c5 (argsL := [.ref t, .int (Int32.ofNat i)]) (rest := []) rfl rfl (by show 2 * 0 + 0 ≤ _; decide) (hb hbytes d12) (⟨rfl, hx.2.2.2.1.mv X4.warmed.alike hh4, (k2 i hi).1, s3.there X4.warmed.alike hh4, rf⟩)
    obtain ⟨rfl, q6⟩ := E6
    rw [chr8_lo8 hr.1 (k2 i hi).2] at g6
    exact ⟨T6, some (.int (f i)), _, _, _, X6, rfl, rfl, rfl, (fun h => by cases h), ⟨rfl, q6.trans hh4⟩, fun fs hl => Steps.trans g6 (X6.ireturnOut hexec hret (narrow_ch hr.1 hr.2) (Or.inr (Or.inr (Or.inr (Or.inl rfl)))) (hb hbytes d15) hl)⟩
  · exact absurd k0 (by decide)
theorem pays {l : Launch} {R : Room} {p : Program} {e : Env} {below : List Frame} {s : State} {sargs : Array Value} {len W : Nat} (x t : Addr) (V : Cell) (n : Nat) (f : Nat → Int32) (z : Int32) (fm : Value) (i : Nat) (htab : tab.before sargs s = true) (hfr : 4 ≤ R.frames) (hlo : W + 53 ≤ R.locals) :
    Back l R p e below s sargs yN len W (fun A₁ a₁ => A₁.cells + 0 ≤ R.cells ∧ A₁.slots + 0 ≤ R.slots ∧ P x t V n f z fm i a₁ A₁.U) (fun A₁ _ v₁ B₁ => E f i v₁ A₁.U B₁.U ∧ B₁.locs = A₁.locs ++ [] ∧ B₁.cells = A₁.cells + 0 ∧ B₁.slots = A₁.slots + 0) :=
  (law l x t V n f z fm i).pays htab hfr (by omega)
end ChN
end StrChars
namespace StrChars.Road
open Jvm Sem ClassFile Op Lib Jvm.Stand Jvm.Free Jvm.Free.XT
open Jvm.Lib.Cold (StaticIs)
/-- the words of String.charAt(int), the Latin-1 road alone -/
abbrev wordsChN : List Jvm.Cond := [.code ChN.yN ChN.yB 2 (some .char), .initialized ST, .fieldLink ST 9 ST "value" "[B", .fieldLink ST 38 ST "COMPACT_STRINGS" "Z", .fieldLink ST 15 ST "coder" "B", .code IsL.yN IsL.yB 1 (some .boolean), .methodLink ST 492 IsL.yN, .declares IsL.yN, .selects ST IsL.yN IsL.yN, .instanceMethod IsL.yN,
  .methodLink ST 495 LChA.yN, .static LChA.yN, .code LChA.yN LChA.yB 2 (some .char), .initialized "java/lang/StringLatin1", .methodLink "java/lang/StringLatin1" 9 JO.Str_checkIndex.yN, .static JO.Str_checkIndex.yN, .code JO.Str_checkIndex.yN JO.Str_checkIndex.yB 2 none,
  .fieldLink ST 1053 "jdk/internal/util/Preconditions" "SIOOBE_FORMATTER" "Ljava/util/function/BiFunction;", .methodLink ST 1059 JC.PreCheck.yN, .static JC.PreCheck.yN, .code JC.PreCheck.yN JC.PreCheck.yB 3 (some .int), .initialized "jdk/internal/util/Preconditions"]
theorem tabChN_of {a : Array Value} {s : State} (h : ∀ w ∈ wordsChN, w.before a s = true) : ChN.tab.before a s = true := by
  have hp : JC.PreCheck.tab.before a s = true := unparts (wk h (.code JC.PreCheck.yN JC.PreCheck.yB 3 (some .int))) (wks h (.initialized JC.PreCheck.yN.cls :: JC.PreCheck.site))
  have qk := consq hp h
  have hk : JO.Str_checkIndex.tab.before a s = true := unparts (wk qk (.code JO.Str_checkIndex.yN JO.Str_checkIndex.yB 2 none)) (wks qk (.initialized JO.Str_checkIndex.yN.cls :: JO.Str_checkIndex.site))
  have ql := consq hk h
  have hl : LChA.tab.before a s = true := unparts (wk ql (.code LChA.yN LChA.yB 2 (some .char))) (wks ql (.initialized LChA.yN.cls :: LChA.site))
  have hi : IsL.tab.before a s = true := unparts (wk h (.code IsL.yN IsL.yB 1 (some .boolean))) (wks h (.initialized IsL.yN.cls :: IsL.site))
  have q := consq hi (consq hl h)
  exact unparts (wk q (.code ChN.yN ChN.yB 2 (some .char))) (wks q (.initialized ChN.yN.cls :: ChN.site))
theorem movedChN {Z s : State} {a0 args : Array Value} (hZ : Z.Warmed39 s.vm) (hw : ∀ d ∈ wordsChN, d.before a0 Z = true) : ∀ d ∈ wordsChN, d.before args s = true := fun d hd => by
  have t : ∀ d ∈ wordsChN, (d.onTables && d.keepsFace) = true := by decide +kernel
  exact RoadKit.mv hZ (hw d hd) (t d hd)
/-- **charAt(i) OF A LATIN-1 STRING**, i < n: the char -/
theorem chN {p : Program} {l : Launch} {e : Env} {R : Room} {s : State} {args : Array Value} {below : List Frame} {len W : Nat} {Z : State} {a0 : Array Value} {h : Heap} (hZ : Z.Warmed39 s.vm) (hw : ∀ d ∈ wordsChN, d.before a0 Z = true) {kI : Nat} (wi : (Jvm.Cond.instantiable ST kI).before a0 Z = true)
    {x t : Addr} {kb : ClassId} {cs : List Int32} {N2 z : Int32} {vs : List Value} {fm : Value} {i : Nat} {j : Int32} (E : RoadKit.Exa Z h x ST) (V : RoadKit.Fld Z h x ST "value" "[B" (.ref t)) (C : RoadKit.Fld Z h x ST "coder" "B" (.int 0)) (K : RoadKit.Arv Z h t kb .byte N2 vs (.int 0)) (hc : CodA cs 0 N2 vs) (hb : ∀ c ∈ cs, ¬ c < 0 ∧ ¬ (65535 : Int32) < c)
    (S : RoadKit.Sta Z h ST "COMPACT_STRINGS" "Z" (.int z)) (hz : ¬ z = 0) (F : RoadKit.Sta Z h "jdk/internal/util/Preconditions" "SIOOBE_FORMATTER" "Ljava/util/function/BiFunction;" fm) (rf : fm.isRef = true) (l2 : cs.length ≤ 4000) (hi : i < cs.length) (hj : j = Int32.ofNat i) (hfr : 4 ≤ R.frames) (hlo : W + 53 ≤ R.locals) :
    Back l R p e below s args (⟨"java/lang/String", "charAt", "(I)C"⟩ : MethodName) len W (fun P a => a = #[.ref x, .int j] ∧ P.U.heap = h ∧ P.cells + 0 ≤ R.cells ∧ P.slots + 0 ≤ R.slots)
      (fun P _ v B => ∃ L, (v = some (.int (cs.getD i 0)) ∧ L = [] ∧ B.U.heap = h) ∧ B.locs = P.locs ++ L ∧ B.cells = P.cells + 0 ∧ B.slots = P.slots + 0) := by
  subst hj
  intro m meth c P g ig mk a X hg hsize hdg hW hn hp'
  obtain ⟨rfl, rfl, r1, r2⟩ := hp'
  have al : Z.vm.Alike P.U.vm := hZ.alike.trans X.warmed.alike
  obtain ⟨A, hx⟩ := txt_of wi al E V C K hc hb l2
  obtain ⟨v, B, X', ⟨⟨hv, hh⟩, hl, hk, hs⟩, st⟩ := ChN.pays x t A cs.length (fun j => cs.getD j 0) z fm i (tabChN_of (movedChN hZ hw)) hfr hlo m meth c P g ig mk _ X hg hsize hdg hW hn ⟨r1, r2, rfl, hx, hi, sta_is al S, hz, sta_is al F, rf⟩
  exact ⟨v, B, X', ⟨[], ⟨hv, rfl, hh⟩, hl, hk, hs⟩, st⟩
/-- what backV says of its String, as the contracts of this text ask it: cs's low bytes, coder 0 -/
theorem codOf {cs : List Int32} {n : Nat} (hn : cs.length = n) (hb : ∀ c ∈ cs, ¬ 255 < c) : CodA cs 0 (Int32.ofNat n) ((cs.map lo8).map Value.int) := Or.inl ⟨rfl, by rw [hn], by simp [List.map_map, Function.comp_def], hb⟩
end StrChars.Road
end Jvm.Pilot.@@N@@
set_option maxRecDepth 65536
set_option maxHeartbeats 40000000
namespace Jvm.Pilot.@@N@@
open Jvm Jvm.ClassFile Sem Op Lib Jvm.Free Jvm.Stand Jvm.LawKit Jvm.RoadKit Bundle Jvm.Own Jvm.Pilot.@@N@@.Jvm.D
theorem pn_0 : plainName "java/lang/String" = true := by first | (simp [plainName, overriddenIn]; done) | decide +kernel
theorem pd_0 : parseMethodDescriptor "([CIILjava/lang/Void;)V" = some ⟨[(.array .char), .int, .int, (.object "java/lang/Void")], none⟩ := by decide +kernel
theorem pd_1 : parseMethodDescriptor "([C)V" = some ⟨[(.array .char)], none⟩ := by decide +kernel
theorem pn_1 : plainName "com/example/nimeton/nimeton/cli/LoggingVerbosePinLaw" = true := by first | (simp [plainName, overriddenIn]; done) | decide +kernel
theorem pd_2 : parseMethodDescriptor "(JJI)C" = some ⟨[.long, .long, .int], some .char⟩ := by decide +kernel
theorem pd_3 : parseMethodDescriptor "(IIJJI)C" = some ⟨[.int, .int, .long, .long, .int], some .char⟩ := by decide +kernel
theorem pd_4 : parseMethodDescriptor "(I)C" = some ⟨[.int], some .char⟩ := by decide +kernel
theorem pd_5 : parseMethodDescriptor "(I)Ljava/lang/String;" = some ⟨[.int], some (.object "java/lang/String")⟩ := by decide +kernel
theorem pn_2 : plainName "com/example/nimeton/nimeton/cli/Logging" = true := by first | (simp [plainName, overriddenIn]; done) | decide +kernel
theorem pd_6 : parseMethodDescriptor "([Ljava/lang/String;)Z" = some ⟨[(.array (.object "java/lang/String"))], some .boolean⟩ := by decide +kernel
theorem pd_7 : parseMethodDescriptor "(Ljava/lang/Object;)Z" = some ⟨[(.object "java/lang/Object")], some .boolean⟩ := by decide +kernel

def Str (V : Vw) (h : Heap) (m : Nat) (x : Nat) (cs : List Int32) : Prop := ∃ (t : Nat) (kb : ClassId) (cd N2 : Int32) (vs : List Value), x < m ∧ t < m ∧ m ≤ h.size ∧ Exa V.Z h x "java/lang/String" ∧ Fld V.Z h x "java/lang/String" "value" "[B" (.ref t) ∧ Fld V.Z h x "java/lang/String" "coder" "B" (.int cd) ∧ Arv V.Z h t kb .byte N2 vs (.int 0) ∧ StrChars.Road.CodA cs cd N2 vs ∧ (∀ c ∈ cs, ¬ c < 0 ∧ ¬ (65535 : Int32) < c) ∧ cs.length ≤ 4000
theorem Str.ext {V : Vw} {h h' : Heap} {m : Nat} {x : Nat} {cs : List Int32} (E : Ext h h') (S : Str V h m x cs) : Str V h' m x cs := by
  obtain ⟨t, kb, cd, N2, vs, a1, a2, a3, a4, a5, a6, a7, a8⟩ := S
  exact ⟨t, kb, cd, N2, vs, a1, a2, Nat.le_trans a3 E.1, a4.ext E, a5.ext E, a6.ext E, a7.ext E, a8⟩
theorem Str.up {V : Vw} {h : Heap} {m m' : Nat} {x : Nat} {cs : List Int32} (S : Str V h m x cs) (q : m ≤ m') (r : m' ≤ h.size) : Str V h m' x cs := by
  obtain ⟨t, kb, cd, N2, vs, a1, a2, a3, a8⟩ := S
  exact ⟨t, kb, cd, N2, vs, by omega, by omega, r, a8⟩
theorem Str.keep {V : Vw} {h h' : Heap} {ws : List Addr} {m : Nat} {x : Nat} {cs : List Int32} (K : Keep h h' ws) (q : ∀ w ∈ ws, m ≤ w) (S : Str V h m x cs) : Str V h' m x cs := by
  obtain ⟨t, kb, cd, N2, vs, a1, a2, a3, a4, a5, a6, a7, a8⟩ := S
  have nx : x ∉ ws := fun z => absurd (q x z) (by omega)
  have nt : t ∉ ws := fun z => absurd (q t z) (by omega)
  exact ⟨t, kb, cd, N2, vs, a1, a2, Nat.le_trans a3 K.1, a4.keep K, a5.keep K nx, a6.keep K nx, a7.keep K nt, a8⟩
theorem Str.keepE {V : Vw} {h h' : Heap} {a : Nat} {C : String} {n m : Nat} {x : Nat} {cs : List Int32} (K : Keep h h' [a]) (E : Exa V.Z h a C) (hC : C ≠ "java/lang/String") (wi : (Jvm.Cond.instantiable C n).before V.a0 V.Z = true) (S : Str V h m x cs) : Str V h' m x cs := by
  obtain ⟨t, kb, cd, N2, vs, a1, a2, a3, a4, a5, a6, a7, a8⟩ := S
  have nx : x ∉ [a] := ninS (a4.ne E (Ne.symm hC)) nin0
  have nt : t ∉ [a] := ninS (Ne.symm (E.neArv a7 wi)) nin0
  exact ⟨t, kb, cd, N2, vs, a1, a2, Nat.le_trans a3 K.1, a4.keep K, a5.keep K nx, a6.keep K nx, a7.keep K nt, a8⟩
theorem Arr.neTy {Z : State} {h : Heap} {a b : Nat} {c d : Cell} {ty ty' : FieldType} (A : RoadKit.Arr Z h a c ty) (D : RoadKit.Arr Z h b d ty') (q : ty ≠ ty') : a ≠ b := fun e => by
  subst e
  cases A.1.symm.trans D.1
  obtain ⟨-, k1, h1, c1, g1⟩ := A.2.1
  obtain ⟨-, k2, h2, c2, g2⟩ := D.2.1
  cases h1.symm.trans h2
  rw [g1] at g2
  injection g2 with _ g3
  exact q g3
theorem Str.keepA {V : Vw} {h h' : Heap} {a : Nat} {k : ClassId} {ty : FieldType} {z : Int32} {us : List Value} {dv : Value} {n m : Nat} {x : Nat} {cs : List Int32} (K : Keep h h' [a]) (A : Arv V.Z h a k ty z us dv) (hty : ty ≠ .byte) (wi : (Jvm.Cond.instantiable "java/lang/String" n).before V.a0 V.Z = true) (S : Str V h m x cs) : Str V h' m x cs := by
  obtain ⟨t, kb, cd, N2, vs, a1, a2, a3, a4, a5, a6, a7, a8⟩ := S
  have nx : x ∉ [a] := ninS (a4.neArv A wi) nin0
  have nt : t ∉ [a] := ninS (fun e => by obtain ⟨c1, A1, -⟩ := A; obtain ⟨c2, A2, -⟩ := a7; exact Arr.neTy A1 A2 hty e.symm) nin0
  exact ⟨t, kb, cd, N2, vs, a1, a2, Nat.le_trans a3 K.1, a4.keep K, a5.keep K nx, a6.keep K nx, a7.keep K nt, a8⟩
theorem Str.exa {V : Vw} {h : Heap} {m : Nat} {x : Nat} {cs : List Int32} (S : Str V h m x cs) : Exa V.Z h x "java/lang/String" := by
  obtain ⟨t, kb, cd, N2, vs, a1, a2, a3, a4, -⟩ := S; exact a4
theorem Str.lt {V : Vw} {h : Heap} {m : Nat} {x : Nat} {cs : List Int32} (S : Str V h m x cs) : x < m ∧ m ≤ h.size := by
  obtain ⟨t, kb, cd, N2, vs, a1, a2, a3, a4, -⟩ := S; exact ⟨a1, a3⟩
theorem up16 {cs : List Int32} (h : ∀ c ∈ cs, By c) : ∀ c ∈ cs, ¬ c < 0 ∧ ¬ (65535 : Int32) < c := fun c hc => ⟨(h c hc).1, fun q => (h c hc).2 (by
  rw [Int32.lt_iff_toInt_lt] at q ⊢; have e1 : (65535 : Int32).toInt = 65535 := rfl; have e2 : (255 : Int32).toInt = 255 := rfl; omega)⟩

def Qsm (q : Prop) (h0 : Heap) : Qt := fun v h _ => ∃ b : Int32, v = some (.int b) ∧ h = h0 ∧ (b = 1 ∧ q ∨ b = 0 ∧ ¬ q)
theorem bt {b : Int32} {q : Prop} (h : b = 1 ∧ q ∨ b = 0 ∧ ¬ q) (c : ¬ b = 0) : q := h.elim (fun x => x.2) (fun x => absurd x.1 c)
theorem bf {b : Int32} {q : Prop} (h : b = 1 ∧ q ∨ b = 0 ∧ ¬ q) (c : b = 0) : ¬ q := h.elim (fun x => absurd (x.1.symm.trans c) (by decide)) (fun x => x.2)
theorem beq {b c : Int32} {q r : Prop} (h : b = 1 ∧ q ∨ b = 0 ∧ ¬ q) (k : c = 1 ∧ r ∨ c = 0 ∧ ¬ r) (e : q ↔ r) : b = c := by
  rcases h with ⟨rfl, x⟩ | ⟨rfl, x⟩ <;> rcases k with ⟨rfl, y⟩ | ⟨rfl, y⟩ <;> first | rfl | exact absurd (e.mp x) y | exact absurd (e.mpr y) x
theorem bnar {b : Int32} {q : Prop} (h : b = 1 ∧ q ∨ b = 0 ∧ ¬ q) : RoadKit.nar .boolean b = b := by rcases h with ⟨rfl, x⟩ | ⟨rfl, x⟩ <;> rfl
def Qmk (V : Vw) (cs : List Int32) (h0 : Heap) : Qt := fun v h _ => ∃ x : Nat, v = some (.ref x) ∧ Ext h0 h ∧ Str V h h.size x cs
theorem Keep.ext0 {h h1 h2 : Heap} {ws : List Addr} (E : Ext h h1) (K : Keep h1 h2 ws) (q : ∀ w ∈ ws, h.size ≤ w) : Ext h h2 := ⟨Nat.le_trans E.1 K.1, fun a c hc => K.2.1 a c (E.2 a c hc) fun z => absurd (Array.getElem?_eq_some_iff.mp hc).1 (Nat.not_lt.mpr (q a z))⟩
theorem Ext.wr0 {h h1 h2 : Heap} {a : Nat} {j : Nat} {v : Value} (E : Ext h h1) (W : Wr h1 h2 a j v) (q : h.size ≤ a) : Ext h h2 := Keep.ext0 E (Keep.of_wr W) (fun w hw => by cases List.mem_singleton.mp hw; exact q)
theorem Ext.refl0 (h : Heap) : Ext h h := ⟨Nat.le_refl _, fun _ _ q => q⟩
theorem nby {c : Int32} (h : By c) : RoadKit.nar .char c = c := by
  have f := c_i2c c
  obtain ⟨a, b⟩ := h
  rw [Int32.lt_iff_toInt_lt] at a b
  have e0 : (0 : Int32).toInt = 0 := rfl
  have e1 : (255 : Int32).toInt = 255 := rfl
  show c.toUInt32.toUInt16.toUInt32.toInt32 = c
  rw [← Int32.toInt_inj]; omega
theorem by0 : ∀ c ∈ ([] : List Int32), By c := fun _ q => nomatch q
theorem by1 {a : Int32} (h : By a) : ∀ c ∈ [a], By c := fun c hc => by cases List.mem_singleton.mp hc; exact h
theorem byS {a : Int32} {l : List Int32} (h : By a) (t : ∀ c ∈ l, By c) : ∀ c ∈ a :: l, By c := fun c hc => by rcases List.mem_cons.mp hc with rfl | hc; exact h; exact t c hc
def Qn (V : Vw) (x : Nat) (cs : List Int32) (h0 : Heap) : Qt := fun v h _ => v = none ∧ Keep h0 h [x] ∧ Str V h h.size x cs
theorem wds (V : Vw) (hw : ∀ d ∈ tables_1, d.before V.a0 V.Z = true) (ws : List Jvm.Cond) (h : ∀ d ∈ ws, d ∈ tables_1) : ∀ d ∈ ws, d.before V.a0 V.Z = true := fun d hd => hw d (h d hd)
theorem pay_newN (V : Vw) (hw : ∀ d ∈ tables_1, d.before V.a0 V.Z = true) (K : Cx) (B : Bx) (W : Nat) (x b : Nat) (kC : ClassId) (cs : List Int32) (N : Int32) (h : Heap) (ps : List Addr) (d v0 c0 : Value) (zx : V.Z.heap.size ≤ x) (zh : V.Z.heap.size ≤ h.size) (E : Exa V.Z h x "java/lang/String") (Fv : Fld V.Z h x "java/lang/String" "value" "[B" v0) (Fc : Fld V.Z h x "java/lang/String" "coder" "B" c0) (A : Arv V.Z h b kC .char N (cs.map Value.int) d) (O : Ext V.Z.heap h) (cz : Int32) (hCS : Sta V.Z V.Z.heap "java/lang/String" "COMPACT_STRINGS" "Z" (.int cz)) (hcz : ¬ cz = 0) (hN : N = Int32.ofNat cs.length) (l0 : 0 < cs.length) (l2 : cs.length ≤ 4000) (hp : ∀ c ∈ cs, By c) (hxp : x ∈ ps) (hfr : 4 ≤ B.R.frames) (hlo : W + 65 ≤ B.R.locals) :
    Pays V K B (⟨"java/lang/String", "<init>", "([C)V"⟩ : MethodName) 3 W #[.ref x, .ref b] h ps 1 cs.length (Qn V x cs h) :=
  Pays.back (ws := [x]) (fun s hZ => StrChars.Road.backV (W := W) hZ (wds V hw _ (by decide +kernel)) (kI := 4) (wd hw 11 rfl) (cs := cs) (bs := cs.map (fun c => c.toInt8.toInt32)) (n := cs.length) zx zh E Fv Fc A (hCS.ext O) hcz rfl hN l0 l2 hp rfl hfr hlo)
    (fun v h' L q => by
      obtain ⟨q1, q2, q3, q4, q5, t, kb, q6, q7, q8, q9, q10⟩ := q
      exact ⟨q2, q3, q1, q3, t, kb, 0, N, _, q4.lt, q10.lt, Nat.le_refl _, q4, q9, q5, q10, Or.inl ⟨rfl, hN, by simp [List.map_map, Function.comp_def, StrChars.lo8], fun c hc => (hp c hc).2⟩, up16 hp, l2⟩)
    (by simpa using zx) (fun vm al P y hy => by cases List.mem_singleton.mp hy; exact (P _ hxp).2)
theorem satoms (V : Vw) (hw : ∀ d ∈ tables_1, d.before V.a0 V.Z = true) : ∀ a ∈ Bundle.stringAtoms, a.before V.a0 V.Z = true := wds V hw _ (by decide +kernel)
theorem d0_0 : decode jdk_42_method_149_code 0 = .ok (.aload_n 0, 1) := by decide +kernel
theorem d0_1 : decode jdk_42_method_149_code 1 = .ok (.invokespecial 1, 3) := by decide +kernel
theorem d0_4 : decode jdk_42_method_149_code 4 = .ok (.iload_n 3, 1) := by decide +kernel
theorem d0_5 : decode jdk_42_method_149_code 5 = .ok (.ifCond .ne 22, 3) := by decide +kernel
theorem d0_8 : decode jdk_42_method_149_code 8 = .ok (.aload_n 0, 1) := by decide +kernel
theorem d0_9 : decode jdk_42_method_149_code 9 = .ok (.ldc 7, 2) := by decide +kernel
theorem d0_11 : decode jdk_42_method_149_code 11 = .ok (.getfield 9, 3) := by decide +kernel
theorem d0_14 : decode jdk_42_method_149_code 14 = .ok (.putfield 9, 3) := by decide +kernel
theorem d0_17 : decode jdk_42_method_149_code 17 = .ok (.aload_n 0, 1) := by decide +kernel
theorem d0_18 : decode jdk_42_method_149_code 18 = .ok (.ldc 7, 2) := by decide +kernel
theorem d0_20 : decode jdk_42_method_149_code 20 = .ok (.getfield 15, 3) := by decide +kernel
theorem d0_23 : decode jdk_42_method_149_code 23 = .ok (.putfield 15, 3) := by decide +kernel
theorem d0_26 : decode jdk_42_method_149_code 26 = .ok (.return_, 1) := by decide +kernel
theorem d0_27 : decode jdk_42_method_149_code 27 = .ok (.getstatic 38, 3) := by decide +kernel
theorem d0_30 : decode jdk_42_method_149_code 30 = .ok (.ifCond .eq 28, 3) := by decide +kernel
theorem d0_33 : decode jdk_42_method_149_code 33 = .ok (.aload_n 1, 1) := by decide +kernel
theorem d0_34 : decode jdk_42_method_149_code 34 = .ok (.iload_n 2, 1) := by decide +kernel
theorem d0_35 : decode jdk_42_method_149_code 35 = .ok (.iload_n 3, 1) := by decide +kernel
theorem d0_36 : decode jdk_42_method_149_code 36 = .ok (.invokestatic 177, 3) := by decide +kernel
theorem d0_39 : decode jdk_42_method_149_code 39 = .ok (.astore 5, 2) := by decide +kernel
theorem d0_41 : decode jdk_42_method_149_code 41 = .ok (.aload_n 0, 1) := by decide +kernel
theorem d0_42 : decode jdk_42_method_149_code 42 = .ok (.aload 5, 2) := by decide +kernel
theorem d0_44 : decode jdk_42_method_149_code 44 = .ok (.iload_n 3, 1) := by decide +kernel
theorem d0_45 : decode jdk_42_method_149_code 45 = .ok (.invokestatic 47, 3) := by decide +kernel
theorem d0_48 : decode jdk_42_method_149_code 48 = .ok (.putfield 15, 3) := by decide +kernel
theorem d0_51 : decode jdk_42_method_149_code 51 = .ok (.aload_n 0, 1) := by decide +kernel
theorem d0_52 : decode jdk_42_method_149_code 52 = .ok (.aload 5, 2) := by decide +kernel
theorem d0_54 : decode jdk_42_method_149_code 54 = .ok (.putfield 9, 3) := by decide +kernel
theorem d0_57 : decode jdk_42_method_149_code 57 = .ok (.return_, 1) := by decide +kernel
theorem d0_58 : decode jdk_42_method_149_code 58 = .ok (.aload_n 0, 1) := by decide +kernel
theorem d0_59 : decode jdk_42_method_149_code 59 = .ok (.iconst 1, 1) := by decide +kernel
theorem d0_60 : decode jdk_42_method_149_code 60 = .ok (.putfield 15, 3) := by decide +kernel
theorem d0_63 : decode jdk_42_method_149_code 63 = .ok (.aload_n 0, 1) := by decide +kernel
theorem d0_64 : decode jdk_42_method_149_code 64 = .ok (.aload_n 1, 1) := by decide +kernel
theorem d0_65 : decode jdk_42_method_149_code 65 = .ok (.iload_n 2, 1) := by decide +kernel
theorem d0_66 : decode jdk_42_method_149_code 66 = .ok (.iload_n 3, 1) := by decide +kernel
theorem d0_67 : decode jdk_42_method_149_code 67 = .ok (.invokestatic 180, 3) := by decide +kernel
theorem d0_70 : decode jdk_42_method_149_code 70 = .ok (.putfield 9, 3) := by decide +kernel
theorem d0_73 : decode jdk_42_method_149_code 73 = .ok (.return_, 1) := by decide +kernel
abbrev b_new4 : Bx := (⟨"java/lang/String", "<init>", "([CIILjava/lang/Void;)V"⟩, jdk_42_method_149_code, 6, none, { frames := 1, cells := 2, slots := 4, locals := 24 })
theorem c_new4e (V : Vw) (hw : ∀ d ∈ tables_1, d.before V.a0 V.Z = true) (hm : ("java/lang/String", 7) ∈ V.EL) (hn : V.nar = false) (x b : Nat) (h : Heap) (ps : List Addr) (zx : V.Z.heap.size ≤ x) (hxp : x ∈ ps) (E : Exa V.Z h x "java/lang/String") (Fv : Fld V.Z h x "java/lang/String" "value" "[B" .null) (Fc : Fld V.Z h x "java/lang/String" "coder" "B" (.int 0)) : Con V b_new4 #[.ref x, .ref b, .int 0, .int 0, .null] h ps (Qn V x [] h) := Con.of (plainFor_of_name pn_0) (L := [.val (.ref x), .val (.ref b), .val (.int (0 : Int32)), .val (.int (0 : Int32)), .val (.null), .unset]) rfl fun K => by
  have lx := ltN E.lt
  refine r_aloadN 1 rfl d0_0 rfl rfl ?_
  refine r_initO 0 4 rfl d0_1 (wd hw 55 rfl) (wd hw 56 rfl) (wd hw 57 rfl) rfl (by decide) (Nat.le_of_eq rfl) (by decide) ?_
  refine r_iloadN 5 rfl d0_4 rfl ?_
  refine r_if_ne 27 8 d0_5 (by decide) rfl rfl (fun c1 => ?_) (fun c1 => ?_)
  · exact absurd rfl c1
  refine r_aloadN 9 rfl d0_8 rfl rfl ?_
  refine r_ldcSL [] (0 : Int32) 0 11 rfl d0_9 (wd hw 85 rfl) (satoms V hw) hm hn (by decide) (by decide) rfl (by decide) (by decide) (by decide) (by decide) fun a2 b3 k4 h5 Eh5 Xh5 Ch5 Yh5 Ah5 Nh5 => ?_
  have f6 := Exa.ext Eh5 E
  have f7 := Fld.ext Eh5 Fv
  have f8 := Fld.ext Eh5 Fc
  have sh5 := Eh5.1
  have la2 := ltN Xh5.lt
  have lb3 := ltN Ah5.lt
  have n1xh5 := neN (Nh5 _ hxp).1
  have n2xh5 := neN (Nh5 _ hxp).2
  refine rL_getfield 14 rfl d0_11 (wd hw 29 rfl) Yh5 ?_
  refine rL_putfield 17 rfl d0_14 (wd hw 29 rfl) f7 f6 (Or.inr ⟨wd hw 13 rfl, rfl, rfl⟩) (wd hw 11 rfl) (ty := (.array .byte)) (by decide) rfl rfl zx (Or.inr hxp) fun h9 Wh9 => ?_
  have sh9 := Wh9.size
  have f10 := Exa.wr Wh9 f6
  have f11 := Fld.same Wh9 f7
  have f12 := Fld.other Wh9 f8 (Or.inr (slot_ne (C := "java/lang/String") (Or.inr (wd hw 14 rfl)) (Or.inr (wd hw 13 rfl)) (by decide) (t := .byte) (by decide) (t' := (.array .byte)) (by decide)))
  have f13 := Exa.wr Wh9 Xh5
  have f14 := Fld.other Wh9 Ch5 (Or.inl (neA (by omega)))
  have f15 := Fld.other Wh9 Yh5 (Or.inl (neA (by omega)))
  have f16 := Arv.other Ah5 Wh9 (neA (by omega))
  refine rL_aloadN 18 rfl d0_17 rfl rfl ?_
  refine rL_again 20 rfl d0_18 (wd hw 85 rfl) ?_
  refine r_getfield 23 rfl d0_20 (wd hw 28 rfl) f14 ?_
  refine r_putfield 26 rfl d0_23 (wd hw 28 rfl) f12 f10 (Or.inr ⟨wd hw 14 rfl, rfl, rfl⟩) (wd hw 11 rfl) (ty := .byte) (by decide) (by decide) (by decide) zx (Or.inr hxp) fun h17 Wh17 => ?_
  have sh17 := Wh17.size
  have f18 := Exa.wr Wh17 f10
  have f19 := Fld.other Wh17 f11 (Or.inr (slot_ne (C := "java/lang/String") (Or.inr (wd hw 13 rfl)) (Or.inr (wd hw 14 rfl)) (by decide) (t := (.array .byte)) (by decide) (t' := .byte) (by decide)))
  have f20 := Fld.same Wh17 f12
  have f21 := Exa.wr Wh17 f13
  have f22 := Fld.other Wh17 f14 (Or.inl (neA (by omega)))
  have f23 := Fld.other Wh17 f15 (Or.inl (neA (by omega)))
  have f24 := Arv.other f16 Wh17 (neA (by omega))
  have KK : Keep h h17 [x] := (((Keep.refl _ _).ext Eh5).wr Wh9 (Or.inl (by simp))).wr Wh17 (Or.inl (by simp))
  refine r_ret rfl d0_26 (by decide) (by decide) [] (fun _ q => nomatch q) ?_
  exact ⟨rfl, KK, b3, _, 0, 0, [], f18.lt, f24.lt, Nat.le_refl _, f18, f19, f20, f24, Or.inl ⟨rfl, rfl, rfl, fun _ q => nomatch q⟩, (fun _ q => nomatch q), by decide⟩
theorem d1_0 : decode jdk_42_method_3_code 0 = .ok (.aload_n 0, 1) := by decide +kernel
theorem d1_1 : decode jdk_42_method_3_code 1 = .ok (.aload_n 1, 1) := by decide +kernel
theorem d1_2 : decode jdk_42_method_3_code 2 = .ok (.iconst 0, 1) := by decide +kernel
theorem d1_3 : decode jdk_42_method_3_code 3 = .ok (.aload_n 1, 1) := by decide +kernel
theorem d1_4 : decode jdk_42_method_3_code 4 = .ok (.arraylength, 1) := by decide +kernel
theorem d1_5 : decode jdk_42_method_3_code 5 = .ok (.aconst_null, 1) := by decide +kernel
theorem d1_6 : decode jdk_42_method_3_code 6 = .ok (.invokespecial 27, 3) := by decide +kernel
theorem d1_9 : decode jdk_42_method_3_code 9 = .ok (.return_, 1) := by decide +kernel
abbrev b_new1 : Bx := (⟨"java/lang/String", "<init>", "([C)V"⟩, jdk_42_method_3_code, 2, none, { frames := 2, cells := 2, slots := 4, locals := 44 })
theorem c_new1e (V : Vw) (hw : ∀ d ∈ tables_1, d.before V.a0 V.Z = true) (hm : ("java/lang/String", 7) ∈ V.EL) (hn : V.nar = false) (x b : Nat) (kC : ClassId) (vs : List Value) (d : Value) (h : Heap) (ps : List Addr) (zx : V.Z.heap.size ≤ x) (hxp : x ∈ ps) (E : Exa V.Z h x "java/lang/String") (Fv : Fld V.Z h x "java/lang/String" "value" "[B" .null) (Fc : Fld V.Z h x "java/lang/String" "coder" "B" (.int 0)) (A : Arv V.Z h b kC .char 0 vs d) : Con V b_new1 #[.ref x, .ref b] h ps (Qn V x [] h) := Con.of (plainFor_of_name pn_0) (L := [.val (.ref x), .val (.ref b)]) rfl fun K => by
  refine r_aloadN 1 rfl d1_0 rfl rfl ?_
  refine r_aloadN 2 rfl d1_1 rfl rfl ?_
  refine r_iconst (0 : Int32) 3 rfl d1_2 rfl ?_
  refine r_aloadN 4 rfl d1_3 rfl rfl ?_
  refine r_arraylength 5 rfl d1_4 A ?_
  refine r_null 6 rfl d1_5 ?_
  refine r_special 9 rfl d1_6 rfl (wd hw 51 rfl) (wd hw 52 rfl) (wd hw 54 rfl) (by decide) (Pays.con (K := K) (B := b_new1) (c_new4e V hw hm hn x b h _ zx hxp E Fv Fc) (wd hw 54 rfl) (wd hw 10 rfl) (by decide) (by decide)) (W := 0) (argsL := [.ref b, .int (0 : Int32), .int (0 : Int32), .null]) (lenOf pd_0 rfl) rfl rfl rfl (Nat.le_of_eq rfl) (Nat.le_of_ble_eq_true rfl) (Nat.le_of_ble_eq_true rfl) fun v28 h29 ps25 q27 z26 => ?_
  obtain ⟨rfl, K1, S1⟩ := q27
  show Own.Run V K b_new1 _ h29 _ 2 4 9 [.val (.ref x), .val (.ref b)] []
  refine r_ret rfl d1_9 (by decide) (by decide) [] (fun _ q => nomatch q) ?_
  exact ⟨rfl, K1, S1⟩
theorem pay_newE (V : Vw) (hw : ∀ d ∈ tables_1, d.before V.a0 V.Z = true) (K : Cx) (B : Bx) (W : Nat) (hm : ("java/lang/String", 7) ∈ V.EL) (hn : V.nar = false) (x b : Nat) (kC : ClassId) (vs : List Value) (d : Value) (h : Heap) (ps : List Addr) (zx : V.Z.heap.size ≤ x) (hxp : x ∈ ps) (E : Exa V.Z h x "java/lang/String") (Fv : Fld V.Z h x "java/lang/String" "value" "[B" .null) (Fc : Fld V.Z h x "java/lang/String" "coder" "B" (.int 0)) (A : Arv V.Z h b kC .char 0 vs d) (hfr : 3 ≤ B.R.frames) (hlo : W + 57 ≤ B.R.locals) :
    Pays V K B (⟨"java/lang/String", "<init>", "([C)V"⟩ : MethodName) 3 W #[.ref x, .ref b] h ps 2 4 (Qn V x [] h) := Pays.con (B' := b_new1) (c_new1e V hw hm hn x b kC vs d h ps zx hxp E Fv Fc A) (wd hw 50 rfl) (wd hw 10 rfl) hfr (by show W + (2 + 11) + 44 ≤ _; omega)
theorem pay_ch (V : Vw) (hw : ∀ d ∈ tables_1, d.before V.a0 V.Z = true) (K : Cx) (B : Bx) (W : Nat) (x : Nat) (m i : Nat) (j : Int32) (cs : List Int32) (h : Heap) (ps : List Addr) (S : Str V h m x cs) (hby : ∀ c ∈ cs, ¬ 255 < c) (O : Ext V.Z.heap h) (cz : Int32) (hCS : Sta V.Z V.Z.heap "java/lang/String" "COMPACT_STRINGS" "Z" (.int cz)) (hcz : ¬ cz = 0) (fm : Value) (hFM : Sta V.Z V.Z.heap "jdk/internal/util/Preconditions" "SIOOBE_FORMATTER" "Ljava/util/function/BiFunction;" fm) (rf : fm.isRef = true) (hi : i < cs.length) (hj : j = Int32.ofNat i) (hfr : 4 ≤ B.R.frames) (hlo : W + 53 ≤ B.R.locals) : Pays V K B (⟨"java/lang/String", "charAt", "(I)C"⟩ : MethodName) 3 W #[.ref x, .int j] h ps 0 0 (fun v h' _ => v = some (.int (cs.getD i 0)) ∧ h' = h) := by
  obtain ⟨t, kb, cd, N2, vs, a1, a2, a3, a4, a5, a6, a7, a8, a9, a10⟩ := S
  have hcd : cd = 0 := by rcases a8 with q | ⟨-, -, -, c, hc, hq⟩; exact q.1; exact absurd hq (hby c hc)
  subst hcd
  exact Pays.back (ws := []) (Q0 := fun v h' L => v = some (.int (cs.getD i 0)) ∧ L = [] ∧ h' = h) (fun s hZ => StrChars.Road.chN (W := W) hZ (wds V hw _ (by decide +kernel)) (kI := 4) (wd hw 11 rfl) a4 a5 a6 a7 a8 a9 (hCS.ext O) hcz (hFM.ext O) rf a10 hi hj hfr hlo) (fun v h' L q => ⟨by rw [q.2.1]; exact Fr.nil _, by rw [q.2.2]; exact Keep.refl _ _, q.1, q.2.2⟩) all0 (fun vm al P => all0)
theorem pay_eq (V : Vw) (hw : ∀ d ∈ tables_1, d.before V.a0 V.Z = true) (K : Cx) (B : Bx) (W : Nat) (x y : Nat) (m m' : Nat) (cs ds : List Int32) (h : Heap) (ps : List Addr) (S : Str V h m x cs) (S' : Str V h m' y ds) (O : Ext V.Z.heap h) (cz : Int32) (hCS : Sta V.Z V.Z.heap "java/lang/String" "COMPACT_STRINGS" "Z" (.int cz)) (hcz : ¬ cz = 0) (hfr : 2 ≤ B.R.frames) (hlo : W + 28 ≤ B.R.locals) : Pays V K B (⟨"java/lang/String", "equals", "(Ljava/lang/Object;)Z"⟩ : MethodName) 3 W #[.ref x, .ref y] h ps 0 0 (Qsm (cs = ds) h) := by
  obtain ⟨t, kb, cd, N2, vs, a1, a2, a3, a4, a5, a6, a7, a8, a9, a10⟩ := S
  obtain ⟨t', kb', cd', N2', vs', b1, b2, b3, b4, b5, b6, b7, b8, b9, b10⟩ := S'
  exact Pays.back (ws := []) (Q0 := fun v h' L => ((v = some (.int 1) ∧ cs = ds) ∨ (v = some (.int 0) ∧ ¬ cs = ds)) ∧ L = [] ∧ h' = h) (fun s hZ => StrChars.Road.eqW (W := W) hZ (wds V hw _ (by decide +kernel)) (kI := 4) (wd hw 11 rfl) a4 a5 a6 a7 a8 a9 a10 b4 b5 b6 b7 b8 b9 b10 (hCS.ext O) hcz hfr hlo) (fun v h' L q => ⟨by rw [q.2.1]; exact Fr.nil _, by rw [q.2.2]; exact Keep.refl _ _, q.1.elim (fun z => ⟨1, z.1, q.2.2, Or.inl ⟨rfl, z.2⟩⟩) (fun z => ⟨0, z.1, q.2.2, Or.inr ⟨rfl, z.2⟩⟩)⟩) all0 (fun vm al P => all0)
theorem ofN_nat {n : Nat} (h : n < 2 ^ 31) : (Int32.ofNat n).toNatClampNeg = n := by
  have q : (Int32.ofNat n).toInt = n := Int32.toInt_ofNat_small h
  simp only [Int32.toNatClampNeg, q]; omega
theorem ofN_lt {n k : Nat} (h : n < 2 ^ 31) (g : k < 2 ^ 31) : Int32.ofNat n < Int32.ofNat k ↔ n < k := by
  have q : (Int32.ofNat n).toInt = n := Int32.toInt_ofNat_small h
  have r : (Int32.ofNat k).toInt = k := Int32.toInt_ofNat_small g
  rw [Int32.lt_iff_toInt_lt, q, r]; omega
theorem ofN_nn {n : Nat} (h : n < 2 ^ 31) : ¬ Int32.ofNat n < 0 := by
  have q : (Int32.ofNat n).toInt = n := Int32.toInt_ofNat_small h
  rw [Int32.lt_iff_toInt_lt, q]; have : (0 : Int32).toInt = 0 := rfl; omega
theorem ofN_s (n : Nat) : Int32.ofNat n + 1 = Int32.ofNat (n + 1) := (Int32.ofNat_add n 1).symm
theorem by_int {x : Int32} (h : By x) : 0 ≤ x.toInt ∧ x.toInt ≤ 255 := by
  obtain ⟨a, b⟩ := h
  rw [Int32.lt_iff_toInt_lt] at a b
  have e0 : (0 : Int32).toInt = 0 := rfl
  have e1 : (255 : Int32).toInt = 255 := rfl
  omega
theorem lo8_by {x y : Int32} (hx : By x) (hy : By y) (e : x.toInt8.toInt32 = y.toInt8.toInt32) : x = y := by
  have a := c_i2b x
  have b := c_i2b y
  have c := by_int hx
  have d := by_int hy
  rw [e] at a
  rw [← Int32.toInt_inj]; omega
theorem vsGet (cs : List Int32) (i : Nat) (h : i < cs.length) : ((cs.map fun c => Value.int (StrChars.lo8 c))).getD i (.int 0) = .int ((cs.getD i 0).toInt8.toInt32) := by
  simp [List.getD_eq_getElem?_getD, h, StrChars.lo8]

abbrev LV : List Int32 := [45, 45, 118, 101, 114, 98, 111, 115, 101]
abbrev SV : List Int32 := [45, 118]
theorem LVby : ∀ c ∈ LV, By c := fun c hc => (by decide : ∀ c ∈ LV, ¬ c < 0 ∧ ¬ 255 < c) c hc
theorem SVby : ∀ c ∈ SV, By c := fun c hc => (by decide : ∀ c ∈ SV, ¬ c < 0 ∧ ¬ 255 < c) c hc
theorem getD_by {cs : List Int32} (hb : ∀ c ∈ cs, By c) {n : Nat} (h : n < cs.length) : By (cs.getD n 0) := hb _ (by simp [List.getD_eq_getElem?_getD, h])
theorem litStr {V : Vw} {h : Heap} {a b : Nat} {k : ClassId} {N : Int32} {vs : List Value} (cs : List Int32) (X : Exa V.Z h a "java/lang/String") (Cc : Fld V.Z h a "java/lang/String" "coder" "B" (.int 0)) (Y : Fld V.Z h a "java/lang/String" "value" "[B" (.ref b)) (A : Arv V.Z h b k .byte N vs (.int 0)) (hN : N = Int32.ofNat cs.length) (hv : vs = cs.map fun c => Value.int (StrChars.lo8 c)) (hb : ∀ c ∈ cs, By c) (hl : cs.length ≤ 4000) : Str V h h.size a cs :=
  ⟨b, k, 0, N, vs, X.lt, A.lt, Nat.le_refl _, X, Y, Cc, A, Or.inl ⟨rfl, hN, hv, fun c hc => (hb c hc).2⟩, up16 hb, hl⟩
theorem ofN_inj {n k : Nat} (h : n < 2 ^ 31) (g : k < 2 ^ 31) (e : Int32.ofNat n = Int32.ofNat k) : n = k := by
  have := congrArg Int32.toNatClampNeg e; rwa [ofN_nat h, ofN_nat g] at this
theorem pay_newT (V : Vw) (hw : ∀ d ∈ tables_1, d.before V.a0 V.Z = true) (K : Cx) (B : Bx) (W : Nat) (hm : ("java/lang/String", 7) ∈ V.EL) (hn : V.nar = false) (x b : Nat) (kC : ClassId) (cs : List Int32) (h : Heap) (ps : List Addr) (zx : V.Z.heap.size ≤ x) (zh : V.Z.heap.size ≤ h.size) (hxp : x ∈ ps) (E : Exa V.Z h x "java/lang/String") (Fv : Fld V.Z h x "java/lang/String" "value" "[B" .null) (Fc : Fld V.Z h x "java/lang/String" "coder" "B" (.int 0)) (A : Arv V.Z h b kC .char (Int32.ofNat cs.length) (cs.map Value.int) (.int 0)) (O : Ext V.Z.heap h) (cz : Int32) (hCS : Sta V.Z V.Z.heap "java/lang/String" "COMPACT_STRINGS" "Z" (.int cz)) (hcz : ¬ cz = 0) (l2 : cs.length ≤ 10) (hp : ∀ c ∈ cs, By c) (hfr : 4 ≤ B.R.frames) (hlo : W + 65 ≤ B.R.locals) :
    Pays V K B (⟨"java/lang/String", "<init>", "([C)V"⟩ : MethodName) 3 W #[.ref x, .ref b] h ps 2 10 (Qn V x cs h) := by
  match cs, A, l2, hp with
  | [], A, l2, hp => exact (pay_newE V hw K B W hm hn x b kC _ _ h ps zx hxp E Fv Fc A (by omega) (by omega)).more (by decide) (by decide)
  | c :: cs, A, l2, hp => exact (pay_newN V hw K B W x b kC (c :: cs) _ h ps _ _ _ zx zh E Fv Fc A O cz hCS hcz rfl (Nat.succ_pos _) (Nat.le_trans l2 (by decide)) hp hxp hfr hlo).more (by decide) l2
theorem m255 (x : Int64) : ((x &&& 255).toInt32).toInt = x.toInt % 256 := by
  have h := c_maskL x 255 8 (by decide) (by decide)
  have e := c_l2i (x &&& 255)
  have r := rng32 (x &&& 255).toInt32
  omega
theorem masked (z : Int64) : By (z &&& 255).toInt32.toUInt32.toUInt16.toUInt32.toInt32 := by
  have e := m255 z
  have f := c_i2c (z &&& 255).toInt32
  refine ⟨fun q => ?_, fun q => ?_⟩
  · rw [Int32.lt_iff_toInt_lt] at q; have : (0 : Int32).toInt = 0 := rfl; omega
  · rw [Int32.lt_iff_toInt_lt] at q; have : (255 : Int32).toInt = 255 := rfl; omega
theorem d2_0 : decode method_3_code 0 = .ok (.iload 4, 2) := by decide +kernel
theorem d2_2 : decode method_3_code 2 = .ok (.bipush 8, 2) := by decide +kernel
theorem d2_4 : decode method_3_code 4 = .ok (.if_icmp .ge 13, 3) := by decide +kernel
theorem d2_7 : decode method_3_code 7 = .ok (.lload_n 0, 1) := by decide +kernel
theorem d2_8 : decode method_3_code 8 = .ok (.bipush 8, 2) := by decide +kernel
theorem d2_10 : decode method_3_code 10 = .ok (.iload 4, 2) := by decide +kernel
theorem d2_12 : decode method_3_code 12 = .ok (.imul, 1) := by decide +kernel
theorem d2_13 : decode method_3_code 13 = .ok (.lushr, 1) := by decide +kernel
theorem d2_14 : decode method_3_code 14 = .ok (.goto 13, 3) := by decide +kernel
theorem d2_17 : decode method_3_code 17 = .ok (.lload_n 2, 1) := by decide +kernel
theorem d2_18 : decode method_3_code 18 = .ok (.bipush 8, 2) := by decide +kernel
theorem d2_20 : decode method_3_code 20 = .ok (.iload 4, 2) := by decide +kernel
theorem d2_22 : decode method_3_code 22 = .ok (.bipush 8, 2) := by decide +kernel
theorem d2_24 : decode method_3_code 24 = .ok (.isub, 1) := by decide +kernel
theorem d2_25 : decode method_3_code 25 = .ok (.imul, 1) := by decide +kernel
theorem d2_26 : decode method_3_code 26 = .ok (.lushr, 1) := by decide +kernel
theorem d2_27 : decode method_3_code 27 = .ok (.lstore 5, 2) := by decide +kernel
theorem d2_29 : decode method_3_code 29 = .ok (.lload 5, 2) := by decide +kernel
theorem d2_31 : decode method_3_code 31 = .ok (.ldc2_w 28, 3) := by decide +kernel
theorem d2_34 : decode method_3_code 34 = .ok (.land, 1) := by decide +kernel
theorem d2_35 : decode method_3_code 35 = .ok (.l2i, 1) := by decide +kernel
theorem d2_36 : decode method_3_code 36 = .ok (.i2c, 1) := by decide +kernel
theorem d2_37 : decode method_3_code 37 = .ok (.ireturn, 1) := by decide +kernel
abbrev b_drawn : Bx := (⟨"com/example/nimeton/nimeton/cli/LoggingVerbosePinLaw", "drawn", "(JJI)C"⟩, method_3_code, 7, some .char, { frames := 0, cells := 0, slots := 0, locals := 0 })
def Qby (h0 : Heap) : Qt := fun v h _ => ∃ z : Int32, v = some (.int z) ∧ By z ∧ h = h0
theorem c_drawn (V : Vw) (hw : ∀ d ∈ tables_1, d.before V.a0 V.Z = true) (lo hi : Int64) (i : Int32) (h : Heap) (ps : List Addr) : Con V b_drawn #[.long lo, .long hi, .int i] h ps (Qby h) := Con.of (plainFor_of_name pn_1) (L := [.val (.long lo), .second, .val (.long hi), .second, .val (.int i), .unset, .unset]) rfl fun K => by
  refine r_iload 2 rfl d2_0 rfl ?_
  refine r_bipush (8 : Int32) 4 rfl d2_2 rfl ?_
  have j27 : ∀ {pX : List Addr} (z : Int64), Own.Run V K b_drawn (Qby h) h pX 0 0 27 [.val (.long lo), .second, .val (.long hi), .second, .val (.int i), .unset, .unset] [.long z] := by
    intro pX z
    refine r_lstore [.val (.long lo), .second, .val (.long hi), .second, .val (.int i), .val (.long z), .second] 29 rfl d2_27 rfl ?_
    refine r_lload 31 rfl d2_29 rfl ?_
    refine r_ldc2J 34 rfl d2_31 (wd hw 8 rfl) ?_
    refine r_land 35 rfl d2_34 ?_
    refine r_l2i 36 rfl d2_35 ?_
    refine r_i2c 37 rfl d2_36 ?_
    refine r_nret (t := .char) ((z &&& (255 : Int64)).toInt32).toUInt32.toUInt16.toUInt32.toInt32 rfl (by simp) (nc16 _) d2_37 (by decide) (by decide) [] (fun _ q => nomatch q) ?_
    exact ⟨_, rfl, masked z, rfl⟩
  refine r_icmp_ge 17 7 d2_4 (by decide) rfl rfl (fun c30 => ?_) (fun c30 => ?_)
  · refine r_lloadN 18 rfl d2_17 rfl ?_
    refine r_bipush (8 : Int32) 20 rfl d2_18 rfl ?_
    refine r_iload 22 rfl d2_20 rfl ?_
    refine r_bipush (8 : Int32) 24 rfl d2_22 rfl ?_
    refine r_isub 25 rfl d2_24 ?_
    refine r_imul 26 rfl d2_25 ?_
    refine r_lushr 27 rfl d2_26 ?_
    exact j27 _
  · refine r_lloadN 8 rfl d2_7 rfl ?_
    refine r_bipush (8 : Int32) 10 rfl d2_8 rfl ?_
    refine r_iload 12 rfl d2_10 rfl ?_
    refine r_imul 13 rfl d2_12 ?_
    refine r_lushr 14 rfl d2_13 ?_
    refine r_goto 27 d2_14 (by decide) rfl ?_
    exact j27 _
theorem d3_0 : decode method_4_code 0 = .ok (.iload_n 0, 1) := by decide +kernel
theorem d3_1 : decode method_4_code 1 = .ok (.ifCond .ne 8, 3) := by decide +kernel
theorem d3_4 : decode method_4_code 4 = .ok (.bipush 9, 2) := by decide +kernel
theorem d3_6 : decode method_4_code 6 = .ok (.goto 4, 3) := by decide +kernel
theorem d3_9 : decode method_4_code 9 = .ok (.iconst 2, 1) := by decide +kernel
theorem d3_10 : decode method_4_code 10 = .ok (.istore 7, 2) := by decide +kernel
theorem d3_12 : decode method_4_code 12 = .ok (.iload_n 1, 1) := by decide +kernel
theorem d3_13 : decode method_4_code 13 = .ok (.iload 6, 2) := by decide +kernel
theorem d3_15 : decode method_4_code 15 = .ok (.iushr, 1) := by decide +kernel
theorem d3_16 : decode method_4_code 16 = .ok (.iconst 1, 1) := by decide +kernel
theorem d3_17 : decode method_4_code 17 = .ok (.iand, 1) := by decide +kernel
theorem d3_18 : decode method_4_code 18 = .ok (.ifCond .ne 10, 3) := by decide +kernel
theorem d3_21 : decode method_4_code 21 = .ok (.iload 6, 2) := by decide +kernel
theorem d3_23 : decode method_4_code 23 = .ok (.iload 7, 2) := by decide +kernel
theorem d3_25 : decode method_4_code 25 = .ok (.if_icmp .lt 12, 3) := by decide +kernel
theorem d3_28 : decode method_4_code 28 = .ok (.lload_n 2, 1) := by decide +kernel
theorem d3_29 : decode method_4_code 29 = .ok (.lload 4, 2) := by decide +kernel
theorem d3_31 : decode method_4_code 31 = .ok (.iload 6, 2) := by decide +kernel
theorem d3_33 : decode method_4_code 33 = .ok (.invokestatic 30, 3) := by decide +kernel
theorem d3_36 : decode method_4_code 36 = .ok (.ireturn, 1) := by decide +kernel
theorem d3_37 : decode method_4_code 37 = .ok (.iload_n 0, 1) := by decide +kernel
theorem d3_38 : decode method_4_code 38 = .ok (.ifCond .ne 13, 3) := by decide +kernel
theorem d3_41 : decode method_4_code 41 = .ok (.ldc 34, 2) := by decide +kernel
theorem d3_43 : decode method_4_code 43 = .ok (.iload 6, 2) := by decide +kernel
theorem d3_45 : decode method_4_code 45 = .ok (.invokevirtual 36, 3) := by decide +kernel
theorem d3_48 : decode method_4_code 48 = .ok (.goto 10, 3) := by decide +kernel
theorem d3_51 : decode method_4_code 51 = .ok (.ldc 40, 2) := by decide +kernel
theorem d3_53 : decode method_4_code 53 = .ok (.iload 6, 2) := by decide +kernel
theorem d3_55 : decode method_4_code 55 = .ok (.invokevirtual 36, 3) := by decide +kernel
theorem d3_58 : decode method_4_code 58 = .ok (.ireturn, 1) := by decide +kernel
abbrev b_pick : Bx := (⟨"com/example/nimeton/nimeton/cli/LoggingVerbosePinLaw", "pick", "(IIJJI)C"⟩, method_4_code, 8, some .char, { frames := 5, cells := 2, slots := 40, locals := 80 })
def Qpk (h0 : Heap) : Qt := fun v h _ => ∃ z : Int32, v = some (.int z) ∧ By z ∧ Ext h0 h
theorem c_pick (V : Vw) (hw : ∀ d ∈ tables_1, d.before V.a0 V.Z = true) (hm : ("java/lang/String", 7) ∈ V.EL) (hn : V.nar = false) (cz : Int32) (hCS : Sta V.Z V.Z.heap "java/lang/String" "COMPACT_STRINGS" "Z" (.int cz)) (hcz : ¬ cz = 0) (fm : Value) (hFM : Sta V.Z V.Z.heap "jdk/internal/util/Preconditions" "SIOOBE_FORMATTER" "Ljava/util/function/BiFunction;" fm) (rf : fm.isRef = true) (hl34 : ("com/example/nimeton/nimeton/cli/LoggingVerbosePinLaw", 34) ∈ V.EL) (hl40 : ("com/example/nimeton/nimeton/cli/LoggingVerbosePinLaw", 40) ∈ V.EL) (wh ex : Int32) (lo hi : Int64) (n : Nat) (hn9 : n < 9) (h : Heap) (ps : List Addr) : Con V b_pick #[.int wh, .int ex, .long lo, .long hi, .int (Int32.ofNat n)] h ps (Qpk h) := Con.of (plainFor_of_name pn_1) (L := [.val (.int wh), .val (.int ex), .val (.long lo), .second, .val (.long hi), .second, .val (.int (Int32.ofNat n)), .unset]) (layL (by simp [Jvm.Sym.laidSlots, Bx.ml, maxLocals, Value.category, List.replicate])) fun K => by
  refine r_iloadN 1 rfl d3_0 rfl ?_
  refine r_if_ne 9 4 d3_1 (by decide) rfl rfl (fun c31 => ?_) (fun c31 => ?_)
  · refine r_iconst (2 : Int32) 10 rfl d3_9 rfl ?_
    refine r_istore [.val (.int wh), .val (.int ex), .val (.long lo), .second, .val (.long hi), .second, .val (.int (Int32.ofNat n)), .val (.int (2 : Int32))] 12 rfl d3_10 rfl ?_
    refine r_iloadN 13 rfl d3_12 rfl ?_
    refine r_iload 15 rfl d3_13 rfl ?_
    refine r_iushr 16 rfl d3_15 ?_
    refine r_iconst (1 : Int32) 17 rfl d3_16 rfl ?_
    refine r_iand 18 rfl d3_17 ?_
    refine r_if_ne 28 21 d3_18 (by decide) rfl rfl (fun c32 => ?_) (fun c32 => ?_)
    · refine r_lloadN 29 rfl d3_28 rfl ?_
      refine r_lload 31 rfl d3_29 rfl ?_
      refine r_iload 33 rfl d3_31 rfl ?_
      refine r_static 36 rfl d3_33 (wd hw 5 rfl) (wd hw 6 rfl) (wd hw 3 rfl) (wd hw 7 rfl) (by decide) (Pays.con (K := K) (B := b_pick) (c_drawn V hw lo hi (Int32.ofNat n) h _) (wd hw 7 rfl) (wd hw 3 rfl) (by decide) (by decide)) (W := 0) (argsL := [.long lo, .long hi, .int (Int32.ofNat n)]) (lenOf pd_2 rfl) rfl rfl rfl (Nat.le_of_eq rfl) (Nat.le_of_ble_eq_true rfl) (Nat.le_of_ble_eq_true rfl) fun v36 h37 ps33 q35 z34 => ?_
      obtain ⟨z, rfl, hz, es38⟩ := q35
      subst h37
      show Own.Run V K b_pick _ h _ 0 0 36 [.val (.int wh), .val (.int ex), .val (.long lo), .second, .val (.long hi), .second, .val (.int (Int32.ofNat n)), .val (.int (2 : Int32))] [.int z]
      refine r_nret (t := .char) z rfl (by simp) (nby hz) d3_36 (by decide) (by decide) [] (fun _ q => nomatch q) ?_
      exact ⟨_, rfl, hz, Ext.refl0 _⟩
    refine r_iload 23 rfl d3_21 rfl ?_
    refine r_iload 25 rfl d3_23 rfl ?_
    refine r_icmp_lt 37 28 d3_25 (by decide) rfl rfl (fun c39 => ?_) (fun c39 => ?_)
    · refine r_iloadN 38 rfl d3_37 rfl ?_
      refine r_if_ne 51 41 d3_38 (by decide) rfl rfl (fun c40 => ?_) (fun c40 => ?_)
      rotate_left
      · exact absurd c40 c31
      have hlt : n < SV.length := (ofN_lt (k := 2) (by omega) (by omega)).mp c39
      refine r_ldcS [.int 45, .int 118] (2 : Int32) 8 53 rfl d3_51 (wd hw 83 rfl) (satoms V hw) hl40 hn (by decide) (by decide) rfl (by decide) (by decide) (by decide) (by decide) fun a41 b42 k43 h44 Eh44 Xh44 Ch44 Yh44 Ah44 Nh44 => ?_
      have sh44 := Eh44.1
      have la41 := ltN Xh44.lt
      have lb42 := ltN Ah44.lt
      have SL := litStr SV Xh44 Ch44 Yh44 Ah44 rfl (by decide) SVby (by decide)
      refine r_iload 55 rfl d3_53 rfl ?_
      refine Run.old fun OX => ?_
      refine r_virtual 58 rfl d3_55 (wd hw 17 rfl) (wd hw 18 rfl) (wd hw 20 rfl) (wd hw 19 rfl) (nfS (wd hw 20 rfl)) (by decide) Xh44 (pay_ch V hw K b_pick 0 a41 h44.size n (Int32.ofNat n) SV h44 _ SL (fun c hc => (SVby c hc).2) OX cz hCS hcz fm hFM rf hlt rfl (by decide) (by decide)) (W := 0) (argsL := [.int (Int32.ofNat n)]) (lenOf pd_4 rfl) rfl rfl rfl (Nat.le_of_eq rfl) (Nat.le_of_ble_eq_true rfl) (Nat.le_of_ble_eq_true rfl) fun v48 h49 ps45 q47 z46 => ?_
      obtain ⟨rfl, es50⟩ := q47
      subst h49
      show Own.Run V K b_pick _ h44 _ 2 12 58 [.val (.int wh), .val (.int ex), .val (.long lo), .second, .val (.long hi), .second, .val (.int (Int32.ofNat n)), .val (.int (2 : Int32))] [.int (SV.getD n 0)]
      refine r_nret (t := .char) (SV.getD n 0) rfl (by simp) (nby (getD_by SVby hlt)) d3_58 (by decide) (by decide) [] (fun _ q => nomatch q) ?_
      exact ⟨_, rfl, getD_by SVby hlt, Eh44⟩
    · refine r_lloadN 29 rfl d3_28 rfl ?_
      refine r_lload 31 rfl d3_29 rfl ?_
      refine r_iload 33 rfl d3_31 rfl ?_
      refine r_static 36 rfl d3_33 (wd hw 5 rfl) (wd hw 6 rfl) (wd hw 3 rfl) (wd hw 7 rfl) (by decide) (Pays.con (K := K) (B := b_pick) (c_drawn V hw lo hi (Int32.ofNat n) h _) (wd hw 7 rfl) (wd hw 3 rfl) (by decide) (by decide)) (W := 0) (argsL := [.long lo, .long hi, .int (Int32.ofNat n)]) (lenOf pd_2 rfl) rfl rfl rfl (Nat.le_of_eq rfl) (Nat.le_of_ble_eq_true rfl) (Nat.le_of_ble_eq_true rfl) fun v54 h55 ps51 q53 z52 => ?_
      obtain ⟨z, rfl, hz, es56⟩ := q53
      subst h55
      show Own.Run V K b_pick _ h _ 0 0 36 [.val (.int wh), .val (.int ex), .val (.long lo), .second, .val (.long hi), .second, .val (.int (Int32.ofNat n)), .val (.int (2 : Int32))] [.int z]
      refine r_nret (t := .char) z rfl (by simp) (nby hz) d3_36 (by decide) (by decide) [] (fun _ q => nomatch q) ?_
      exact ⟨_, rfl, hz, Ext.refl0 _⟩
  · refine r_bipush (9 : Int32) 6 rfl d3_4 rfl ?_
    refine r_goto 10 d3_6 (by decide) rfl ?_
    refine r_istore [.val (.int wh), .val (.int ex), .val (.long lo), .second, .val (.long hi), .second, .val (.int (Int32.ofNat n)), .val (.int (9 : Int32))] 12 rfl d3_10 rfl ?_
    refine r_iloadN 13 rfl d3_12 rfl ?_
    refine r_iload 15 rfl d3_13 rfl ?_
    refine r_iushr 16 rfl d3_15 ?_
    refine r_iconst (1 : Int32) 17 rfl d3_16 rfl ?_
    refine r_iand 18 rfl d3_17 ?_
    refine r_if_ne 28 21 d3_18 (by decide) rfl rfl (fun c57 => ?_) (fun c57 => ?_)
    · refine r_lloadN 29 rfl d3_28 rfl ?_
      refine r_lload 31 rfl d3_29 rfl ?_
      refine r_iload 33 rfl d3_31 rfl ?_
      refine r_static 36 rfl d3_33 (wd hw 5 rfl) (wd hw 6 rfl) (wd hw 3 rfl) (wd hw 7 rfl) (by decide) (Pays.con (K := K) (B := b_pick) (c_drawn V hw lo hi (Int32.ofNat n) h _) (wd hw 7 rfl) (wd hw 3 rfl) (by decide) (by decide)) (W := 0) (argsL := [.long lo, .long hi, .int (Int32.ofNat n)]) (lenOf pd_2 rfl) rfl rfl rfl (Nat.le_of_eq rfl) (Nat.le_of_ble_eq_true rfl) (Nat.le_of_ble_eq_true rfl) fun v61 h62 ps58 q60 z59 => ?_
      obtain ⟨z, rfl, hz, es63⟩ := q60
      subst h62
      show Own.Run V K b_pick _ h _ 0 0 36 [.val (.int wh), .val (.int ex), .val (.long lo), .second, .val (.long hi), .second, .val (.int (Int32.ofNat n)), .val (.int (9 : Int32))] [.int z]
      refine r_nret (t := .char) z rfl (by simp) (nby hz) d3_36 (by decide) (by decide) [] (fun _ q => nomatch q) ?_
      exact ⟨_, rfl, hz, Ext.refl0 _⟩
    refine r_iload 23 rfl d3_21 rfl ?_
    refine r_iload 25 rfl d3_23 rfl ?_
    refine r_icmp_lt 37 28 d3_25 (by decide) rfl rfl (fun c64 => ?_) (fun c64 => ?_)
    · refine r_iloadN 38 rfl d3_37 rfl ?_
      refine r_if_ne 51 41 d3_38 (by decide) rfl rfl (fun c65 => ?_) (fun c65 => ?_)
      · exact absurd c31 c65
      have hlt : n < LV.length := hn9
      refine r_ldcS [.int 45, .int 45, .int 118, .int 101, .int 114, .int 98, .int 111, .int 115, .int 101] (9 : Int32) 36 43 rfl d3_41 (wd hw 9 rfl) (satoms V hw) hl34 hn (by decide) (by decide) rfl (by decide) (by decide) (by decide) (by decide) fun a66 b67 k68 h69 Eh69 Xh69 Ch69 Yh69 Ah69 Nh69 => ?_
      have sh69 := Eh69.1
      have la66 := ltN Xh69.lt
      have lb67 := ltN Ah69.lt
      have SL := litStr LV Xh69 Ch69 Yh69 Ah69 rfl (by decide) LVby (by decide)
      refine r_iload 45 rfl d3_43 rfl ?_
      refine Run.old fun OX => ?_
      refine r_virtual 48 rfl d3_45 (wd hw 17 rfl) (wd hw 18 rfl) (wd hw 20 rfl) (wd hw 19 rfl) (nfS (wd hw 20 rfl)) (by decide) Xh69 (pay_ch V hw K b_pick 0 a66 h69.size n (Int32.ofNat n) LV h69 _ SL (fun c hc => (LVby c hc).2) OX cz hCS hcz fm hFM rf hlt rfl (by decide) (by decide)) (W := 0) (argsL := [.int (Int32.ofNat n)]) (lenOf pd_4 rfl) rfl rfl rfl (Nat.le_of_eq rfl) (Nat.le_of_ble_eq_true rfl) (Nat.le_of_ble_eq_true rfl) fun v73 h74 ps70 q72 z71 => ?_
      obtain ⟨rfl, es75⟩ := q72
      subst h74
      show Own.Run V K b_pick _ h69 _ 2 40 48 [.val (.int wh), .val (.int ex), .val (.long lo), .second, .val (.long hi), .second, .val (.int (Int32.ofNat n)), .val (.int (9 : Int32))] [.int (LV.getD n 0)]
      refine r_goto 58 d3_48 (by decide) rfl ?_
      refine r_nret (t := .char) (LV.getD n 0) rfl (by simp) (nby (getD_by LVby hlt)) d3_58 (by decide) (by decide) [] (fun _ q => nomatch q) ?_
      exact ⟨_, rfl, getD_by LVby hlt, Eh69⟩
    · refine r_lloadN 29 rfl d3_28 rfl ?_
      refine r_lload 31 rfl d3_29 rfl ?_
      refine r_iload 33 rfl d3_31 rfl ?_
      refine r_static 36 rfl d3_33 (wd hw 5 rfl) (wd hw 6 rfl) (wd hw 3 rfl) (wd hw 7 rfl) (by decide) (Pays.con (K := K) (B := b_pick) (c_drawn V hw lo hi (Int32.ofNat n) h _) (wd hw 7 rfl) (wd hw 3 rfl) (by decide) (by decide)) (W := 0) (argsL := [.long lo, .long hi, .int (Int32.ofNat n)]) (lenOf pd_2 rfl) rfl rfl rfl (Nat.le_of_eq rfl) (Nat.le_of_ble_eq_true rfl) (Nat.le_of_ble_eq_true rfl) fun v79 h80 ps76 q78 z77 => ?_
      obtain ⟨z, rfl, hz, es81⟩ := q78
      subst h80
      show Own.Run V K b_pick _ h _ 0 0 36 [.val (.int wh), .val (.int ex), .val (.long lo), .second, .val (.long hi), .second, .val (.int (Int32.ofNat n)), .val (.int (9 : Int32))] [.int z]
      refine r_nret (t := .char) z rfl (by simp) (nby hz) d3_36 (by decide) (by decide) [] (fun _ q => nomatch q) ?_
      exact ⟨_, rfl, hz, Ext.refl0 _⟩
abbrev b_pick9 : Bx := (⟨"com/example/nimeton/nimeton/cli/LoggingVerbosePinLaw", "pick", "(IIJJI)C"⟩, method_4_code, 8, some .char, { frames := 5, cells := 0, slots := 0, locals := 80 })
theorem c_pick9 (V : Vw) (hw : ∀ d ∈ tables_1, d.before V.a0 V.Z = true) (wh ex : Int32) (lo hi : Int64) (h : Heap) (ps : List Addr) : Con V b_pick9 #[.int wh, .int ex, .long lo, .long hi, .int 9] h ps (Qpk h) := Con.of (plainFor_of_name pn_1) (L := [.val (.int wh), .val (.int ex), .val (.long lo), .second, .val (.long hi), .second, .val (.int (9 : Int32)), .unset]) (layL (by simp [Jvm.Sym.laidSlots, Bx.ml, maxLocals, Value.category, List.replicate])) fun K => by
  refine r_iloadN 1 rfl d3_0 rfl ?_
  refine r_if_ne 9 4 d3_1 (by decide) rfl rfl (fun c82 => ?_) (fun c82 => ?_)
  · refine r_iconst (2 : Int32) 10 rfl d3_9 rfl ?_
    refine r_istore [.val (.int wh), .val (.int ex), .val (.long lo), .second, .val (.long hi), .second, .val (.int (9 : Int32)), .val (.int (2 : Int32))] 12 rfl d3_10 rfl ?_
    refine r_iloadN 13 rfl d3_12 rfl ?_
    refine r_iload 15 rfl d3_13 rfl ?_
    refine r_iushr 16 rfl d3_15 ?_
    refine r_iconst (1 : Int32) 17 rfl d3_16 rfl ?_
    refine r_iand 18 rfl d3_17 ?_
    refine r_if_ne 28 21 d3_18 (by decide) rfl rfl (fun c83 => ?_) (fun c83 => ?_)
    · refine r_lloadN 29 rfl d3_28 rfl ?_
      refine r_lload 31 rfl d3_29 rfl ?_
      refine r_iload 33 rfl d3_31 rfl ?_
      refine r_static 36 rfl d3_33 (wd hw 5 rfl) (wd hw 6 rfl) (wd hw 3 rfl) (wd hw 7 rfl) (by decide) (Pays.con (K := K) (B := b_pick9) (c_drawn V hw lo hi 9 h _) (wd hw 7 rfl) (wd hw 3 rfl) (by decide) (by decide)) (W := 0) (argsL := [.long lo, .long hi, .int (9 : Int32)]) (lenOf pd_2 rfl) rfl rfl rfl (Nat.le_of_eq rfl) (Nat.le_of_ble_eq_true rfl) (Nat.le_of_ble_eq_true rfl) fun v87 h88 ps84 q86 z85 => ?_
      obtain ⟨z, rfl, hz, es89⟩ := q86
      subst h88
      show Own.Run V K b_pick9 _ h _ 0 0 36 [.val (.int wh), .val (.int ex), .val (.long lo), .second, .val (.long hi), .second, .val (.int (9 : Int32)), .val (.int (2 : Int32))] [.int z]
      refine r_nret (t := .char) z rfl (by simp) (nby hz) d3_36 (by decide) (by decide) [] (fun _ q => nomatch q) ?_
      exact ⟨_, rfl, hz, Ext.refl0 _⟩
    refine r_iload 23 rfl d3_21 rfl ?_
    refine r_iload 25 rfl d3_23 rfl ?_
    refine r_icmp_lt 37 28 d3_25 (by decide) rfl rfl (fun c90 => ?_) (fun c90 => ?_)
    · exact absurd c90 (by decide)
    · refine r_lloadN 29 rfl d3_28 rfl ?_
      refine r_lload 31 rfl d3_29 rfl ?_
      refine r_iload 33 rfl d3_31 rfl ?_
      refine r_static 36 rfl d3_33 (wd hw 5 rfl) (wd hw 6 rfl) (wd hw 3 rfl) (wd hw 7 rfl) (by decide) (Pays.con (K := K) (B := b_pick9) (c_drawn V hw lo hi 9 h _) (wd hw 7 rfl) (wd hw 3 rfl) (by decide) (by decide)) (W := 0) (argsL := [.long lo, .long hi, .int (9 : Int32)]) (lenOf pd_2 rfl) rfl rfl rfl (Nat.le_of_eq rfl) (Nat.le_of_ble_eq_true rfl) (Nat.le_of_ble_eq_true rfl) fun v94 h95 ps91 q93 z92 => ?_
      obtain ⟨z, rfl, hz, es96⟩ := q93
      subst h95
      show Own.Run V K b_pick9 _ h _ 0 0 36 [.val (.int wh), .val (.int ex), .val (.long lo), .second, .val (.long hi), .second, .val (.int (9 : Int32)), .val (.int (2 : Int32))] [.int z]
      refine r_nret (t := .char) z rfl (by simp) (nby hz) d3_36 (by decide) (by decide) [] (fun _ q => nomatch q) ?_
      exact ⟨_, rfl, hz, Ext.refl0 _⟩
  · refine r_bipush (9 : Int32) 6 rfl d3_4 rfl ?_
    refine r_goto 10 d3_6 (by decide) rfl ?_
    refine r_istore [.val (.int wh), .val (.int ex), .val (.long lo), .second, .val (.long hi), .second, .val (.int (9 : Int32)), .val (.int (9 : Int32))] 12 rfl d3_10 rfl ?_
    refine r_iloadN 13 rfl d3_12 rfl ?_
    refine r_iload 15 rfl d3_13 rfl ?_
    refine r_iushr 16 rfl d3_15 ?_
    refine r_iconst (1 : Int32) 17 rfl d3_16 rfl ?_
    refine r_iand 18 rfl d3_17 ?_
    refine r_if_ne 28 21 d3_18 (by decide) rfl rfl (fun c97 => ?_) (fun c97 => ?_)
    · refine r_lloadN 29 rfl d3_28 rfl ?_
      refine r_lload 31 rfl d3_29 rfl ?_
      refine r_iload 33 rfl d3_31 rfl ?_
      refine r_static 36 rfl d3_33 (wd hw 5 rfl) (wd hw 6 rfl) (wd hw 3 rfl) (wd hw 7 rfl) (by decide) (Pays.con (K := K) (B := b_pick9) (c_drawn V hw lo hi 9 h _) (wd hw 7 rfl) (wd hw 3 rfl) (by decide) (by decide)) (W := 0) (argsL := [.long lo, .long hi, .int (9 : Int32)]) (lenOf pd_2 rfl) rfl rfl rfl (Nat.le_of_eq rfl) (Nat.le_of_ble_eq_true rfl) (Nat.le_of_ble_eq_true rfl) fun v101 h102 ps98 q100 z99 => ?_
      obtain ⟨z, rfl, hz, es103⟩ := q100
      subst h102
      show Own.Run V K b_pick9 _ h _ 0 0 36 [.val (.int wh), .val (.int ex), .val (.long lo), .second, .val (.long hi), .second, .val (.int (9 : Int32)), .val (.int (9 : Int32))] [.int z]
      refine r_nret (t := .char) z rfl (by simp) (nby hz) d3_36 (by decide) (by decide) [] (fun _ q => nomatch q) ?_
      exact ⟨_, rfl, hz, Ext.refl0 _⟩
    refine r_iload 23 rfl d3_21 rfl ?_
    refine r_iload 25 rfl d3_23 rfl ?_
    refine r_icmp_lt 37 28 d3_25 (by decide) rfl rfl (fun c104 => ?_) (fun c104 => ?_)
    · exact absurd c104 (by decide)
    · refine r_lloadN 29 rfl d3_28 rfl ?_
      refine r_lload 31 rfl d3_29 rfl ?_
      refine r_iload 33 rfl d3_31 rfl ?_
      refine r_static 36 rfl d3_33 (wd hw 5 rfl) (wd hw 6 rfl) (wd hw 3 rfl) (wd hw 7 rfl) (by decide) (Pays.con (K := K) (B := b_pick9) (c_drawn V hw lo hi 9 h _) (wd hw 7 rfl) (wd hw 3 rfl) (by decide) (by decide)) (W := 0) (argsL := [.long lo, .long hi, .int (9 : Int32)]) (lenOf pd_2 rfl) rfl rfl rfl (Nat.le_of_eq rfl) (Nat.le_of_ble_eq_true rfl) (Nat.le_of_ble_eq_true rfl) fun v108 h109 ps105 q107 z106 => ?_
      obtain ⟨z, rfl, hz, es110⟩ := q107
      subst h109
      show Own.Run V K b_pick9 _ h _ 0 0 36 [.val (.int wh), .val (.int ex), .val (.long lo), .second, .val (.long hi), .second, .val (.int (9 : Int32)), .val (.int (9 : Int32))] [.int z]
      refine r_nret (t := .char) z rfl (by simp) (nby hz) d3_36 (by decide) (by decide) [] (fun _ q => nomatch q) ?_
      exact ⟨_, rfl, hz, Ext.refl0 _⟩
theorem d4_0 : decode method_5_code 0 = .ok (.iload_n 0, 1) := by decide +kernel
theorem d4_1 : decode method_5_code 1 = .ok (.ifCond .ne 6, 3) := by decide +kernel
theorem d4_4 : decode method_5_code 4 = .ok (.ldc 34, 2) := by decide +kernel
theorem d4_6 : decode method_5_code 6 = .ok (.areturn, 1) := by decide +kernel
theorem d4_7 : decode method_5_code 7 = .ok (.iload_n 0, 1) := by decide +kernel
theorem d4_8 : decode method_5_code 8 = .ok (.iconst 1, 1) := by decide +kernel
theorem d4_9 : decode method_5_code 9 = .ok (.if_icmp .ne 6, 3) := by decide +kernel
theorem d4_12 : decode method_5_code 12 = .ok (.ldc 40, 2) := by decide +kernel
theorem d4_14 : decode method_5_code 14 = .ok (.areturn, 1) := by decide +kernel
theorem d4_15 : decode method_5_code 15 = .ok (.iload_n 0, 1) := by decide +kernel
theorem d4_16 : decode method_5_code 16 = .ok (.iconst 2, 1) := by decide +kernel
theorem d4_17 : decode method_5_code 17 = .ok (.if_icmp .ne 6, 3) := by decide +kernel
theorem d4_20 : decode method_5_code 20 = .ok (.ldc 42, 2) := by decide +kernel
theorem d4_22 : decode method_5_code 22 = .ok (.areturn, 1) := by decide +kernel
theorem d4_23 : decode method_5_code 23 = .ok (.ldc 44, 2) := by decide +kernel
theorem d4_25 : decode method_5_code 25 = .ok (.areturn, 1) := by decide +kernel
abbrev b_other : Bx := (⟨"com/example/nimeton/nimeton/cli/LoggingVerbosePinLaw", "other", "(I)Ljava/lang/String;"⟩, method_5_code, 1, some (.object "java/lang/String"), { frames := 0, cells := 2, slots := 40, locals := 0 })
def Qot (V : Vw) (h0 : Heap) : Qt := fun v h _ => ∃ x : Nat, v = some (.ref x) ∧ Ext h0 h ∧ Exa V.Z h x "java/lang/String"
theorem c_other (V : Vw) (hw : ∀ d ∈ tables_1, d.before V.a0 V.Z = true) (hm : ("java/lang/String", 7) ∈ V.EL) (hn : V.nar = false) (cz : Int32) (hCS : Sta V.Z V.Z.heap "java/lang/String" "COMPACT_STRINGS" "Z" (.int cz)) (hcz : ¬ cz = 0) (fm : Value) (hFM : Sta V.Z V.Z.heap "jdk/internal/util/Preconditions" "SIOOBE_FORMATTER" "Ljava/util/function/BiFunction;" fm) (rf : fm.isRef = true) (hl34 : ("com/example/nimeton/nimeton/cli/LoggingVerbosePinLaw", 34) ∈ V.EL) (hl40 : ("com/example/nimeton/nimeton/cli/LoggingVerbosePinLaw", 40) ∈ V.EL) (hl42 : ("com/example/nimeton/nimeton/cli/LoggingVerbosePinLaw", 42) ∈ V.EL) (hl44 : ("com/example/nimeton/nimeton/cli/LoggingVerbosePinLaw", 44) ∈ V.EL) (k : Int32) (h : Heap) (ps : List Addr) : Con V b_other #[.int k] h ps (Qot V h) := Con.of (plainFor_of_name pn_1) (L := [.val (.int k)]) rfl fun K => by
  refine r_iloadN 1 rfl d4_0 rfl ?_
  refine r_if_ne 7 4 d4_1 (by decide) rfl rfl (fun c111 => ?_) (fun c111 => ?_)
  rotate_left
  · refine r_ldcS [.int 45, .int 45, .int 118, .int 101, .int 114, .int 98, .int 111, .int 115, .int 101] (9 : Int32) 36 6 rfl d4_4 (wd hw 9 rfl) (satoms V hw) hl34 hn (by decide) (by decide) rfl (by decide) (by decide) (by decide) (by decide) fun a112 b113 k114 h115 Eh115 Xh115 Ch115 Yh115 Ah115 Nh115 => ?_
    have sh115 := Eh115.1
    have la112 := ltN Xh115.lt
    have lb113 := ltN Ah115.lt
    refine r_aret (t := (.object "java/lang/String")) rfl rfl rfl d4_6 (by decide) (by decide) [] (fun _ q => nomatch q) ?_
    exact ⟨_, rfl, Eh115, Xh115⟩
  refine r_iloadN 8 rfl d4_7 rfl ?_
  refine r_iconst (1 : Int32) 9 rfl d4_8 rfl ?_
  refine r_icmp_ne 15 12 d4_9 (by decide) rfl rfl (fun c116 => ?_) (fun c116 => ?_)
  rotate_left
  · refine r_ldcS [.int 45, .int 118] (2 : Int32) 8 14 rfl d4_12 (wd hw 83 rfl) (satoms V hw) hl40 hn (by decide) (by decide) rfl (by decide) (by decide) (by decide) (by decide) fun a117 b118 k119 h120 Eh120 Xh120 Ch120 Yh120 Ah120 Nh120 => ?_
    have sh120 := Eh120.1
    have la117 := ltN Xh120.lt
    have lb118 := ltN Ah120.lt
    refine r_aret (t := (.object "java/lang/String")) rfl rfl rfl d4_14 (by decide) (by decide) [] (fun _ q => nomatch q) ?_
    exact ⟨_, rfl, Eh120, Xh120⟩
  refine r_iloadN 16 rfl d4_15 rfl ?_
  refine r_iconst (2 : Int32) 17 rfl d4_16 rfl ?_
  refine r_icmp_ne 23 20 d4_17 (by decide) rfl rfl (fun c121 => ?_) (fun c121 => ?_)
  rotate_left
  · refine r_ldcS [.int 120] (1 : Int32) 4 22 rfl d4_20 (wd hw 82 rfl) (satoms V hw) hl42 hn (by decide) (by decide) rfl (by decide) (by decide) (by decide) (by decide) fun a122 b123 k124 h125 Eh125 Xh125 Ch125 Yh125 Ah125 Nh125 => ?_
    have sh125 := Eh125.1
    have la122 := ltN Xh125.lt
    have lb123 := ltN Ah125.lt
    refine r_aret (t := (.object "java/lang/String")) rfl rfl rfl d4_22 (by decide) (by decide) [] (fun _ q => nomatch q) ?_
    exact ⟨_, rfl, Eh125, Xh125⟩
  refine r_ldcS [] (0 : Int32) 0 25 rfl d4_23 (wd hw 84 rfl) (satoms V hw) hl44 hn (by decide) (by decide) rfl (by decide) (by decide) (by decide) (by decide) fun a126 b127 k128 h129 Eh129 Xh129 Ch129 Yh129 Ah129 Nh129 => ?_
  have sh129 := Eh129.1
  have la126 := ltN Xh129.lt
  have lb127 := ltN Ah129.lt
  refine r_aret (t := (.object "java/lang/String")) rfl rfl rfl d4_25 (by decide) (by decide) [] (fun _ q => nomatch q) ?_
  exact ⟨_, rfl, Eh129, Xh129⟩
theorem d5_0 : decode prog_11_method_2_code 0 = .ok (.aload_n 0, 1) := by decide +kernel
theorem d5_1 : decode prog_11_method_2_code 1 = .ok (.arraylength, 1) := by decide +kernel
theorem d5_2 : decode prog_11_method_2_code 2 = .ok (.ifCond .le 29, 3) := by decide +kernel
theorem d5_5 : decode prog_11_method_2_code 5 = .ok (.aload_n 0, 1) := by decide +kernel
theorem d5_6 : decode prog_11_method_2_code 6 = .ok (.iconst 0, 1) := by decide +kernel
theorem d5_7 : decode prog_11_method_2_code 7 = .ok (.aaload, 1) := by decide +kernel
theorem d5_8 : decode prog_11_method_2_code 8 = .ok (.ldc 9, 2) := by decide +kernel
theorem d5_10 : decode prog_11_method_2_code 10 = .ok (.invokevirtual 11, 3) := by decide +kernel
theorem d5_13 : decode prog_11_method_2_code 13 = .ok (.ifCond .ne 14, 3) := by decide +kernel
theorem d5_16 : decode prog_11_method_2_code 16 = .ok (.aload_n 0, 1) := by decide +kernel
theorem d5_17 : decode prog_11_method_2_code 17 = .ok (.iconst 0, 1) := by decide +kernel
theorem d5_18 : decode prog_11_method_2_code 18 = .ok (.aaload, 1) := by decide +kernel
theorem d5_19 : decode prog_11_method_2_code 19 = .ok (.ldc 17, 2) := by decide +kernel
theorem d5_21 : decode prog_11_method_2_code 21 = .ok (.invokevirtual 11, 3) := by decide +kernel
theorem d5_24 : decode prog_11_method_2_code 24 = .ok (.ifCond .eq 7, 3) := by decide +kernel
theorem d5_27 : decode prog_11_method_2_code 27 = .ok (.iconst 1, 1) := by decide +kernel
theorem d5_28 : decode prog_11_method_2_code 28 = .ok (.goto 4, 3) := by decide +kernel
theorem d5_31 : decode prog_11_method_2_code 31 = .ok (.iconst 0, 1) := by decide +kernel
theorem d5_32 : decode prog_11_method_2_code 32 = .ok (.ireturn, 1) := by decide +kernel
abbrev b_verb : Bx := (⟨"com/example/nimeton/nimeton/cli/Logging", "verbose", "([Ljava/lang/String;)Z"⟩, prog_11_method_2_code, 1, some .boolean, { frames := 3, cells := 4, slots := 52, locals := 44 })
def Qv (q : Prop) (h0 : Heap) : Qt := fun v h _ => ∃ b : Int32, v = some (.int b) ∧ Ext h0 h ∧ (b = 1 ∧ q ∨ b = 0 ∧ ¬ q)
theorem c_verb0 (V : Vw) (hw : ∀ d ∈ tables_1, d.before V.a0 V.Z = true) (a : Nat) (k : ClassId) (vs : List Value) (h : Heap) (ps : List Addr) (A : Arv V.Z h a k (.object "java/lang/String") 0 vs .null) : Con V b_verb #[.ref a] h ps (Qv False h) := Con.of (plainFor_of_name pn_2) (L := [.val (.ref a)]) rfl fun K => by
  refine r_aloadN 1 rfl d5_0 rfl rfl ?_
  refine r_arraylength 2 rfl d5_1 A ?_
  refine r_if_le 31 5 d5_2 (by decide) rfl rfl (fun c130 => ?_) (fun c130 => ?_)
  rotate_left
  · exact absurd c130 (by decide)
  refine r_iconst (0 : Int32) 32 rfl d5_31 rfl ?_
  refine r_nret (t := .boolean) (0 : Int32) rfl (by simp) rfl d5_32 (by decide) (by decide) [] (fun _ q => nomatch q) ?_
  exact ⟨_, rfl, Ext.refl0 _, Or.inr ⟨rfl, id⟩⟩
theorem c_verb (V : Vw) (hw : ∀ d ∈ tables_1, d.before V.a0 V.Z = true) (hm : ("java/lang/String", 7) ∈ V.EL) (hn : V.nar = false) (cz : Int32) (hCS : Sta V.Z V.Z.heap "java/lang/String" "COMPACT_STRINGS" "Z" (.int cz)) (hcz : ¬ cz = 0) (hl9 : ("com/example/nimeton/nimeton/cli/Logging", 9) ∈ V.EL) (hl17 : ("com/example/nimeton/nimeton/cli/Logging", 17) ∈ V.EL) (a x m : Nat) (cs : List Int32) (k : ClassId) (z : Int32) (hz : 0 < z) (vs : List Value) (h : Heap) (ps : List Addr) (A : Arv V.Z h a k (.object "java/lang/String") z vs .null) (hv : vs.getD 0 .null = .ref x) (S : Str V h m x cs) : Con V b_verb #[.ref a] h ps (Qv (cs = LV ∨ cs = SV) h) := Con.of (plainFor_of_name pn_2) (L := [.val (.ref a)]) rfl fun K => by
  refine r_aloadN 1 rfl d5_0 rfl rfl ?_
  refine r_arraylength 2 rfl d5_1 A ?_
  refine r_if_le 31 5 d5_2 (by decide) rfl rfl (fun c131 => ?_) (fun c131 => ?_)
  · exact absurd hz c131
  refine r_aloadN 6 rfl d5_5 rfl rfl ?_
  refine r_iconst (0 : Int32) 7 rfl d5_6 rfl ?_
  refine r_aaload (v := .ref x) 8 rfl d5_7 A rfl ⟨by decide, hz⟩ hv ?_
  refine r_ldcS [.int 45, .int 45, .int 118, .int 101, .int 114, .int 98, .int 111, .int 115, .int 101] (9 : Int32) 36 10 rfl d5_8 (wd hw 71 rfl) (satoms V hw) hl9 hn (by decide) (by decide) rfl (by decide) (by decide) (by decide) (by decide) fun a132 b133 k134 h135 Eh135 Xh135 Ch135 Yh135 Ah135 Nh135 => ?_
  have f136 := Str.ext Eh135 S
  have f137 := A.ext Eh135
  have f138 := Exa.ext Eh135 S.exa
  have sh135 := Eh135.1
  have la132 := ltN Xh135.lt
  have lb133 := ltN Ah135.lt
  have SL1 := litStr LV Xh135 Ch135 Yh135 Ah135 rfl (by decide) LVby (by decide)
  refine Run.old fun OX1 => ?_
  refine r_virtual 13 rfl d5_10 (wd hw 72 rfl) (wd hw 73 rfl) (wd hw 75 rfl) (wd hw 74 rfl) (nfS (wd hw 75 rfl)) (by decide) f138 (pay_eq V hw K b_verb 0 x a132 m h135.size cs LV h135 _ f136 SL1 OX1 cz hCS hcz (by decide) (by decide)) (W := 0) (argsL := [.ref a132]) (lenOf pd_7 rfl) rfl rfl rfl (Nat.le_of_eq rfl) (Nat.le_of_ble_eq_true rfl) (Nat.le_of_ble_eq_true rfl) fun v142 h143 ps139 q141 z140 => ?_
  obtain ⟨e1, rfl, es144, he1⟩ := q141
  subst h143
  show Own.Run V K b_verb _ h135 _ 2 40 13 [.val (.ref a)] [.int e1]
  refine r_if_ne 27 16 d5_13 (by decide) rfl rfl (fun c145 => ?_) (fun c145 => ?_)
  · refine r_iconst (1 : Int32) 28 rfl d5_27 rfl ?_
    refine r_goto 32 d5_28 (by decide) rfl ?_
    refine r_nret (t := .boolean) (1 : Int32) rfl (by simp) rfl d5_32 (by decide) (by decide) [] (fun _ q => nomatch q) ?_
    exact ⟨_, rfl, Eh135, Or.inl ⟨rfl, Or.inl (bt he1 c145)⟩⟩
  refine r_aloadN 17 rfl d5_16 rfl rfl ?_
  refine r_iconst (0 : Int32) 18 rfl d5_17 rfl ?_
  refine r_aaload (v := .ref x) 19 rfl d5_18 f137 rfl ⟨by decide, hz⟩ hv ?_
  refine r_ldcS [.int 45, .int 118] (2 : Int32) 8 21 rfl d5_19 (wd hw 81 rfl) (satoms V hw) hl17 hn (by decide) (by decide) rfl (by decide) (by decide) (by decide) (by decide) fun a146 b147 k148 h149 Eh149 Xh149 Ch149 Yh149 Ah149 Nh149 => ?_
  have f150 := Str.ext Eh149 f136
  have f151 := f137.ext Eh149
  have f152 := Exa.ext Eh149 f138
  have f153 := Exa.ext Eh149 Xh135
  have f154 := Fld.ext Eh149 Ch135
  have f155 := Fld.ext Eh149 Yh135
  have f156 := Ah135.ext Eh149
  have sh149 := Eh149.1
  have la146 := ltN Xh149.lt
  have lb147 := ltN Ah149.lt
  have SL2 := litStr SV Xh149 Ch149 Yh149 Ah149 rfl (by decide) SVby (by decide)
  refine Run.old fun OX2 => ?_
  refine r_virtual 24 rfl d5_21 (wd hw 72 rfl) (wd hw 73 rfl) (wd hw 75 rfl) (wd hw 74 rfl) (nfS (wd hw 75 rfl)) (by decide) f152 (pay_eq V hw K b_verb 0 x a146 m h149.size cs SV h149 _ f150 SL2 OX2 cz hCS hcz (by decide) (by decide)) (W := 0) (argsL := [.ref a146]) (lenOf pd_7 rfl) rfl rfl rfl (Nat.le_of_eq rfl) (Nat.le_of_ble_eq_true rfl) (Nat.le_of_ble_eq_true rfl) fun v160 h161 ps157 q159 z158 => ?_
  obtain ⟨e2, rfl, es162, he2⟩ := q159
  subst h161
  show Own.Run V K b_verb _ h149 _ 4 52 24 [.val (.ref a)] [.int e2]
  refine r_if_eq 31 27 d5_24 (by decide) rfl rfl (fun c163 => ?_) (fun c163 => ?_)
  · refine r_iconst (0 : Int32) 32 rfl d5_31 rfl ?_
    refine r_nret (t := .boolean) (0 : Int32) rfl (by simp) rfl d5_32 (by decide) (by decide) [] (fun _ q => nomatch q) ?_
    exact ⟨_, rfl, Ext.trans' Eh135 Eh149, Or.inr ⟨rfl, fun q => q.elim (bf he1 c145) (bf he2 c163)⟩⟩
  · refine r_iconst (1 : Int32) 28 rfl d5_27 rfl ?_
    refine r_goto 32 d5_28 (by decide) rfl ?_
    refine r_nret (t := .boolean) (1 : Int32) rfl (by simp) rfl d5_32 (by decide) (by decide) [] (fun _ q => nomatch q) ?_
    exact ⟨_, rfl, Ext.trans' Eh135 Eh149, Or.inl ⟨rfl, Or.inr (bt he2 c163)⟩⟩
theorem isLV {n : Nat} {z0 z1 z2 z3 z4 z5 z6 z7 z8 z9 : Int32} (hn : n ≤ 10) : List.take n [z0, z1, z2, z3, z4, z5, z6, z7, z8, z9] = LV ↔ n = 9 ∧ z0 = 45 ∧ z1 = 45 ∧ z2 = 118 ∧ z3 = 101 ∧ z4 = 114 ∧ z5 = 98 ∧ z6 = 111 ∧ z7 = 115 ∧ z8 = 101 := by
  constructor
  · intro q
    have hl := congrArg List.length q
    rw [List.length_take] at hl
    have h9 : n = 9 := by simp only [List.length_cons, List.length_nil] at hl; omega
    subst h9
    simpa using q
  · rintro ⟨rfl, rfl, rfl, rfl, rfl, rfl, rfl, rfl, rfl, rfl⟩; rfl
theorem isSV {n : Nat} {z0 z1 z2 z3 z4 z5 z6 z7 z8 z9 : Int32} (hn : n ≤ 10) : List.take n [z0, z1, z2, z3, z4, z5, z6, z7, z8, z9] = SV ↔ n = 2 ∧ z0 = 45 ∧ z1 = 118 := by
  constructor
  · intro q
    have hl := congrArg List.length q
    rw [List.length_take] at hl
    have h9 : n = 2 := by simp only [List.length_cons, List.length_nil] at hl; omega
    subst h9
    simpa using q
  · rintro ⟨rfl, rfl, rfl⟩; rfl
theorem mod11 {z x : Int32} (e : z = (x &&& 15) % 11) : z = 0 ∨ z = 1 ∨ z = 2 ∨ z = 3 ∨ z = 4 ∨ z = 5 ∨ z = 6 ∨ z = 7 ∨ z = 8 ∨ z = 9 ∨ z = 10 := by
  have h := c_and x 15 (by decide)
  have q := (c_irem (x &&& 15) 11 11 (by decide)).1 h.1
  rw [← e] at q
  simp only [← Int32.toInt_inj]
  have e0 : (0 : Int32).toInt = 0 := rfl
  have e1 : (1 : Int32).toInt = 1 := rfl
  have e2 : (2 : Int32).toInt = 2 := rfl
  have e3 : (3 : Int32).toInt = 3 := rfl
  have e4 : (4 : Int32).toInt = 4 := rfl
  have e5 : (5 : Int32).toInt = 5 := rfl
  have e6 : (6 : Int32).toInt = 6 := rfl
  have e7 : (7 : Int32).toInt = 7 := rfl
  have e8 : (8 : Int32).toInt = 8 := rfl
  have e9 : (9 : Int32).toInt = 9 := rfl
  have e10 : (10 : Int32).toInt = 10 := rfl
  omega
theorem and4 {z x : Int32} (e : z = x &&& 3) : z = 0 ∨ z = 1 ∨ z = 2 ∨ z = 3 := by
  have h := c_and x 3 (by decide)
  rw [← e] at h
  simp only [← Int32.toInt_inj]
  have e0 : (0 : Int32).toInt = 0 := rfl
  have e1 : (1 : Int32).toInt = 1 := rfl
  have e2 : (2 : Int32).toInt = 2 := rfl
  have e3 : (3 : Int32).toInt = 3 := rfl
  omega
theorem take_by {cs : List Int32} (h : ∀ c ∈ cs, By c) (n : Nat) : ∀ c ∈ cs.take n, By c := fun c hc => h c (List.mem_of_mem_take hc)
theorem Arv.len {Z : State} {h : Heap} {b : Nat} {k : ClassId} {n m : Nat} {vs : List Value} (A : Arv Z h b k .char (Int32.ofNat n) vs (.int 0)) (e : m = n) : Arv Z h b k .char (Int32.ofNat m) vs (.int 0) := e ▸ A
abbrev b_law : Bx := (x, code, maxLocals, ret, room_1)
def Q1 : Qt := fun v _ _ => v = some (.int 1)
theorem c_law (V : Vw) (hw : ∀ d ∈ tables_1, d.before V.a0 V.Z = true) (hm : ("java/lang/String", 7) ∈ V.EL) (hn : V.nar = false) (cz : Int32) (hCS : Sta V.Z V.Z.heap "java/lang/String" "COMPACT_STRINGS" "Z" (.int cz)) (hcz : ¬ cz = 0) (fm : Value) (hFM : Sta V.Z V.Z.heap "jdk/internal/util/Preconditions" "SIOOBE_FORMATTER" "Ljava/util/function/BiFunction;" fm) (rf : fm.isRef = true) (hl34 : ("com/example/nimeton/nimeton/cli/LoggingVerbosePinLaw", 34) ∈ V.EL) (hl40 : ("com/example/nimeton/nimeton/cli/LoggingVerbosePinLaw", 40) ∈ V.EL) (hl42 : ("com/example/nimeton/nimeton/cli/LoggingVerbosePinLaw", 42) ∈ V.EL) (hl44 : ("com/example/nimeton/nimeton/cli/LoggingVerbosePinLaw", 44) ∈ V.EL) (hl9 : ("com/example/nimeton/nimeton/cli/Logging", 9) ∈ V.EL) (hl17 : ("com/example/nimeton/nimeton/cli/Logging", 17) ∈ V.EL) (p0 p1 : Int32) (lo hi : Int64) (h : Heap) : Con V b_law #[.int p0, .int p1, .long lo, .long hi] h [] Q1 := Con.of (plainFor_of_name pn_1) (L := [.val (.int p0), .val (.int p1), .val (.long lo), .second, .val (.long hi), .second, .unset, .unset, .unset, .unset, .unset, .unset, .unset, .unset, .unset]) (layL (by simp [Jvm.Sym.laidSlots, Bx.ml, maxLocals, Value.category, List.replicate])) fun K => by
  refine r_iloadN 1 rfl at_0 rfl ?_
  refine r_iconst (3 : Int32) 2 rfl at_1 rfl ?_
  refine r_iand 3 rfl at_2 ?_
  refine r_gen fun k164 hk164 => ?_
  refine r_istore [.val (.int p0), .val (.int p1), .val (.long lo), .second, .val (.long hi), .second, .val (.int k164), .unset, .unset, .unset, .unset, .unset, .unset, .unset, .unset] 5 rfl at_3 rfl ?_
  refine r_iloadN 6 rfl at_5 rfl ?_
  refine r_iconst (2 : Int32) 7 rfl at_6 rfl ?_
  refine r_iushr 8 rfl at_7 ?_
  refine r_bipush (15 : Int32) 10 rfl at_8 rfl ?_
  refine r_iand 11 rfl at_10 ?_
  refine r_bipush (11 : Int32) 13 rfl at_11 rfl ?_
  refine r_irem 14 rfl at_13 (by decide) ?_
  refine r_gen fun k165 hk165 => ?_
  refine r_istore [.val (.int p0), .val (.int p1), .val (.long lo), .second, .val (.long hi), .second, .val (.int k164), .val (.int k165), .unset, .unset, .unset, .unset, .unset, .unset, .unset] 16 rfl at_14 rfl ?_
  refine r_iloadN 17 rfl at_16 rfl ?_
  refine r_bipush (6 : Int32) 19 rfl at_17 rfl ?_
  refine r_iushr 20 rfl at_19 ?_
  refine r_iconst (1 : Int32) 21 rfl at_20 rfl ?_
  refine r_iand 22 rfl at_21 ?_
  refine r_gen fun k166 hk166 => ?_
  refine r_istore [.val (.int p0), .val (.int p1), .val (.long lo), .second, .val (.long hi), .second, .val (.int k164), .val (.int k165), .val (.int k166), .unset, .unset, .unset, .unset, .unset, .unset] 24 rfl at_22 rfl ?_
  have hm6 := and4 hk164
  have hm7 := mod11 hk165
  refine r_bipush (10 : Int32) 26 rfl at_24 rfl ?_
  refine r_newarray 10 28 rfl at_26 (wd hw 0 rfl) (by decide) (by decide) (by decide) (by decide) (by decide) fun a167 h168 k169 ga167 za167 Eh168 Aa167 => ?_
  have sh168 := Eh168.1
  have la167 := ltN Aa167.lt
  have f170 : Arv V.Z h168 a167 k169 .char (10 : Int32) [.int 0, .int 0, .int 0, .int 0, .int 0, .int 0, .int 0, .int 0, .int 0, .int 0] (.int 0) := Arv.pad Aa167 (pad_rep [] (.int 0) 10)
  refine r_astore [.val (.int p0), .val (.int p1), .val (.long lo), .second, .val (.long hi), .second, .val (.int k164), .val (.int k165), .val (.int k166), .val (.ref a167), .unset, .unset, .unset, .unset, .unset] 30 rfl at_28 rfl rfl ?_
  refine r_aload 32 rfl at_30 rfl rfl ?_
  refine r_iconst (0 : Int32) 33 rfl at_32 rfl ?_
  refine r_iload 35 rfl at_33 rfl ?_
  refine r_iloadN 36 rfl at_35 rfl ?_
  refine r_lloadN 37 rfl at_36 rfl ?_
  refine r_lload 39 rfl at_37 rfl ?_
  refine r_iconst (0 : Int32) 40 rfl at_39 rfl ?_
  refine r_static 43 rfl at_40 (wd hw 1 rfl) (wd hw 2 rfl) (wd hw 3 rfl) (wd hw 4 rfl) (by decide) (Pays.con (K := K) (B := b_law) (c_pick V hw hm hn cz hCS hcz fm hFM rf hl34 hl40 k166 p1 lo hi 0 (by decide) h168 _) (wd hw 4 rfl) (wd hw 3 rfl) (by decide) (by decide)) (W := 2) (argsL := [.int k166, .int p1, .long lo, .long hi, .int (0 : Int32)]) (lenOf pd_3 rfl) rfl rfl rfl (Nat.le_of_eq rfl) (Nat.le_of_ble_eq_true rfl) (Nat.le_of_ble_eq_true rfl) fun v174 h175 ps171 q173 z172 => ?_
  obtain ⟨z0, rfl, bz0, Ez0⟩ := q173
  have f176 := f170.ext Ez0
  have sh175 := Ez0.1
  show Own.Run V K b_law _ h175 _ 3 50 43 [.val (.int p0), .val (.int p1), .val (.long lo), .second, .val (.long hi), .second, .val (.int k164), .val (.int k165), .val (.int k166), .val (.ref a167), .unset, .unset, .unset, .unset, .unset] [.int z0, .int (0 : Int32), .ref a167]
  refine r_castore 0 44 rfl at_43 f176 (by decide) rfl (Nat.le_of_ble_eq_true rfl) za167 z0 (nby bz0) fun h177 Wh177 f178 => ?_
  have sh177 := Wh177.size
  replace f178 : Arv V.Z h177 a167 k169 .char (10 : Int32) [.int z0, .int 0, .int 0, .int 0, .int 0, .int 0, .int 0, .int 0, .int 0, .int 0] (.int 0) := f178
  refine r_aload 46 rfl at_44 rfl rfl ?_
  refine r_iconst (1 : Int32) 47 rfl at_46 rfl ?_
  refine r_iload 49 rfl at_47 rfl ?_
  refine r_iloadN 50 rfl at_49 rfl ?_
  refine r_lloadN 51 rfl at_50 rfl ?_
  refine r_lload 53 rfl at_51 rfl ?_
  refine r_iconst (1 : Int32) 54 rfl at_53 rfl ?_
  refine r_static 57 rfl at_54 (wd hw 1 rfl) (wd hw 2 rfl) (wd hw 3 rfl) (wd hw 4 rfl) (by decide) (Pays.con (K := K) (B := b_law) (c_pick V hw hm hn cz hCS hcz fm hFM rf hl34 hl40 k166 p1 lo hi 1 (by decide) h177 _) (wd hw 4 rfl) (wd hw 3 rfl) (by decide) (by decide)) (W := 2) (argsL := [.int k166, .int p1, .long lo, .long hi, .int (1 : Int32)]) (lenOf pd_3 rfl) rfl rfl rfl (Nat.le_of_eq rfl) (Nat.le_of_ble_eq_true rfl) (Nat.le_of_ble_eq_true rfl) fun v182 h183 ps179 q181 z180 => ?_
  obtain ⟨z1, rfl, bz1, Ez1⟩ := q181
  have f184 := f178.ext Ez1
  have sh183 := Ez1.1
  show Own.Run V K b_law _ h183 _ 5 90 57 [.val (.int p0), .val (.int p1), .val (.long lo), .second, .val (.long hi), .second, .val (.int k164), .val (.int k165), .val (.int k166), .val (.ref a167), .unset, .unset, .unset, .unset, .unset] [.int z1, .int (1 : Int32), .ref a167]
  refine r_castore 1 58 rfl at_57 f184 (by decide) rfl (Nat.le_of_ble_eq_true rfl) za167 z1 (nby bz1) fun h185 Wh185 f186 => ?_
  have sh185 := Wh185.size
  replace f186 : Arv V.Z h185 a167 k169 .char (10 : Int32) [.int z0, .int z1, .int 0, .int 0, .int 0, .int 0, .int 0, .int 0, .int 0, .int 0] (.int 0) := f186
  refine r_aload 60 rfl at_58 rfl rfl ?_
  refine r_iconst (2 : Int32) 61 rfl at_60 rfl ?_
  refine r_iload 63 rfl at_61 rfl ?_
  refine r_iloadN 64 rfl at_63 rfl ?_
  refine r_lloadN 65 rfl at_64 rfl ?_
  refine r_lload 67 rfl at_65 rfl ?_
  refine r_iconst (2 : Int32) 68 rfl at_67 rfl ?_
  refine r_static 71 rfl at_68 (wd hw 1 rfl) (wd hw 2 rfl) (wd hw 3 rfl) (wd hw 4 rfl) (by decide) (Pays.con (K := K) (B := b_law) (c_pick V hw hm hn cz hCS hcz fm hFM rf hl34 hl40 k166 p1 lo hi 2 (by decide) h185 _) (wd hw 4 rfl) (wd hw 3 rfl) (by decide) (by decide)) (W := 2) (argsL := [.int k166, .int p1, .long lo, .long hi, .int (2 : Int32)]) (lenOf pd_3 rfl) rfl rfl rfl (Nat.le_of_eq rfl) (Nat.le_of_ble_eq_true rfl) (Nat.le_of_ble_eq_true rfl) fun v190 h191 ps187 q189 z188 => ?_
  obtain ⟨z2, rfl, bz2, Ez2⟩ := q189
  have f192 := f186.ext Ez2
  have sh191 := Ez2.1
  show Own.Run V K b_law _ h191 _ 7 130 71 [.val (.int p0), .val (.int p1), .val (.long lo), .second, .val (.long hi), .second, .val (.int k164), .val (.int k165), .val (.int k166), .val (.ref a167), .unset, .unset, .unset, .unset, .unset] [.int z2, .int (2 : Int32), .ref a167]
  refine r_castore 2 72 rfl at_71 f192 (by decide) rfl (Nat.le_of_ble_eq_true rfl) za167 z2 (nby bz2) fun h193 Wh193 f194 => ?_
  have sh193 := Wh193.size
  replace f194 : Arv V.Z h193 a167 k169 .char (10 : Int32) [.int z0, .int z1, .int z2, .int 0, .int 0, .int 0, .int 0, .int 0, .int 0, .int 0] (.int 0) := f194
  refine r_aload 74 rfl at_72 rfl rfl ?_
  refine r_iconst (3 : Int32) 75 rfl at_74 rfl ?_
  refine r_iload 77 rfl at_75 rfl ?_
  refine r_iloadN 78 rfl at_77 rfl ?_
  refine r_lloadN 79 rfl at_78 rfl ?_
  refine r_lload 81 rfl at_79 rfl ?_
  refine r_iconst (3 : Int32) 82 rfl at_81 rfl ?_
  refine r_static 85 rfl at_82 (wd hw 1 rfl) (wd hw 2 rfl) (wd hw 3 rfl) (wd hw 4 rfl) (by decide) (Pays.con (K := K) (B := b_law) (c_pick V hw hm hn cz hCS hcz fm hFM rf hl34 hl40 k166 p1 lo hi 3 (by decide) h193 _) (wd hw 4 rfl) (wd hw 3 rfl) (by decide) (by decide)) (W := 2) (argsL := [.int k166, .int p1, .long lo, .long hi, .int (3 : Int32)]) (lenOf pd_3 rfl) rfl rfl rfl (Nat.le_of_eq rfl) (Nat.le_of_ble_eq_true rfl) (Nat.le_of_ble_eq_true rfl) fun v198 h199 ps195 q197 z196 => ?_
  obtain ⟨z3, rfl, bz3, Ez3⟩ := q197
  have f200 := f194.ext Ez3
  have sh199 := Ez3.1
  show Own.Run V K b_law _ h199 _ 9 170 85 [.val (.int p0), .val (.int p1), .val (.long lo), .second, .val (.long hi), .second, .val (.int k164), .val (.int k165), .val (.int k166), .val (.ref a167), .unset, .unset, .unset, .unset, .unset] [.int z3, .int (3 : Int32), .ref a167]
  refine r_castore 3 86 rfl at_85 f200 (by decide) rfl (Nat.le_of_ble_eq_true rfl) za167 z3 (nby bz3) fun h201 Wh201 f202 => ?_
  have sh201 := Wh201.size
  replace f202 : Arv V.Z h201 a167 k169 .char (10 : Int32) [.int z0, .int z1, .int z2, .int z3, .int 0, .int 0, .int 0, .int 0, .int 0, .int 0] (.int 0) := f202
  refine r_aload 88 rfl at_86 rfl rfl ?_
  refine r_iconst (4 : Int32) 89 rfl at_88 rfl ?_
  refine r_iload 91 rfl at_89 rfl ?_
  refine r_iloadN 92 rfl at_91 rfl ?_
  refine r_lloadN 93 rfl at_92 rfl ?_
  refine r_lload 95 rfl at_93 rfl ?_
  refine r_iconst (4 : Int32) 96 rfl at_95 rfl ?_
  refine r_static 99 rfl at_96 (wd hw 1 rfl) (wd hw 2 rfl) (wd hw 3 rfl) (wd hw 4 rfl) (by decide) (Pays.con (K := K) (B := b_law) (c_pick V hw hm hn cz hCS hcz fm hFM rf hl34 hl40 k166 p1 lo hi 4 (by decide) h201 _) (wd hw 4 rfl) (wd hw 3 rfl) (by decide) (by decide)) (W := 2) (argsL := [.int k166, .int p1, .long lo, .long hi, .int (4 : Int32)]) (lenOf pd_3 rfl) rfl rfl rfl (Nat.le_of_eq rfl) (Nat.le_of_ble_eq_true rfl) (Nat.le_of_ble_eq_true rfl) fun v206 h207 ps203 q205 z204 => ?_
  obtain ⟨z4, rfl, bz4, Ez4⟩ := q205
  have f208 := f202.ext Ez4
  have sh207 := Ez4.1
  show Own.Run V K b_law _ h207 _ 11 210 99 [.val (.int p0), .val (.int p1), .val (.long lo), .second, .val (.long hi), .second, .val (.int k164), .val (.int k165), .val (.int k166), .val (.ref a167), .unset, .unset, .unset, .unset, .unset] [.int z4, .int (4 : Int32), .ref a167]
  refine r_castore 4 100 rfl at_99 f208 (by decide) rfl (Nat.le_of_ble_eq_true rfl) za167 z4 (nby bz4) fun h209 Wh209 f210 => ?_
  have sh209 := Wh209.size
  replace f210 : Arv V.Z h209 a167 k169 .char (10 : Int32) [.int z0, .int z1, .int z2, .int z3, .int z4, .int 0, .int 0, .int 0, .int 0, .int 0] (.int 0) := f210
  refine r_aload 102 rfl at_100 rfl rfl ?_
  refine r_iconst (5 : Int32) 103 rfl at_102 rfl ?_
  refine r_iload 105 rfl at_103 rfl ?_
  refine r_iloadN 106 rfl at_105 rfl ?_
  refine r_lloadN 107 rfl at_106 rfl ?_
  refine r_lload 109 rfl at_107 rfl ?_
  refine r_iconst (5 : Int32) 110 rfl at_109 rfl ?_
  refine r_static 113 rfl at_110 (wd hw 1 rfl) (wd hw 2 rfl) (wd hw 3 rfl) (wd hw 4 rfl) (by decide) (Pays.con (K := K) (B := b_law) (c_pick V hw hm hn cz hCS hcz fm hFM rf hl34 hl40 k166 p1 lo hi 5 (by decide) h209 _) (wd hw 4 rfl) (wd hw 3 rfl) (by decide) (by decide)) (W := 2) (argsL := [.int k166, .int p1, .long lo, .long hi, .int (5 : Int32)]) (lenOf pd_3 rfl) rfl rfl rfl (Nat.le_of_eq rfl) (Nat.le_of_ble_eq_true rfl) (Nat.le_of_ble_eq_true rfl) fun v214 h215 ps211 q213 z212 => ?_
  obtain ⟨z5, rfl, bz5, Ez5⟩ := q213
  have f216 := f210.ext Ez5
  have sh215 := Ez5.1
  show Own.Run V K b_law _ h215 _ 13 250 113 [.val (.int p0), .val (.int p1), .val (.long lo), .second, .val (.long hi), .second, .val (.int k164), .val (.int k165), .val (.int k166), .val (.ref a167), .unset, .unset, .unset, .unset, .unset] [.int z5, .int (5 : Int32), .ref a167]
  refine r_castore 5 114 rfl at_113 f216 (by decide) rfl (Nat.le_of_ble_eq_true rfl) za167 z5 (nby bz5) fun h217 Wh217 f218 => ?_
  have sh217 := Wh217.size
  replace f218 : Arv V.Z h217 a167 k169 .char (10 : Int32) [.int z0, .int z1, .int z2, .int z3, .int z4, .int z5, .int 0, .int 0, .int 0, .int 0] (.int 0) := f218
  refine r_aload 116 rfl at_114 rfl rfl ?_
  refine r_bipush (6 : Int32) 118 rfl at_116 rfl ?_
  refine r_iload 120 rfl at_118 rfl ?_
  refine r_iloadN 121 rfl at_120 rfl ?_
  refine r_lloadN 122 rfl at_121 rfl ?_
  refine r_lload 124 rfl at_122 rfl ?_
  refine r_bipush (6 : Int32) 126 rfl at_124 rfl ?_
  refine r_static 129 rfl at_126 (wd hw 1 rfl) (wd hw 2 rfl) (wd hw 3 rfl) (wd hw 4 rfl) (by decide) (Pays.con (K := K) (B := b_law) (c_pick V hw hm hn cz hCS hcz fm hFM rf hl34 hl40 k166 p1 lo hi 6 (by decide) h217 _) (wd hw 4 rfl) (wd hw 3 rfl) (by decide) (by decide)) (W := 2) (argsL := [.int k166, .int p1, .long lo, .long hi, .int (6 : Int32)]) (lenOf pd_3 rfl) rfl rfl rfl (Nat.le_of_eq rfl) (Nat.le_of_ble_eq_true rfl) (Nat.le_of_ble_eq_true rfl) fun v222 h223 ps219 q221 z220 => ?_
  obtain ⟨z6, rfl, bz6, Ez6⟩ := q221
  have f224 := f218.ext Ez6
  have sh223 := Ez6.1
  show Own.Run V K b_law _ h223 _ 15 290 129 [.val (.int p0), .val (.int p1), .val (.long lo), .second, .val (.long hi), .second, .val (.int k164), .val (.int k165), .val (.int k166), .val (.ref a167), .unset, .unset, .unset, .unset, .unset] [.int z6, .int (6 : Int32), .ref a167]
  refine r_castore 6 130 rfl at_129 f224 (by decide) rfl (Nat.le_of_ble_eq_true rfl) za167 z6 (nby bz6) fun h225 Wh225 f226 => ?_
  have sh225 := Wh225.size
  replace f226 : Arv V.Z h225 a167 k169 .char (10 : Int32) [.int z0, .int z1, .int z2, .int z3, .int z4, .int z5, .int z6, .int 0, .int 0, .int 0] (.int 0) := f226
  refine r_aload 132 rfl at_130 rfl rfl ?_
  refine r_bipush (7 : Int32) 134 rfl at_132 rfl ?_
  refine r_iload 136 rfl at_134 rfl ?_
  refine r_iloadN 137 rfl at_136 rfl ?_
  refine r_lloadN 138 rfl at_137 rfl ?_
  refine r_lload 140 rfl at_138 rfl ?_
  refine r_bipush (7 : Int32) 142 rfl at_140 rfl ?_
  refine r_static 145 rfl at_142 (wd hw 1 rfl) (wd hw 2 rfl) (wd hw 3 rfl) (wd hw 4 rfl) (by decide) (Pays.con (K := K) (B := b_law) (c_pick V hw hm hn cz hCS hcz fm hFM rf hl34 hl40 k166 p1 lo hi 7 (by decide) h225 _) (wd hw 4 rfl) (wd hw 3 rfl) (by decide) (by decide)) (W := 2) (argsL := [.int k166, .int p1, .long lo, .long hi, .int (7 : Int32)]) (lenOf pd_3 rfl) rfl rfl rfl (Nat.le_of_eq rfl) (Nat.le_of_ble_eq_true rfl) (Nat.le_of_ble_eq_true rfl) fun v230 h231 ps227 q229 z228 => ?_
  obtain ⟨z7, rfl, bz7, Ez7⟩ := q229
  have f232 := f226.ext Ez7
  have sh231 := Ez7.1
  show Own.Run V K b_law _ h231 _ 17 330 145 [.val (.int p0), .val (.int p1), .val (.long lo), .second, .val (.long hi), .second, .val (.int k164), .val (.int k165), .val (.int k166), .val (.ref a167), .unset, .unset, .unset, .unset, .unset] [.int z7, .int (7 : Int32), .ref a167]
  refine r_castore 7 146 rfl at_145 f232 (by decide) rfl (Nat.le_of_ble_eq_true rfl) za167 z7 (nby bz7) fun h233 Wh233 f234 => ?_
  have sh233 := Wh233.size
  replace f234 : Arv V.Z h233 a167 k169 .char (10 : Int32) [.int z0, .int z1, .int z2, .int z3, .int z4, .int z5, .int z6, .int z7, .int 0, .int 0] (.int 0) := f234
  refine r_aload 148 rfl at_146 rfl rfl ?_
  refine r_bipush (8 : Int32) 150 rfl at_148 rfl ?_
  refine r_iload 152 rfl at_150 rfl ?_
  refine r_iloadN 153 rfl at_152 rfl ?_
  refine r_lloadN 154 rfl at_153 rfl ?_
  refine r_lload 156 rfl at_154 rfl ?_
  refine r_bipush (8 : Int32) 158 rfl at_156 rfl ?_
  refine r_static 161 rfl at_158 (wd hw 1 rfl) (wd hw 2 rfl) (wd hw 3 rfl) (wd hw 4 rfl) (by decide) (Pays.con (K := K) (B := b_law) (c_pick V hw hm hn cz hCS hcz fm hFM rf hl34 hl40 k166 p1 lo hi 8 (by decide) h233 _) (wd hw 4 rfl) (wd hw 3 rfl) (by decide) (by decide)) (W := 2) (argsL := [.int k166, .int p1, .long lo, .long hi, .int (8 : Int32)]) (lenOf pd_3 rfl) rfl rfl rfl (Nat.le_of_eq rfl) (Nat.le_of_ble_eq_true rfl) (Nat.le_of_ble_eq_true rfl) fun v238 h239 ps235 q237 z236 => ?_
  obtain ⟨z8, rfl, bz8, Ez8⟩ := q237
  have f240 := f234.ext Ez8
  have sh239 := Ez8.1
  show Own.Run V K b_law _ h239 _ 19 370 161 [.val (.int p0), .val (.int p1), .val (.long lo), .second, .val (.long hi), .second, .val (.int k164), .val (.int k165), .val (.int k166), .val (.ref a167), .unset, .unset, .unset, .unset, .unset] [.int z8, .int (8 : Int32), .ref a167]
  refine r_castore 8 162 rfl at_161 f240 (by decide) rfl (Nat.le_of_ble_eq_true rfl) za167 z8 (nby bz8) fun h241 Wh241 f242 => ?_
  have sh241 := Wh241.size
  replace f242 : Arv V.Z h241 a167 k169 .char (10 : Int32) [.int z0, .int z1, .int z2, .int z3, .int z4, .int z5, .int z6, .int z7, .int z8, .int 0] (.int 0) := f242
  refine r_aload 164 rfl at_162 rfl rfl ?_
  refine r_bipush (9 : Int32) 166 rfl at_164 rfl ?_
  refine r_iload 168 rfl at_166 rfl ?_
  refine r_iloadN 169 rfl at_168 rfl ?_
  refine r_lloadN 170 rfl at_169 rfl ?_
  refine r_lload 172 rfl at_170 rfl ?_
  refine r_bipush (9 : Int32) 174 rfl at_172 rfl ?_
  refine r_static 177 rfl at_174 (wd hw 1 rfl) (wd hw 2 rfl) (wd hw 3 rfl) (wd hw 4 rfl) (by decide) (Pays.con (K := K) (B := b_law) (c_pick9 V hw k166 p1 lo hi h241 _) (wd hw 4 rfl) (wd hw 3 rfl) (by decide) (by decide)) (W := 2) (argsL := [.int k166, .int p1, .long lo, .long hi, .int (9 : Int32)]) (lenOf pd_3 rfl) rfl rfl rfl (Nat.le_of_eq rfl) (Nat.le_of_ble_eq_true rfl) (Nat.le_of_ble_eq_true rfl) fun v246 h247 ps243 q245 z244 => ?_
  obtain ⟨z9, rfl, bz9, Ez9⟩ := q245
  have f248 := f242.ext Ez9
  have sh247 := Ez9.1
  show Own.Run V K b_law _ h247 _ 19 370 177 [.val (.int p0), .val (.int p1), .val (.long lo), .second, .val (.long hi), .second, .val (.int k164), .val (.int k165), .val (.int k166), .val (.ref a167), .unset, .unset, .unset, .unset, .unset] [.int z9, .int (9 : Int32), .ref a167]
  refine r_castore 9 178 rfl at_177 f248 (by decide) rfl (Nat.le_of_ble_eq_true rfl) za167 z9 (nby bz9) fun h249 Wh249 f250 => ?_
  have sh249 := Wh249.size
  replace f250 : Arv V.Z h249 a167 k169 .char (10 : Int32) [.int z0, .int z1, .int z2, .int z3, .int z4, .int z5, .int z6, .int z7, .int z8, .int z9] (.int 0) := f250
  have hfb : ∀ c ∈ [z0, z1, z2, z3, z4, z5, z6, z7, z8, z9], By c := (byS bz0 (byS bz1 (byS bz2 (byS bz3 (byS bz4 (byS bz5 (byS bz6 (byS bz7 (byS bz8 (by1 bz9))))))))))
  have j335 : ∀ (n b : Nat) (kb : ClassId) (hA : Heap) (pX : List Addr), n ≤ 10 → Ext h249 hA → Arv V.Z hA b kb .char (Int32.ofNat n) ((List.take n [z0, z1, z2, z3, z4, z5, z6, z7, z8, z9]).map Value.int) (.int 0) → Own.Run V K b_law Q1 hA pX 20 380 335 [.val (.int p0), .val (.int p1), .val (.long lo), .second, .val (.long hi), .second, .val (.int k164), .val (.int (Int32.ofNat n)), .val (.int k166), .val (.ref a167), .val (.ref b), .unset, .unset, .unset, .unset] [] := by
    intro n b kb hA pX hn10 EA AB
    have f251 := f250.ext EA
    have sA := EA.1
    have lb := ltN AB.lt
    have hlen : (List.take n [z0, z1, z2, z3, z4, z5, z6, z7, z8, z9]).length = n := by rw [List.length_take]; simp only [List.length_cons, List.length_nil]; omega
    have hLV := isLV (z0 := z0) (z1 := z1) (z2 := z2) (z3 := z3) (z4 := z4) (z5 := z5) (z6 := z6) (z7 := z7) (z8 := z8) (z9 := z9) hn10
    have hSV := isSV (z0 := z0) (z1 := z1) (z2 := z2) (z3 := z3) (z4 := z4) (z5 := z5) (z6 := z6) (z7 := z7) (z8 := z8) (z9 := z9) hn10
    have j398 : ∀ (ar : Nat) (ka : ClassId) (vs : List Value) (hB : Heap) (pY : List Addr), Ext hA hB → Arv V.Z hB ar ka (.object "java/lang/String") k164 vs .null → (k164 = 0 ∨ 0 < k164 ∧ ∃ (x m : Nat), vs.getD 0 .null = .ref x ∧ Str V hB m x (List.take n [z0, z1, z2, z3, z4, z5, z6, z7, z8, z9])) → Own.Run V K b_law Q1 hB pY 28 500 398 [.val (.int p0), .val (.int p1), .val (.long lo), .second, .val (.long hi), .second, .val (.int k164), .val (.int (Int32.ofNat n)), .val (.int k166), .val (.ref a167), .val (.ref b), .val (.ref ar), .unset, .unset, .unset] [] := by
      intro ar ka vs hB pY EB AR HV
      have f252 := f251.ext EB
      have j494 : ∀ {pX : List Addr} (e12 : Int32), (e12 = 1 ∧ (List.take n [z0, z1, z2, z3, z4, z5, z6, z7, z8, z9]) = LV ∨ e12 = 0 ∧ ¬ (List.take n [z0, z1, z2, z3, z4, z5, z6, z7, z8, z9]) = LV) → Own.Run V K b_law Q1 hB pX 28 500 494 [.val (.int p0), .val (.int p1), .val (.long lo), .second, .val (.long hi), .second, .val (.int k164), .val (.int (Int32.ofNat n)), .val (.int k166), .val (.ref a167), .val (.ref b), .val (.ref ar), .unset, .unset, .unset] [.int e12] := by
        intro pX e12 h12
        refine r_istore [.val (.int p0), .val (.int p1), .val (.long lo), .second, .val (.long hi), .second, .val (.int k164), .val (.int (Int32.ofNat n)), .val (.int k166), .val (.ref a167), .val (.ref b), .val (.ref ar), .val (.int e12), .unset, .unset] 496 rfl at_494 rfl ?_
        have j525 : ∀ {pX : List Addr} (e13 : Int32), (e13 = 1 ∧ (List.take n [z0, z1, z2, z3, z4, z5, z6, z7, z8, z9]) = SV ∨ e13 = 0 ∧ ¬ (List.take n [z0, z1, z2, z3, z4, z5, z6, z7, z8, z9]) = SV) → Own.Run V K b_law Q1 hB pX 28 500 525 [.val (.int p0), .val (.int p1), .val (.long lo), .second, .val (.long hi), .second, .val (.int k164), .val (.int (Int32.ofNat n)), .val (.int k166), .val (.ref a167), .val (.ref b), .val (.ref ar), .val (.int e12), .unset, .unset] [.int e13] := by
          intro pX e13 h13
          refine r_istore [.val (.int p0), .val (.int p1), .val (.long lo), .second, .val (.long hi), .second, .val (.int k164), .val (.int (Int32.ofNat n)), .val (.int k166), .val (.ref a167), .val (.ref b), .val (.ref ar), .val (.int e12), .val (.int e13), .unset] 527 rfl at_525 rfl ?_
          have j547 : ∀ {pX : List Addr} (e14 : Int32), (e14 = 1 ∧ (0 < k164 ∧ ((List.take n [z0, z1, z2, z3, z4, z5, z6, z7, z8, z9]) = LV ∨ (List.take n [z0, z1, z2, z3, z4, z5, z6, z7, z8, z9]) = SV)) ∨ e14 = 0 ∧ ¬ (0 < k164 ∧ ((List.take n [z0, z1, z2, z3, z4, z5, z6, z7, z8, z9]) = LV ∨ (List.take n [z0, z1, z2, z3, z4, z5, z6, z7, z8, z9]) = SV))) → Own.Run V K b_law Q1 hB pX 28 500 547 [.val (.int p0), .val (.int p1), .val (.long lo), .second, .val (.long hi), .second, .val (.int k164), .val (.int (Int32.ofNat n)), .val (.int k166), .val (.ref a167), .val (.ref b), .val (.ref ar), .val (.int e12), .val (.int e13), .unset] [.int e14] := by
            intro pX e14 h14
            refine r_istore [.val (.int p0), .val (.int p1), .val (.long lo), .second, .val (.long hi), .second, .val (.int k164), .val (.int (Int32.ofNat n)), .val (.int k166), .val (.ref a167), .val (.ref b), .val (.ref ar), .val (.int e12), .val (.int e13), .val (.int e14)] 549 rfl at_547 rfl ?_
            refine r_aload 551 rfl at_549 rfl rfl ?_
            rcases HV with h0 | ⟨h0, xs, ms, hxs, SX⟩
            · refine r_static 554 rfl at_551 (wd hw 44 rfl) (wd hw 45 rfl) (wd hw 46 rfl) (wd hw 47 rfl) (by decide) (Pays.con (K := K) (B := b_law) (c_verb0 V hw ar ka vs hB _ (h0 ▸ AR)) (wd hw 47 rfl) (wd hw 46 rfl) (by decide) (by decide)) (W := 0) (argsL := [.ref ar]) (lenOf pd_6 rfl) rfl rfl rfl (Nat.le_of_eq rfl) (Nat.le_of_ble_eq_true rfl) (Nat.le_of_ble_eq_true rfl) fun v256 h257 ps253 q255 z254 => ?_
              obtain ⟨eb, rfl, EV, hv⟩ := q255
              show Own.Run V K b_law _ h257 _ 32 552 554 [.val (.int p0), .val (.int p1), .val (.long lo), .second, .val (.long hi), .second, .val (.int k164), .val (.int (Int32.ofNat n)), .val (.int k166), .val (.ref a167), .val (.ref b), .val (.ref ar), .val (.int e12), .val (.int e13), .val (.int e14)] [.int eb]
              refine r_iload 556 rfl at_554 rfl ?_
              refine r_icmp_ne 563 559 at_556 (by decide) rfl rfl (fun c258 => ?_) (fun c258 => ?_)
              · exact absurd (beq hv h14 ⟨False.elim, fun q => absurd q.1 (by rw [h0]; decide)⟩) c258
              refine r_iconst (1 : Int32) 560 rfl at_559 rfl ?_
              refine r_goto 564 at_560 (by decide) rfl ?_
              refine r_nret (t := .boolean) (1 : Int32) rfl (by simp) rfl at_564 (by decide) (by decide) [] (fun _ q => nomatch q) ?_
              rfl
            · refine r_static 554 rfl at_551 (wd hw 44 rfl) (wd hw 45 rfl) (wd hw 46 rfl) (wd hw 47 rfl) (by decide) (Pays.con (K := K) (B := b_law) (c_verb V hw hm hn cz hCS hcz hl9 hl17 ar xs ms _ ka _ h0 vs hB _ AR hxs SX) (wd hw 47 rfl) (wd hw 46 rfl) (by decide) (by decide)) (W := 0) (argsL := [.ref ar]) (lenOf pd_6 rfl) rfl rfl rfl (Nat.le_of_eq rfl) (Nat.le_of_ble_eq_true rfl) (Nat.le_of_ble_eq_true rfl) fun v262 h263 ps259 q261 z260 => ?_
              obtain ⟨eb, rfl, EV, hv⟩ := q261
              show Own.Run V K b_law _ h263 _ 32 552 554 [.val (.int p0), .val (.int p1), .val (.long lo), .second, .val (.long hi), .second, .val (.int k164), .val (.int (Int32.ofNat n)), .val (.int k166), .val (.ref a167), .val (.ref b), .val (.ref ar), .val (.int e12), .val (.int e13), .val (.int e14)] [.int eb]
              refine r_iload 556 rfl at_554 rfl ?_
              refine r_icmp_ne 563 559 at_556 (by decide) rfl rfl (fun c264 => ?_) (fun c264 => ?_)
              · exact absurd (beq hv h14 ⟨fun q => ⟨h0, q⟩, fun q => q.2⟩) c264
              refine r_iconst (1 : Int32) 560 rfl at_559 rfl ?_
              refine r_goto 564 at_560 (by decide) rfl ?_
              refine r_nret (t := .boolean) (1 : Int32) rfl (by simp) rfl at_564 (by decide) (by decide) [] (fun _ q => nomatch q) ?_
              rfl
          refine r_iload 529 rfl at_527 rfl ?_
          refine r_if_le 546 532 at_529 (by decide) rfl rfl (fun c265 => ?_) (fun c265 => ?_)
          · refine r_iconst (0 : Int32) 547 rfl at_546 rfl ?_
            exact j547 0 (Or.inr ⟨rfl, fun q => c265 q.1⟩)
          refine r_iload 534 rfl at_532 rfl ?_
          refine r_if_ne 542 537 at_534 (by decide) rfl rfl (fun c266 => ?_) (fun c266 => ?_)
          · refine r_iconst (1 : Int32) 543 rfl at_542 rfl ?_
            refine r_goto 547 at_543 (by decide) rfl ?_
            exact j547 1 (Or.inl ⟨rfl, c265, Or.inl (bt h12 c266)⟩)
          refine r_iload 539 rfl at_537 rfl ?_
          refine r_if_eq 546 542 at_539 (by decide) rfl rfl (fun c267 => ?_) (fun c267 => ?_)
          · refine r_iconst (0 : Int32) 547 rfl at_546 rfl ?_
            exact j547 0 (Or.inr ⟨rfl, fun q => q.2.elim (bf h12 c266) (bf h13 c267)⟩)
          · refine r_iconst (1 : Int32) 543 rfl at_542 rfl ?_
            refine r_goto 547 at_543 (by decide) rfl ?_
            exact j547 1 (Or.inl ⟨rfl, c265, Or.inr (bt h13 c267)⟩)
        refine r_iload 498 rfl at_496 rfl ?_
        refine r_iconst (2 : Int32) 499 rfl at_498 rfl ?_
        refine r_icmp_ne 524 502 at_499 (by decide) rfl rfl (fun c268 => ?_) (fun c268 => ?_)
        · refine r_iconst (0 : Int32) 525 rfl at_524 rfl ?_
          exact j525 0 (Or.inr ⟨rfl, fun q => c268 (by rw [(hSV.mp q).1]; rfl)⟩)
        refine r_aload 504 rfl at_502 rfl rfl ?_
        refine r_iconst (0 : Int32) 505 rfl at_504 rfl ?_
        refine r_caload (v := .int z0) 506 rfl at_505 f252 (by decide) rfl ?_
        refine r_bipush (45 : Int32) 508 rfl at_506 rfl ?_
        refine r_icmp_ne 524 511 at_508 (by decide) rfl rfl (fun c269 => ?_) (fun c269 => ?_)
        · refine r_iconst (0 : Int32) 525 rfl at_524 rfl ?_
          exact j525 0 (Or.inr ⟨rfl, fun q => c269 (hSV.mp q).2.1⟩)
        refine r_aload 513 rfl at_511 rfl rfl ?_
        refine r_iconst (1 : Int32) 514 rfl at_513 rfl ?_
        refine r_caload (v := .int z1) 515 rfl at_514 f252 (by decide) rfl ?_
        refine r_bipush (118 : Int32) 517 rfl at_515 rfl ?_
        refine r_icmp_ne 524 520 at_517 (by decide) rfl rfl (fun c270 => ?_) (fun c270 => ?_)
        · refine r_iconst (0 : Int32) 525 rfl at_524 rfl ?_
          exact j525 0 (Or.inr ⟨rfl, fun q => c270 (hSV.mp q).2.2⟩)
        refine r_iconst (1 : Int32) 521 rfl at_520 rfl ?_
        refine r_goto 525 at_521 (by decide) rfl ?_
        exact j525 1 (Or.inl ⟨rfl, hSV.mpr ⟨ofN_inj (k := 2) (by omega) (by decide) c268, c269, c270⟩⟩)
      refine r_iload 400 rfl at_398 rfl ?_
      refine r_bipush (9 : Int32) 402 rfl at_400 rfl ?_
      refine r_icmp_ne 493 405 at_402 (by decide) rfl rfl (fun c271 => ?_) (fun c271 => ?_)
      · refine r_iconst (0 : Int32) 494 rfl at_493 rfl ?_
        exact j494 0 (Or.inr ⟨rfl, fun q => c271 (by rw [(hLV.mp q).1]; rfl)⟩)
      refine r_aload 407 rfl at_405 rfl rfl ?_
      refine r_iconst (0 : Int32) 408 rfl at_407 rfl ?_
      refine r_caload (v := .int z0) 409 rfl at_408 f252 (by decide) rfl ?_
      refine r_bipush (45 : Int32) 411 rfl at_409 rfl ?_
      refine r_icmp_ne 493 414 at_411 (by decide) rfl rfl (fun c272 => ?_) (fun c272 => ?_)
      · refine r_iconst (0 : Int32) 494 rfl at_493 rfl ?_
        exact j494 0 (Or.inr ⟨rfl, fun q => c272 (hLV.mp q).2.1⟩)
      refine r_aload 416 rfl at_414 rfl rfl ?_
      refine r_iconst (1 : Int32) 417 rfl at_416 rfl ?_
      refine r_caload (v := .int z1) 418 rfl at_417 f252 (by decide) rfl ?_
      refine r_bipush (45 : Int32) 420 rfl at_418 rfl ?_
      refine r_icmp_ne 493 423 at_420 (by decide) rfl rfl (fun c273 => ?_) (fun c273 => ?_)
      · refine r_iconst (0 : Int32) 494 rfl at_493 rfl ?_
        exact j494 0 (Or.inr ⟨rfl, fun q => c273 (hLV.mp q).2.2.1⟩)
      refine r_aload 425 rfl at_423 rfl rfl ?_
      refine r_iconst (2 : Int32) 426 rfl at_425 rfl ?_
      refine r_caload (v := .int z2) 427 rfl at_426 f252 (by decide) rfl ?_
      refine r_bipush (118 : Int32) 429 rfl at_427 rfl ?_
      refine r_icmp_ne 493 432 at_429 (by decide) rfl rfl (fun c274 => ?_) (fun c274 => ?_)
      · refine r_iconst (0 : Int32) 494 rfl at_493 rfl ?_
        exact j494 0 (Or.inr ⟨rfl, fun q => c274 (hLV.mp q).2.2.2.1⟩)
      refine r_aload 434 rfl at_432 rfl rfl ?_
      refine r_iconst (3 : Int32) 435 rfl at_434 rfl ?_
      refine r_caload (v := .int z3) 436 rfl at_435 f252 (by decide) rfl ?_
      refine r_bipush (101 : Int32) 438 rfl at_436 rfl ?_
      refine r_icmp_ne 493 441 at_438 (by decide) rfl rfl (fun c275 => ?_) (fun c275 => ?_)
      · refine r_iconst (0 : Int32) 494 rfl at_493 rfl ?_
        exact j494 0 (Or.inr ⟨rfl, fun q => c275 (hLV.mp q).2.2.2.2.1⟩)
      refine r_aload 443 rfl at_441 rfl rfl ?_
      refine r_iconst (4 : Int32) 444 rfl at_443 rfl ?_
      refine r_caload (v := .int z4) 445 rfl at_444 f252 (by decide) rfl ?_
      refine r_bipush (114 : Int32) 447 rfl at_445 rfl ?_
      refine r_icmp_ne 493 450 at_447 (by decide) rfl rfl (fun c276 => ?_) (fun c276 => ?_)
      · refine r_iconst (0 : Int32) 494 rfl at_493 rfl ?_
        exact j494 0 (Or.inr ⟨rfl, fun q => c276 (hLV.mp q).2.2.2.2.2.1⟩)
      refine r_aload 452 rfl at_450 rfl rfl ?_
      refine r_iconst (5 : Int32) 453 rfl at_452 rfl ?_
      refine r_caload (v := .int z5) 454 rfl at_453 f252 (by decide) rfl ?_
      refine r_bipush (98 : Int32) 456 rfl at_454 rfl ?_
      refine r_icmp_ne 493 459 at_456 (by decide) rfl rfl (fun c277 => ?_) (fun c277 => ?_)
      · refine r_iconst (0 : Int32) 494 rfl at_493 rfl ?_
        exact j494 0 (Or.inr ⟨rfl, fun q => c277 (hLV.mp q).2.2.2.2.2.2.1⟩)
      refine r_aload 461 rfl at_459 rfl rfl ?_
      refine r_bipush (6 : Int32) 463 rfl at_461 rfl ?_
      refine r_caload (v := .int z6) 464 rfl at_463 f252 (by decide) rfl ?_
      refine r_bipush (111 : Int32) 466 rfl at_464 rfl ?_
      refine r_icmp_ne 493 469 at_466 (by decide) rfl rfl (fun c278 => ?_) (fun c278 => ?_)
      · refine r_iconst (0 : Int32) 494 rfl at_493 rfl ?_
        exact j494 0 (Or.inr ⟨rfl, fun q => c278 (hLV.mp q).2.2.2.2.2.2.2.1⟩)
      refine r_aload 471 rfl at_469 rfl rfl ?_
      refine r_bipush (7 : Int32) 473 rfl at_471 rfl ?_
      refine r_caload (v := .int z7) 474 rfl at_473 f252 (by decide) rfl ?_
      refine r_bipush (115 : Int32) 476 rfl at_474 rfl ?_
      refine r_icmp_ne 493 479 at_476 (by decide) rfl rfl (fun c279 => ?_) (fun c279 => ?_)
      · refine r_iconst (0 : Int32) 494 rfl at_493 rfl ?_
        exact j494 0 (Or.inr ⟨rfl, fun q => c279 (hLV.mp q).2.2.2.2.2.2.2.2.1⟩)
      refine r_aload 481 rfl at_479 rfl rfl ?_
      refine r_bipush (8 : Int32) 483 rfl at_481 rfl ?_
      refine r_caload (v := .int z8) 484 rfl at_483 f252 (by decide) rfl ?_
      refine r_bipush (101 : Int32) 486 rfl at_484 rfl ?_
      refine r_icmp_ne 493 489 at_486 (by decide) rfl rfl (fun c280 => ?_) (fun c280 => ?_)
      · refine r_iconst (0 : Int32) 494 rfl at_493 rfl ?_
        exact j494 0 (Or.inr ⟨rfl, fun q => c280 (hLV.mp q).2.2.2.2.2.2.2.2.2⟩)
      refine r_iconst (1 : Int32) 490 rfl at_489 rfl ?_
      refine r_goto 494 at_490 (by decide) rfl ?_
      exact j494 1 (Or.inl ⟨rfl, hLV.mpr ⟨ofN_inj (k := 9) (by omega) (by decide) c271, c272, c273, c274, c275, c276, c277, c278, c279, c280⟩⟩)
    rcases hm6 with rfl | rfl | rfl | rfl
    · refine r_iload 337 rfl at_335 rfl ?_
      refine r_anewarray 0 340 rfl at_337 (wd hw 42 rfl) (wd hw 43 rfl) (by decide) (by decide) (by decide) (by decide) (by decide) fun a281 h282 k283 ga281 za281 Eh282 Aa281 Oa281 => ?_
      have f284 := f251.ext Eh282
      have f285 := AB.ext Eh282
      have sh282 := Eh282.1
      have la281 := ltN Aa281.lt
      have f286 : Arv V.Z h282 a281 k283 (.object "java/lang/String") (0 : Int32) [] .null := Arv.pad Aa281 (pad_rep [] .null 0)
      refine r_astore [.val (.int p0), .val (.int p1), .val (.long lo), .second, .val (.long hi), .second, .val (.int (0 : Int32)), .val (.int (Int32.ofNat n)), .val (.int k166), .val (.ref a167), .val (.ref b), .val (.ref a281), .unset, .unset, .unset] 342 rfl at_340 rfl rfl ?_
      refine r_iload 344 rfl at_342 rfl ?_
      refine r_if_le 360 347 at_344 (by decide) rfl rfl (fun c287 => ?_) (fun c287 => ?_)
      rotate_left
      · exact absurd c287 (by decide)
      refine r_iload 362 rfl at_360 rfl ?_
      refine r_iconst (1 : Int32) 363 rfl at_362 rfl ?_
      refine r_icmp_le 379 366 at_363 (by decide) rfl rfl (fun c288 => ?_) (fun c288 => ?_)
      rotate_left
      · exact absurd c288 (by decide)
      refine r_iload 381 rfl at_379 rfl ?_
      refine r_iconst (2 : Int32) 382 rfl at_381 rfl ?_
      refine r_icmp_le 398 385 at_382 (by decide) rfl rfl (fun c289 => ?_) (fun c289 => ?_)
      rotate_left
      · exact absurd c289 (by decide)
      exact (j398 a281 _ _ _ _ (Eh282) f286 (Or.inl rfl)).more (by decide) (by decide)
    · refine r_iload 337 rfl at_335 rfl ?_
      refine r_anewarray 1 340 rfl at_337 (wd hw 42 rfl) (wd hw 43 rfl) (by decide) (by decide) (by decide) (by decide) (by decide) fun a290 h291 k292 ga290 za290 Eh291 Aa290 Oa290 => ?_
      have f293 := f251.ext Eh291
      have f294 := AB.ext Eh291
      have sh291 := Eh291.1
      have la290 := ltN Aa290.lt
      have f295 : Arv V.Z h291 a290 k292 (.object "java/lang/String") (1 : Int32) [.null] .null := Arv.pad Aa290 (pad_rep [] .null 1)
      refine r_astore [.val (.int p0), .val (.int p1), .val (.long lo), .second, .val (.long hi), .second, .val (.int (1 : Int32)), .val (.int (Int32.ofNat n)), .val (.int k166), .val (.ref a167), .val (.ref b), .val (.ref a290), .unset, .unset, .unset] 342 rfl at_340 rfl rfl ?_
      refine r_iload 344 rfl at_342 rfl ?_
      refine r_if_le 360 347 at_344 (by decide) rfl rfl (fun c296 => ?_) (fun c296 => ?_)
      · exact absurd c296 (by decide)
      refine r_aload 349 rfl at_347 rfl rfl ?_
      refine r_iconst (0 : Int32) 350 rfl at_349 rfl ?_
      refine r_new 353 rfl at_350 (wd hw 42 rfl) (wd hw 11 rfl) (wd hw 10 rfl) (by decide) (by decide) fun a297 h298 ga297 za297 Eh298 Xa297 Da297 => ?_
      have f299 := f293.ext Eh298
      have f300 := f294.ext Eh298
      have f301 := f295.ext Eh298
      have sh298 := Eh298.1
      have la297 := ltN Xa297.lt
      have f302 : Fld V.Z h298 a297 "java/lang/String" "value" "[B" (.null) := Da297 (Or.inr (wd hw 13 rfl)) (ty := (.array .byte)) (by decide)
      have f303 : Fld V.Z h298 a297 "java/lang/String" "coder" "B" (.int (0 : Int32)) := Da297 (Or.inr (wd hw 14 rfl)) (ty := .byte) (by decide)
      refine r_dup 354 rfl at_353 rfl ?_
      refine r_aload 356 rfl at_354 rfl rfl ?_
      refine Run.old fun OX => ?_
      have lx' : a297 < h298.size := by omega
      refine r_special 359 rfl at_356 rfl (wd hw 48 rfl) (wd hw 49 rfl) (wd hw 50 rfl) (by decide) (pay_newT V hw K b_law 3 hm hn a297 b kb (List.take n [z0, z1, z2, z3, z4, z5, z6, z7, z8, z9]) h298 _ za297 (Nat.le_trans za297 (Nat.le_of_lt lx')) (by simp) Xa297 f302 f303 (Arv.len f300 hlen) OX cz hCS hcz (by omega) (take_by hfb n) (by decide) (by decide)) (W := 3) (argsL := [.ref b]) (lenOf pd_1 rfl) rfl rfl rfl (Nat.le_of_eq rfl) (Nat.le_of_ble_eq_true rfl) (Nat.le_of_ble_eq_true rfl) fun v307 h308 ps304 q306 z305 => ?_
      obtain ⟨rfl, K1, S1⟩ := q306
      have f309 := Arv.keep f299 K1 (ninS (neA (by omega)) nin0)
      have f310 := Arv.keep f300 K1 (ninS (neA (by omega)) nin0)
      have f311 := Arv.keep f301 K1 (ninS (neA (by omega)) nin0)
      have f312 := Exa.keep Xa297 K1
      show Own.Run V K b_law _ h308 _ 24 395 359 [.val (.int p0), .val (.int p1), .val (.long lo), .second, .val (.long hi), .second, .val (.int (1 : Int32)), .val (.int (Int32.ofNat n)), .val (.int k166), .val (.ref a167), .val (.ref b), .val (.ref a290), .unset, .unset, .unset] [.ref a297, .int (0 : Int32), .ref a290]
      have sh308 := K1.1
      refine r_aastore 0 360 rfl at_359 f311 (fun c' A' q' => Sto.ofV A' q' Oa290 (Ins.self f312)) (by decide) rfl (Nat.le_of_ble_eq_true rfl) za290 rfl fun h313 Wh313 f314 => ?_
      have sh313 := Wh313.size
      have f315 : Str V h313 h308.size a297 (List.take n [z0, z1, z2, z3, z4, z5, z6, z7, z8, z9]) := by first | exact Str.keep (Keep.of_wr Wh313) (fun w hw' => by cases List.mem_singleton.mp hw'; exact leA (by omega)) S1 | exact Str.keepA (Keep.of_wr Wh313) f311 (by decide) (wd hw 11 rfl) S1
      have f316 := Arv.other f309 Wh313 (neA (by omega))
      have f317 := Exa.wr Wh313 f312
      replace f314 : Arv V.Z h313 a290 k292 (.object "java/lang/String") (1 : Int32) [.ref a297] .null := f314
      refine r_iload 362 rfl at_360 rfl ?_
      refine r_iconst (1 : Int32) 363 rfl at_362 rfl ?_
      refine r_icmp_le 379 366 at_363 (by decide) rfl rfl (fun c318 => ?_) (fun c318 => ?_)
      rotate_left
      · exact absurd c318 (by decide)
      refine r_iload 381 rfl at_379 rfl ?_
      refine r_iconst (2 : Int32) 382 rfl at_381 rfl ?_
      refine r_icmp_le 398 385 at_382 (by decide) rfl rfl (fun c319 => ?_) (fun c319 => ?_)
      rotate_left
      · exact absurd c319 (by decide)
      exact (j398 a290 _ _ _ _ (Ext.wr0 (Keep.ext0 (Ext.trans' (Eh291) Eh298) K1 (fun w hw' => by cases List.mem_singleton.mp hw'; exact leA (by omega))) Wh313 (by omega)) f314 (Or.inr ⟨by decide, a297, _, rfl, f315⟩)).more (by decide) (by decide)
    · refine r_iload 337 rfl at_335 rfl ?_
      refine r_anewarray 2 340 rfl at_337 (wd hw 42 rfl) (wd hw 43 rfl) (by decide) (by decide) (by decide) (by decide) (by decide) fun a320 h321 k322 ga320 za320 Eh321 Aa320 Oa320 => ?_
      have f323 := f251.ext Eh321
      have f324 := AB.ext Eh321
      have sh321 := Eh321.1
      have la320 := ltN Aa320.lt
      have f325 : Arv V.Z h321 a320 k322 (.object "java/lang/String") (2 : Int32) [.null, .null] .null := Arv.pad Aa320 (pad_rep [] .null 2)
      refine r_astore [.val (.int p0), .val (.int p1), .val (.long lo), .second, .val (.long hi), .second, .val (.int (2 : Int32)), .val (.int (Int32.ofNat n)), .val (.int k166), .val (.ref a167), .val (.ref b), .val (.ref a320), .unset, .unset, .unset] 342 rfl at_340 rfl rfl ?_
      refine r_iload 344 rfl at_342 rfl ?_
      refine r_if_le 360 347 at_344 (by decide) rfl rfl (fun c326 => ?_) (fun c326 => ?_)
      · exact absurd c326 (by decide)
      refine r_aload 349 rfl at_347 rfl rfl ?_
      refine r_iconst (0 : Int32) 350 rfl at_349 rfl ?_
      refine r_new 353 rfl at_350 (wd hw 42 rfl) (wd hw 11 rfl) (wd hw 10 rfl) (by decide) (by decide) fun a327 h328 ga327 za327 Eh328 Xa327 Da327 => ?_
      have f329 := f323.ext Eh328
      have f330 := f324.ext Eh328
      have f331 := f325.ext Eh328
      have sh328 := Eh328.1
      have la327 := ltN Xa327.lt
      have f332 : Fld V.Z h328 a327 "java/lang/String" "value" "[B" (.null) := Da327 (Or.inr (wd hw 13 rfl)) (ty := (.array .byte)) (by decide)
      have f333 : Fld V.Z h328 a327 "java/lang/String" "coder" "B" (.int (0 : Int32)) := Da327 (Or.inr (wd hw 14 rfl)) (ty := .byte) (by decide)
      refine r_dup 354 rfl at_353 rfl ?_
      refine r_aload 356 rfl at_354 rfl rfl ?_
      refine Run.old fun OX => ?_
      have lx' : a327 < h328.size := by omega
      refine r_special 359 rfl at_356 rfl (wd hw 48 rfl) (wd hw 49 rfl) (wd hw 50 rfl) (by decide) (pay_newT V hw K b_law 3 hm hn a327 b kb (List.take n [z0, z1, z2, z3, z4, z5, z6, z7, z8, z9]) h328 _ za327 (Nat.le_trans za327 (Nat.le_of_lt lx')) (by simp) Xa327 f332 f333 (Arv.len f330 hlen) OX cz hCS hcz (by omega) (take_by hfb n) (by decide) (by decide)) (W := 3) (argsL := [.ref b]) (lenOf pd_1 rfl) rfl rfl rfl (Nat.le_of_eq rfl) (Nat.le_of_ble_eq_true rfl) (Nat.le_of_ble_eq_true rfl) fun v337 h338 ps334 q336 z335 => ?_
      obtain ⟨rfl, K1, S1⟩ := q336
      have f339 := Arv.keep f329 K1 (ninS (neA (by omega)) nin0)
      have f340 := Arv.keep f330 K1 (ninS (neA (by omega)) nin0)
      have f341 := Arv.keep f331 K1 (ninS (neA (by omega)) nin0)
      have f342 := Exa.keep Xa327 K1
      show Own.Run V K b_law _ h338 _ 24 396 359 [.val (.int p0), .val (.int p1), .val (.long lo), .second, .val (.long hi), .second, .val (.int (2 : Int32)), .val (.int (Int32.ofNat n)), .val (.int k166), .val (.ref a167), .val (.ref b), .val (.ref a320), .unset, .unset, .unset] [.ref a327, .int (0 : Int32), .ref a320]
      have sh338 := K1.1
      refine r_aastore 0 360 rfl at_359 f341 (fun c' A' q' => Sto.ofV A' q' Oa320 (Ins.self f342)) (by decide) rfl (Nat.le_of_ble_eq_true rfl) za320 rfl fun h343 Wh343 f344 => ?_
      have sh343 := Wh343.size
      have f345 : Str V h343 h338.size a327 (List.take n [z0, z1, z2, z3, z4, z5, z6, z7, z8, z9]) := by first | exact Str.keep (Keep.of_wr Wh343) (fun w hw' => by cases List.mem_singleton.mp hw'; exact leA (by omega)) S1 | exact Str.keepA (Keep.of_wr Wh343) f341 (by decide) (wd hw 11 rfl) S1
      have f346 := Arv.other f339 Wh343 (neA (by omega))
      have f347 := Exa.wr Wh343 f342
      replace f344 : Arv V.Z h343 a320 k322 (.object "java/lang/String") (2 : Int32) [.ref a327, .null] .null := f344
      refine r_iload 362 rfl at_360 rfl ?_
      refine r_iconst (1 : Int32) 363 rfl at_362 rfl ?_
      refine r_icmp_le 379 366 at_363 (by decide) rfl rfl (fun c348 => ?_) (fun c348 => ?_)
      · exact absurd c348 (by decide)
      refine r_aload 368 rfl at_366 rfl rfl ?_
      refine r_iconst (1 : Int32) 369 rfl at_368 rfl ?_
      refine r_iloadN 370 rfl at_369 rfl ?_
      refine r_bipush (7 : Int32) 372 rfl at_370 rfl ?_
      refine r_iushr 373 rfl at_372 ?_
      refine r_iconst (3 : Int32) 374 rfl at_373 rfl ?_
      refine r_iand 375 rfl at_374 ?_
      refine r_static 378 rfl at_375 (wd hw 68 rfl) (wd hw 69 rfl) (wd hw 3 rfl) (wd hw 70 rfl) (by decide) (Pays.con (K := K) (B := b_law) (c_other V hw hm hn cz hCS hcz fm hFM rf hl34 hl40 hl42 hl44 (ushr p0 7 &&& 3) h343 _) (wd hw 70 rfl) (wd hw 3 rfl) (by decide) (by decide)) (W := 2) (argsL := [.int ((ushr p0 (7 : Int32)) &&& (3 : Int32))]) (lenOf pd_5 rfl) rfl rfl rfl (Nat.le_of_eq rfl) (Nat.le_of_ble_eq_true rfl) (Nat.le_of_ble_eq_true rfl) fun v352 h353 ps349 q351 z350 => ?_
      obtain ⟨y2, rfl, EO2, XO2⟩ := q351
      have f354 := Str.ext EO2 f345
      have f355 := f346.ext EO2
      have f356 := f344.ext EO2
      have f357 := Exa.ext EO2 f347
      have sh353 := EO2.1
      show Own.Run V K b_law _ h353 _ 26 436 378 [.val (.int p0), .val (.int p1), .val (.long lo), .second, .val (.long hi), .second, .val (.int (2 : Int32)), .val (.int (Int32.ofNat n)), .val (.int k166), .val (.ref a167), .val (.ref b), .val (.ref a320), .unset, .unset, .unset] [.ref y2, .int (1 : Int32), .ref a320]
      refine r_aastore 1 379 rfl at_378 f356 (fun c' A' q' => Sto.ofV A' q' Oa320 (Ins.self XO2)) (by decide) rfl (Nat.le_of_ble_eq_true rfl) za320 rfl fun h358 Wh358 f359 => ?_
      have sh358 := Wh358.size
      have f360 : Str V h358 h338.size a327 (List.take n [z0, z1, z2, z3, z4, z5, z6, z7, z8, z9]) := by first | exact Str.keep (Keep.of_wr Wh358) (fun w hw' => by cases List.mem_singleton.mp hw'; exact leA (by omega)) f354 | exact Str.keepA (Keep.of_wr Wh358) f356 (by decide) (wd hw 11 rfl) f354
      have f361 := Arv.other f355 Wh358 (neA (by omega))
      have f362 := Exa.wr Wh358 f357
      have f363 := Exa.wr Wh358 XO2
      replace f359 : Arv V.Z h358 a320 k322 (.object "java/lang/String") (2 : Int32) [.ref a327, .ref y2] .null := f359
      refine r_iload 381 rfl at_379 rfl ?_
      refine r_iconst (2 : Int32) 382 rfl at_381 rfl ?_
      refine r_icmp_le 398 385 at_382 (by decide) rfl rfl (fun c364 => ?_) (fun c364 => ?_)
      rotate_left
      · exact absurd c364 (by decide)
      exact (j398 a320 _ _ _ _ (Ext.wr0 (Ext.trans' (Ext.wr0 (Keep.ext0 (Ext.trans' (Eh321) Eh328) K1 (fun w hw' => by cases List.mem_singleton.mp hw'; exact leA (by omega))) Wh343 (by omega)) EO2) Wh358 (by omega)) f359 (Or.inr ⟨by decide, a327, _, rfl, f360⟩)).more (by decide) (by decide)
    · refine r_iload 337 rfl at_335 rfl ?_
      refine r_anewarray 3 340 rfl at_337 (wd hw 42 rfl) (wd hw 43 rfl) (by decide) (by decide) (by decide) (by decide) (by decide) fun a365 h366 k367 ga365 za365 Eh366 Aa365 Oa365 => ?_
      have f368 := f251.ext Eh366
      have f369 := AB.ext Eh366
      have sh366 := Eh366.1
      have la365 := ltN Aa365.lt
      have f370 : Arv V.Z h366 a365 k367 (.object "java/lang/String") (3 : Int32) [.null, .null, .null] .null := Arv.pad Aa365 (pad_rep [] .null 3)
      refine r_astore [.val (.int p0), .val (.int p1), .val (.long lo), .second, .val (.long hi), .second, .val (.int (3 : Int32)), .val (.int (Int32.ofNat n)), .val (.int k166), .val (.ref a167), .val (.ref b), .val (.ref a365), .unset, .unset, .unset] 342 rfl at_340 rfl rfl ?_
      refine r_iload 344 rfl at_342 rfl ?_
      refine r_if_le 360 347 at_344 (by decide) rfl rfl (fun c371 => ?_) (fun c371 => ?_)
      · exact absurd c371 (by decide)
      refine r_aload 349 rfl at_347 rfl rfl ?_
      refine r_iconst (0 : Int32) 350 rfl at_349 rfl ?_
      refine r_new 353 rfl at_350 (wd hw 42 rfl) (wd hw 11 rfl) (wd hw 10 rfl) (by decide) (by decide) fun a372 h373 ga372 za372 Eh373 Xa372 Da372 => ?_
      have f374 := f368.ext Eh373
      have f375 := f369.ext Eh373
      have f376 := f370.ext Eh373
      have sh373 := Eh373.1
      have la372 := ltN Xa372.lt
      have f377 : Fld V.Z h373 a372 "java/lang/String" "value" "[B" (.null) := Da372 (Or.inr (wd hw 13 rfl)) (ty := (.array .byte)) (by decide)
      have f378 : Fld V.Z h373 a372 "java/lang/String" "coder" "B" (.int (0 : Int32)) := Da372 (Or.inr (wd hw 14 rfl)) (ty := .byte) (by decide)
      refine r_dup 354 rfl at_353 rfl ?_
      refine r_aload 356 rfl at_354 rfl rfl ?_
      refine Run.old fun OX => ?_
      have lx' : a372 < h373.size := by omega
      refine r_special 359 rfl at_356 rfl (wd hw 48 rfl) (wd hw 49 rfl) (wd hw 50 rfl) (by decide) (pay_newT V hw K b_law 3 hm hn a372 b kb (List.take n [z0, z1, z2, z3, z4, z5, z6, z7, z8, z9]) h373 _ za372 (Nat.le_trans za372 (Nat.le_of_lt lx')) (by simp) Xa372 f377 f378 (Arv.len f375 hlen) OX cz hCS hcz (by omega) (take_by hfb n) (by decide) (by decide)) (W := 3) (argsL := [.ref b]) (lenOf pd_1 rfl) rfl rfl rfl (Nat.le_of_eq rfl) (Nat.le_of_ble_eq_true rfl) (Nat.le_of_ble_eq_true rfl) fun v382 h383 ps379 q381 z380 => ?_
      obtain ⟨rfl, K1, S1⟩ := q381
      have f384 := Arv.keep f374 K1 (ninS (neA (by omega)) nin0)
      have f385 := Arv.keep f375 K1 (ninS (neA (by omega)) nin0)
      have f386 := Arv.keep f376 K1 (ninS (neA (by omega)) nin0)
      have f387 := Exa.keep Xa372 K1
      show Own.Run V K b_law _ h383 _ 24 397 359 [.val (.int p0), .val (.int p1), .val (.long lo), .second, .val (.long hi), .second, .val (.int (3 : Int32)), .val (.int (Int32.ofNat n)), .val (.int k166), .val (.ref a167), .val (.ref b), .val (.ref a365), .unset, .unset, .unset] [.ref a372, .int (0 : Int32), .ref a365]
      have sh383 := K1.1
      refine r_aastore 0 360 rfl at_359 f386 (fun c' A' q' => Sto.ofV A' q' Oa365 (Ins.self f387)) (by decide) rfl (Nat.le_of_ble_eq_true rfl) za365 rfl fun h388 Wh388 f389 => ?_
      have sh388 := Wh388.size
      have f390 : Str V h388 h383.size a372 (List.take n [z0, z1, z2, z3, z4, z5, z6, z7, z8, z9]) := by first | exact Str.keep (Keep.of_wr Wh388) (fun w hw' => by cases List.mem_singleton.mp hw'; exact leA (by omega)) S1 | exact Str.keepA (Keep.of_wr Wh388) f386 (by decide) (wd hw 11 rfl) S1
      have f391 := Arv.other f384 Wh388 (neA (by omega))
      have f392 := Exa.wr Wh388 f387
      replace f389 : Arv V.Z h388 a365 k367 (.object "java/lang/String") (3 : Int32) [.ref a372, .null, .null] .null := f389
      refine r_iload 362 rfl at_360 rfl ?_
      refine r_iconst (1 : Int32) 363 rfl at_362 rfl ?_
      refine r_icmp_le 379 366 at_363 (by decide) rfl rfl (fun c393 => ?_) (fun c393 => ?_)
      · exact absurd c393 (by decide)
      refine r_aload 368 rfl at_366 rfl rfl ?_
      refine r_iconst (1 : Int32) 369 rfl at_368 rfl ?_
      refine r_iloadN 370 rfl at_369 rfl ?_
      refine r_bipush (7 : Int32) 372 rfl at_370 rfl ?_
      refine r_iushr 373 rfl at_372 ?_
      refine r_iconst (3 : Int32) 374 rfl at_373 rfl ?_
      refine r_iand 375 rfl at_374 ?_
      refine r_static 378 rfl at_375 (wd hw 68 rfl) (wd hw 69 rfl) (wd hw 3 rfl) (wd hw 70 rfl) (by decide) (Pays.con (K := K) (B := b_law) (c_other V hw hm hn cz hCS hcz fm hFM rf hl34 hl40 hl42 hl44 (ushr p0 7 &&& 3) h388 _) (wd hw 70 rfl) (wd hw 3 rfl) (by decide) (by decide)) (W := 2) (argsL := [.int ((ushr p0 (7 : Int32)) &&& (3 : Int32))]) (lenOf pd_5 rfl) rfl rfl rfl (Nat.le_of_eq rfl) (Nat.le_of_ble_eq_true rfl) (Nat.le_of_ble_eq_true rfl) fun v397 h398 ps394 q396 z395 => ?_
      obtain ⟨y2, rfl, EO2, XO2⟩ := q396
      have f399 := Str.ext EO2 f390
      have f400 := f391.ext EO2
      have f401 := f389.ext EO2
      have f402 := Exa.ext EO2 f392
      have sh398 := EO2.1
      show Own.Run V K b_law _ h398 _ 26 437 378 [.val (.int p0), .val (.int p1), .val (.long lo), .second, .val (.long hi), .second, .val (.int (3 : Int32)), .val (.int (Int32.ofNat n)), .val (.int k166), .val (.ref a167), .val (.ref b), .val (.ref a365), .unset, .unset, .unset] [.ref y2, .int (1 : Int32), .ref a365]
      refine r_aastore 1 379 rfl at_378 f401 (fun c' A' q' => Sto.ofV A' q' Oa365 (Ins.self XO2)) (by decide) rfl (Nat.le_of_ble_eq_true rfl) za365 rfl fun h403 Wh403 f404 => ?_
      have sh403 := Wh403.size
      have f405 : Str V h403 h383.size a372 (List.take n [z0, z1, z2, z3, z4, z5, z6, z7, z8, z9]) := by first | exact Str.keep (Keep.of_wr Wh403) (fun w hw' => by cases List.mem_singleton.mp hw'; exact leA (by omega)) f399 | exact Str.keepA (Keep.of_wr Wh403) f401 (by decide) (wd hw 11 rfl) f399
      have f406 := Arv.other f400 Wh403 (neA (by omega))
      have f407 := Exa.wr Wh403 f402
      have f408 := Exa.wr Wh403 XO2
      replace f404 : Arv V.Z h403 a365 k367 (.object "java/lang/String") (3 : Int32) [.ref a372, .ref y2, .null] .null := f404
      refine r_iload 381 rfl at_379 rfl ?_
      refine r_iconst (2 : Int32) 382 rfl at_381 rfl ?_
      refine r_icmp_le 398 385 at_382 (by decide) rfl rfl (fun c409 => ?_) (fun c409 => ?_)
      · exact absurd c409 (by decide)
      refine r_aload 387 rfl at_385 rfl rfl ?_
      refine r_iconst (2 : Int32) 388 rfl at_387 rfl ?_
      refine r_iloadN 389 rfl at_388 rfl ?_
      refine r_bipush (9 : Int32) 391 rfl at_389 rfl ?_
      refine r_iushr 392 rfl at_391 ?_
      refine r_iconst (3 : Int32) 393 rfl at_392 rfl ?_
      refine r_iand 394 rfl at_393 ?_
      refine r_static 397 rfl at_394 (wd hw 68 rfl) (wd hw 69 rfl) (wd hw 3 rfl) (wd hw 70 rfl) (by decide) (Pays.con (K := K) (B := b_law) (c_other V hw hm hn cz hCS hcz fm hFM rf hl34 hl40 hl42 hl44 (ushr p0 9 &&& 3) h403 _) (wd hw 70 rfl) (wd hw 3 rfl) (by decide) (by decide)) (W := 2) (argsL := [.int ((ushr p0 (9 : Int32)) &&& (3 : Int32))]) (lenOf pd_5 rfl) rfl rfl rfl (Nat.le_of_eq rfl) (Nat.le_of_ble_eq_true rfl) (Nat.le_of_ble_eq_true rfl) fun v413 h414 ps410 q412 z411 => ?_
      obtain ⟨y3, rfl, EO3, XO3⟩ := q412
      have f415 := Str.ext EO3 f405
      have f416 := f406.ext EO3
      have f417 := f404.ext EO3
      have f418 := Exa.ext EO3 f407
      have f419 := Exa.ext EO3 f408
      have sh414 := EO3.1
      show Own.Run V K b_law _ h414 _ 28 477 397 [.val (.int p0), .val (.int p1), .val (.long lo), .second, .val (.long hi), .second, .val (.int (3 : Int32)), .val (.int (Int32.ofNat n)), .val (.int k166), .val (.ref a167), .val (.ref b), .val (.ref a365), .unset, .unset, .unset] [.ref y3, .int (2 : Int32), .ref a365]
      refine r_aastore 2 398 rfl at_397 f417 (fun c' A' q' => Sto.ofV A' q' Oa365 (Ins.self XO3)) (by decide) rfl (Nat.le_of_ble_eq_true rfl) za365 rfl fun h420 Wh420 f421 => ?_
      have sh420 := Wh420.size
      have f422 : Str V h420 h383.size a372 (List.take n [z0, z1, z2, z3, z4, z5, z6, z7, z8, z9]) := by first | exact Str.keep (Keep.of_wr Wh420) (fun w hw' => by cases List.mem_singleton.mp hw'; exact leA (by omega)) f415 | exact Str.keepA (Keep.of_wr Wh420) f417 (by decide) (wd hw 11 rfl) f415
      have f423 := Arv.other f416 Wh420 (neA (by omega))
      have f424 := Exa.wr Wh420 f418
      have f425 := Exa.wr Wh420 f419
      have f426 := Exa.wr Wh420 XO3
      replace f421 : Arv V.Z h420 a365 k367 (.object "java/lang/String") (3 : Int32) [.ref a372, .ref y2, .ref y3] .null := f421
      exact (j398 a365 _ _ _ _ (Ext.wr0 (Ext.trans' (Ext.wr0 (Ext.trans' (Ext.wr0 (Keep.ext0 (Ext.trans' (Eh366) Eh373) K1 (fun w hw' => by cases List.mem_singleton.mp hw'; exact leA (by omega))) Wh388 (by omega)) EO2) Wh403 (by omega)) EO3) Wh420 (by omega)) f421 (Or.inr ⟨by decide, a372, _, rfl, f422⟩)).more (by decide) (by decide)
  rcases hm7 with rfl | rfl | rfl | rfl | rfl | rfl | rfl | rfl | rfl | rfl | rfl
  · refine r_iload 180 rfl at_178 rfl ?_
    refine r_newarray 0 182 rfl at_180 (wd hw 0 rfl) (by decide) (by decide) (by decide) (by decide) (by decide) fun a427 h428 k429 ga427 za427 Eh428 Aa427 => ?_
    have f430 := f250.ext Eh428
    have sh428 := Eh428.1
    have la427 := ltN Aa427.lt
    have f431 : Arv V.Z h428 a427 k429 .char (0 : Int32) [] (.int 0) := Arv.pad Aa427 (pad_rep [] (.int 0) 0)
    refine r_astore [.val (.int p0), .val (.int p1), .val (.long lo), .second, .val (.long hi), .second, .val (.int k164), .val (.int (0 : Int32)), .val (.int k166), .val (.ref a167), .val (.ref a427), .unset, .unset, .unset, .unset] 184 rfl at_182 rfl rfl ?_
    refine r_iload 186 rfl at_184 rfl ?_
    refine r_if_le 197 189 at_186 (by decide) rfl rfl (fun c432 => ?_) (fun c432 => ?_)
    rotate_left
    · exact absurd c432 (by decide)
    refine r_iload 199 rfl at_197 rfl ?_
    refine r_iconst (1 : Int32) 200 rfl at_199 rfl ?_
    refine r_icmp_le 211 203 at_200 (by decide) rfl rfl (fun c433 => ?_) (fun c433 => ?_)
    rotate_left
    · exact absurd c433 (by decide)
    refine r_iload 213 rfl at_211 rfl ?_
    refine r_iconst (2 : Int32) 214 rfl at_213 rfl ?_
    refine r_icmp_le 225 217 at_214 (by decide) rfl rfl (fun c434 => ?_) (fun c434 => ?_)
    rotate_left
    · exact absurd c434 (by decide)
    refine r_iload 227 rfl at_225 rfl ?_
    refine r_iconst (3 : Int32) 228 rfl at_227 rfl ?_
    refine r_icmp_le 239 231 at_228 (by decide) rfl rfl (fun c435 => ?_) (fun c435 => ?_)
    rotate_left
    · exact absurd c435 (by decide)
    refine r_iload 241 rfl at_239 rfl ?_
    refine r_iconst (4 : Int32) 242 rfl at_241 rfl ?_
    refine r_icmp_le 253 245 at_242 (by decide) rfl rfl (fun c436 => ?_) (fun c436 => ?_)
    rotate_left
    · exact absurd c436 (by decide)
    refine r_iload 255 rfl at_253 rfl ?_
    refine r_iconst (5 : Int32) 256 rfl at_255 rfl ?_
    refine r_icmp_le 267 259 at_256 (by decide) rfl rfl (fun c437 => ?_) (fun c437 => ?_)
    rotate_left
    · exact absurd c437 (by decide)
    refine r_iload 269 rfl at_267 rfl ?_
    refine r_bipush (6 : Int32) 271 rfl at_269 rfl ?_
    refine r_icmp_le 284 274 at_271 (by decide) rfl rfl (fun c438 => ?_) (fun c438 => ?_)
    rotate_left
    · exact absurd c438 (by decide)
    refine r_iload 286 rfl at_284 rfl ?_
    refine r_bipush (7 : Int32) 288 rfl at_286 rfl ?_
    refine r_icmp_le 301 291 at_288 (by decide) rfl rfl (fun c439 => ?_) (fun c439 => ?_)
    rotate_left
    · exact absurd c439 (by decide)
    refine r_iload 303 rfl at_301 rfl ?_
    refine r_bipush (8 : Int32) 305 rfl at_303 rfl ?_
    refine r_icmp_le 318 308 at_305 (by decide) rfl rfl (fun c440 => ?_) (fun c440 => ?_)
    rotate_left
    · exact absurd c440 (by decide)
    refine r_iload 320 rfl at_318 rfl ?_
    refine r_bipush (9 : Int32) 322 rfl at_320 rfl ?_
    refine r_icmp_le 335 325 at_322 (by decide) rfl rfl (fun c441 => ?_) (fun c441 => ?_)
    rotate_left
    · exact absurd c441 (by decide)
    exact (j335 0 a427 _ _ _ (by decide) (Eh428) f431).more (by decide) (by decide)
  · refine r_iload 180 rfl at_178 rfl ?_
    refine r_newarray 1 182 rfl at_180 (wd hw 0 rfl) (by decide) (by decide) (by decide) (by decide) (by decide) fun a442 h443 k444 ga442 za442 Eh443 Aa442 => ?_
    have f445 := f250.ext Eh443
    have sh443 := Eh443.1
    have la442 := ltN Aa442.lt
    have f446 : Arv V.Z h443 a442 k444 .char (1 : Int32) [.int 0] (.int 0) := Arv.pad Aa442 (pad_rep [] (.int 0) 1)
    refine r_astore [.val (.int p0), .val (.int p1), .val (.long lo), .second, .val (.long hi), .second, .val (.int k164), .val (.int (1 : Int32)), .val (.int k166), .val (.ref a167), .val (.ref a442), .unset, .unset, .unset, .unset] 184 rfl at_182 rfl rfl ?_
    refine r_iload 186 rfl at_184 rfl ?_
    refine r_if_le 197 189 at_186 (by decide) rfl rfl (fun c447 => ?_) (fun c447 => ?_)
    · exact absurd c447 (by decide)
    refine r_aload 191 rfl at_189 rfl rfl ?_
    refine r_iconst (0 : Int32) 192 rfl at_191 rfl ?_
    refine r_aload 194 rfl at_192 rfl rfl ?_
    refine r_iconst (0 : Int32) 195 rfl at_194 rfl ?_
    refine r_caload (v := .int z0) 196 rfl at_195 f445 (by decide) rfl ?_
    refine r_castore 0 197 rfl at_196 f446 (by decide) rfl (Nat.le_of_ble_eq_true rfl) za442 z0 (nby bz0) fun h448 Wh448 f449 => ?_
    have sh448 := Wh448.size
    have f450 := Arv.other f445 Wh448 (neA (by omega))
    replace f449 : Arv V.Z h448 a442 k444 .char (1 : Int32) [.int z0] (.int 0) := f449
    refine r_iload 199 rfl at_197 rfl ?_
    refine r_iconst (1 : Int32) 200 rfl at_199 rfl ?_
    refine r_icmp_le 211 203 at_200 (by decide) rfl rfl (fun c451 => ?_) (fun c451 => ?_)
    rotate_left
    · exact absurd c451 (by decide)
    refine r_iload 213 rfl at_211 rfl ?_
    refine r_iconst (2 : Int32) 214 rfl at_213 rfl ?_
    refine r_icmp_le 225 217 at_214 (by decide) rfl rfl (fun c452 => ?_) (fun c452 => ?_)
    rotate_left
    · exact absurd c452 (by decide)
    refine r_iload 227 rfl at_225 rfl ?_
    refine r_iconst (3 : Int32) 228 rfl at_227 rfl ?_
    refine r_icmp_le 239 231 at_228 (by decide) rfl rfl (fun c453 => ?_) (fun c453 => ?_)
    rotate_left
    · exact absurd c453 (by decide)
    refine r_iload 241 rfl at_239 rfl ?_
    refine r_iconst (4 : Int32) 242 rfl at_241 rfl ?_
    refine r_icmp_le 253 245 at_242 (by decide) rfl rfl (fun c454 => ?_) (fun c454 => ?_)
    rotate_left
    · exact absurd c454 (by decide)
    refine r_iload 255 rfl at_253 rfl ?_
    refine r_iconst (5 : Int32) 256 rfl at_255 rfl ?_
    refine r_icmp_le 267 259 at_256 (by decide) rfl rfl (fun c455 => ?_) (fun c455 => ?_)
    rotate_left
    · exact absurd c455 (by decide)
    refine r_iload 269 rfl at_267 rfl ?_
    refine r_bipush (6 : Int32) 271 rfl at_269 rfl ?_
    refine r_icmp_le 284 274 at_271 (by decide) rfl rfl (fun c456 => ?_) (fun c456 => ?_)
    rotate_left
    · exact absurd c456 (by decide)
    refine r_iload 286 rfl at_284 rfl ?_
    refine r_bipush (7 : Int32) 288 rfl at_286 rfl ?_
    refine r_icmp_le 301 291 at_288 (by decide) rfl rfl (fun c457 => ?_) (fun c457 => ?_)
    rotate_left
    · exact absurd c457 (by decide)
    refine r_iload 303 rfl at_301 rfl ?_
    refine r_bipush (8 : Int32) 305 rfl at_303 rfl ?_
    refine r_icmp_le 318 308 at_305 (by decide) rfl rfl (fun c458 => ?_) (fun c458 => ?_)
    rotate_left
    · exact absurd c458 (by decide)
    refine r_iload 320 rfl at_318 rfl ?_
    refine r_bipush (9 : Int32) 322 rfl at_320 rfl ?_
    refine r_icmp_le 335 325 at_322 (by decide) rfl rfl (fun c459 => ?_) (fun c459 => ?_)
    rotate_left
    · exact absurd c459 (by decide)
    exact (j335 1 a442 _ _ _ (by decide) (Ext.wr0 (Eh443) Wh448 (by omega)) f449).more (by decide) (by decide)
  · refine r_iload 180 rfl at_178 rfl ?_
    refine r_newarray 2 182 rfl at_180 (wd hw 0 rfl) (by decide) (by decide) (by decide) (by decide) (by decide) fun a460 h461 k462 ga460 za460 Eh461 Aa460 => ?_
    have f463 := f250.ext Eh461
    have sh461 := Eh461.1
    have la460 := ltN Aa460.lt
    have f464 : Arv V.Z h461 a460 k462 .char (2 : Int32) [.int 0, .int 0] (.int 0) := Arv.pad Aa460 (pad_rep [] (.int 0) 2)
    refine r_astore [.val (.int p0), .val (.int p1), .val (.long lo), .second, .val (.long hi), .second, .val (.int k164), .val (.int (2 : Int32)), .val (.int k166), .val (.ref a167), .val (.ref a460), .unset, .unset, .unset, .unset] 184 rfl at_182 rfl rfl ?_
    refine r_iload 186 rfl at_184 rfl ?_
    refine r_if_le 197 189 at_186 (by decide) rfl rfl (fun c465 => ?_) (fun c465 => ?_)
    · exact absurd c465 (by decide)
    refine r_aload 191 rfl at_189 rfl rfl ?_
    refine r_iconst (0 : Int32) 192 rfl at_191 rfl ?_
    refine r_aload 194 rfl at_192 rfl rfl ?_
    refine r_iconst (0 : Int32) 195 rfl at_194 rfl ?_
    refine r_caload (v := .int z0) 196 rfl at_195 f463 (by decide) rfl ?_
    refine r_castore 0 197 rfl at_196 f464 (by decide) rfl (Nat.le_of_ble_eq_true rfl) za460 z0 (nby bz0) fun h466 Wh466 f467 => ?_
    have sh466 := Wh466.size
    have f468 := Arv.other f463 Wh466 (neA (by omega))
    replace f467 : Arv V.Z h466 a460 k462 .char (2 : Int32) [.int z0, .int 0] (.int 0) := f467
    refine r_iload 199 rfl at_197 rfl ?_
    refine r_iconst (1 : Int32) 200 rfl at_199 rfl ?_
    refine r_icmp_le 211 203 at_200 (by decide) rfl rfl (fun c469 => ?_) (fun c469 => ?_)
    · exact absurd c469 (by decide)
    refine r_aload 205 rfl at_203 rfl rfl ?_
    refine r_iconst (1 : Int32) 206 rfl at_205 rfl ?_
    refine r_aload 208 rfl at_206 rfl rfl ?_
    refine r_iconst (1 : Int32) 209 rfl at_208 rfl ?_
    refine r_caload (v := .int z1) 210 rfl at_209 f468 (by decide) rfl ?_
    refine r_castore 1 211 rfl at_210 f467 (by decide) rfl (Nat.le_of_ble_eq_true rfl) za460 z1 (nby bz1) fun h470 Wh470 f471 => ?_
    have sh470 := Wh470.size
    have f472 := Arv.other f468 Wh470 (neA (by omega))
    replace f471 : Arv V.Z h470 a460 k462 .char (2 : Int32) [.int z0, .int z1] (.int 0) := f471
    refine r_iload 213 rfl at_211 rfl ?_
    refine r_iconst (2 : Int32) 214 rfl at_213 rfl ?_
    refine r_icmp_le 225 217 at_214 (by decide) rfl rfl (fun c473 => ?_) (fun c473 => ?_)
    rotate_left
    · exact absurd c473 (by decide)
    refine r_iload 227 rfl at_225 rfl ?_
    refine r_iconst (3 : Int32) 228 rfl at_227 rfl ?_
    refine r_icmp_le 239 231 at_228 (by decide) rfl rfl (fun c474 => ?_) (fun c474 => ?_)
    rotate_left
    · exact absurd c474 (by decide)
    refine r_iload 241 rfl at_239 rfl ?_
    refine r_iconst (4 : Int32) 242 rfl at_241 rfl ?_
    refine r_icmp_le 253 245 at_242 (by decide) rfl rfl (fun c475 => ?_) (fun c475 => ?_)
    rotate_left
    · exact absurd c475 (by decide)
    refine r_iload 255 rfl at_253 rfl ?_
    refine r_iconst (5 : Int32) 256 rfl at_255 rfl ?_
    refine r_icmp_le 267 259 at_256 (by decide) rfl rfl (fun c476 => ?_) (fun c476 => ?_)
    rotate_left
    · exact absurd c476 (by decide)
    refine r_iload 269 rfl at_267 rfl ?_
    refine r_bipush (6 : Int32) 271 rfl at_269 rfl ?_
    refine r_icmp_le 284 274 at_271 (by decide) rfl rfl (fun c477 => ?_) (fun c477 => ?_)
    rotate_left
    · exact absurd c477 (by decide)
    refine r_iload 286 rfl at_284 rfl ?_
    refine r_bipush (7 : Int32) 288 rfl at_286 rfl ?_
    refine r_icmp_le 301 291 at_288 (by decide) rfl rfl (fun c478 => ?_) (fun c478 => ?_)
    rotate_left
    · exact absurd c478 (by decide)
    refine r_iload 303 rfl at_301 rfl ?_
    refine r_bipush (8 : Int32) 305 rfl at_303 rfl ?_
    refine r_icmp_le 318 308 at_305 (by decide) rfl rfl (fun c479 => ?_) (fun c479 => ?_)
    rotate_left
    · exact absurd c479 (by decide)
    refine r_iload 320 rfl at_318 rfl ?_
    refine r_bipush (9 : Int32) 322 rfl at_320 rfl ?_
    refine r_icmp_le 335 325 at_322 (by decide) rfl rfl (fun c480 => ?_) (fun c480 => ?_)
    rotate_left
    · exact absurd c480 (by decide)
    exact (j335 2 a460 _ _ _ (by decide) (Ext.wr0 (Ext.wr0 (Eh461) Wh466 (by omega)) Wh470 (by omega)) f471).more (by decide) (by decide)
  · refine r_iload 180 rfl at_178 rfl ?_
    refine r_newarray 3 182 rfl at_180 (wd hw 0 rfl) (by decide) (by decide) (by decide) (by decide) (by decide) fun a481 h482 k483 ga481 za481 Eh482 Aa481 => ?_
    have f484 := f250.ext Eh482
    have sh482 := Eh482.1
    have la481 := ltN Aa481.lt
    have f485 : Arv V.Z h482 a481 k483 .char (3 : Int32) [.int 0, .int 0, .int 0] (.int 0) := Arv.pad Aa481 (pad_rep [] (.int 0) 3)
    refine r_astore [.val (.int p0), .val (.int p1), .val (.long lo), .second, .val (.long hi), .second, .val (.int k164), .val (.int (3 : Int32)), .val (.int k166), .val (.ref a167), .val (.ref a481), .unset, .unset, .unset, .unset] 184 rfl at_182 rfl rfl ?_
    refine r_iload 186 rfl at_184 rfl ?_
    refine r_if_le 197 189 at_186 (by decide) rfl rfl (fun c486 => ?_) (fun c486 => ?_)
    · exact absurd c486 (by decide)
    refine r_aload 191 rfl at_189 rfl rfl ?_
    refine r_iconst (0 : Int32) 192 rfl at_191 rfl ?_
    refine r_aload 194 rfl at_192 rfl rfl ?_
    refine r_iconst (0 : Int32) 195 rfl at_194 rfl ?_
    refine r_caload (v := .int z0) 196 rfl at_195 f484 (by decide) rfl ?_
    refine r_castore 0 197 rfl at_196 f485 (by decide) rfl (Nat.le_of_ble_eq_true rfl) za481 z0 (nby bz0) fun h487 Wh487 f488 => ?_
    have sh487 := Wh487.size
    have f489 := Arv.other f484 Wh487 (neA (by omega))
    replace f488 : Arv V.Z h487 a481 k483 .char (3 : Int32) [.int z0, .int 0, .int 0] (.int 0) := f488
    refine r_iload 199 rfl at_197 rfl ?_
    refine r_iconst (1 : Int32) 200 rfl at_199 rfl ?_
    refine r_icmp_le 211 203 at_200 (by decide) rfl rfl (fun c490 => ?_) (fun c490 => ?_)
    · exact absurd c490 (by decide)
    refine r_aload 205 rfl at_203 rfl rfl ?_
    refine r_iconst (1 : Int32) 206 rfl at_205 rfl ?_
    refine r_aload 208 rfl at_206 rfl rfl ?_
    refine r_iconst (1 : Int32) 209 rfl at_208 rfl ?_
    refine r_caload (v := .int z1) 210 rfl at_209 f489 (by decide) rfl ?_
    refine r_castore 1 211 rfl at_210 f488 (by decide) rfl (Nat.le_of_ble_eq_true rfl) za481 z1 (nby bz1) fun h491 Wh491 f492 => ?_
    have sh491 := Wh491.size
    have f493 := Arv.other f489 Wh491 (neA (by omega))
    replace f492 : Arv V.Z h491 a481 k483 .char (3 : Int32) [.int z0, .int z1, .int 0] (.int 0) := f492
    refine r_iload 213 rfl at_211 rfl ?_
    refine r_iconst (2 : Int32) 214 rfl at_213 rfl ?_
    refine r_icmp_le 225 217 at_214 (by decide) rfl rfl (fun c494 => ?_) (fun c494 => ?_)
    · exact absurd c494 (by decide)
    refine r_aload 219 rfl at_217 rfl rfl ?_
    refine r_iconst (2 : Int32) 220 rfl at_219 rfl ?_
    refine r_aload 222 rfl at_220 rfl rfl ?_
    refine r_iconst (2 : Int32) 223 rfl at_222 rfl ?_
    refine r_caload (v := .int z2) 224 rfl at_223 f493 (by decide) rfl ?_
    refine r_castore 2 225 rfl at_224 f492 (by decide) rfl (Nat.le_of_ble_eq_true rfl) za481 z2 (nby bz2) fun h495 Wh495 f496 => ?_
    have sh495 := Wh495.size
    have f497 := Arv.other f493 Wh495 (neA (by omega))
    replace f496 : Arv V.Z h495 a481 k483 .char (3 : Int32) [.int z0, .int z1, .int z2] (.int 0) := f496
    refine r_iload 227 rfl at_225 rfl ?_
    refine r_iconst (3 : Int32) 228 rfl at_227 rfl ?_
    refine r_icmp_le 239 231 at_228 (by decide) rfl rfl (fun c498 => ?_) (fun c498 => ?_)
    rotate_left
    · exact absurd c498 (by decide)
    refine r_iload 241 rfl at_239 rfl ?_
    refine r_iconst (4 : Int32) 242 rfl at_241 rfl ?_
    refine r_icmp_le 253 245 at_242 (by decide) rfl rfl (fun c499 => ?_) (fun c499 => ?_)
    rotate_left
    · exact absurd c499 (by decide)
    refine r_iload 255 rfl at_253 rfl ?_
    refine r_iconst (5 : Int32) 256 rfl at_255 rfl ?_
    refine r_icmp_le 267 259 at_256 (by decide) rfl rfl (fun c500 => ?_) (fun c500 => ?_)
    rotate_left
    · exact absurd c500 (by decide)
    refine r_iload 269 rfl at_267 rfl ?_
    refine r_bipush (6 : Int32) 271 rfl at_269 rfl ?_
    refine r_icmp_le 284 274 at_271 (by decide) rfl rfl (fun c501 => ?_) (fun c501 => ?_)
    rotate_left
    · exact absurd c501 (by decide)
    refine r_iload 286 rfl at_284 rfl ?_
    refine r_bipush (7 : Int32) 288 rfl at_286 rfl ?_
    refine r_icmp_le 301 291 at_288 (by decide) rfl rfl (fun c502 => ?_) (fun c502 => ?_)
    rotate_left
    · exact absurd c502 (by decide)
    refine r_iload 303 rfl at_301 rfl ?_
    refine r_bipush (8 : Int32) 305 rfl at_303 rfl ?_
    refine r_icmp_le 318 308 at_305 (by decide) rfl rfl (fun c503 => ?_) (fun c503 => ?_)
    rotate_left
    · exact absurd c503 (by decide)
    refine r_iload 320 rfl at_318 rfl ?_
    refine r_bipush (9 : Int32) 322 rfl at_320 rfl ?_
    refine r_icmp_le 335 325 at_322 (by decide) rfl rfl (fun c504 => ?_) (fun c504 => ?_)
    rotate_left
    · exact absurd c504 (by decide)
    exact (j335 3 a481 _ _ _ (by decide) (Ext.wr0 (Ext.wr0 (Ext.wr0 (Eh482) Wh487 (by omega)) Wh491 (by omega)) Wh495 (by omega)) f496).more (by decide) (by decide)
  · refine r_iload 180 rfl at_178 rfl ?_
    refine r_newarray 4 182 rfl at_180 (wd hw 0 rfl) (by decide) (by decide) (by decide) (by decide) (by decide) fun a505 h506 k507 ga505 za505 Eh506 Aa505 => ?_
    have f508 := f250.ext Eh506
    have sh506 := Eh506.1
    have la505 := ltN Aa505.lt
    have f509 : Arv V.Z h506 a505 k507 .char (4 : Int32) [.int 0, .int 0, .int 0, .int 0] (.int 0) := Arv.pad Aa505 (pad_rep [] (.int 0) 4)
    refine r_astore [.val (.int p0), .val (.int p1), .val (.long lo), .second, .val (.long hi), .second, .val (.int k164), .val (.int (4 : Int32)), .val (.int k166), .val (.ref a167), .val (.ref a505), .unset, .unset, .unset, .unset] 184 rfl at_182 rfl rfl ?_
    refine r_iload 186 rfl at_184 rfl ?_
    refine r_if_le 197 189 at_186 (by decide) rfl rfl (fun c510 => ?_) (fun c510 => ?_)
    · exact absurd c510 (by decide)
    refine r_aload 191 rfl at_189 rfl rfl ?_
    refine r_iconst (0 : Int32) 192 rfl at_191 rfl ?_
    refine r_aload 194 rfl at_192 rfl rfl ?_
    refine r_iconst (0 : Int32) 195 rfl at_194 rfl ?_
    refine r_caload (v := .int z0) 196 rfl at_195 f508 (by decide) rfl ?_
    refine r_castore 0 197 rfl at_196 f509 (by decide) rfl (Nat.le_of_ble_eq_true rfl) za505 z0 (nby bz0) fun h511 Wh511 f512 => ?_
    have sh511 := Wh511.size
    have f513 := Arv.other f508 Wh511 (neA (by omega))
    replace f512 : Arv V.Z h511 a505 k507 .char (4 : Int32) [.int z0, .int 0, .int 0, .int 0] (.int 0) := f512
    refine r_iload 199 rfl at_197 rfl ?_
    refine r_iconst (1 : Int32) 200 rfl at_199 rfl ?_
    refine r_icmp_le 211 203 at_200 (by decide) rfl rfl (fun c514 => ?_) (fun c514 => ?_)
    · exact absurd c514 (by decide)
    refine r_aload 205 rfl at_203 rfl rfl ?_
    refine r_iconst (1 : Int32) 206 rfl at_205 rfl ?_
    refine r_aload 208 rfl at_206 rfl rfl ?_
    refine r_iconst (1 : Int32) 209 rfl at_208 rfl ?_
    refine r_caload (v := .int z1) 210 rfl at_209 f513 (by decide) rfl ?_
    refine r_castore 1 211 rfl at_210 f512 (by decide) rfl (Nat.le_of_ble_eq_true rfl) za505 z1 (nby bz1) fun h515 Wh515 f516 => ?_
    have sh515 := Wh515.size
    have f517 := Arv.other f513 Wh515 (neA (by omega))
    replace f516 : Arv V.Z h515 a505 k507 .char (4 : Int32) [.int z0, .int z1, .int 0, .int 0] (.int 0) := f516
    refine r_iload 213 rfl at_211 rfl ?_
    refine r_iconst (2 : Int32) 214 rfl at_213 rfl ?_
    refine r_icmp_le 225 217 at_214 (by decide) rfl rfl (fun c518 => ?_) (fun c518 => ?_)
    · exact absurd c518 (by decide)
    refine r_aload 219 rfl at_217 rfl rfl ?_
    refine r_iconst (2 : Int32) 220 rfl at_219 rfl ?_
    refine r_aload 222 rfl at_220 rfl rfl ?_
    refine r_iconst (2 : Int32) 223 rfl at_222 rfl ?_
    refine r_caload (v := .int z2) 224 rfl at_223 f517 (by decide) rfl ?_
    refine r_castore 2 225 rfl at_224 f516 (by decide) rfl (Nat.le_of_ble_eq_true rfl) za505 z2 (nby bz2) fun h519 Wh519 f520 => ?_
    have sh519 := Wh519.size
    have f521 := Arv.other f517 Wh519 (neA (by omega))
    replace f520 : Arv V.Z h519 a505 k507 .char (4 : Int32) [.int z0, .int z1, .int z2, .int 0] (.int 0) := f520
    refine r_iload 227 rfl at_225 rfl ?_
    refine r_iconst (3 : Int32) 228 rfl at_227 rfl ?_
    refine r_icmp_le 239 231 at_228 (by decide) rfl rfl (fun c522 => ?_) (fun c522 => ?_)
    · exact absurd c522 (by decide)
    refine r_aload 233 rfl at_231 rfl rfl ?_
    refine r_iconst (3 : Int32) 234 rfl at_233 rfl ?_
    refine r_aload 236 rfl at_234 rfl rfl ?_
    refine r_iconst (3 : Int32) 237 rfl at_236 rfl ?_
    refine r_caload (v := .int z3) 238 rfl at_237 f521 (by decide) rfl ?_
    refine r_castore 3 239 rfl at_238 f520 (by decide) rfl (Nat.le_of_ble_eq_true rfl) za505 z3 (nby bz3) fun h523 Wh523 f524 => ?_
    have sh523 := Wh523.size
    have f525 := Arv.other f521 Wh523 (neA (by omega))
    replace f524 : Arv V.Z h523 a505 k507 .char (4 : Int32) [.int z0, .int z1, .int z2, .int z3] (.int 0) := f524
    refine r_iload 241 rfl at_239 rfl ?_
    refine r_iconst (4 : Int32) 242 rfl at_241 rfl ?_
    refine r_icmp_le 253 245 at_242 (by decide) rfl rfl (fun c526 => ?_) (fun c526 => ?_)
    rotate_left
    · exact absurd c526 (by decide)
    refine r_iload 255 rfl at_253 rfl ?_
    refine r_iconst (5 : Int32) 256 rfl at_255 rfl ?_
    refine r_icmp_le 267 259 at_256 (by decide) rfl rfl (fun c527 => ?_) (fun c527 => ?_)
    rotate_left
    · exact absurd c527 (by decide)
    refine r_iload 269 rfl at_267 rfl ?_
    refine r_bipush (6 : Int32) 271 rfl at_269 rfl ?_
    refine r_icmp_le 284 274 at_271 (by decide) rfl rfl (fun c528 => ?_) (fun c528 => ?_)
    rotate_left
    · exact absurd c528 (by decide)
    refine r_iload 286 rfl at_284 rfl ?_
    refine r_bipush (7 : Int32) 288 rfl at_286 rfl ?_
    refine r_icmp_le 301 291 at_288 (by decide) rfl rfl (fun c529 => ?_) (fun c529 => ?_)
    rotate_left
    · exact absurd c529 (by decide)
    refine r_iload 303 rfl at_301 rfl ?_
    refine r_bipush (8 : Int32) 305 rfl at_303 rfl ?_
    refine r_icmp_le 318 308 at_305 (by decide) rfl rfl (fun c530 => ?_) (fun c530 => ?_)
    rotate_left
    · exact absurd c530 (by decide)
    refine r_iload 320 rfl at_318 rfl ?_
    refine r_bipush (9 : Int32) 322 rfl at_320 rfl ?_
    refine r_icmp_le 335 325 at_322 (by decide) rfl rfl (fun c531 => ?_) (fun c531 => ?_)
    rotate_left
    · exact absurd c531 (by decide)
    exact (j335 4 a505 _ _ _ (by decide) (Ext.wr0 (Ext.wr0 (Ext.wr0 (Ext.wr0 (Eh506) Wh511 (by omega)) Wh515 (by omega)) Wh519 (by omega)) Wh523 (by omega)) f524).more (by decide) (by decide)
  · refine r_iload 180 rfl at_178 rfl ?_
    refine r_newarray 5 182 rfl at_180 (wd hw 0 rfl) (by decide) (by decide) (by decide) (by decide) (by decide) fun a532 h533 k534 ga532 za532 Eh533 Aa532 => ?_
    have f535 := f250.ext Eh533
    have sh533 := Eh533.1
    have la532 := ltN Aa532.lt
    have f536 : Arv V.Z h533 a532 k534 .char (5 : Int32) [.int 0, .int 0, .int 0, .int 0, .int 0] (.int 0) := Arv.pad Aa532 (pad_rep [] (.int 0) 5)
    refine r_astore [.val (.int p0), .val (.int p1), .val (.long lo), .second, .val (.long hi), .second, .val (.int k164), .val (.int (5 : Int32)), .val (.int k166), .val (.ref a167), .val (.ref a532), .unset, .unset, .unset, .unset] 184 rfl at_182 rfl rfl ?_
    refine r_iload 186 rfl at_184 rfl ?_
    refine r_if_le 197 189 at_186 (by decide) rfl rfl (fun c537 => ?_) (fun c537 => ?_)
    · exact absurd c537 (by decide)
    refine r_aload 191 rfl at_189 rfl rfl ?_
    refine r_iconst (0 : Int32) 192 rfl at_191 rfl ?_
    refine r_aload 194 rfl at_192 rfl rfl ?_
    refine r_iconst (0 : Int32) 195 rfl at_194 rfl ?_
    refine r_caload (v := .int z0) 196 rfl at_195 f535 (by decide) rfl ?_
    refine r_castore 0 197 rfl at_196 f536 (by decide) rfl (Nat.le_of_ble_eq_true rfl) za532 z0 (nby bz0) fun h538 Wh538 f539 => ?_
    have sh538 := Wh538.size
    have f540 := Arv.other f535 Wh538 (neA (by omega))
    replace f539 : Arv V.Z h538 a532 k534 .char (5 : Int32) [.int z0, .int 0, .int 0, .int 0, .int 0] (.int 0) := f539
    refine r_iload 199 rfl at_197 rfl ?_
    refine r_iconst (1 : Int32) 200 rfl at_199 rfl ?_
    refine r_icmp_le 211 203 at_200 (by decide) rfl rfl (fun c541 => ?_) (fun c541 => ?_)
    · exact absurd c541 (by decide)
    refine r_aload 205 rfl at_203 rfl rfl ?_
    refine r_iconst (1 : Int32) 206 rfl at_205 rfl ?_
    refine r_aload 208 rfl at_206 rfl rfl ?_
    refine r_iconst (1 : Int32) 209 rfl at_208 rfl ?_
    refine r_caload (v := .int z1) 210 rfl at_209 f540 (by decide) rfl ?_
    refine r_castore 1 211 rfl at_210 f539 (by decide) rfl (Nat.le_of_ble_eq_true rfl) za532 z1 (nby bz1) fun h542 Wh542 f543 => ?_
    have sh542 := Wh542.size
    have f544 := Arv.other f540 Wh542 (neA (by omega))
    replace f543 : Arv V.Z h542 a532 k534 .char (5 : Int32) [.int z0, .int z1, .int 0, .int 0, .int 0] (.int 0) := f543
    refine r_iload 213 rfl at_211 rfl ?_
    refine r_iconst (2 : Int32) 214 rfl at_213 rfl ?_
    refine r_icmp_le 225 217 at_214 (by decide) rfl rfl (fun c545 => ?_) (fun c545 => ?_)
    · exact absurd c545 (by decide)
    refine r_aload 219 rfl at_217 rfl rfl ?_
    refine r_iconst (2 : Int32) 220 rfl at_219 rfl ?_
    refine r_aload 222 rfl at_220 rfl rfl ?_
    refine r_iconst (2 : Int32) 223 rfl at_222 rfl ?_
    refine r_caload (v := .int z2) 224 rfl at_223 f544 (by decide) rfl ?_
    refine r_castore 2 225 rfl at_224 f543 (by decide) rfl (Nat.le_of_ble_eq_true rfl) za532 z2 (nby bz2) fun h546 Wh546 f547 => ?_
    have sh546 := Wh546.size
    have f548 := Arv.other f544 Wh546 (neA (by omega))
    replace f547 : Arv V.Z h546 a532 k534 .char (5 : Int32) [.int z0, .int z1, .int z2, .int 0, .int 0] (.int 0) := f547
    refine r_iload 227 rfl at_225 rfl ?_
    refine r_iconst (3 : Int32) 228 rfl at_227 rfl ?_
    refine r_icmp_le 239 231 at_228 (by decide) rfl rfl (fun c549 => ?_) (fun c549 => ?_)
    · exact absurd c549 (by decide)
    refine r_aload 233 rfl at_231 rfl rfl ?_
    refine r_iconst (3 : Int32) 234 rfl at_233 rfl ?_
    refine r_aload 236 rfl at_234 rfl rfl ?_
    refine r_iconst (3 : Int32) 237 rfl at_236 rfl ?_
    refine r_caload (v := .int z3) 238 rfl at_237 f548 (by decide) rfl ?_
    refine r_castore 3 239 rfl at_238 f547 (by decide) rfl (Nat.le_of_ble_eq_true rfl) za532 z3 (nby bz3) fun h550 Wh550 f551 => ?_
    have sh550 := Wh550.size
    have f552 := Arv.other f548 Wh550 (neA (by omega))
    replace f551 : Arv V.Z h550 a532 k534 .char (5 : Int32) [.int z0, .int z1, .int z2, .int z3, .int 0] (.int 0) := f551
    refine r_iload 241 rfl at_239 rfl ?_
    refine r_iconst (4 : Int32) 242 rfl at_241 rfl ?_
    refine r_icmp_le 253 245 at_242 (by decide) rfl rfl (fun c553 => ?_) (fun c553 => ?_)
    · exact absurd c553 (by decide)
    refine r_aload 247 rfl at_245 rfl rfl ?_
    refine r_iconst (4 : Int32) 248 rfl at_247 rfl ?_
    refine r_aload 250 rfl at_248 rfl rfl ?_
    refine r_iconst (4 : Int32) 251 rfl at_250 rfl ?_
    refine r_caload (v := .int z4) 252 rfl at_251 f552 (by decide) rfl ?_
    refine r_castore 4 253 rfl at_252 f551 (by decide) rfl (Nat.le_of_ble_eq_true rfl) za532 z4 (nby bz4) fun h554 Wh554 f555 => ?_
    have sh554 := Wh554.size
    have f556 := Arv.other f552 Wh554 (neA (by omega))
    replace f555 : Arv V.Z h554 a532 k534 .char (5 : Int32) [.int z0, .int z1, .int z2, .int z3, .int z4] (.int 0) := f555
    refine r_iload 255 rfl at_253 rfl ?_
    refine r_iconst (5 : Int32) 256 rfl at_255 rfl ?_
    refine r_icmp_le 267 259 at_256 (by decide) rfl rfl (fun c557 => ?_) (fun c557 => ?_)
    rotate_left
    · exact absurd c557 (by decide)
    refine r_iload 269 rfl at_267 rfl ?_
    refine r_bipush (6 : Int32) 271 rfl at_269 rfl ?_
    refine r_icmp_le 284 274 at_271 (by decide) rfl rfl (fun c558 => ?_) (fun c558 => ?_)
    rotate_left
    · exact absurd c558 (by decide)
    refine r_iload 286 rfl at_284 rfl ?_
    refine r_bipush (7 : Int32) 288 rfl at_286 rfl ?_
    refine r_icmp_le 301 291 at_288 (by decide) rfl rfl (fun c559 => ?_) (fun c559 => ?_)
    rotate_left
    · exact absurd c559 (by decide)
    refine r_iload 303 rfl at_301 rfl ?_
    refine r_bipush (8 : Int32) 305 rfl at_303 rfl ?_
    refine r_icmp_le 318 308 at_305 (by decide) rfl rfl (fun c560 => ?_) (fun c560 => ?_)
    rotate_left
    · exact absurd c560 (by decide)
    refine r_iload 320 rfl at_318 rfl ?_
    refine r_bipush (9 : Int32) 322 rfl at_320 rfl ?_
    refine r_icmp_le 335 325 at_322 (by decide) rfl rfl (fun c561 => ?_) (fun c561 => ?_)
    rotate_left
    · exact absurd c561 (by decide)
    exact (j335 5 a532 _ _ _ (by decide) (Ext.wr0 (Ext.wr0 (Ext.wr0 (Ext.wr0 (Ext.wr0 (Eh533) Wh538 (by omega)) Wh542 (by omega)) Wh546 (by omega)) Wh550 (by omega)) Wh554 (by omega)) f555).more (by decide) (by decide)
  · refine r_iload 180 rfl at_178 rfl ?_
    refine r_newarray 6 182 rfl at_180 (wd hw 0 rfl) (by decide) (by decide) (by decide) (by decide) (by decide) fun a562 h563 k564 ga562 za562 Eh563 Aa562 => ?_
    have f565 := f250.ext Eh563
    have sh563 := Eh563.1
    have la562 := ltN Aa562.lt
    have f566 : Arv V.Z h563 a562 k564 .char (6 : Int32) [.int 0, .int 0, .int 0, .int 0, .int 0, .int 0] (.int 0) := Arv.pad Aa562 (pad_rep [] (.int 0) 6)
    refine r_astore [.val (.int p0), .val (.int p1), .val (.long lo), .second, .val (.long hi), .second, .val (.int k164), .val (.int (6 : Int32)), .val (.int k166), .val (.ref a167), .val (.ref a562), .unset, .unset, .unset, .unset] 184 rfl at_182 rfl rfl ?_
    refine r_iload 186 rfl at_184 rfl ?_
    refine r_if_le 197 189 at_186 (by decide) rfl rfl (fun c567 => ?_) (fun c567 => ?_)
    · exact absurd c567 (by decide)
    refine r_aload 191 rfl at_189 rfl rfl ?_
    refine r_iconst (0 : Int32) 192 rfl at_191 rfl ?_
    refine r_aload 194 rfl at_192 rfl rfl ?_
    refine r_iconst (0 : Int32) 195 rfl at_194 rfl ?_
    refine r_caload (v := .int z0) 196 rfl at_195 f565 (by decide) rfl ?_
    refine r_castore 0 197 rfl at_196 f566 (by decide) rfl (Nat.le_of_ble_eq_true rfl) za562 z0 (nby bz0) fun h568 Wh568 f569 => ?_
    have sh568 := Wh568.size
    have f570 := Arv.other f565 Wh568 (neA (by omega))
    replace f569 : Arv V.Z h568 a562 k564 .char (6 : Int32) [.int z0, .int 0, .int 0, .int 0, .int 0, .int 0] (.int 0) := f569
    refine r_iload 199 rfl at_197 rfl ?_
    refine r_iconst (1 : Int32) 200 rfl at_199 rfl ?_
    refine r_icmp_le 211 203 at_200 (by decide) rfl rfl (fun c571 => ?_) (fun c571 => ?_)
    · exact absurd c571 (by decide)
    refine r_aload 205 rfl at_203 rfl rfl ?_
    refine r_iconst (1 : Int32) 206 rfl at_205 rfl ?_
    refine r_aload 208 rfl at_206 rfl rfl ?_
    refine r_iconst (1 : Int32) 209 rfl at_208 rfl ?_
    refine r_caload (v := .int z1) 210 rfl at_209 f570 (by decide) rfl ?_
    refine r_castore 1 211 rfl at_210 f569 (by decide) rfl (Nat.le_of_ble_eq_true rfl) za562 z1 (nby bz1) fun h572 Wh572 f573 => ?_
    have sh572 := Wh572.size
    have f574 := Arv.other f570 Wh572 (neA (by omega))
    replace f573 : Arv V.Z h572 a562 k564 .char (6 : Int32) [.int z0, .int z1, .int 0, .int 0, .int 0, .int 0] (.int 0) := f573
    refine r_iload 213 rfl at_211 rfl ?_
    refine r_iconst (2 : Int32) 214 rfl at_213 rfl ?_
    refine r_icmp_le 225 217 at_214 (by decide) rfl rfl (fun c575 => ?_) (fun c575 => ?_)
    · exact absurd c575 (by decide)
    refine r_aload 219 rfl at_217 rfl rfl ?_
    refine r_iconst (2 : Int32) 220 rfl at_219 rfl ?_
    refine r_aload 222 rfl at_220 rfl rfl ?_
    refine r_iconst (2 : Int32) 223 rfl at_222 rfl ?_
    refine r_caload (v := .int z2) 224 rfl at_223 f574 (by decide) rfl ?_
    refine r_castore 2 225 rfl at_224 f573 (by decide) rfl (Nat.le_of_ble_eq_true rfl) za562 z2 (nby bz2) fun h576 Wh576 f577 => ?_
    have sh576 := Wh576.size
    have f578 := Arv.other f574 Wh576 (neA (by omega))
    replace f577 : Arv V.Z h576 a562 k564 .char (6 : Int32) [.int z0, .int z1, .int z2, .int 0, .int 0, .int 0] (.int 0) := f577
    refine r_iload 227 rfl at_225 rfl ?_
    refine r_iconst (3 : Int32) 228 rfl at_227 rfl ?_
    refine r_icmp_le 239 231 at_228 (by decide) rfl rfl (fun c579 => ?_) (fun c579 => ?_)
    · exact absurd c579 (by decide)
    refine r_aload 233 rfl at_231 rfl rfl ?_
    refine r_iconst (3 : Int32) 234 rfl at_233 rfl ?_
    refine r_aload 236 rfl at_234 rfl rfl ?_
    refine r_iconst (3 : Int32) 237 rfl at_236 rfl ?_
    refine r_caload (v := .int z3) 238 rfl at_237 f578 (by decide) rfl ?_
    refine r_castore 3 239 rfl at_238 f577 (by decide) rfl (Nat.le_of_ble_eq_true rfl) za562 z3 (nby bz3) fun h580 Wh580 f581 => ?_
    have sh580 := Wh580.size
    have f582 := Arv.other f578 Wh580 (neA (by omega))
    replace f581 : Arv V.Z h580 a562 k564 .char (6 : Int32) [.int z0, .int z1, .int z2, .int z3, .int 0, .int 0] (.int 0) := f581
    refine r_iload 241 rfl at_239 rfl ?_
    refine r_iconst (4 : Int32) 242 rfl at_241 rfl ?_
    refine r_icmp_le 253 245 at_242 (by decide) rfl rfl (fun c583 => ?_) (fun c583 => ?_)
    · exact absurd c583 (by decide)
    refine r_aload 247 rfl at_245 rfl rfl ?_
    refine r_iconst (4 : Int32) 248 rfl at_247 rfl ?_
    refine r_aload 250 rfl at_248 rfl rfl ?_
    refine r_iconst (4 : Int32) 251 rfl at_250 rfl ?_
    refine r_caload (v := .int z4) 252 rfl at_251 f582 (by decide) rfl ?_
    refine r_castore 4 253 rfl at_252 f581 (by decide) rfl (Nat.le_of_ble_eq_true rfl) za562 z4 (nby bz4) fun h584 Wh584 f585 => ?_
    have sh584 := Wh584.size
    have f586 := Arv.other f582 Wh584 (neA (by omega))
    replace f585 : Arv V.Z h584 a562 k564 .char (6 : Int32) [.int z0, .int z1, .int z2, .int z3, .int z4, .int 0] (.int 0) := f585
    refine r_iload 255 rfl at_253 rfl ?_
    refine r_iconst (5 : Int32) 256 rfl at_255 rfl ?_
    refine r_icmp_le 267 259 at_256 (by decide) rfl rfl (fun c587 => ?_) (fun c587 => ?_)
    · exact absurd c587 (by decide)
    refine r_aload 261 rfl at_259 rfl rfl ?_
    refine r_iconst (5 : Int32) 262 rfl at_261 rfl ?_
    refine r_aload 264 rfl at_262 rfl rfl ?_
    refine r_iconst (5 : Int32) 265 rfl at_264 rfl ?_
    refine r_caload (v := .int z5) 266 rfl at_265 f586 (by decide) rfl ?_
    refine r_castore 5 267 rfl at_266 f585 (by decide) rfl (Nat.le_of_ble_eq_true rfl) za562 z5 (nby bz5) fun h588 Wh588 f589 => ?_
    have sh588 := Wh588.size
    have f590 := Arv.other f586 Wh588 (neA (by omega))
    replace f589 : Arv V.Z h588 a562 k564 .char (6 : Int32) [.int z0, .int z1, .int z2, .int z3, .int z4, .int z5] (.int 0) := f589
    refine r_iload 269 rfl at_267 rfl ?_
    refine r_bipush (6 : Int32) 271 rfl at_269 rfl ?_
    refine r_icmp_le 284 274 at_271 (by decide) rfl rfl (fun c591 => ?_) (fun c591 => ?_)
    rotate_left
    · exact absurd c591 (by decide)
    refine r_iload 286 rfl at_284 rfl ?_
    refine r_bipush (7 : Int32) 288 rfl at_286 rfl ?_
    refine r_icmp_le 301 291 at_288 (by decide) rfl rfl (fun c592 => ?_) (fun c592 => ?_)
    rotate_left
    · exact absurd c592 (by decide)
    refine r_iload 303 rfl at_301 rfl ?_
    refine r_bipush (8 : Int32) 305 rfl at_303 rfl ?_
    refine r_icmp_le 318 308 at_305 (by decide) rfl rfl (fun c593 => ?_) (fun c593 => ?_)
    rotate_left
    · exact absurd c593 (by decide)
    refine r_iload 320 rfl at_318 rfl ?_
    refine r_bipush (9 : Int32) 322 rfl at_320 rfl ?_
    refine r_icmp_le 335 325 at_322 (by decide) rfl rfl (fun c594 => ?_) (fun c594 => ?_)
    rotate_left
    · exact absurd c594 (by decide)
    exact (j335 6 a562 _ _ _ (by decide) (Ext.wr0 (Ext.wr0 (Ext.wr0 (Ext.wr0 (Ext.wr0 (Ext.wr0 (Eh563) Wh568 (by omega)) Wh572 (by omega)) Wh576 (by omega)) Wh580 (by omega)) Wh584 (by omega)) Wh588 (by omega)) f589).more (by decide) (by decide)
  · refine r_iload 180 rfl at_178 rfl ?_
    refine r_newarray 7 182 rfl at_180 (wd hw 0 rfl) (by decide) (by decide) (by decide) (by decide) (by decide) fun a595 h596 k597 ga595 za595 Eh596 Aa595 => ?_
    have f598 := f250.ext Eh596
    have sh596 := Eh596.1
    have la595 := ltN Aa595.lt
    have f599 : Arv V.Z h596 a595 k597 .char (7 : Int32) [.int 0, .int 0, .int 0, .int 0, .int 0, .int 0, .int 0] (.int 0) := Arv.pad Aa595 (pad_rep [] (.int 0) 7)
    refine r_astore [.val (.int p0), .val (.int p1), .val (.long lo), .second, .val (.long hi), .second, .val (.int k164), .val (.int (7 : Int32)), .val (.int k166), .val (.ref a167), .val (.ref a595), .unset, .unset, .unset, .unset] 184 rfl at_182 rfl rfl ?_
    refine r_iload 186 rfl at_184 rfl ?_
    refine r_if_le 197 189 at_186 (by decide) rfl rfl (fun c600 => ?_) (fun c600 => ?_)
    · exact absurd c600 (by decide)
    refine r_aload 191 rfl at_189 rfl rfl ?_
    refine r_iconst (0 : Int32) 192 rfl at_191 rfl ?_
    refine r_aload 194 rfl at_192 rfl rfl ?_
    refine r_iconst (0 : Int32) 195 rfl at_194 rfl ?_
    refine r_caload (v := .int z0) 196 rfl at_195 f598 (by decide) rfl ?_
    refine r_castore 0 197 rfl at_196 f599 (by decide) rfl (Nat.le_of_ble_eq_true rfl) za595 z0 (nby bz0) fun h601 Wh601 f602 => ?_
    have sh601 := Wh601.size
    have f603 := Arv.other f598 Wh601 (neA (by omega))
    replace f602 : Arv V.Z h601 a595 k597 .char (7 : Int32) [.int z0, .int 0, .int 0, .int 0, .int 0, .int 0, .int 0] (.int 0) := f602
    refine r_iload 199 rfl at_197 rfl ?_
    refine r_iconst (1 : Int32) 200 rfl at_199 rfl ?_
    refine r_icmp_le 211 203 at_200 (by decide) rfl rfl (fun c604 => ?_) (fun c604 => ?_)
    · exact absurd c604 (by decide)
    refine r_aload 205 rfl at_203 rfl rfl ?_
    refine r_iconst (1 : Int32) 206 rfl at_205 rfl ?_
    refine r_aload 208 rfl at_206 rfl rfl ?_
    refine r_iconst (1 : Int32) 209 rfl at_208 rfl ?_
    refine r_caload (v := .int z1) 210 rfl at_209 f603 (by decide) rfl ?_
    refine r_castore 1 211 rfl at_210 f602 (by decide) rfl (Nat.le_of_ble_eq_true rfl) za595 z1 (nby bz1) fun h605 Wh605 f606 => ?_
    have sh605 := Wh605.size
    have f607 := Arv.other f603 Wh605 (neA (by omega))
    replace f606 : Arv V.Z h605 a595 k597 .char (7 : Int32) [.int z0, .int z1, .int 0, .int 0, .int 0, .int 0, .int 0] (.int 0) := f606
    refine r_iload 213 rfl at_211 rfl ?_
    refine r_iconst (2 : Int32) 214 rfl at_213 rfl ?_
    refine r_icmp_le 225 217 at_214 (by decide) rfl rfl (fun c608 => ?_) (fun c608 => ?_)
    · exact absurd c608 (by decide)
    refine r_aload 219 rfl at_217 rfl rfl ?_
    refine r_iconst (2 : Int32) 220 rfl at_219 rfl ?_
    refine r_aload 222 rfl at_220 rfl rfl ?_
    refine r_iconst (2 : Int32) 223 rfl at_222 rfl ?_
    refine r_caload (v := .int z2) 224 rfl at_223 f607 (by decide) rfl ?_
    refine r_castore 2 225 rfl at_224 f606 (by decide) rfl (Nat.le_of_ble_eq_true rfl) za595 z2 (nby bz2) fun h609 Wh609 f610 => ?_
    have sh609 := Wh609.size
    have f611 := Arv.other f607 Wh609 (neA (by omega))
    replace f610 : Arv V.Z h609 a595 k597 .char (7 : Int32) [.int z0, .int z1, .int z2, .int 0, .int 0, .int 0, .int 0] (.int 0) := f610
    refine r_iload 227 rfl at_225 rfl ?_
    refine r_iconst (3 : Int32) 228 rfl at_227 rfl ?_
    refine r_icmp_le 239 231 at_228 (by decide) rfl rfl (fun c612 => ?_) (fun c612 => ?_)
    · exact absurd c612 (by decide)
    refine r_aload 233 rfl at_231 rfl rfl ?_
    refine r_iconst (3 : Int32) 234 rfl at_233 rfl ?_
    refine r_aload 236 rfl at_234 rfl rfl ?_
    refine r_iconst (3 : Int32) 237 rfl at_236 rfl ?_
    refine r_caload (v := .int z3) 238 rfl at_237 f611 (by decide) rfl ?_
    refine r_castore 3 239 rfl at_238 f610 (by decide) rfl (Nat.le_of_ble_eq_true rfl) za595 z3 (nby bz3) fun h613 Wh613 f614 => ?_
    have sh613 := Wh613.size
    have f615 := Arv.other f611 Wh613 (neA (by omega))
    replace f614 : Arv V.Z h613 a595 k597 .char (7 : Int32) [.int z0, .int z1, .int z2, .int z3, .int 0, .int 0, .int 0] (.int 0) := f614
    refine r_iload 241 rfl at_239 rfl ?_
    refine r_iconst (4 : Int32) 242 rfl at_241 rfl ?_
    refine r_icmp_le 253 245 at_242 (by decide) rfl rfl (fun c616 => ?_) (fun c616 => ?_)
    · exact absurd c616 (by decide)
    refine r_aload 247 rfl at_245 rfl rfl ?_
    refine r_iconst (4 : Int32) 248 rfl at_247 rfl ?_
    refine r_aload 250 rfl at_248 rfl rfl ?_
    refine r_iconst (4 : Int32) 251 rfl at_250 rfl ?_
    refine r_caload (v := .int z4) 252 rfl at_251 f615 (by decide) rfl ?_
    refine r_castore 4 253 rfl at_252 f614 (by decide) rfl (Nat.le_of_ble_eq_true rfl) za595 z4 (nby bz4) fun h617 Wh617 f618 => ?_
    have sh617 := Wh617.size
    have f619 := Arv.other f615 Wh617 (neA (by omega))
    replace f618 : Arv V.Z h617 a595 k597 .char (7 : Int32) [.int z0, .int z1, .int z2, .int z3, .int z4, .int 0, .int 0] (.int 0) := f618
    refine r_iload 255 rfl at_253 rfl ?_
    refine r_iconst (5 : Int32) 256 rfl at_255 rfl ?_
    refine r_icmp_le 267 259 at_256 (by decide) rfl rfl (fun c620 => ?_) (fun c620 => ?_)
    · exact absurd c620 (by decide)
    refine r_aload 261 rfl at_259 rfl rfl ?_
    refine r_iconst (5 : Int32) 262 rfl at_261 rfl ?_
    refine r_aload 264 rfl at_262 rfl rfl ?_
    refine r_iconst (5 : Int32) 265 rfl at_264 rfl ?_
    refine r_caload (v := .int z5) 266 rfl at_265 f619 (by decide) rfl ?_
    refine r_castore 5 267 rfl at_266 f618 (by decide) rfl (Nat.le_of_ble_eq_true rfl) za595 z5 (nby bz5) fun h621 Wh621 f622 => ?_
    have sh621 := Wh621.size
    have f623 := Arv.other f619 Wh621 (neA (by omega))
    replace f622 : Arv V.Z h621 a595 k597 .char (7 : Int32) [.int z0, .int z1, .int z2, .int z3, .int z4, .int z5, .int 0] (.int 0) := f622
    refine r_iload 269 rfl at_267 rfl ?_
    refine r_bipush (6 : Int32) 271 rfl at_269 rfl ?_
    refine r_icmp_le 284 274 at_271 (by decide) rfl rfl (fun c624 => ?_) (fun c624 => ?_)
    · exact absurd c624 (by decide)
    refine r_aload 276 rfl at_274 rfl rfl ?_
    refine r_bipush (6 : Int32) 278 rfl at_276 rfl ?_
    refine r_aload 280 rfl at_278 rfl rfl ?_
    refine r_bipush (6 : Int32) 282 rfl at_280 rfl ?_
    refine r_caload (v := .int z6) 283 rfl at_282 f623 (by decide) rfl ?_
    refine r_castore 6 284 rfl at_283 f622 (by decide) rfl (Nat.le_of_ble_eq_true rfl) za595 z6 (nby bz6) fun h625 Wh625 f626 => ?_
    have sh625 := Wh625.size
    have f627 := Arv.other f623 Wh625 (neA (by omega))
    replace f626 : Arv V.Z h625 a595 k597 .char (7 : Int32) [.int z0, .int z1, .int z2, .int z3, .int z4, .int z5, .int z6] (.int 0) := f626
    refine r_iload 286 rfl at_284 rfl ?_
    refine r_bipush (7 : Int32) 288 rfl at_286 rfl ?_
    refine r_icmp_le 301 291 at_288 (by decide) rfl rfl (fun c628 => ?_) (fun c628 => ?_)
    rotate_left
    · exact absurd c628 (by decide)
    refine r_iload 303 rfl at_301 rfl ?_
    refine r_bipush (8 : Int32) 305 rfl at_303 rfl ?_
    refine r_icmp_le 318 308 at_305 (by decide) rfl rfl (fun c629 => ?_) (fun c629 => ?_)
    rotate_left
    · exact absurd c629 (by decide)
    refine r_iload 320 rfl at_318 rfl ?_
    refine r_bipush (9 : Int32) 322 rfl at_320 rfl ?_
    refine r_icmp_le 335 325 at_322 (by decide) rfl rfl (fun c630 => ?_) (fun c630 => ?_)
    rotate_left
    · exact absurd c630 (by decide)
    exact (j335 7 a595 _ _ _ (by decide) (Ext.wr0 (Ext.wr0 (Ext.wr0 (Ext.wr0 (Ext.wr0 (Ext.wr0 (Ext.wr0 (Eh596) Wh601 (by omega)) Wh605 (by omega)) Wh609 (by omega)) Wh613 (by omega)) Wh617 (by omega)) Wh621 (by omega)) Wh625 (by omega)) f626).more (by decide) (by decide)
  · refine r_iload 180 rfl at_178 rfl ?_
    refine r_newarray 8 182 rfl at_180 (wd hw 0 rfl) (by decide) (by decide) (by decide) (by decide) (by decide) fun a631 h632 k633 ga631 za631 Eh632 Aa631 => ?_
    have f634 := f250.ext Eh632
    have sh632 := Eh632.1
    have la631 := ltN Aa631.lt
    have f635 : Arv V.Z h632 a631 k633 .char (8 : Int32) [.int 0, .int 0, .int 0, .int 0, .int 0, .int 0, .int 0, .int 0] (.int 0) := Arv.pad Aa631 (pad_rep [] (.int 0) 8)
    refine r_astore [.val (.int p0), .val (.int p1), .val (.long lo), .second, .val (.long hi), .second, .val (.int k164), .val (.int (8 : Int32)), .val (.int k166), .val (.ref a167), .val (.ref a631), .unset, .unset, .unset, .unset] 184 rfl at_182 rfl rfl ?_
    refine r_iload 186 rfl at_184 rfl ?_
    refine r_if_le 197 189 at_186 (by decide) rfl rfl (fun c636 => ?_) (fun c636 => ?_)
    · exact absurd c636 (by decide)
    refine r_aload 191 rfl at_189 rfl rfl ?_
    refine r_iconst (0 : Int32) 192 rfl at_191 rfl ?_
    refine r_aload 194 rfl at_192 rfl rfl ?_
    refine r_iconst (0 : Int32) 195 rfl at_194 rfl ?_
    refine r_caload (v := .int z0) 196 rfl at_195 f634 (by decide) rfl ?_
    refine r_castore 0 197 rfl at_196 f635 (by decide) rfl (Nat.le_of_ble_eq_true rfl) za631 z0 (nby bz0) fun h637 Wh637 f638 => ?_
    have sh637 := Wh637.size
    have f639 := Arv.other f634 Wh637 (neA (by omega))
    replace f638 : Arv V.Z h637 a631 k633 .char (8 : Int32) [.int z0, .int 0, .int 0, .int 0, .int 0, .int 0, .int 0, .int 0] (.int 0) := f638
    refine r_iload 199 rfl at_197 rfl ?_
    refine r_iconst (1 : Int32) 200 rfl at_199 rfl ?_
    refine r_icmp_le 211 203 at_200 (by decide) rfl rfl (fun c640 => ?_) (fun c640 => ?_)
    · exact absurd c640 (by decide)
    refine r_aload 205 rfl at_203 rfl rfl ?_
    refine r_iconst (1 : Int32) 206 rfl at_205 rfl ?_
    refine r_aload 208 rfl at_206 rfl rfl ?_
    refine r_iconst (1 : Int32) 209 rfl at_208 rfl ?_
    refine r_caload (v := .int z1) 210 rfl at_209 f639 (by decide) rfl ?_
    refine r_castore 1 211 rfl at_210 f638 (by decide) rfl (Nat.le_of_ble_eq_true rfl) za631 z1 (nby bz1) fun h641 Wh641 f642 => ?_
    have sh641 := Wh641.size
    have f643 := Arv.other f639 Wh641 (neA (by omega))
    replace f642 : Arv V.Z h641 a631 k633 .char (8 : Int32) [.int z0, .int z1, .int 0, .int 0, .int 0, .int 0, .int 0, .int 0] (.int 0) := f642
    refine r_iload 213 rfl at_211 rfl ?_
    refine r_iconst (2 : Int32) 214 rfl at_213 rfl ?_
    refine r_icmp_le 225 217 at_214 (by decide) rfl rfl (fun c644 => ?_) (fun c644 => ?_)
    · exact absurd c644 (by decide)
    refine r_aload 219 rfl at_217 rfl rfl ?_
    refine r_iconst (2 : Int32) 220 rfl at_219 rfl ?_
    refine r_aload 222 rfl at_220 rfl rfl ?_
    refine r_iconst (2 : Int32) 223 rfl at_222 rfl ?_
    refine r_caload (v := .int z2) 224 rfl at_223 f643 (by decide) rfl ?_
    refine r_castore 2 225 rfl at_224 f642 (by decide) rfl (Nat.le_of_ble_eq_true rfl) za631 z2 (nby bz2) fun h645 Wh645 f646 => ?_
    have sh645 := Wh645.size
    have f647 := Arv.other f643 Wh645 (neA (by omega))
    replace f646 : Arv V.Z h645 a631 k633 .char (8 : Int32) [.int z0, .int z1, .int z2, .int 0, .int 0, .int 0, .int 0, .int 0] (.int 0) := f646
    refine r_iload 227 rfl at_225 rfl ?_
    refine r_iconst (3 : Int32) 228 rfl at_227 rfl ?_
    refine r_icmp_le 239 231 at_228 (by decide) rfl rfl (fun c648 => ?_) (fun c648 => ?_)
    · exact absurd c648 (by decide)
    refine r_aload 233 rfl at_231 rfl rfl ?_
    refine r_iconst (3 : Int32) 234 rfl at_233 rfl ?_
    refine r_aload 236 rfl at_234 rfl rfl ?_
    refine r_iconst (3 : Int32) 237 rfl at_236 rfl ?_
    refine r_caload (v := .int z3) 238 rfl at_237 f647 (by decide) rfl ?_
    refine r_castore 3 239 rfl at_238 f646 (by decide) rfl (Nat.le_of_ble_eq_true rfl) za631 z3 (nby bz3) fun h649 Wh649 f650 => ?_
    have sh649 := Wh649.size
    have f651 := Arv.other f647 Wh649 (neA (by omega))
    replace f650 : Arv V.Z h649 a631 k633 .char (8 : Int32) [.int z0, .int z1, .int z2, .int z3, .int 0, .int 0, .int 0, .int 0] (.int 0) := f650
    refine r_iload 241 rfl at_239 rfl ?_
    refine r_iconst (4 : Int32) 242 rfl at_241 rfl ?_
    refine r_icmp_le 253 245 at_242 (by decide) rfl rfl (fun c652 => ?_) (fun c652 => ?_)
    · exact absurd c652 (by decide)
    refine r_aload 247 rfl at_245 rfl rfl ?_
    refine r_iconst (4 : Int32) 248 rfl at_247 rfl ?_
    refine r_aload 250 rfl at_248 rfl rfl ?_
    refine r_iconst (4 : Int32) 251 rfl at_250 rfl ?_
    refine r_caload (v := .int z4) 252 rfl at_251 f651 (by decide) rfl ?_
    refine r_castore 4 253 rfl at_252 f650 (by decide) rfl (Nat.le_of_ble_eq_true rfl) za631 z4 (nby bz4) fun h653 Wh653 f654 => ?_
    have sh653 := Wh653.size
    have f655 := Arv.other f651 Wh653 (neA (by omega))
    replace f654 : Arv V.Z h653 a631 k633 .char (8 : Int32) [.int z0, .int z1, .int z2, .int z3, .int z4, .int 0, .int 0, .int 0] (.int 0) := f654
    refine r_iload 255 rfl at_253 rfl ?_
    refine r_iconst (5 : Int32) 256 rfl at_255 rfl ?_
    refine r_icmp_le 267 259 at_256 (by decide) rfl rfl (fun c656 => ?_) (fun c656 => ?_)
    · exact absurd c656 (by decide)
    refine r_aload 261 rfl at_259 rfl rfl ?_
    refine r_iconst (5 : Int32) 262 rfl at_261 rfl ?_
    refine r_aload 264 rfl at_262 rfl rfl ?_
    refine r_iconst (5 : Int32) 265 rfl at_264 rfl ?_
    refine r_caload (v := .int z5) 266 rfl at_265 f655 (by decide) rfl ?_
    refine r_castore 5 267 rfl at_266 f654 (by decide) rfl (Nat.le_of_ble_eq_true rfl) za631 z5 (nby bz5) fun h657 Wh657 f658 => ?_
    have sh657 := Wh657.size
    have f659 := Arv.other f655 Wh657 (neA (by omega))
    replace f658 : Arv V.Z h657 a631 k633 .char (8 : Int32) [.int z0, .int z1, .int z2, .int z3, .int z4, .int z5, .int 0, .int 0] (.int 0) := f658
    refine r_iload 269 rfl at_267 rfl ?_
    refine r_bipush (6 : Int32) 271 rfl at_269 rfl ?_
    refine r_icmp_le 284 274 at_271 (by decide) rfl rfl (fun c660 => ?_) (fun c660 => ?_)
    · exact absurd c660 (by decide)
    refine r_aload 276 rfl at_274 rfl rfl ?_
    refine r_bipush (6 : Int32) 278 rfl at_276 rfl ?_
    refine r_aload 280 rfl at_278 rfl rfl ?_
    refine r_bipush (6 : Int32) 282 rfl at_280 rfl ?_
    refine r_caload (v := .int z6) 283 rfl at_282 f659 (by decide) rfl ?_
    refine r_castore 6 284 rfl at_283 f658 (by decide) rfl (Nat.le_of_ble_eq_true rfl) za631 z6 (nby bz6) fun h661 Wh661 f662 => ?_
    have sh661 := Wh661.size
    have f663 := Arv.other f659 Wh661 (neA (by omega))
    replace f662 : Arv V.Z h661 a631 k633 .char (8 : Int32) [.int z0, .int z1, .int z2, .int z3, .int z4, .int z5, .int z6, .int 0] (.int 0) := f662
    refine r_iload 286 rfl at_284 rfl ?_
    refine r_bipush (7 : Int32) 288 rfl at_286 rfl ?_
    refine r_icmp_le 301 291 at_288 (by decide) rfl rfl (fun c664 => ?_) (fun c664 => ?_)
    · exact absurd c664 (by decide)
    refine r_aload 293 rfl at_291 rfl rfl ?_
    refine r_bipush (7 : Int32) 295 rfl at_293 rfl ?_
    refine r_aload 297 rfl at_295 rfl rfl ?_
    refine r_bipush (7 : Int32) 299 rfl at_297 rfl ?_
    refine r_caload (v := .int z7) 300 rfl at_299 f663 (by decide) rfl ?_
    refine r_castore 7 301 rfl at_300 f662 (by decide) rfl (Nat.le_of_ble_eq_true rfl) za631 z7 (nby bz7) fun h665 Wh665 f666 => ?_
    have sh665 := Wh665.size
    have f667 := Arv.other f663 Wh665 (neA (by omega))
    replace f666 : Arv V.Z h665 a631 k633 .char (8 : Int32) [.int z0, .int z1, .int z2, .int z3, .int z4, .int z5, .int z6, .int z7] (.int 0) := f666
    refine r_iload 303 rfl at_301 rfl ?_
    refine r_bipush (8 : Int32) 305 rfl at_303 rfl ?_
    refine r_icmp_le 318 308 at_305 (by decide) rfl rfl (fun c668 => ?_) (fun c668 => ?_)
    rotate_left
    · exact absurd c668 (by decide)
    refine r_iload 320 rfl at_318 rfl ?_
    refine r_bipush (9 : Int32) 322 rfl at_320 rfl ?_
    refine r_icmp_le 335 325 at_322 (by decide) rfl rfl (fun c669 => ?_) (fun c669 => ?_)
    rotate_left
    · exact absurd c669 (by decide)
    exact (j335 8 a631 _ _ _ (by decide) (Ext.wr0 (Ext.wr0 (Ext.wr0 (Ext.wr0 (Ext.wr0 (Ext.wr0 (Ext.wr0 (Ext.wr0 (Eh632) Wh637 (by omega)) Wh641 (by omega)) Wh645 (by omega)) Wh649 (by omega)) Wh653 (by omega)) Wh657 (by omega)) Wh661 (by omega)) Wh665 (by omega)) f666).more (by decide) (by decide)
  · refine r_iload 180 rfl at_178 rfl ?_
    refine r_newarray 9 182 rfl at_180 (wd hw 0 rfl) (by decide) (by decide) (by decide) (by decide) (by decide) fun a670 h671 k672 ga670 za670 Eh671 Aa670 => ?_
    have f673 := f250.ext Eh671
    have sh671 := Eh671.1
    have la670 := ltN Aa670.lt
    have f674 : Arv V.Z h671 a670 k672 .char (9 : Int32) [.int 0, .int 0, .int 0, .int 0, .int 0, .int 0, .int 0, .int 0, .int 0] (.int 0) := Arv.pad Aa670 (pad_rep [] (.int 0) 9)
    refine r_astore [.val (.int p0), .val (.int p1), .val (.long lo), .second, .val (.long hi), .second, .val (.int k164), .val (.int (9 : Int32)), .val (.int k166), .val (.ref a167), .val (.ref a670), .unset, .unset, .unset, .unset] 184 rfl at_182 rfl rfl ?_
    refine r_iload 186 rfl at_184 rfl ?_
    refine r_if_le 197 189 at_186 (by decide) rfl rfl (fun c675 => ?_) (fun c675 => ?_)
    · exact absurd c675 (by decide)
    refine r_aload 191 rfl at_189 rfl rfl ?_
    refine r_iconst (0 : Int32) 192 rfl at_191 rfl ?_
    refine r_aload 194 rfl at_192 rfl rfl ?_
    refine r_iconst (0 : Int32) 195 rfl at_194 rfl ?_
    refine r_caload (v := .int z0) 196 rfl at_195 f673 (by decide) rfl ?_
    refine r_castore 0 197 rfl at_196 f674 (by decide) rfl (Nat.le_of_ble_eq_true rfl) za670 z0 (nby bz0) fun h676 Wh676 f677 => ?_
    have sh676 := Wh676.size
    have f678 := Arv.other f673 Wh676 (neA (by omega))
    replace f677 : Arv V.Z h676 a670 k672 .char (9 : Int32) [.int z0, .int 0, .int 0, .int 0, .int 0, .int 0, .int 0, .int 0, .int 0] (.int 0) := f677
    refine r_iload 199 rfl at_197 rfl ?_
    refine r_iconst (1 : Int32) 200 rfl at_199 rfl ?_
    refine r_icmp_le 211 203 at_200 (by decide) rfl rfl (fun c679 => ?_) (fun c679 => ?_)
    · exact absurd c679 (by decide)
    refine r_aload 205 rfl at_203 rfl rfl ?_
    refine r_iconst (1 : Int32) 206 rfl at_205 rfl ?_
    refine r_aload 208 rfl at_206 rfl rfl ?_
    refine r_iconst (1 : Int32) 209 rfl at_208 rfl ?_
    refine r_caload (v := .int z1) 210 rfl at_209 f678 (by decide) rfl ?_
    refine r_castore 1 211 rfl at_210 f677 (by decide) rfl (Nat.le_of_ble_eq_true rfl) za670 z1 (nby bz1) fun h680 Wh680 f681 => ?_
    have sh680 := Wh680.size
    have f682 := Arv.other f678 Wh680 (neA (by omega))
    replace f681 : Arv V.Z h680 a670 k672 .char (9 : Int32) [.int z0, .int z1, .int 0, .int 0, .int 0, .int 0, .int 0, .int 0, .int 0] (.int 0) := f681
    refine r_iload 213 rfl at_211 rfl ?_
    refine r_iconst (2 : Int32) 214 rfl at_213 rfl ?_
    refine r_icmp_le 225 217 at_214 (by decide) rfl rfl (fun c683 => ?_) (fun c683 => ?_)
    · exact absurd c683 (by decide)
    refine r_aload 219 rfl at_217 rfl rfl ?_
    refine r_iconst (2 : Int32) 220 rfl at_219 rfl ?_
    refine r_aload 222 rfl at_220 rfl rfl ?_
    refine r_iconst (2 : Int32) 223 rfl at_222 rfl ?_
    refine r_caload (v := .int z2) 224 rfl at_223 f682 (by decide) rfl ?_
    refine r_castore 2 225 rfl at_224 f681 (by decide) rfl (Nat.le_of_ble_eq_true rfl) za670 z2 (nby bz2) fun h684 Wh684 f685 => ?_
    have sh684 := Wh684.size
    have f686 := Arv.other f682 Wh684 (neA (by omega))
    replace f685 : Arv V.Z h684 a670 k672 .char (9 : Int32) [.int z0, .int z1, .int z2, .int 0, .int 0, .int 0, .int 0, .int 0, .int 0] (.int 0) := f685
    refine r_iload 227 rfl at_225 rfl ?_
    refine r_iconst (3 : Int32) 228 rfl at_227 rfl ?_
    refine r_icmp_le 239 231 at_228 (by decide) rfl rfl (fun c687 => ?_) (fun c687 => ?_)
    · exact absurd c687 (by decide)
    refine r_aload 233 rfl at_231 rfl rfl ?_
    refine r_iconst (3 : Int32) 234 rfl at_233 rfl ?_
    refine r_aload 236 rfl at_234 rfl rfl ?_
    refine r_iconst (3 : Int32) 237 rfl at_236 rfl ?_
    refine r_caload (v := .int z3) 238 rfl at_237 f686 (by decide) rfl ?_
    refine r_castore 3 239 rfl at_238 f685 (by decide) rfl (Nat.le_of_ble_eq_true rfl) za670 z3 (nby bz3) fun h688 Wh688 f689 => ?_
    have sh688 := Wh688.size
    have f690 := Arv.other f686 Wh688 (neA (by omega))
    replace f689 : Arv V.Z h688 a670 k672 .char (9 : Int32) [.int z0, .int z1, .int z2, .int z3, .int 0, .int 0, .int 0, .int 0, .int 0] (.int 0) := f689
    refine r_iload 241 rfl at_239 rfl ?_
    refine r_iconst (4 : Int32) 242 rfl at_241 rfl ?_
    refine r_icmp_le 253 245 at_242 (by decide) rfl rfl (fun c691 => ?_) (fun c691 => ?_)
    · exact absurd c691 (by decide)
    refine r_aload 247 rfl at_245 rfl rfl ?_
    refine r_iconst (4 : Int32) 248 rfl at_247 rfl ?_
    refine r_aload 250 rfl at_248 rfl rfl ?_
    refine r_iconst (4 : Int32) 251 rfl at_250 rfl ?_
    refine r_caload (v := .int z4) 252 rfl at_251 f690 (by decide) rfl ?_
    refine r_castore 4 253 rfl at_252 f689 (by decide) rfl (Nat.le_of_ble_eq_true rfl) za670 z4 (nby bz4) fun h692 Wh692 f693 => ?_
    have sh692 := Wh692.size
    have f694 := Arv.other f690 Wh692 (neA (by omega))
    replace f693 : Arv V.Z h692 a670 k672 .char (9 : Int32) [.int z0, .int z1, .int z2, .int z3, .int z4, .int 0, .int 0, .int 0, .int 0] (.int 0) := f693
    refine r_iload 255 rfl at_253 rfl ?_
    refine r_iconst (5 : Int32) 256 rfl at_255 rfl ?_
    refine r_icmp_le 267 259 at_256 (by decide) rfl rfl (fun c695 => ?_) (fun c695 => ?_)
    · exact absurd c695 (by decide)
    refine r_aload 261 rfl at_259 rfl rfl ?_
    refine r_iconst (5 : Int32) 262 rfl at_261 rfl ?_
    refine r_aload 264 rfl at_262 rfl rfl ?_
    refine r_iconst (5 : Int32) 265 rfl at_264 rfl ?_
    refine r_caload (v := .int z5) 266 rfl at_265 f694 (by decide) rfl ?_
    refine r_castore 5 267 rfl at_266 f693 (by decide) rfl (Nat.le_of_ble_eq_true rfl) za670 z5 (nby bz5) fun h696 Wh696 f697 => ?_
    have sh696 := Wh696.size
    have f698 := Arv.other f694 Wh696 (neA (by omega))
    replace f697 : Arv V.Z h696 a670 k672 .char (9 : Int32) [.int z0, .int z1, .int z2, .int z3, .int z4, .int z5, .int 0, .int 0, .int 0] (.int 0) := f697
    refine r_iload 269 rfl at_267 rfl ?_
    refine r_bipush (6 : Int32) 271 rfl at_269 rfl ?_
    refine r_icmp_le 284 274 at_271 (by decide) rfl rfl (fun c699 => ?_) (fun c699 => ?_)
    · exact absurd c699 (by decide)
    refine r_aload 276 rfl at_274 rfl rfl ?_
    refine r_bipush (6 : Int32) 278 rfl at_276 rfl ?_
    refine r_aload 280 rfl at_278 rfl rfl ?_
    refine r_bipush (6 : Int32) 282 rfl at_280 rfl ?_
    refine r_caload (v := .int z6) 283 rfl at_282 f698 (by decide) rfl ?_
    refine r_castore 6 284 rfl at_283 f697 (by decide) rfl (Nat.le_of_ble_eq_true rfl) za670 z6 (nby bz6) fun h700 Wh700 f701 => ?_
    have sh700 := Wh700.size
    have f702 := Arv.other f698 Wh700 (neA (by omega))
    replace f701 : Arv V.Z h700 a670 k672 .char (9 : Int32) [.int z0, .int z1, .int z2, .int z3, .int z4, .int z5, .int z6, .int 0, .int 0] (.int 0) := f701
    refine r_iload 286 rfl at_284 rfl ?_
    refine r_bipush (7 : Int32) 288 rfl at_286 rfl ?_
    refine r_icmp_le 301 291 at_288 (by decide) rfl rfl (fun c703 => ?_) (fun c703 => ?_)
    · exact absurd c703 (by decide)
    refine r_aload 293 rfl at_291 rfl rfl ?_
    refine r_bipush (7 : Int32) 295 rfl at_293 rfl ?_
    refine r_aload 297 rfl at_295 rfl rfl ?_
    refine r_bipush (7 : Int32) 299 rfl at_297 rfl ?_
    refine r_caload (v := .int z7) 300 rfl at_299 f702 (by decide) rfl ?_
    refine r_castore 7 301 rfl at_300 f701 (by decide) rfl (Nat.le_of_ble_eq_true rfl) za670 z7 (nby bz7) fun h704 Wh704 f705 => ?_
    have sh704 := Wh704.size
    have f706 := Arv.other f702 Wh704 (neA (by omega))
    replace f705 : Arv V.Z h704 a670 k672 .char (9 : Int32) [.int z0, .int z1, .int z2, .int z3, .int z4, .int z5, .int z6, .int z7, .int 0] (.int 0) := f705
    refine r_iload 303 rfl at_301 rfl ?_
    refine r_bipush (8 : Int32) 305 rfl at_303 rfl ?_
    refine r_icmp_le 318 308 at_305 (by decide) rfl rfl (fun c707 => ?_) (fun c707 => ?_)
    · exact absurd c707 (by decide)
    refine r_aload 310 rfl at_308 rfl rfl ?_
    refine r_bipush (8 : Int32) 312 rfl at_310 rfl ?_
    refine r_aload 314 rfl at_312 rfl rfl ?_
    refine r_bipush (8 : Int32) 316 rfl at_314 rfl ?_
    refine r_caload (v := .int z8) 317 rfl at_316 f706 (by decide) rfl ?_
    refine r_castore 8 318 rfl at_317 f705 (by decide) rfl (Nat.le_of_ble_eq_true rfl) za670 z8 (nby bz8) fun h708 Wh708 f709 => ?_
    have sh708 := Wh708.size
    have f710 := Arv.other f706 Wh708 (neA (by omega))
    replace f709 : Arv V.Z h708 a670 k672 .char (9 : Int32) [.int z0, .int z1, .int z2, .int z3, .int z4, .int z5, .int z6, .int z7, .int z8] (.int 0) := f709
    refine r_iload 320 rfl at_318 rfl ?_
    refine r_bipush (9 : Int32) 322 rfl at_320 rfl ?_
    refine r_icmp_le 335 325 at_322 (by decide) rfl rfl (fun c711 => ?_) (fun c711 => ?_)
    rotate_left
    · exact absurd c711 (by decide)
    exact (j335 9 a670 _ _ _ (by decide) (Ext.wr0 (Ext.wr0 (Ext.wr0 (Ext.wr0 (Ext.wr0 (Ext.wr0 (Ext.wr0 (Ext.wr0 (Ext.wr0 (Eh671) Wh676 (by omega)) Wh680 (by omega)) Wh684 (by omega)) Wh688 (by omega)) Wh692 (by omega)) Wh696 (by omega)) Wh700 (by omega)) Wh704 (by omega)) Wh708 (by omega)) f709).more (by decide) (by decide)
  · refine r_iload 180 rfl at_178 rfl ?_
    refine r_newarray 10 182 rfl at_180 (wd hw 0 rfl) (by decide) (by decide) (by decide) (by decide) (by decide) fun a712 h713 k714 ga712 za712 Eh713 Aa712 => ?_
    have f715 := f250.ext Eh713
    have sh713 := Eh713.1
    have la712 := ltN Aa712.lt
    have f716 : Arv V.Z h713 a712 k714 .char (10 : Int32) [.int 0, .int 0, .int 0, .int 0, .int 0, .int 0, .int 0, .int 0, .int 0, .int 0] (.int 0) := Arv.pad Aa712 (pad_rep [] (.int 0) 10)
    refine r_astore [.val (.int p0), .val (.int p1), .val (.long lo), .second, .val (.long hi), .second, .val (.int k164), .val (.int (10 : Int32)), .val (.int k166), .val (.ref a167), .val (.ref a712), .unset, .unset, .unset, .unset] 184 rfl at_182 rfl rfl ?_
    refine r_iload 186 rfl at_184 rfl ?_
    refine r_if_le 197 189 at_186 (by decide) rfl rfl (fun c717 => ?_) (fun c717 => ?_)
    · exact absurd c717 (by decide)
    refine r_aload 191 rfl at_189 rfl rfl ?_
    refine r_iconst (0 : Int32) 192 rfl at_191 rfl ?_
    refine r_aload 194 rfl at_192 rfl rfl ?_
    refine r_iconst (0 : Int32) 195 rfl at_194 rfl ?_
    refine r_caload (v := .int z0) 196 rfl at_195 f715 (by decide) rfl ?_
    refine r_castore 0 197 rfl at_196 f716 (by decide) rfl (Nat.le_of_ble_eq_true rfl) za712 z0 (nby bz0) fun h718 Wh718 f719 => ?_
    have sh718 := Wh718.size
    have f720 := Arv.other f715 Wh718 (neA (by omega))
    replace f719 : Arv V.Z h718 a712 k714 .char (10 : Int32) [.int z0, .int 0, .int 0, .int 0, .int 0, .int 0, .int 0, .int 0, .int 0, .int 0] (.int 0) := f719
    refine r_iload 199 rfl at_197 rfl ?_
    refine r_iconst (1 : Int32) 200 rfl at_199 rfl ?_
    refine r_icmp_le 211 203 at_200 (by decide) rfl rfl (fun c721 => ?_) (fun c721 => ?_)
    · exact absurd c721 (by decide)
    refine r_aload 205 rfl at_203 rfl rfl ?_
    refine r_iconst (1 : Int32) 206 rfl at_205 rfl ?_
    refine r_aload 208 rfl at_206 rfl rfl ?_
    refine r_iconst (1 : Int32) 209 rfl at_208 rfl ?_
    refine r_caload (v := .int z1) 210 rfl at_209 f720 (by decide) rfl ?_
    refine r_castore 1 211 rfl at_210 f719 (by decide) rfl (Nat.le_of_ble_eq_true rfl) za712 z1 (nby bz1) fun h722 Wh722 f723 => ?_
    have sh722 := Wh722.size
    have f724 := Arv.other f720 Wh722 (neA (by omega))
    replace f723 : Arv V.Z h722 a712 k714 .char (10 : Int32) [.int z0, .int z1, .int 0, .int 0, .int 0, .int 0, .int 0, .int 0, .int 0, .int 0] (.int 0) := f723
    refine r_iload 213 rfl at_211 rfl ?_
    refine r_iconst (2 : Int32) 214 rfl at_213 rfl ?_
    refine r_icmp_le 225 217 at_214 (by decide) rfl rfl (fun c725 => ?_) (fun c725 => ?_)
    · exact absurd c725 (by decide)
    refine r_aload 219 rfl at_217 rfl rfl ?_
    refine r_iconst (2 : Int32) 220 rfl at_219 rfl ?_
    refine r_aload 222 rfl at_220 rfl rfl ?_
    refine r_iconst (2 : Int32) 223 rfl at_222 rfl ?_
    refine r_caload (v := .int z2) 224 rfl at_223 f724 (by decide) rfl ?_
    refine r_castore 2 225 rfl at_224 f723 (by decide) rfl (Nat.le_of_ble_eq_true rfl) za712 z2 (nby bz2) fun h726 Wh726 f727 => ?_
    have sh726 := Wh726.size
    have f728 := Arv.other f724 Wh726 (neA (by omega))
    replace f727 : Arv V.Z h726 a712 k714 .char (10 : Int32) [.int z0, .int z1, .int z2, .int 0, .int 0, .int 0, .int 0, .int 0, .int 0, .int 0] (.int 0) := f727
    refine r_iload 227 rfl at_225 rfl ?_
    refine r_iconst (3 : Int32) 228 rfl at_227 rfl ?_
    refine r_icmp_le 239 231 at_228 (by decide) rfl rfl (fun c729 => ?_) (fun c729 => ?_)
    · exact absurd c729 (by decide)
    refine r_aload 233 rfl at_231 rfl rfl ?_
    refine r_iconst (3 : Int32) 234 rfl at_233 rfl ?_
    refine r_aload 236 rfl at_234 rfl rfl ?_
    refine r_iconst (3 : Int32) 237 rfl at_236 rfl ?_
    refine r_caload (v := .int z3) 238 rfl at_237 f728 (by decide) rfl ?_
    refine r_castore 3 239 rfl at_238 f727 (by decide) rfl (Nat.le_of_ble_eq_true rfl) za712 z3 (nby bz3) fun h730 Wh730 f731 => ?_
    have sh730 := Wh730.size
    have f732 := Arv.other f728 Wh730 (neA (by omega))
    replace f731 : Arv V.Z h730 a712 k714 .char (10 : Int32) [.int z0, .int z1, .int z2, .int z3, .int 0, .int 0, .int 0, .int 0, .int 0, .int 0] (.int 0) := f731
    refine r_iload 241 rfl at_239 rfl ?_
    refine r_iconst (4 : Int32) 242 rfl at_241 rfl ?_
    refine r_icmp_le 253 245 at_242 (by decide) rfl rfl (fun c733 => ?_) (fun c733 => ?_)
    · exact absurd c733 (by decide)
    refine r_aload 247 rfl at_245 rfl rfl ?_
    refine r_iconst (4 : Int32) 248 rfl at_247 rfl ?_
    refine r_aload 250 rfl at_248 rfl rfl ?_
    refine r_iconst (4 : Int32) 251 rfl at_250 rfl ?_
    refine r_caload (v := .int z4) 252 rfl at_251 f732 (by decide) rfl ?_
    refine r_castore 4 253 rfl at_252 f731 (by decide) rfl (Nat.le_of_ble_eq_true rfl) za712 z4 (nby bz4) fun h734 Wh734 f735 => ?_
    have sh734 := Wh734.size
    have f736 := Arv.other f732 Wh734 (neA (by omega))
    replace f735 : Arv V.Z h734 a712 k714 .char (10 : Int32) [.int z0, .int z1, .int z2, .int z3, .int z4, .int 0, .int 0, .int 0, .int 0, .int 0] (.int 0) := f735
    refine r_iload 255 rfl at_253 rfl ?_
    refine r_iconst (5 : Int32) 256 rfl at_255 rfl ?_
    refine r_icmp_le 267 259 at_256 (by decide) rfl rfl (fun c737 => ?_) (fun c737 => ?_)
    · exact absurd c737 (by decide)
    refine r_aload 261 rfl at_259 rfl rfl ?_
    refine r_iconst (5 : Int32) 262 rfl at_261 rfl ?_
    refine r_aload 264 rfl at_262 rfl rfl ?_
    refine r_iconst (5 : Int32) 265 rfl at_264 rfl ?_
    refine r_caload (v := .int z5) 266 rfl at_265 f736 (by decide) rfl ?_
    refine r_castore 5 267 rfl at_266 f735 (by decide) rfl (Nat.le_of_ble_eq_true rfl) za712 z5 (nby bz5) fun h738 Wh738 f739 => ?_
    have sh738 := Wh738.size
    have f740 := Arv.other f736 Wh738 (neA (by omega))
    replace f739 : Arv V.Z h738 a712 k714 .char (10 : Int32) [.int z0, .int z1, .int z2, .int z3, .int z4, .int z5, .int 0, .int 0, .int 0, .int 0] (.int 0) := f739
    refine r_iload 269 rfl at_267 rfl ?_
    refine r_bipush (6 : Int32) 271 rfl at_269 rfl ?_
    refine r_icmp_le 284 274 at_271 (by decide) rfl rfl (fun c741 => ?_) (fun c741 => ?_)
    · exact absurd c741 (by decide)
    refine r_aload 276 rfl at_274 rfl rfl ?_
    refine r_bipush (6 : Int32) 278 rfl at_276 rfl ?_
    refine r_aload 280 rfl at_278 rfl rfl ?_
    refine r_bipush (6 : Int32) 282 rfl at_280 rfl ?_
    refine r_caload (v := .int z6) 283 rfl at_282 f740 (by decide) rfl ?_
    refine r_castore 6 284 rfl at_283 f739 (by decide) rfl (Nat.le_of_ble_eq_true rfl) za712 z6 (nby bz6) fun h742 Wh742 f743 => ?_
    have sh742 := Wh742.size
    have f744 := Arv.other f740 Wh742 (neA (by omega))
    replace f743 : Arv V.Z h742 a712 k714 .char (10 : Int32) [.int z0, .int z1, .int z2, .int z3, .int z4, .int z5, .int z6, .int 0, .int 0, .int 0] (.int 0) := f743
    refine r_iload 286 rfl at_284 rfl ?_
    refine r_bipush (7 : Int32) 288 rfl at_286 rfl ?_
    refine r_icmp_le 301 291 at_288 (by decide) rfl rfl (fun c745 => ?_) (fun c745 => ?_)
    · exact absurd c745 (by decide)
    refine r_aload 293 rfl at_291 rfl rfl ?_
    refine r_bipush (7 : Int32) 295 rfl at_293 rfl ?_
    refine r_aload 297 rfl at_295 rfl rfl ?_
    refine r_bipush (7 : Int32) 299 rfl at_297 rfl ?_
    refine r_caload (v := .int z7) 300 rfl at_299 f744 (by decide) rfl ?_
    refine r_castore 7 301 rfl at_300 f743 (by decide) rfl (Nat.le_of_ble_eq_true rfl) za712 z7 (nby bz7) fun h746 Wh746 f747 => ?_
    have sh746 := Wh746.size
    have f748 := Arv.other f744 Wh746 (neA (by omega))
    replace f747 : Arv V.Z h746 a712 k714 .char (10 : Int32) [.int z0, .int z1, .int z2, .int z3, .int z4, .int z5, .int z6, .int z7, .int 0, .int 0] (.int 0) := f747
    refine r_iload 303 rfl at_301 rfl ?_
    refine r_bipush (8 : Int32) 305 rfl at_303 rfl ?_
    refine r_icmp_le 318 308 at_305 (by decide) rfl rfl (fun c749 => ?_) (fun c749 => ?_)
    · exact absurd c749 (by decide)
    refine r_aload 310 rfl at_308 rfl rfl ?_
    refine r_bipush (8 : Int32) 312 rfl at_310 rfl ?_
    refine r_aload 314 rfl at_312 rfl rfl ?_
    refine r_bipush (8 : Int32) 316 rfl at_314 rfl ?_
    refine r_caload (v := .int z8) 317 rfl at_316 f748 (by decide) rfl ?_
    refine r_castore 8 318 rfl at_317 f747 (by decide) rfl (Nat.le_of_ble_eq_true rfl) za712 z8 (nby bz8) fun h750 Wh750 f751 => ?_
    have sh750 := Wh750.size
    have f752 := Arv.other f748 Wh750 (neA (by omega))
    replace f751 : Arv V.Z h750 a712 k714 .char (10 : Int32) [.int z0, .int z1, .int z2, .int z3, .int z4, .int z5, .int z6, .int z7, .int z8, .int 0] (.int 0) := f751
    refine r_iload 320 rfl at_318 rfl ?_
    refine r_bipush (9 : Int32) 322 rfl at_320 rfl ?_
    refine r_icmp_le 335 325 at_322 (by decide) rfl rfl (fun c753 => ?_) (fun c753 => ?_)
    · exact absurd c753 (by decide)
    refine r_aload 327 rfl at_325 rfl rfl ?_
    refine r_bipush (9 : Int32) 329 rfl at_327 rfl ?_
    refine r_aload 331 rfl at_329 rfl rfl ?_
    refine r_bipush (9 : Int32) 333 rfl at_331 rfl ?_
    refine r_caload (v := .int z9) 334 rfl at_333 f752 (by decide) rfl ?_
    refine r_castore 9 335 rfl at_334 f751 (by decide) rfl (Nat.le_of_ble_eq_true rfl) za712 z9 (nby bz9) fun h754 Wh754 f755 => ?_
    have sh754 := Wh754.size
    have f756 := Arv.other f752 Wh754 (neA (by omega))
    replace f755 : Arv V.Z h754 a712 k714 .char (10 : Int32) [.int z0, .int z1, .int z2, .int z3, .int z4, .int z5, .int z6, .int z7, .int z8, .int z9] (.int 0) := f755
    exact (j335 10 a712 _ _ _ (by decide) (Ext.wr0 (Ext.wr0 (Ext.wr0 (Ext.wr0 (Ext.wr0 (Ext.wr0 (Ext.wr0 (Ext.wr0 (Ext.wr0 (Ext.wr0 (Eh713) Wh718 (by omega)) Wh722 (by omega)) Wh726 (by omega)) Wh730 (by omega)) Wh734 (by omega)) Wh738 (by omega)) Wh742 (by omega)) Wh746 (by omega)) Wh750 (by omega)) Wh754 (by omega)) f755).more (by decide) (by decide)
theorem comes_1 {Post : Tables → Env → Array Value → State → Outcome → State → Prop} (hpost : ∀ tb e args s v u, (limb_1_1.after args s (.returned v) u = true ∧ limb_1_2.after args s (.returned v) u = true ∧ True) → ReturnedEndW s (.returned v) u (Jvm.fieldLocs frame_1_writes args s ++ Jvm.arrayLocs frame_1_arrays args s ++ Jvm.staticLocs frame_1_statics s) 32 7360 → Post tb e args s (.returned v) u) :
    ArmFor flags0 classFile x code maxLocals ret World_1 tables_1 room_1 Calls_1 rest_1 Pre_1 Post := by
  intro l hfl _ _ p e ha hc hk s m args below hf hA hF happ hP
  obtain ⟨hcalls, hrest, hpre⟩ := hP
  obtain ⟨-, -, -, hnamed, -, -, -, hat⟩ := (Spec.applies_iff hf).mp happ
  obtain ⟨hg, hn⟩ := and_e (Cond.before_iff.mp (show (Jvm.Cond.and given_1 narrow_1).before args s = true from hpre))
  obtain ⟨hcount, g0⟩ := and_e hg
  obtain ⟨k0, g1⟩ := and_e g0
  obtain ⟨k1, g2⟩ := and_e g1
  obtain ⟨k2, g3⟩ := and_e g2
  have k3 := g3
  obtain ⟨w0, w1, w2, w3, rfl⟩ : ∃ w0 w1 w2 w3 : Value, args = #[w0, w1, w2, w3] := by
    have hs : args.size = 4 := by simpa [Cond.value, given_1] using hcount
    obtain ⟨L⟩ := args
    match L, hs with
    | [w0, w1, w2, w3], _ => exact ⟨w0, w1, w2, w3, rfl⟩
  have hw := fun d (hd : d ∈ tables_1) => atoms_spec (ws := Jvm.Cond.code x code maxLocals ret :: tables_1) hat d (List.mem_cons_of_mem _ hd)
  obtain ⟨i0, e0⟩ := is_v k0
  obtain rfl : w0 = (.int i0) := Option.some.inj e0
  obtain ⟨i1, e1⟩ := is_v k1
  obtain rfl : w1 = (.int i1) := Option.some.inj e1
  obtain ⟨i2, e2⟩ := isL_v k2
  obtain rfl : w2 = (.long i2) := Option.some.inj e2
  obtain ⟨i3, e3⟩ := isL_v k3
  obtain rfl : w3 = (.long i3) := Option.some.inj e3
  obtain ⟨hsets, hown0⟩ := atoms_of _ (rest_1_c_eq ▸ (show rest_1_c.before _ s = true from hrest))
  have n5 := not_v (Cond.before_iff.mp (hsets _ (List.mem_of_getElem? (i := 2) rfl)))
  obtain ⟨i11, e11⟩ := is_v (Cond.before_iff.mp (hsets _ (List.mem_of_getElem? (i := 1) rfl)))
  have S12 : Sta s s.heap "java/lang/String" "COMPACT_STRINGS" "Z" (.int i11) := Sta.start e11 (Or.inl (hsets _ (List.mem_of_getElem? (i := 0) rfl)))
  have c17 : ¬ (i11 = (0 : Int32)) := gotF (Cond.eq_ints e11 (Term.int_eval (0))) n5
  obtain ⟨v13, e14, r15⟩ := isR_v (Cond.before_iff.mp (hsets _ (List.mem_of_getElem? (i := 8) rfl)))
  have S16 : Sta s s.heap "jdk/internal/util/Preconditions" "SIOOBE_FORMATTER" "Ljava/util/function/BiFunction;" v13 := Sta.start e14 (Or.inl (hsets _ (List.mem_of_getElem? (i := 7) rfl)))
  have hEW : EW s #[.int i0, .int i1, .long i2, .long i3] consts_1 := (EW.cons (hw _ (List.mem_of_getElem? (i := 71) rfl)) (by decide) (EW.cons (hw _ (List.mem_of_getElem? (i := 81) rfl)) (by decide) (EW.cons (hw _ (List.mem_of_getElem? (i := 9) rfl)) (by decide) (EW.cons (hw _ (List.mem_of_getElem? (i := 83) rfl)) (by decide) (EW.cons (hw _ (List.mem_of_getElem? (i := 82) rfl)) (by decide) (EW.cons (hw _ (List.mem_of_getElem? (i := 84) rfl)) (by decide) (EW.cons (hw _ (List.mem_of_getElem? (i := 85) rfl)) (by decide) EW.nil)))))))
  have hCH : CHv s consts_1 s.vm s.heap := CHv.start hEW (fun p hp => hcalls.1 p hp) (hsets _ (List.mem_of_getElem? (i := 2) rfl)) (hw _ (List.mem_of_getElem? (i := 12) rfl)) (hw _ (List.mem_of_getElem? (i := 11) rfl))
  obtain ⟨n, o, h1, h2, h3, v, L, ps, rfl, N, rfl, -, -, -, hq, -⟩ := c_law (s, #[.int i0, .int i1, .long i2, .long i3], consts_1, false, l) hw (show ("java/lang/String", 7) ∈ consts_1 by decide) rfl i11 S12 c17 v13 S16 r15 (show ("com/example/nimeton/nimeton/cli/LoggingVerbosePinLaw", 34) ∈ consts_1 by decide) (show ("com/example/nimeton/nimeton/cli/LoggingVerbosePinLaw", 40) ∈ consts_1 by decide) (show ("com/example/nimeton/nimeton/cli/LoggingVerbosePinLaw", 42) ∈ consts_1 by decide) (show ("com/example/nimeton/nimeton/cli/LoggingVerbosePinLaw", 44) ∈ consts_1 by decide) (show ("com/example/nimeton/nimeton/cli/Logging", 9) ∈ consts_1 by decide) (show ("com/example/nimeton/nimeton/cli/Logging", 17) ∈ consts_1 by decide) i0 i1 i2 i3 s.heap hEW ⟨Nat.le_refl _, fun _ _ q => q⟩ (fun q => nomatch q) tables_1 p e ha hc hk s m _ below hf ((Spec.applies_iff_loose hf).mp happ).1 ⟨rfl, State.Warmed39.refl s, rfl, hCH, Sf.nil⟩ trivial
  refine ⟨n, _, h1, h2, h3, hpost _ _ _ _ _ _ ⟨Cond.after_iff.mpr rfl, Cond.after_iff.mpr (eq_i res_at (Term.int_eval (1)) rfl), trivial⟩ ⟨hq.1, hq.2.1, hq.2.2.1, (hq.2.2.2.sift fun y hy => Or.inr (N y hy)).mono (by decide) (by decide)⟩⟩
theorem main_1_1 : Claimed_1_1 := comes_1 fun _ _ _ _ _ _ h hF => ⟨h.1, hF⟩
theorem main_1_2 : Claimed_1_2 := comes_1 fun _ _ _ _ _ _ h hF => ⟨h.2.1, hF⟩
end Jvm.Pilot.@@N@@
namespace Jvm.Pilot.@@N@@
open Jvm Jvm.ClassFile Sem Op Lib Jvm.Free Jvm.Stand Jvm.Pilot.@@N@@.Jvm.D
/-! MADE BY PROGRAM (witnessworld.py) out of the Statement's table words and the real class files: 21 classes; the members and pool entries that the words name. The judged class is class 1, her method 1. -/
namespace start1
open Jvm.ClassFile
def u (s : String) : CpInfo := .utf8 (stringToUtf16 s)
/-- a pool by its gaps: so many unusable entries, then the entry; so many at the end -/
def gap : Nat → List CpInfo → List CpInfo
  | 0, r => r
  | n + 1, r => .unusable :: gap n r
def poolList (es : List (Nat × CpInfo)) (last : Nat) : List CpInfo := es.foldr (fun e r => gap e.1 (e.2 :: r)) (gap last [])
def pool (es : List (Nat × CpInfo)) (last : Nat) : Array CpInfo := ⟨poolList es last⟩
def fileOf (pool : Array CpInfo) (this : Nat) (attrs : Array Attribute := #[]) (ms : Array MethodInfo := #[]) (fl : Nat := 33) (sup : Nat := 0) (ifs : Array Nat := #[]) (fds : Array FieldInfo := #[]) : ClassFile where
  minorVersion := 0
  majorVersion := 65
  constantPool := pool
  accessFlags := fl
  thisClass := this
  superClass := sup
  interfaces := ifs
  fields := fds
  methods := ms
  attributes := attrs
def plain (name : String) (sup : Option ClassId) : Class where
  name := name
  kind := .ordinary
  loader := none
  accessFlags := 33
  super := sup
  interfaces := #[]
  cf := none
  fields := #[]
  methods := #[]
  instanceTypes := #[]
  staticTypes := #[]
  resolved := #[]
  callSites := []
  init := .initialized
  statics := none
  mirror := none

def pool0 : Array CpInfo := pool [(5, u "<init>"), (0, u "()V"), (1, .class_ 10), (1, u "java/lang/Object")] 113

def k0c0 : Code := { maxStack := 0, maxLocals := 1, code := object_method_1_code, exceptionTable := #[], attributes := #[] }
def k0m0 : Method := { name := "<init>", desc := "()V", sig := { parameters := [], returnType := none }, accessFlags := 1, code := some k0c0 }
/-- java/lang/Object -/
def k0 : Class := { plain "java/lang/Object" none with
  accessFlags := 33
  interfaces := #[]
  cf := some (fileOf pool0 8 #[] #[{ accessFlags := 1, nameIndex := 5, descriptorIndex := 6, attributes := #[] }] 33 0 #[] #[])
  fields := #[]
  methods := #[k0m0]
  instanceTypes := #[]
  staticTypes := #[]
  resolved := Array.replicate 124 none
  statics := none }

def pool1 : Array CpInfo := pool [(2, .class_ 4), (1, u "java/lang/Object"), (0, u "<init>"), (0, u "()V"), (0, .methodref 8 9), (0, .class_ 10), (0, .nameAndType 11 12), (0, u "com/example/nimeton/nimeton/cli/LoggingVerbosePinLaw"), (0, u "pick"), (0, u "(IIJJI)C"), (0, .class_ 14), (0, u "java/lang/String"), (0, .methodref 13 16), (0, .nameAndType 5 17), (0, u "([C)V"), (0, .methodref 8 19), (0, .nameAndType 20 21), (0, u "other"), (0, u "(I)Ljava/lang/String;"), (0, .methodref 23 24), (0, .class_ 25), (0, .nameAndType 26 27), (0, u "com/example/nimeton/nimeton/cli/Logging"), (0, u "verbose"), (0, u "([Ljava/lang/String;)Z"), (0, .long 255), (1, .methodref 8 31), (0, .nameAndType 32 33), (0, u "drawn"), (0, u "(JJI)C"), (0, .string 35), (0, u "--verbose"), (0, .methodref 13 37), (0, .nameAndType 38 39), (0, u "charAt"), (0, u "(I)C"), (0, .string 41), (0, u "-v"), (0, .string 43), (0, u "x"), (0, .string 45), (0, u ""), (2, u "law"), (0, u "(IIJJ)Z")] 7

def k1m0 : Method := { name := "<init>", desc := "()V", sig := { parameters := [], returnType := none }, accessFlags := 2, code := none }
def k1c1 : Code := { maxStack := 9, maxLocals := 15, code := code, exceptionTable := #[], attributes := #[] }
def k1m1 : Method := { name := "law", desc := "(IIJJ)Z", sig := { parameters := [.int, .int, .long, .long], returnType := some .boolean }, accessFlags := 9, code := some k1c1 }
def k1c2 : Code := { maxStack := 5, maxLocals := 7, code := method_3_code, exceptionTable := #[], attributes := #[] }
def k1m2 : Method := { name := "drawn", desc := "(JJI)C", sig := { parameters := [.long, .long, .int], returnType := some .char }, accessFlags := 10, code := some k1c2 }
def k1c3 : Code := { maxStack := 5, maxLocals := 8, code := method_4_code, exceptionTable := #[], attributes := #[] }
def k1m3 : Method := { name := "pick", desc := "(IIJJI)C", sig := { parameters := [.int, .int, .long, .long, .int], returnType := some .char }, accessFlags := 10, code := some k1c3 }
def k1c4 : Code := { maxStack := 2, maxLocals := 1, code := method_5_code, exceptionTable := #[], attributes := #[] }
def k1m4 : Method := { name := "other", desc := "(I)Ljava/lang/String;", sig := { parameters := [.int], returnType := some (.object "java/lang/String") }, accessFlags := 10, code := some k1c4 }
/-- com/example/nimeton/nimeton/cli/LoggingVerbosePinLaw -/
def k1 : Class := { plain "com/example/nimeton/nimeton/cli/LoggingVerbosePinLaw" (some 0) with
  accessFlags := 49
  interfaces := #[]
  cf := some (fileOf pool1 8 #[] #[{ accessFlags := 2, nameIndex := 5, descriptorIndex := 6, attributes := #[] }, { accessFlags := 9, nameIndex := 48, descriptorIndex := 49, attributes := #[] }, { accessFlags := 10, nameIndex := 32, descriptorIndex := 33, attributes := #[] }, { accessFlags := 10, nameIndex := 11, descriptorIndex := 12, attributes := #[] }, { accessFlags := 10, nameIndex := 20, descriptorIndex := 21, attributes := #[] }] 49 2 #[] #[])
  fields := #[]
  methods := #[k1m0, k1m1, k1m2, k1m3, k1m4]
  instanceTypes := #[]
  staticTypes := #[]
  resolved := Array.replicate 57 none
  statics := none }

def pool2 : Array CpInfo := pool [(1, .class_ 2), (0, u "java/io/Serializable"), (0, .class_ 4), (0, u "java/lang/Object")] 2

/-- java/io/Serializable -/
def k2 : Class := { plain "java/io/Serializable" (some 0) with
  accessFlags := 1537
  interfaces := #[]
  cf := some (fileOf pool2 1 #[] #[] 1537 3 #[] #[])
  fields := #[]
  methods := #[]
  instanceTypes := #[]
  staticTypes := #[]
  resolved := Array.replicate 7 none
  statics := none }

def pool3 : Array CpInfo := pool [(1, .class_ 2), (0, u "java/lang/Comparable"), (0, .class_ 4), (0, u "java/lang/Object")] 7

/-- java/lang/Comparable -/
def k3 : Class := { plain "java/lang/Comparable" (some 0) with
  accessFlags := 1537
  interfaces := #[]
  cf := some (fileOf pool3 1 #[] #[] 1537 3 #[] #[])
  fields := #[]
  methods := #[]
  instanceTypes := #[]
  staticTypes := #[]
  resolved := Array.replicate 12 none
  statics := none }

def pool4 : Array CpInfo := pool [(2, .class_ 4), (1, u "java/lang/CharSequence"), (42, .class_ 48), (0, u "java/lang/CharSequence$1CodePointIterator"), (10, .class_ 60), (0, u "java/lang/CharSequence$1CharIterator"), (5, .class_ 67), (0, u "java/lang/Object")] 63

/-- java/lang/CharSequence -/
def k4 : Class := { plain "java/lang/CharSequence" (some 0) with
  accessFlags := 1537
  interfaces := #[]
  cf := some (fileOf pool4 2 #[.nestMembers #[47, 59]] #[] 1537 66 #[] #[])
  fields := #[]
  methods := #[]
  instanceTypes := #[]
  staticTypes := #[]
  resolved := Array.replicate 131 none
  statics := none }

def pool5 : Array CpInfo := pool [(1, .class_ 2), (0, u "java/lang/constant/Constable"), (0, .class_ 4), (0, u "java/lang/Object")] 6

/-- java/lang/constant/Constable -/
def k5 : Class := { plain "java/lang/constant/Constable" (some 0) with
  accessFlags := 1537
  interfaces := #[]
  cf := some (fileOf pool5 1 #[] #[] 1537 3 #[] #[])
  fields := #[]
  methods := #[]
  instanceTypes := #[]
  staticTypes := #[]
  resolved := Array.replicate 11 none
  statics := none }

def pool6 : Array CpInfo := pool [(1, .class_ 2), (0, u "java/lang/constant/ConstantDesc"), (0, .class_ 4), (0, u "java/lang/Object")] 32

/-- java/lang/constant/ConstantDesc -/
def k6 : Class := { plain "java/lang/constant/ConstantDesc" (some 0) with
  accessFlags := 1537
  interfaces := #[]
  cf := some (fileOf pool6 1 #[] #[] 1537 3 #[] #[])
  fields := #[]
  methods := #[]
  instanceTypes := #[]
  staticTypes := #[]
  resolved := Array.replicate 37 none
  statics := none }

def pool7 : Array CpInfo := pool [(1, .methodref 2 3), (0, .class_ 4), (0, .nameAndType 5 6), (0, u "java/lang/Object"), (0, u "<init>"), (0, u "()V"), (0, .string 8), (0, u ""), (0, .fieldref 10 11), (0, .class_ 12), (0, .nameAndType 13 14), (0, u "java/lang/String"), (0, u "value"), (0, u "[B"), (0, .fieldref 10 16), (0, .nameAndType 17 18), (0, u "coder"), (0, u "B"), (2, u "hash"), (0, u "I"), (2, u "hashIsZero"), (0, u "Z"), (0, .methodref 10 28), (0, .nameAndType 5 29), (0, u "([CIILjava/lang/Void;)V"), (8, .fieldref 10 39), (0, .nameAndType 40 26), (0, u "COMPACT_STRINGS"), (1, .class_ 44), (1, u "java/lang/StringUTF16"), (0, u "compress"), (1, .methodref 42 48), (0, .nameAndType 49 50), (0, u "coderFromArrayLen"), (0, u "([BI)B"), (56, .class_ 109), (1, u "java/lang/StringLatin1"), (32, u "()Z"), (34, .methodref 42 178), (0, .nameAndType 45 179), (0, u "([CII)[B"), (183, u "([BI)C"), (27, u "(II)V"), (35, u "(I)C"), (64, .methodref 10 493), (0, .nameAndType 494 142), (0, u "isLatin1"), (0, .methodref 107 496), (0, .nameAndType 497 363), (0, u "charAt"), (3, u "checkIndex"), (39, .methodref 107 542), (0, .nameAndType 543 544), (0, u "equals"), (0, u "([B[B)Z"), (28, u "(Ljava/lang/Object;)Z"), (1, .class_ 576), (0, u "java/lang/CharSequence"), (22, u "CASE_INSENSITIVE_ORDER"), (0, u "Ljava/util/Comparator;"), (409, u "([C)V"), (42, .fieldref 1054 1055), (0, .class_ 1056), (0, .nameAndType 1057 1058), (0, u "jdk/internal/util/Preconditions"), (0, u "SIOOBE_FORMATTER"), (0, u "Ljava/util/function/BiFunction;"), (0, .methodref 1054 1060), (0, .nameAndType 501 1061), (0, u "(IILjava/util/function/BiFunction;)I"), (39, u "serialPersistentFields"), (0, u "[Ljava/io/ObjectStreamField;"), (0, .class_ 1104), (0, u "java/lang/String$CaseInsensitiveComparator"), (1, .class_ 1107), (0, u "java/io/Serializable"), (0, .class_ 1109), (0, u "java/lang/Comparable"), (0, .class_ 1111), (0, u "java/lang/constant/Constable"), (0, .class_ 1113), (0, u "java/lang/constant/ConstantDesc"), (2, u "serialVersionUID"), (0, u "J"), (3, u "REPL"), (0, u "C"), (2, u "LATIN1"), (1, u "UTF16")] 323

def k7m0 : Method := { name := "<init>", desc := "()V", sig := { parameters := [], returnType := none }, accessFlags := 1, code := none }
def k7c1 : Code := { maxStack := 5, maxLocals := 2, code := jdk_42_method_3_code, exceptionTable := #[], attributes := #[] }
def k7m1 : Method := { name := "<init>", desc := "([C)V", sig := { parameters := [(.array .char)], returnType := none }, accessFlags := 1, code := some k7c1 }
def k7c2 : Code := { maxStack := 2, maxLocals := 2, code := jdk_42_method_56_code, exceptionTable := #[], attributes := #[] }
def k7m2 : Method := { name := "charAt", desc := "(I)C", sig := { parameters := [.int], returnType := some .char }, accessFlags := 1, code := some k7c2 }
def k7c3 : Code := { maxStack := 2, maxLocals := 3, code := jdk_42_method_66_code, exceptionTable := #[], attributes := #[] }
def k7m3 : Method := { name := "equals", desc := "(Ljava/lang/Object;)Z", sig := { parameters := [(.object "java/lang/Object")], returnType := some .boolean }, accessFlags := 1, code := some k7c3 }
def k7c4 : Code := { maxStack := 4, maxLocals := 6, code := jdk_42_method_149_code, exceptionTable := #[], attributes := #[] }
def k7m4 : Method := { name := "<init>", desc := "([CIILjava/lang/Void;)V", sig := { parameters := [(.array .char), .int, .int, (.object "java/lang/Void")], returnType := none }, accessFlags := 2, code := some k7c4 }
def k7c5 : Code := { maxStack := 1, maxLocals := 1, code := jdk_42_method_154_code, exceptionTable := #[], attributes := #[] }
def k7m5 : Method := { name := "isLatin1", desc := "()Z", sig := { parameters := [], returnType := some .boolean }, accessFlags := 0, code := some k7c5 }
def k7c6 : Code := { maxStack := 3, maxLocals := 2, code := jdk_42_method_155_code, exceptionTable := #[], attributes := #[] }
def k7m6 : Method := { name := "checkIndex", desc := "(II)V", sig := { parameters := [.int, .int], returnType := none }, accessFlags := 8, code := some k7c6 }
/-- java/lang/String -/
def k7 : Class := { plain "java/lang/String" (some 0) with
  accessFlags := 49
  interfaces := #[2, 3, 4, 5, 6]
  cf := some (fileOf pool7 10 #[.nestMembers #[1103]] #[{ accessFlags := 1, nameIndex := 5, descriptorIndex := 6, attributes := #[] }, { accessFlags := 1, nameIndex := 5, descriptorIndex := 1010, attributes := #[] }, { accessFlags := 1, nameIndex := 497, descriptorIndex := 427, attributes := #[] }, { accessFlags := 1, nameIndex := 543, descriptorIndex := 573, attributes := #[] }, { accessFlags := 2, nameIndex := 5, descriptorIndex := 29, attributes := #[] }, { accessFlags := 0, nameIndex := 494, descriptorIndex := 142, attributes := #[] }, { accessFlags := 8, nameIndex := 501, descriptorIndex := 391, attributes := #[] }] 49 2 #[1106, 1108, 575, 1110, 1112] #[{ accessFlags := 18, nameIndex := 13, descriptorIndex := 14, attributes := #[] }, { accessFlags := 18, nameIndex := 17, descriptorIndex := 18, attributes := #[] }, { accessFlags := 2, nameIndex := 21, descriptorIndex := 22, attributes := #[] }, { accessFlags := 2, nameIndex := 25, descriptorIndex := 26, attributes := #[] }, { accessFlags := 26, nameIndex := 1116, descriptorIndex := 1117, attributes := #[] }, { accessFlags := 24, nameIndex := 40, descriptorIndex := 26, attributes := #[] }, { accessFlags := 26, nameIndex := 1101, descriptorIndex := 1102, attributes := #[] }, { accessFlags := 26, nameIndex := 1121, descriptorIndex := 1122, attributes := #[] }, { accessFlags := 25, nameIndex := 599, descriptorIndex := 600, attributes := #[] }, { accessFlags := 24, nameIndex := 1125, descriptorIndex := 18, attributes := #[] }, { accessFlags := 24, nameIndex := 1127, descriptorIndex := 18, attributes := #[] }])
  fields := #[{ name := "value", type := (.array .byte), accessFlags := 18, slot := 0, constantValue := 0 }, { name := "coder", type := .byte, accessFlags := 18, slot := 1, constantValue := 0 }, { name := "hash", type := .int, accessFlags := 2, slot := 2, constantValue := 0 }, { name := "hashIsZero", type := .boolean, accessFlags := 2, slot := 3, constantValue := 0 }, { name := "serialVersionUID", type := .long, accessFlags := 26, slot := 0, constantValue := 0 }, { name := "COMPACT_STRINGS", type := .boolean, accessFlags := 24, slot := 1, constantValue := 0 }, { name := "serialPersistentFields", type := (.array (.object "java/io/ObjectStreamField")), accessFlags := 26, slot := 2, constantValue := 0 }, { name := "REPL", type := .char, accessFlags := 26, slot := 3, constantValue := 0 }, { name := "CASE_INSENSITIVE_ORDER", type := (.object "java/util/Comparator"), accessFlags := 25, slot := 4, constantValue := 0 }, { name := "LATIN1", type := .byte, accessFlags := 24, slot := 5, constantValue := 0 }, { name := "UTF16", type := .byte, accessFlags := 24, slot := 6, constantValue := 0 }]
  methods := #[k7m0, k7m1, k7m2, k7m3, k7m4, k7m5, k7m6]
  instanceTypes := #[(.array .byte), .byte, .int, .boolean]
  staticTypes := #[.long, .boolean, (.array (.object "java/io/ObjectStreamField")), .char, (.object "java/util/Comparator"), .byte, .byte]
  resolved := Array.replicate 1451 none
  statics := some 0 }

def pool8 : Array CpInfo := pool [(1, .class_ 2), (0, u "java/lang/String"), (1, .class_ 6), (1, u "java/lang/Object"), (0, u "<init>"), (0, u "()V"), (0, .methodref 1 10), (0, .nameAndType 11 12), (0, u "checkIndex"), (0, u "(II)V"), (1, .class_ 16), (1, u "java/lang/StringLatin1"), (36, u "([BI)C"), (67, u "$assertionsDisabled"), (0, u "Z"), (98, .class_ 223), (1, u "java/lang/StringLatin1$LinesSpliterator"), (28, u "charAt"), (28, u "equals"), (0, u "([B[B)Z"), (107, .class_ 391), (0, u "java/lang/StringLatin1$CharsSpliterator")] 3

def k8m0 : Method := { name := "<init>", desc := "()V", sig := { parameters := [], returnType := none }, accessFlags := 0, code := none }
def k8c1 : Code := { maxStack := 2, maxLocals := 2, code := jdk_43_method_2_code, exceptionTable := #[], attributes := #[] }
def k8m1 : Method := { name := "charAt", desc := "([BI)C", sig := { parameters := [(.array .byte), .int], returnType := some .char }, accessFlags := 9, code := some k8c1 }
def k8c2 : Code := { maxStack := 3, maxLocals := 3, code := jdk_43_method_13_code, exceptionTable := #[], attributes := #[] }
def k8m2 : Method := { name := "equals", desc := "([B[B)Z", sig := { parameters := [(.array .byte), (.array .byte)], returnType := some .boolean }, accessFlags := 9, code := some k8c2 }
/-- java/lang/StringLatin1 -/
def k8 : Class := { plain "java/lang/StringLatin1" (some 0) with
  accessFlags := 48
  interfaces := #[]
  cf := some (fileOf pool8 14 #[.nestMembers #[390, 221]] #[{ accessFlags := 0, nameIndex := 7, descriptorIndex := 8, attributes := #[] }, { accessFlags := 9, nameIndex := 252, descriptorIndex := 53, attributes := #[] }, { accessFlags := 9, nameIndex := 281, descriptorIndex := 282, attributes := #[] }] 48 4 #[] #[{ accessFlags := 4120, nameIndex := 121, descriptorIndex := 122, attributes := #[] }])
  fields := #[{ name := "$assertionsDisabled", type := .boolean, accessFlags := 4120, slot := 0, constantValue := 0 }]
  methods := #[k8m0, k8m1, k8m2]
  instanceTypes := #[]
  staticTypes := #[.boolean]
  resolved := Array.replicate 395 none
  statics := none }

def pool9 : Array CpInfo := pool [(2, .class_ 4), (1, u "java/lang/Object"), (0, u "<init>"), (0, u "()V"), (17, .class_ 26), (1, u "jdk/internal/util/Preconditions"), (6, u "checkIndex"), (21, .class_ 56), (0, u "jdk/internal/util/Preconditions$4"), (57, .class_ 115), (0, u "jdk/internal/util/Preconditions$1"), (7, u "SIOOBE_FORMATTER"), (0, u "Ljava/util/function/BiFunction;"), (0, .class_ 126), (0, u "jdk/internal/util/Preconditions$2"), (3, u "AIOOBE_FORMATTER"), (0, .class_ 132), (0, u "jdk/internal/util/Preconditions$3"), (3, u "IOOBE_FORMATTER"), (41, u "(IILjava/util/function/BiFunction;)I")] 15

def k9m0 : Method := { name := "<init>", desc := "()V", sig := { parameters := [], returnType := none }, accessFlags := 1, code := none }
def k9c1 : Code := { maxStack := 3, maxLocals := 3, code := jdk_41_method_11_code, exceptionTable := #[], attributes := #[] }
def k9m1 : Method := { name := "checkIndex", desc := "(IILjava/util/function/BiFunction;)I", sig := { parameters := [.int, .int, (.object "java/util/function/BiFunction")], returnType := some .int }, accessFlags := 9, code := some k9c1 }
/-- jdk/internal/util/Preconditions -/
def k9 : Class := { plain "jdk/internal/util/Preconditions" (some 0) with
  accessFlags := 33
  interfaces := #[]
  cf := some (fileOf pool9 24 #[.nestMembers #[55, 131, 125, 114]] #[{ accessFlags := 1, nameIndex := 5, descriptorIndex := 6, attributes := #[] }, { accessFlags := 9, nameIndex := 33, descriptorIndex := 178, attributes := #[] }] 33 2 #[] #[{ accessFlags := 25, nameIndex := 123, descriptorIndex := 124, attributes := #[] }, { accessFlags := 25, nameIndex := 130, descriptorIndex := 124, attributes := #[] }, { accessFlags := 25, nameIndex := 136, descriptorIndex := 124, attributes := #[] }])
  fields := #[{ name := "SIOOBE_FORMATTER", type := (.object "java/util/function/BiFunction"), accessFlags := 25, slot := 0, constantValue := 0 }, { name := "AIOOBE_FORMATTER", type := (.object "java/util/function/BiFunction"), accessFlags := 25, slot := 1, constantValue := 0 }, { name := "IOOBE_FORMATTER", type := (.object "java/util/function/BiFunction"), accessFlags := 25, slot := 2, constantValue := 0 }]
  methods := #[k9m0, k9m1]
  instanceTypes := #[]
  staticTypes := #[(.object "java/util/function/BiFunction"), (.object "java/util/function/BiFunction"), (.object "java/util/function/BiFunction")]
  resolved := Array.replicate 194 none
  statics := some 1 }

def pool10 : Array CpInfo := pool [(2, .class_ 4), (1, u "java/lang/Object"), (0, u "<init>"), (0, u "()V"), (0, .class_ 8), (0, u "com/example/nimeton/nimeton/cli/Logging"), (0, .string 10), (0, u "--verbose"), (0, .methodref 12 13), (0, .class_ 14), (0, .nameAndType 15 16), (0, u "java/lang/String"), (0, u "equals"), (0, u "(Ljava/lang/Object;)Z"), (0, .string 18), (0, u "-v"), (2, u "verbose"), (0, u "([Ljava/lang/String;)Z"), (19, u "VERBOSE"), (0, u "Ljava/lang/String;"), (1, u "VERBOSE_SHORT"), (0, u "LEVEL"), (0, u "VERBOSE_LEVEL")] 23

def k10m0 : Method := { name := "<init>", desc := "()V", sig := { parameters := [], returnType := none }, accessFlags := 2, code := none }
def k10c1 : Code := { maxStack := 2, maxLocals := 1, code := prog_11_method_2_code, exceptionTable := #[], attributes := #[] }
def k10m1 : Method := { name := "verbose", desc := "([Ljava/lang/String;)Z", sig := { parameters := [(.array (.object "java/lang/String"))], returnType := some .boolean }, accessFlags := 8, code := some k10c1 }
/-- com/example/nimeton/nimeton/cli/Logging -/
def k10 : Class := { plain "com/example/nimeton/nimeton/cli/Logging" (some 0) with
  accessFlags := 48
  interfaces := #[]
  cf := some (fileOf pool10 7 #[] #[{ accessFlags := 2, nameIndex := 5, descriptorIndex := 6, attributes := #[] }, { accessFlags := 8, nameIndex := 21, descriptorIndex := 22, attributes := #[] }] 48 2 #[] #[{ accessFlags := 26, nameIndex := 42, descriptorIndex := 43, attributes := #[] }, { accessFlags := 26, nameIndex := 45, descriptorIndex := 43, attributes := #[] }, { accessFlags := 26, nameIndex := 46, descriptorIndex := 43, attributes := #[] }, { accessFlags := 26, nameIndex := 47, descriptorIndex := 43, attributes := #[] }])
  fields := #[{ name := "VERBOSE", type := (.object "java/lang/String"), accessFlags := 26, slot := 0, constantValue := 0 }, { name := "VERBOSE_SHORT", type := (.object "java/lang/String"), accessFlags := 26, slot := 1, constantValue := 0 }, { name := "LEVEL", type := (.object "java/lang/String"), accessFlags := 26, slot := 2, constantValue := 0 }, { name := "VERBOSE_LEVEL", type := (.object "java/lang/String"), accessFlags := 26, slot := 3, constantValue := 0 }]
  methods := #[k10m0, k10m1]
  instanceTypes := #[]
  staticTypes := #[(.object "java/lang/String"), (.object "java/lang/String"), (.object "java/lang/String"), (.object "java/lang/String")]
  resolved := Array.replicate 71 none
  statics := none }

def pool11 : Array CpInfo := pool [(6, .class_ 8), (1, u "java/lang/Object"), (0, u "<init>"), (0, u "()V"), (1, .class_ 14), (1, u "java/lang/StringUTF16"), (31, u "$assertionsDisabled"), (0, u "Z"), (13, u "HI_BYTE_SHIFT"), (0, u "I"), (2, u "LO_BYTE_SHIFT"), (49, .methodref 12 116), (0, .nameAndType 117 118), (0, u "compress"), (0, u "([CI[BII)I"), (3, u "([CII)[B"), (138, u "coderFromArrayLen"), (0, u "([BI)B"), (106, .class_ 371), (1, u "java/lang/StringUTF16$LinesSpliterator"), (58, u "MAX_LENGTH"), (196, .class_ 628), (0, u "java/lang/StringUTF16$CodePointsSpliterator"), (0, .class_ 630), (0, u "java/lang/StringUTF16$CharsSpliterator")] 4

def k11m0 : Method := { name := "<init>", desc := "()V", sig := { parameters := [], returnType := none }, accessFlags := 0, code := none }
def k11c1 : Code := { maxStack := 2, maxLocals := 2, code := jdk_52_method_15_code, exceptionTable := #[], attributes := #[] }
def k11m1 : Method := { name := "coderFromArrayLen", desc := "([BI)B", sig := { parameters := [(.array .byte), .int], returnType := some .byte }, accessFlags := 8, code := some k11c1 }
def k11c2 : Code := { maxStack := 5, maxLocals := 6, code := jdk_52_method_16_code, exceptionTable := #[], attributes := #[] }
def k11m2 : Method := { name := "compress", desc := "([CII)[B", sig := { parameters := [(.array .char), .int, .int], returnType := some (.array .byte) }, accessFlags := 9, code := some k11c2 }
def k11c3 : Code := { maxStack := 3, maxLocals := 7, code := jdk_52_method_21_code, exceptionTable := #[], attributes := #[] }
def k11m3 : Method := { name := "compress", desc := "([CI[BII)I", sig := { parameters := [(.array .char), .int, (.array .byte), .int, .int], returnType := some .int }, accessFlags := 9, code := some k11c3 }
/-- java/lang/StringUTF16 -/
def k11 : Class := { plain "java/lang/StringUTF16" (some 0) with
  accessFlags := 48
  interfaces := #[]
  cf := some (fileOf pool11 12 #[.nestMembers #[627, 629, 369]] #[{ accessFlags := 0, nameIndex := 9, descriptorIndex := 10, attributes := #[] }, { accessFlags := 8, nameIndex := 261, descriptorIndex := 262, attributes := #[] }, { accessFlags := 9, nameIndex := 117, descriptorIndex := 122, attributes := #[] }, { accessFlags := 9, nameIndex := 117, descriptorIndex := 118, attributes := #[] }] 48 6 #[] #[{ accessFlags := 26, nameIndex := 61, descriptorIndex := 62, attributes := #[] }, { accessFlags := 26, nameIndex := 65, descriptorIndex := 62, attributes := #[] }, { accessFlags := 24, nameIndex := 430, descriptorIndex := 62, attributes := #[] }, { accessFlags := 4120, nameIndex := 46, descriptorIndex := 47, attributes := #[] }])
  fields := #[{ name := "HI_BYTE_SHIFT", type := .int, accessFlags := 26, slot := 0, constantValue := 0 }, { name := "LO_BYTE_SHIFT", type := .int, accessFlags := 26, slot := 1, constantValue := 0 }, { name := "MAX_LENGTH", type := .int, accessFlags := 24, slot := 2, constantValue := 0 }, { name := "$assertionsDisabled", type := .boolean, accessFlags := 4120, slot := 3, constantValue := 0 }]
  methods := #[k11m0, k11m1, k11m2, k11m3]
  instanceTypes := #[]
  staticTypes := #[.int, .int, .int, .boolean]
  resolved := Array.replicate 635 none
  statics := none }

def pool12 : Array CpInfo := pool [(9, u "<init>"), (6, .class_ 18), (1, u "java/lang/Object"), (0, u "()V"), (1, .class_ 23), (1, u "jdk/internal/util/ArraysSupport"), (0, u "LOG2_ARRAY_LONG_INDEX_SCALE"), (0, u "I"), (2, u "U"), (0, u "Ljdk/internal/misc/Unsafe;"), (8, u "BIG_ENDIAN"), (0, u "Z"), (8, u "LOG2_BYTE_BIT_SIZE"), (4, u "LOG2_ARRAY_INT_INDEX_SCALE"), (54, u "JLA"), (0, u "Ljdk/internal/access/JavaLangAccess;"), (11, u "LOG2_ARRAY_BOOLEAN_INDEX_SCALE"), (9, u "LOG2_ARRAY_BYTE_INDEX_SCALE"), (5, u "LOG2_ARRAY_CHAR_INDEX_SCALE"), (5, u "LOG2_ARRAY_SHORT_INDEX_SCALE"), (18, u "LOG2_ARRAY_FLOAT_INDEX_SCALE"), (24, u "LOG2_ARRAY_DOUBLE_INDEX_SCALE"), (89, u "T_BOOLEAN"), (2, u "T_CHAR"), (1, u "T_FLOAT"), (1, u "T_DOUBLE"), (1, u "T_BYTE"), (1, u "T_SHORT"), (1, u "T_INT"), (1, u "T_LONG"), (1, u "SOFT_MAX_ARRAY_LENGTH")] 83

def k12m0 : Method := { name := "<init>", desc := "()V", sig := { parameters := [], returnType := none }, accessFlags := 2, code := none }
/-- jdk/internal/util/ArraysSupport -/
def k12 : Class := { plain "jdk/internal/util/ArraysSupport" (some 0) with
  accessFlags := 33
  interfaces := #[]
  cf := some (fileOf pool12 21 #[] #[{ accessFlags := 2, nameIndex := 9, descriptorIndex := 19, attributes := #[] }] 33 16 #[] #[{ accessFlags := 24, nameIndex := 28, descriptorIndex := 29, attributes := #[] }, { accessFlags := 26, nameIndex := 38, descriptorIndex := 39, attributes := #[] }, { accessFlags := 25, nameIndex := 121, descriptorIndex := 25, attributes := #[] }, { accessFlags := 25, nameIndex := 131, descriptorIndex := 25, attributes := #[] }, { accessFlags := 25, nameIndex := 137, descriptorIndex := 25, attributes := #[] }, { accessFlags := 25, nameIndex := 143, descriptorIndex := 25, attributes := #[] }, { accessFlags := 25, nameIndex := 53, descriptorIndex := 25, attributes := #[] }, { accessFlags := 25, nameIndex := 24, descriptorIndex := 25, attributes := #[] }, { accessFlags := 25, nameIndex := 162, descriptorIndex := 25, attributes := #[] }, { accessFlags := 25, nameIndex := 187, descriptorIndex := 25, attributes := #[] }, { accessFlags := 26, nameIndex := 48, descriptorIndex := 25, attributes := #[] }, { accessFlags := 25, nameIndex := 277, descriptorIndex := 25, attributes := #[] }, { accessFlags := 25, nameIndex := 280, descriptorIndex := 25, attributes := #[] }, { accessFlags := 25, nameIndex := 282, descriptorIndex := 25, attributes := #[] }, { accessFlags := 25, nameIndex := 284, descriptorIndex := 25, attributes := #[] }, { accessFlags := 25, nameIndex := 286, descriptorIndex := 25, attributes := #[] }, { accessFlags := 25, nameIndex := 288, descriptorIndex := 25, attributes := #[] }, { accessFlags := 25, nameIndex := 290, descriptorIndex := 25, attributes := #[] }, { accessFlags := 25, nameIndex := 292, descriptorIndex := 25, attributes := #[] }, { accessFlags := 26, nameIndex := 108, descriptorIndex := 109, attributes := #[] }, { accessFlags := 25, nameIndex := 294, descriptorIndex := 25, attributes := #[] }])
  fields := #[{ name := "U", type := (.object "jdk/internal/misc/Unsafe"), accessFlags := 24, slot := 0, constantValue := 0 }, { name := "BIG_ENDIAN", type := .boolean, accessFlags := 26, slot := 1, constantValue := 0 }, { name := "LOG2_ARRAY_BOOLEAN_INDEX_SCALE", type := .int, accessFlags := 25, slot := 2, constantValue := 0 }, { name := "LOG2_ARRAY_BYTE_INDEX_SCALE", type := .int, accessFlags := 25, slot := 3, constantValue := 0 }, { name := "LOG2_ARRAY_CHAR_INDEX_SCALE", type := .int, accessFlags := 25, slot := 4, constantValue := 0 }, { name := "LOG2_ARRAY_SHORT_INDEX_SCALE", type := .int, accessFlags := 25, slot := 5, constantValue := 0 }, { name := "LOG2_ARRAY_INT_INDEX_SCALE", type := .int, accessFlags := 25, slot := 6, constantValue := 0 }, { name := "LOG2_ARRAY_LONG_INDEX_SCALE", type := .int, accessFlags := 25, slot := 7, constantValue := 0 }, { name := "LOG2_ARRAY_FLOAT_INDEX_SCALE", type := .int, accessFlags := 25, slot := 8, constantValue := 0 }, { name := "LOG2_ARRAY_DOUBLE_INDEX_SCALE", type := .int, accessFlags := 25, slot := 9, constantValue := 0 }, { name := "LOG2_BYTE_BIT_SIZE", type := .int, accessFlags := 26, slot := 10, constantValue := 0 }, { name := "T_BOOLEAN", type := .int, accessFlags := 25, slot := 11, constantValue := 0 }, { name := "T_CHAR", type := .int, accessFlags := 25, slot := 12, constantValue := 0 }, { name := "T_FLOAT", type := .int, accessFlags := 25, slot := 13, constantValue := 0 }, { name := "T_DOUBLE", type := .int, accessFlags := 25, slot := 14, constantValue := 0 }, { name := "T_BYTE", type := .int, accessFlags := 25, slot := 15, constantValue := 0 }, { name := "T_SHORT", type := .int, accessFlags := 25, slot := 16, constantValue := 0 }, { name := "T_INT", type := .int, accessFlags := 25, slot := 17, constantValue := 0 }, { name := "T_LONG", type := .int, accessFlags := 25, slot := 18, constantValue := 0 }, { name := "JLA", type := (.object "jdk/internal/access/JavaLangAccess"), accessFlags := 26, slot := 19, constantValue := 0 }, { name := "SOFT_MAX_ARRAY_LENGTH", type := .int, accessFlags := 25, slot := 20, constantValue := 0 }]
  methods := #[k12m0]
  instanceTypes := #[]
  staticTypes := #[(.object "jdk/internal/misc/Unsafe"), .boolean, .int, .int, .int, .int, .int, .int, .int, .int, .int, .int, .int, .int, .int, .int, .int, .int, .int, (.object "jdk/internal/access/JavaLangAccess"), .int]
  resolved := Array.replicate 378 none
  statics := none }

def pool13 : Array CpInfo := pool [(1, u "java/lang/Cloneable"), (0, .class_ 1), (0, u "java/lang/Object"), (0, .class_ 3)] 3

/-- java/lang/Cloneable -/
def k13 : Class := { plain "java/lang/Cloneable" (some 0) with
  accessFlags := 1537
  interfaces := #[]
  cf := some (fileOf pool13 2 #[] #[] 1537 4 #[] #[])
  fields := #[]
  methods := #[]
  instanceTypes := #[]
  staticTypes := #[]
  resolved := Array.replicate 8 none
  statics := none }

/-- the primitive byte -/
def k14 : Class := { plain "byte" none with kind := .primitive 'B', accessFlags := 0x411 }
/-- [B -/
def k15 : Class := { plain "[B" (some 0) with kind := .array 14 .byte, interfaces := #[13, 2], accessFlags := 1041 }

/-- the primitive char -/
def k16 : Class := { plain "char" none with kind := .primitive 'C', accessFlags := 0x411 }
/-- [C -/
def k17 : Class := { plain "[C" (some 0) with kind := .array 16 .char, interfaces := #[13, 2], accessFlags := 1041 }

/-- the primitive int -/
def k18 : Class := { plain "int" none with kind := .primitive 'I', accessFlags := 0x411 }
/-- [I -/
def k19 : Class := { plain "[I" (some 0) with kind := .array 18 .int, interfaces := #[13, 2], accessFlags := 1041 }

/-- [Ljava/lang/String; -/
def k20 : Class := { plain "[Ljava/lang/String;" (some 0) with kind := .array 7 (.object "java/lang/String"), interfaces := #[13, 2], accessFlags := 1041 }

def heap : Heap := #[{ cls := 7, slots := #[.long 0, .int 1, .null, .int 0, .null, .int 0, .int 0], vm := .statics 7 },
  { cls := 9, slots := #[.null, .null, .null], vm := .statics 9 }]
def classes : Array Class := #[k0, k1, k2, k3, k4, k5, k6, k7, k8, k9, k10, k11, k12, k13, k14, k15, k16, k17, k18, k19, k20]
def interned : List (Array UInt16 × Addr) := []
def slotsUsed : Nat := 10
def theMethod : MethodId := ⟨1, 1⟩
def args0 : Array Value := #[.int 5, .int 3, .long 5, .long 7]
def aboutOver (below : List Frame) : State where
  vm := { classes := classes, interned := interned.toArray }
  heap := heap
  slotsUsed := slotsUsed
  threads := #[{ frames := .invoking theMethod args0 :: below }]
def below0 : List Frame := [.native { method := ⟨0, 0⟩, args := #[] }]
def about1 : State := aboutOver below0
def p0 : Program := .bare "" "" ""
def e0 : Env := launch0.env 0 0 0
theorem w_frames : about1.frames = Frame.invoking theMethod args0 :: below0 := rfl
set_option maxRecDepth 65536 in
theorem w_args : argsFit about1.vm theMethod args0 = true := by decide +kernel
set_option maxRecDepth 65536 in
theorem w_heap : heapFits about1 = true := by decide +kernel
set_option maxRecDepth 65536 in
theorem w_runnable : about1.curStatus? = some .runnable := by decide +kernel
set_option maxRecDepth 65536 in
theorem w_alone : about1.alone = true := by decide +kernel
set_option maxRecDepth 65536 in
theorem w_named : about1.methodNamed? x = some theMethod := by decide +kernel
set_option maxRecDepth 65536 in
theorem w_hears : about1.hears theMethod below0 = true := by decide +kernel
set_option maxRecDepth 65536 in
theorem w_ripe : about1.ripe theMethod args0 below0 = true := by decide +kernel
theorem w_running : about1.status = .running := rfl
set_option maxRecDepth 65536 in
theorem w_room : about1.hasRoom e0.platform room_1 = true :=
  launch0.hasRoom_least _ room_1 (by decide +kernel) (by decide +kernel) (by decide +kernel) (by decide +kernel) (by decide +kernel) (by decide +kernel)
theorem allAtoms_all (ts : List Jvm.Cond) (a : Array Jvm.Value) (st : Jvm.State) : (allAtoms ts).before a st = ts.all (fun c => c.before a st) := by
  induction ts with
  | nil => rfl
  | cons c t ih =>
    show (Jvm.Cond.and c (allAtoms t)).before a st = _
    rw [Jvm.Cond.before_and, ih, List.all_cons]
def words1 : List Jvm.Cond := Jvm.Cond.code x code maxLocals ret :: tables_1
/-- a 'code' word, met by the world's own term for the bytes: nothing is compared byte by byte -/
theorem code_word {y : MethodName} {bytes : ByteArray} {mx : Nat} {rt : Option FieldType} {a : Array Value} {s : State} {m : MethodId} {meth : Method} {c : Code} (h1 : s.methodNamed? y = some m) (h2 : s.vm.method? m = some meth) (h3 : meth.code = some c) (h4 : c.code = bytes)
    (h5 : (c.maxLocals == mx && c.exceptionTable.isEmpty && decide (c.maxStack ≤ mostOperands) && decide (meth.sig.returnType = rt) && !meth.locks && decide (parseMethodDescriptor y.desc = some meth.sig)) = true) : (Jvm.Cond.code y bytes mx rt).before a s = true := by
  simp only [Bool.and_eq_true, beq_iff_eq, Bool.not_eq_true', decide_eq_true_eq] at h5
  obtain ⟨⟨⟨⟨⟨g1, g2⟩, g3⟩, g4⟩, g5⟩, g6⟩ := h5
  simp [Cond.before, Cond.holds, Cond.value, h1, h2, h3, h4, g1, g2, g3, g4, g5, g6]
def isCode : Jvm.Cond → Bool
  | .code _ _ _ _ => true
  | _ => false
theorem all_split {L : List Jvm.Cond} {P : Jvm.Cond → Bool} (h1 : L.all (fun c => isCode c || P c) = true) (h2 : ∀ c ∈ L.filter isCode, P c = true) : L.all P = true := by
  refine List.all_eq_true.mpr fun c hc => ?_
  have h := List.all_eq_true.mp h1 c hc
  rcases Bool.eq_false_or_eq_true (isCode c) with hi | hi
  · exact h2 c (List.mem_filter.mpr ⟨hc, hi⟩)
  · simpa [hi] using h
set_option maxRecDepth 65536 in
theorem w_c0 : (Jvm.Cond.code x code maxLocals ret).before args0 about1 = true := code_word (m := ⟨1, 1⟩) (meth := k1m1) (c := k1c1) (by decide +kernel) rfl rfl rfl (by decide +kernel)
set_option maxRecDepth 65536 in
theorem w_c1 : (Jvm.Cond.code ({ cls := "com/example/nimeton/nimeton/cli/LoggingVerbosePinLaw", name := "pick", desc := "(IIJJI)C" } : Jvm.MethodName) method_4_code (8 : Nat) (Option.some Jvm.ClassFile.FieldType.char)).before args0 about1 = true := code_word (m := ⟨1, 3⟩) (meth := k1m3) (c := k1c3) (by decide +kernel) rfl rfl rfl (by decide +kernel)
set_option maxRecDepth 65536 in
theorem w_c2 : (Jvm.Cond.code ({ cls := "com/example/nimeton/nimeton/cli/LoggingVerbosePinLaw", name := "drawn", desc := "(JJI)C" } : Jvm.MethodName) method_3_code (7 : Nat) (Option.some Jvm.ClassFile.FieldType.char)).before args0 about1 = true := code_word (m := ⟨1, 2⟩) (meth := k1m2) (c := k1c2) (by decide +kernel) rfl rfl rfl (by decide +kernel)
set_option maxRecDepth 65536 in
theorem w_c3 : (Jvm.Cond.code ({ cls := "java/lang/String", name := "charAt", desc := "(I)C" } : Jvm.MethodName) jdk_42_method_56_code (2 : Nat) (Option.some Jvm.ClassFile.FieldType.char)).before args0 about1 = true := code_word (m := ⟨7, 2⟩) (meth := k7m2) (c := k7c2) (by decide +kernel) rfl rfl rfl (by decide +kernel)
set_option maxRecDepth 65536 in
theorem w_c4 : (Jvm.Cond.code ({ cls := "java/lang/String", name := "isLatin1", desc := "()Z" } : Jvm.MethodName) jdk_42_method_154_code (1 : Nat) (Option.some Jvm.ClassFile.FieldType.boolean)).before args0 about1 = true := code_word (m := ⟨7, 5⟩) (meth := k7m5) (c := k7c5) (by decide +kernel) rfl rfl rfl (by decide +kernel)
set_option maxRecDepth 65536 in
theorem w_c5 : (Jvm.Cond.code ({ cls := "java/lang/StringLatin1", name := "charAt", desc := "([BI)C" } : Jvm.MethodName) jdk_43_method_2_code (2 : Nat) (Option.some Jvm.ClassFile.FieldType.char)).before args0 about1 = true := code_word (m := ⟨8, 1⟩) (meth := k8m1) (c := k8c1) (by decide +kernel) rfl rfl rfl (by decide +kernel)
set_option maxRecDepth 65536 in
theorem w_c6 : (Jvm.Cond.code ({ cls := "java/lang/String", name := "checkIndex", desc := "(II)V" } : Jvm.MethodName) jdk_42_method_155_code (2 : Nat) (Option.none : Option Jvm.ClassFile.FieldType)).before args0 about1 = true := code_word (m := ⟨7, 6⟩) (meth := k7m6) (c := k7c6) (by decide +kernel) rfl rfl rfl (by decide +kernel)
set_option maxRecDepth 65536 in
theorem w_c7 : (Jvm.Cond.code ({ cls := "jdk/internal/util/Preconditions", name := "checkIndex", desc := "(IILjava/util/function/BiFunction;)I" } : Jvm.MethodName) jdk_41_method_11_code (3 : Nat) (Option.some Jvm.ClassFile.FieldType.int)).before args0 about1 = true := code_word (m := ⟨9, 1⟩) (meth := k9m1) (c := k9c1) (by decide +kernel) rfl rfl rfl (by decide +kernel)
set_option maxRecDepth 65536 in
theorem w_c8 : (Jvm.Cond.code ({ cls := "com/example/nimeton/nimeton/cli/Logging", name := "verbose", desc := "([Ljava/lang/String;)Z" } : Jvm.MethodName) prog_11_method_2_code (1 : Nat) (Option.some Jvm.ClassFile.FieldType.boolean)).before args0 about1 = true := code_word (m := ⟨10, 1⟩) (meth := k10m1) (c := k10c1) (by decide +kernel) rfl rfl rfl (by decide +kernel)
set_option maxRecDepth 65536 in
theorem w_c9 : (Jvm.Cond.code ({ cls := "java/lang/String", name := "<init>", desc := "([C)V" } : Jvm.MethodName) jdk_42_method_3_code (2 : Nat) (Option.none : Option Jvm.ClassFile.FieldType)).before args0 about1 = true := code_word (m := ⟨7, 1⟩) (meth := k7m1) (c := k7c1) (by decide +kernel) rfl rfl rfl (by decide +kernel)
set_option maxRecDepth 65536 in
theorem w_c10 : (Jvm.Cond.code ({ cls := "java/lang/String", name := "<init>", desc := "([CIILjava/lang/Void;)V" } : Jvm.MethodName) jdk_42_method_149_code (6 : Nat) (Option.none : Option Jvm.ClassFile.FieldType)).before args0 about1 = true := code_word (m := ⟨7, 4⟩) (meth := k7m4) (c := k7c4) (by decide +kernel) rfl rfl rfl (by decide +kernel)
set_option maxRecDepth 65536 in
theorem w_c11 : (Jvm.Cond.code ({ cls := "java/lang/Object", name := "<init>", desc := "()V" } : Jvm.MethodName) object_method_1_code (1 : Nat) (Option.none : Option Jvm.ClassFile.FieldType)).before args0 about1 = true := code_word (m := ⟨0, 0⟩) (meth := k0m0) (c := k0c0) (by decide +kernel) rfl rfl rfl (by decide +kernel)
set_option maxRecDepth 65536 in
theorem w_c12 : (Jvm.Cond.code ({ cls := "java/lang/StringUTF16", name := "compress", desc := "([CII)[B" } : Jvm.MethodName) jdk_52_method_16_code (6 : Nat) (Option.some (Jvm.ClassFile.FieldType.array Jvm.ClassFile.FieldType.byte))).before args0 about1 = true := code_word (m := ⟨11, 2⟩) (meth := k11m2) (c := k11c2) (by decide +kernel) rfl rfl rfl (by decide +kernel)
set_option maxRecDepth 65536 in
theorem w_c13 : (Jvm.Cond.code ({ cls := "java/lang/StringUTF16", name := "compress", desc := "([CI[BII)I" } : Jvm.MethodName) jdk_52_method_21_code (7 : Nat) (Option.some Jvm.ClassFile.FieldType.int)).before args0 about1 = true := code_word (m := ⟨11, 3⟩) (meth := k11m3) (c := k11c3) (by decide +kernel) rfl rfl rfl (by decide +kernel)
set_option maxRecDepth 65536 in
theorem w_c14 : (Jvm.Cond.code ({ cls := "java/lang/StringUTF16", name := "coderFromArrayLen", desc := "([BI)B" } : Jvm.MethodName) jdk_52_method_15_code (2 : Nat) (Option.some Jvm.ClassFile.FieldType.byte)).before args0 about1 = true := code_word (m := ⟨11, 1⟩) (meth := k11m1) (c := k11c1) (by decide +kernel) rfl rfl rfl (by decide +kernel)
set_option maxRecDepth 65536 in
theorem w_c15 : (Jvm.Cond.code ({ cls := "com/example/nimeton/nimeton/cli/LoggingVerbosePinLaw", name := "other", desc := "(I)Ljava/lang/String;" } : Jvm.MethodName) method_5_code (1 : Nat) (Option.some (Jvm.ClassFile.FieldType.object "java/lang/String"))).before args0 about1 = true := code_word (m := ⟨1, 4⟩) (meth := k1m4) (c := k1c4) (by decide +kernel) rfl rfl rfl (by decide +kernel)
set_option maxRecDepth 65536 in
theorem w_c16 : (Jvm.Cond.code ({ cls := "java/lang/String", name := "equals", desc := "(Ljava/lang/Object;)Z" } : Jvm.MethodName) jdk_42_method_66_code (3 : Nat) (Option.some Jvm.ClassFile.FieldType.boolean)).before args0 about1 = true := code_word (m := ⟨7, 3⟩) (meth := k7m3) (c := k7c3) (by decide +kernel) rfl rfl rfl (by decide +kernel)
set_option maxRecDepth 65536 in
theorem w_c17 : (Jvm.Cond.code ({ cls := "java/lang/StringLatin1", name := "equals", desc := "([B[B)Z" } : Jvm.MethodName) jdk_43_method_13_code (3 : Nat) (Option.some Jvm.ClassFile.FieldType.boolean)).before args0 about1 = true := code_word (m := ⟨8, 2⟩) (meth := k8m2) (c := k8c2) (by decide +kernel) rfl rfl rfl (by decide +kernel)
def codes1 : List Jvm.Cond := [Jvm.Cond.code x code maxLocals ret, Jvm.Cond.code ({ cls := "com/example/nimeton/nimeton/cli/LoggingVerbosePinLaw", name := "pick", desc := "(IIJJI)C" } : Jvm.MethodName) method_4_code (8 : Nat) (Option.some Jvm.ClassFile.FieldType.char), Jvm.Cond.code ({ cls := "com/example/nimeton/nimeton/cli/LoggingVerbosePinLaw", name := "drawn", desc := "(JJI)C" } : Jvm.MethodName) method_3_code (7 : Nat) (Option.some Jvm.ClassFile.FieldType.char), Jvm.Cond.code ({ cls := "java/lang/String", name := "charAt", desc := "(I)C" } : Jvm.MethodName) jdk_42_method_56_code (2 : Nat) (Option.some Jvm.ClassFile.FieldType.char), Jvm.Cond.code ({ cls := "java/lang/String", name := "isLatin1", desc := "()Z" } : Jvm.MethodName) jdk_42_method_154_code (1 : Nat) (Option.some Jvm.ClassFile.FieldType.boolean), Jvm.Cond.code ({ cls := "java/lang/StringLatin1", name := "charAt", desc := "([BI)C" } : Jvm.MethodName) jdk_43_method_2_code (2 : Nat) (Option.some Jvm.ClassFile.FieldType.char), Jvm.Cond.code ({ cls := "java/lang/String", name := "checkIndex", desc := "(II)V" } : Jvm.MethodName) jdk_42_method_155_code (2 : Nat) (Option.none : Option Jvm.ClassFile.FieldType), Jvm.Cond.code ({ cls := "jdk/internal/util/Preconditions", name := "checkIndex", desc := "(IILjava/util/function/BiFunction;)I" } : Jvm.MethodName) jdk_41_method_11_code (3 : Nat) (Option.some Jvm.ClassFile.FieldType.int), Jvm.Cond.code ({ cls := "com/example/nimeton/nimeton/cli/Logging", name := "verbose", desc := "([Ljava/lang/String;)Z" } : Jvm.MethodName) prog_11_method_2_code (1 : Nat) (Option.some Jvm.ClassFile.FieldType.boolean), Jvm.Cond.code ({ cls := "java/lang/String", name := "<init>", desc := "([C)V" } : Jvm.MethodName) jdk_42_method_3_code (2 : Nat) (Option.none : Option Jvm.ClassFile.FieldType), Jvm.Cond.code ({ cls := "java/lang/String", name := "<init>", desc := "([CIILjava/lang/Void;)V" } : Jvm.MethodName) jdk_42_method_149_code (6 : Nat) (Option.none : Option Jvm.ClassFile.FieldType), Jvm.Cond.code ({ cls := "java/lang/Object", name := "<init>", desc := "()V" } : Jvm.MethodName) object_method_1_code (1 : Nat) (Option.none : Option Jvm.ClassFile.FieldType), Jvm.Cond.code ({ cls := "java/lang/StringUTF16", name := "compress", desc := "([CII)[B" } : Jvm.MethodName) jdk_52_method_16_code (6 : Nat) (Option.some (Jvm.ClassFile.FieldType.array Jvm.ClassFile.FieldType.byte)), Jvm.Cond.code ({ cls := "java/lang/StringUTF16", name := "compress", desc := "([CI[BII)I" } : Jvm.MethodName) jdk_52_method_21_code (7 : Nat) (Option.some Jvm.ClassFile.FieldType.int), Jvm.Cond.code ({ cls := "java/lang/StringUTF16", name := "coderFromArrayLen", desc := "([BI)B" } : Jvm.MethodName) jdk_52_method_15_code (2 : Nat) (Option.some Jvm.ClassFile.FieldType.byte), Jvm.Cond.code ({ cls := "com/example/nimeton/nimeton/cli/LoggingVerbosePinLaw", name := "other", desc := "(I)Ljava/lang/String;" } : Jvm.MethodName) method_5_code (1 : Nat) (Option.some (Jvm.ClassFile.FieldType.object "java/lang/String")), Jvm.Cond.code ({ cls := "java/lang/String", name := "equals", desc := "(Ljava/lang/Object;)Z" } : Jvm.MethodName) jdk_42_method_66_code (3 : Nat) (Option.some Jvm.ClassFile.FieldType.boolean), Jvm.Cond.code ({ cls := "java/lang/StringLatin1", name := "equals", desc := "([B[B)Z" } : Jvm.MethodName) jdk_43_method_13_code (3 : Nat) (Option.some Jvm.ClassFile.FieldType.boolean)]
set_option maxRecDepth 65536 in
theorem codes_eq : words1.filter isCode = codes1 := rfl
theorem w_codes : ∀ c ∈ words1.filter isCode, c.before args0 about1 = true := by
  rw [codes_eq]
  intro c hc
  simp only [codes1, List.mem_cons, List.not_mem_nil, or_false] at hc
  rcases hc with rfl | rfl | rfl | rfl | rfl | rfl | rfl | rfl | rfl | rfl | rfl | rfl | rfl | rfl | rfl | rfl | rfl | rfl
  · exact w_c0
  · exact w_c1
  · exact w_c2
  · exact w_c3
  · exact w_c4
  · exact w_c5
  · exact w_c6
  · exact w_c7
  · exact w_c8
  · exact w_c9
  · exact w_c10
  · exact w_c11
  · exact w_c12
  · exact w_c13
  · exact w_c14
  · exact w_c15
  · exact w_c16
  · exact w_c17
set_option maxRecDepth 65536 in
theorem w_t1 : (words1.take 24).all (fun c => isCode c || c.before args0 about1) = true := by decide +kernel
set_option maxRecDepth 65536 in
theorem w_t2 : ((words1.drop 24).take 24).all (fun c => isCode c || c.before args0 about1) = true := by decide +kernel
set_option maxRecDepth 65536 in
theorem w_t3 : (((words1.drop 24).drop 24).take 24).all (fun c => isCode c || c.before args0 about1) = true := by decide +kernel
set_option maxRecDepth 65536 in
theorem w_t4 : (((words1.drop 24).drop 24).drop 24).all (fun c => isCode c || c.before args0 about1) = true := by decide +kernel
theorem w_tables : (allAtoms (Jvm.Cond.code x code maxLocals ret :: tables_1)).before args0 about1 = true := by
  rw [allAtoms_all]
  show words1.all (fun c => c.before args0 about1) = true
  refine all_split ?_ w_codes
  rw [← List.take_append_drop 24 words1, List.all_append, w_t1, ← List.take_append_drop 24 (words1.drop 24), List.all_append, w_t2, ← List.take_append_drop 24 ((words1.drop 24).drop 24), List.all_append, w_t3, w_t4]
  rfl
set_option maxRecDepth 65536 in
theorem w_rest : rest_1_c.before args0 about1 = true := by decide +kernel
set_option maxRecDepth 65536 in
theorem w_case : (Jvm.Cond.and given_1 narrow_1).before args0 about1 = true := by decide +kernel
set_option maxRecDepth 65536 in
theorem w_consts : constsHeld consts_1 about1 := Jvm.Lit.constsHeldB_iff.mp (by decide +kernel)
theorem w_applies : (headSpec (Jvm.Cond.code x code maxLocals ret :: tables_1) room_1).applies x e0.platform about1 = true :=
  (Spec.applies_iff w_frames).mpr ⟨w_running, w_runnable, w_alone, w_named, w_hears, w_ripe, w_room, w_tables⟩
theorem atStart : AtStart classFile x code maxLocals ret World_1 tables_1 room_1 Calls_1 rest_1 Pre_1 launch0 p0 e0 about1 theMethod args0 below0 :=
  ⟨lists_1, trivial, launch0.admits_env _ _ _, launch0.least_env, fairChoices_fair.cas, fairChoices_fair.clock, w_frames, w_args, w_heap, w_applies, ⟨w_consts, trivial⟩, w_rest, w_case⟩
end start1
theorem witness_1 : WitnessClaimed_1 := ⟨start1.p0, start1.e0, start1.about1, start1.theMethod, start1.args0, start1.below0, start1.atStart⟩
end Jvm.Pilot.@@N@@
