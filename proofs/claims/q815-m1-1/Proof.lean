import JvmDerived
import JvmDerived.Pilot.@@N@@Statement
import JvmDerived.Pilot.@@N@@Code
set_option linter.unusedVariables false
set_option linter.unusedSimpArgs false
namespace Jvm.Pilot.@@N@@
open Jvm Jvm.ClassFile Sem Op Lib Jvm.Free Jvm.Stand Jvm.LawKit Jvm.RoadKit Bundle Jvm.Pilot.@@N@@.Jvm.D
/-! OWN KIT, core: where a walk stands (own_S), what is left to run (own_Go), a body's contract (own_Met), and the rules that join them. -/
section OwnCore
variable {p : Program} {l : Launch} {e : Env} {R : Room} {s : State} {m : MethodId} {args : Array Value} {below : List Frame} {meth : Method} {c : Code} {T T' : State} {cells slots : Nat} {Z : State} {a0 : Array Value} {h h' h0 : Heap} {w kf : Bool} {EL : List (String × Nat)} {own : String} {ws ws' fs : List Addr} {Q : Option Value → Heap → Prop} {vm0 vm1 : Vm} {locs L : List Loc} {k0 : Nat} {tb : Tables} {P : Outcome → State → Prop}

/-- from T, with the frame f on top, the run comes to its end and P says how -/
def own_Go (tb : Tables) (e : Env) (below : List Frame) (P : Outcome → State → Prop) (T : State) (f : JFrame) : Prop :=
  ∃ s₂ o, Steps tb e below (T.setTop f) s₂ ∧ s₂.status = .running ∧ Ended s₂ below o ∧ P o s₂
theorem own_by {f f' : JFrame} (k : ∀ t, Steps tb e below (T'.setTop f') t → Steps tb e below (T.setTop f) t) (g : own_Go tb e below P T' f') : own_Go tb e below P T f := by
  obtain ⟨s₂, o, h1, r⟩ := g
  exact ⟨s₂, o, k _ h1, r⟩
theorem own_on {f f' : JFrame} (k : Steps tb e below (T.setTop f) (T'.setTop f')) (g : own_Go tb e below P T' f') : own_Go tb e below P T f := own_by (fun _ q => k.trans q) g

def own_End (w : Bool) (s : State) (o : Outcome) (t : State) (L : List Loc) (k n : Nat) : Prop := (w = true → ReturnedEndW s o t L k n) ∧ (w = false → FrameEnd s o t L k n)
/-- what every contract says besides its own Q -/
def own_Post (w : Bool) (EL : List (String × Nat)) (Z : State) (rm : Room) (h0 : Heap) (ws : List Addr) (Q : Option Value → Heap → Prop) (U : State) (o : Outcome) (U' : State) : Prop :=
  ∃ v L, o = .returned v ∧ Q v U'.heap ∧ Keep h0 U'.heap ws ∧ Fr Z.heap.size L ∧ CHr Z EL U.vm h0 U'.vm U'.heap ∧ own_End w U o U' L rm.cells rm.slots
/-- what every contract asks -/
def own_Pre (EL : List (String × Nat)) (Z : State) (a0 : Array Value) (as' : Array Value) (h0 : Heap) (ws : List Addr) (a : Array Value) (U : State) : Prop :=
  a = as' ∧ Z.Warmed39 U.vm ∧ U.heap = h0 ∧ Ext Z.heap h0 ∧ EW Z a0 EL ∧ CHv Z EL U.vm h0 ∧ ∀ x ∈ ws, Z.heap.size ≤ x ∧ x < h0.size ∧ Safe Z EL U.vm h0 x
def own_K (kf : Bool) : Program → Env → List Frame → State → Array Value → Prop := fun _ _ bl s _ => kf = true → s.vm.MethodsKnown ∧ s.vm.FramesKnown bl
/-- the contract of a body -/
def own_Met (w kf : Bool) (EL : List (String × Nat)) (l : Launch) (Z : State) (a0 : Array Value) (y : MethodName) (bytes : ByteArray) (maxL : Nat) (ret : Option FieldType) (more : List Cond) (rm : Room) (as' : Array Value) (h0 : Heap) (ws : List Addr) (Q : Option Value → Heap → Prop) : Prop :=
  MetFree l y (head1 (Cond.code y bytes maxL ret :: more) rm) (own_Pre EL Z a0 as' h0 ws) (own_K kf) (fun _ U o U' => own_Post w EL Z rm h0 ws Q U o U')
/-- what a walk bears besides its Stand -/
def own_I (w kf : Bool) (EL : List (String × Nat)) (s : State) (m : MethodId) (below : List Frame) (Z : State) (a0 : Array Value) (own : String) (h0 : Heap) (ws : List Addr) (h : Heap) (fs : List Addr) (vm0 : Vm) (locs : List Loc) (k0 : Nat) : Prop :=
  Z.Warmed39 vm0 ∧ vm0.findClass own = some m.cls ∧ Fr Z.heap.size locs ∧ Ext Z.heap h ∧ Keep h0 h ws ∧ s.Since vm0 k0 ∧ k0 ≤ h.size ∧ EW Z a0 EL ∧ CHr Z EL s.vm h0 vm0 h ∧ (w = false → vm0 = s.vm) ∧ (kf = true → vm0.MethodsKnown ∧ vm0.FramesKnown below) ∧ (s.heap = h0 ∧ Ext Z.heap h0) ∧
    ∀ x ∈ fs, (x ∈ ws ∨ h0.size ≤ x) ∧ Z.heap.size ≤ x ∧ x < h.size ∧ Safe Z EL vm0 h x
/-- where the walk stands: the state T, its heap h, the cells fs that it may write -/
def own_S (w kf : Bool) (EL : List (String × Nat)) (p : Program) (l : Launch) (e : Env) (R : Room) (s : State) (m : MethodId) (args : Array Value) (below : List Frame) (meth : Method) (c : Code) (Z : State) (a0 : Array Value) (own : String) (h0 : Heap) (ws : List Addr) (T : State) (h : Heap) (fs : List Addr) (cells slots : Nat) : Prop :=
  ∃ vm0 locs k0, Stand p l e R (s.setVm vm0) m args below meth c T locs cells slots ∧ T.heap = h ∧ own_I w kf EL s m below Z a0 own h0 ws h fs vm0 locs k0

theorem own_here (K : own_S w kf EL p l e R s m args below meth c Z a0 own h0 ws T h fs cells slots) : At T m c below := by
  obtain ⟨vm0, locs, k0, X, -⟩ := K; exact X.here
theorem own_more (K : own_S w kf EL p l e R s m args below meth c Z a0 own h0 ws T h fs cells slots) {cells' slots' : Nat} (hc : cells ≤ cells') (hs : slots ≤ slots') : own_S w kf EL p l e R s m args below meth c Z a0 own h0 ws T h fs cells' slots' := by
  obtain ⟨vm0, locs, k0, X, r⟩ := K; exact ⟨vm0, locs, k0, X.more hc hs, r⟩
theorem own_sub (K : own_S w kf EL p l e R s m args below meth c Z a0 own h0 ws T h fs cells slots) {fs' : List Addr} (q : ∀ x ∈ fs', x ∈ fs) : own_S w kf EL p l e R s m args below meth c Z a0 own h0 ws T h fs' cells slots := by
  obtain ⟨vm0, locs, k0, X, eT, h1, h2, h3, h4, h5, h6, h7, h8, h9, h10, h11, hst, h12⟩ := K
  exact ⟨vm0, locs, k0, X, eT, h1, h2, h3, h4, h5, h6, h7, h8, h9, h10, h11, hst, fun x hx => h12 x (q x hx)⟩
theorem own_ext0 (K : own_S w kf EL p l e R s m args below meth c Z a0 own h0 ws T h fs cells slots) : Ext Z.heap h := by
  obtain ⟨vm0, locs, k0, X, eT, h1, h2, h3, h4, -⟩ := K; exact h4
theorem own_alike (K : own_S w kf EL p l e R s m args below meth c Z a0 own h0 ws T h fs cells slots) : ∃ vm0, Z.vm.Alike vm0 := by
  obtain ⟨vm0, locs, k0, X, eT, h1, -⟩ := K; exact ⟨vm0, h1.alike⟩
theorem own_fresh (K : own_S w kf EL p l e R s m args below meth c Z a0 own h0 ws T h fs cells slots) {x : Addr} (hx : x ∈ fs) : Z.heap.size ≤ x ∧ x < h.size := by
  obtain ⟨vm0, locs, k0, X, eT, h1, h2, h3, h4, h5, h6, h7, h8, h9, h10, h11, hst, h12⟩ := K; exact ⟨(h12 x hx).2.1, (h12 x hx).2.2.1⟩
theorem own_cat {v : Value} (q : v.isRef = true) : v.category = 1 := by rcases ref_cases q with rfl | ⟨_, rfl⟩ <;> rfl
theorem own_fits {v : Value} {C : String} (q : v.isRef = true) : fits (.object C) v = true := by rcases ref_cases q with rfl | ⟨_, rfl⟩ <;> rfl
theorem own_mem1 {x : Addr} (q : x ∈ fs) : ∀ y ∈ [x], y ∈ fs := fun y hy => by cases List.mem_singleton.mp hy; exact q
theorem own_mem2 {x y : Addr} (q : x ∈ fs) (r : y ∈ fs) : ∀ z ∈ [x, y], z ∈ fs := fun z hz => by
  rcases List.mem_cons.mp hz with rfl | hz
  · exact q
  · cases List.mem_singleton.mp hz; exact r
theorem own_sta (K : own_S w kf EL p l e R s m args below meth c Z a0 own h0 ws T h fs cells slots) {C n d : String} {v : Value} (F : Sta Z Z.heap C n d v) : Sta Z h C n d v := F.ext (own_ext0 K)

/-- the heap moves on, the tables stay -/
theorem own_I.keep (I : own_I w kf EL s m below Z a0 own h0 ws h fs vm0 locs k0) (Kp : Keep h h' ws') (hw : ∀ x ∈ ws', x ∈ fs) (hL : Fr Z.heap.size L) : own_I w kf EL s m below Z a0 own h0 ws h' fs vm0 (locs ++ L) k0 := by
  obtain ⟨h1, h2, h3, h4, h5, h6, h7, h8, h9, h10, h11, hst, h12⟩ := I
  have C : CHr Z EL vm0 h vm0 h' := CHr.keep Kp (fun x hx => (h12 x (hw x hx)).2.2.2) h9.1
  refine ⟨h1, h2, h3.app hL, ?_, h5.trans Kp (fun x hx => (h12 x (hw x hx)).1), h6, Nat.le_trans h7 Kp.1, h8, h9.trans C, h10, h11, hst, fun x hx => ?_⟩
  · exact (Old.keep (show Old Z Z.heap.size h from ⟨rfl, h4⟩) Kp fun x hx => (h12 x (hw x hx)).2.1).2
  · obtain ⟨q1, q2, q3, q4⟩ := h12 x hx
    exact ⟨q1, q2, Nat.lt_of_lt_of_le q3 Kp.1, C.safe q3 q4⟩
/-- a new cell at the heap's end -/
theorem own_I.grow (I : own_I w kf EL s m below Z a0 own h0 ws h fs vm0 locs k0) (E : Ext h h') (hlt : h.size < h'.size) : own_I w kf EL s m below Z a0 own h0 ws h' (h.size :: fs) vm0 locs k0 := by
  have I' := I.keep (L := []) ((Keep.refl h []).ext E) (fun _ q => nomatch q) (Fr.nil _)
  rw [List.append_nil] at I'
  obtain ⟨h1, h2, h3, h4, h5, h6, h7, h8, h9, h10, h11, hst, h12⟩ := I'
  refine ⟨h1, h2, h3, h4, h5, h6, h7, h8, h9, h10, h11, hst, fun x hx => ?_⟩
  rcases List.mem_cons.mp hx with rfl | hx
  · obtain ⟨-, -, -, g4, g5, -, -, -, g9, -⟩ := I
    exact ⟨Or.inr g5.1, g4.1, hlt, Safe.ext E g9.1 (Safe.new (Nat.le_refl _))⟩
  · exact h12 x hx
/-- the tables move on (literals were interned) -/
theorem own_I.wide (I : own_I w kf EL s m below Z a0 own h0 ws h fs vm0 locs k0) (hw1 : w = true) (C : CHr Z EL vm0 h vm1 h') {k1 : Nat} (S : (s.setVm vm0).Since vm1 k1) (hk : h.size ≤ k1) (hk1 : k1 ≤ h'.size) (Kp : Keep h h' ws') (hw : ∀ x ∈ ws', x ∈ fs) (hL : Fr Z.heap.size L) : own_I w kf EL s m below Z a0 own h0 ws h' fs vm1 (locs ++ L) k1 := by
  obtain ⟨h1, h2, h3, h4, h5, h6, h7, h8, h9, h10, h11, hst, h12⟩ := I
  have al : vm0.Alike vm1 := S.1.alike
  refine ⟨State.Warmed39.trans (t := s.setVm vm0) h1 S.1, (al.findClass _ _).trans h2, h3.app hL, ?_, h5.trans Kp (fun x hx => (h12 x (hw x hx)).1), h6.trans S (Nat.le_trans h7 hk), hk1, h8, h9.trans C, (fun q => by rw [hw1] at q; cases q), fun q => ?_, hst, fun x hx => ?_⟩
  · exact (Old.keep (show Old Z Z.heap.size h from ⟨rfl, h4⟩) Kp fun x hx => (h12 x (hw x hx)).2.1).2
  · obtain ⟨g1, g2⟩ := h11 q
    exact ⟨Vm.MethodsKnown.alikeC al g1, Vm.FramesKnown.alikeC al g2⟩
  · obtain ⟨q1, q2, q3, q4⟩ := h12 x hx
    exact ⟨q1, q2, Nat.lt_of_lt_of_le q3 Kp.1, C.safe q3 q4⟩

/-- entering a body -/
theorem own_enter {y : MethodName} {bytes : ByteArray} {maxL : Nat} {ret : Option FieldType} {more : List Cond} {rm : Room} {as' : Array Value} (ho : y.cls = own) (hpl : plainFor y = true)
    (body : ∀ (p : Program) (e : Env) (s : State) (m : MethodId) (below : List Frame) (meth : Method) (c : Code) (T : State), p.tables.exec = Jvm.exec → c.code = bytes → c.maxLocals = maxL → meth.sig.returnType = ret → meth.locks = false → meth.name = y.name →
      own_S w kf EL p l e rm s m as' below meth c Z a0 own h0 ws T h0 ws 0 0 → own_Go p.tables e below (own_Post w EL Z rm h0 ws Q s) T (entryFrame m as' maxL)) :
    own_Met w kf EL l Z a0 y bytes maxL ret more rm as' h0 ws Q := by
  subst ho
  refine MetFree.of_bodySF hpl hisR ?_
  intro p e s m args below meth c s₁ Bd hml hP hK
  obtain ⟨rfl, hZ, hh, hE, hEL, hC, hws⟩ := hP
  have X0 : Stand p l e rm s m args below meth c s₁ [] 0 0 := Stand.of_body Bd
  have e0 : s₁.heap = h0 := by rw [← hh, Bd.state]; rfl
  exact body p e s m below meth c s₁ Bd.exec Bd.bytes hml Bd.returns Bd.notSynchronized (name_of_methodNamed Bd.named Bd.method).1
    ⟨s.vm, [], h0.size, X0, e0, hZ, findClass_of_methodNamed Bd.named, Fr.nil _, hE, Keep.refl _ _, (State.WarmedH.refl s).since _, Nat.le_refl _, hEL, CHr.refl hC, fun _ => rfl, hK, ⟨hh, hE⟩, fun x hx => ⟨Or.inl hx, hws x hx⟩⟩

/-- leaving it -/
theorem own_leave (K : own_S w kf EL p l e R s m args below meth c Z a0 own h0 ws T h fs cells slots) (hlk : meth.locks = false) {v : Option Value} (hv : meth.sig.returnType = none → v = none) (hc : cells ≤ R.cells) (hs : slots ≤ R.slots) (hQ : Q v h) {f : JFrame}
    (st : ∀ (locs : List Loc) (vm0 : Vm), Stand p l e R (s.setVm vm0) m args below meth c T locs cells slots → ∀ frs : List Frame, (∀ (f : JFrame) (acts : List Action), f.method = m → f.locked = none → f.entered = [] → (doReturn e (T.setTop f) acts v).1 = T.setFrames frs) → Steps p.tables e below (T.setTop f) (T.setFrames frs)) :
    own_Go p.tables e below (own_Post w EL Z R h0 ws Q s) T f := by
  obtain ⟨vm0, locs, k0, X, eT, h1, h2, h3, h4, h5, h6, h7, h8, h9, h10, h11, hst, h12⟩ := K
  have C : CHr Z EL vm0 h T.vm h := CHv.at X h1 h8 h9.1
  cases w with
  | true =>
    obtain ⟨frs, hr, hrun, hended, e1, e2, e3, e4⟩ := X.leaveW h6 (by rw [eT]; exact h7) hv hlk
    refine ⟨_, _, st locs vm0 X frs hr, hrun, hended, v, locs, rfl, by show Q v T.heap; rw [eT]; exact hQ, by show Keep h0 T.heap ws; rw [eT]; exact h5, h3, ?_, And.intro (fun _ => ⟨e1, e2, e3, e4.mono hc hs⟩) (fun q => by cases q)⟩
    show CHr Z EL s.vm h0 T.vm T.heap
    rw [eT]; exact h9.trans C
  | false =>
    obtain rfl := h10 rfl
    obtain ⟨frs, hr, hrun, hended, hW, hsame⟩ := X.leave hv hlk
    refine ⟨_, _, st locs _ X frs hr, hrun, hended, v, locs, rfl, by show Q v T.heap; rw [eT]; exact hQ, by show Keep h0 T.heap ws; rw [eT]; exact h5, h3, ?_, And.intro (fun q => by cases q) (fun _ => ⟨⟨_, rfl⟩, hW, hsame.mono hc hs⟩)⟩
    show CHr Z EL s.vm h0 T.vm T.heap
    rw [eT]; exact h9.trans C
variable {pc : Nat} {Ls : Array Slot} {St : List Value}
theorem own_retV (K : own_S w kf EL p l e R s m args below meth c Z a0 own h0 ws T h fs cells slots) (hx : p.tables.exec = Jvm.exec) (hlk : meth.locks = false) (hret : meth.sig.returnType = none) (hd : decode c.code pc = .ok (.return_, 1)) (hc : cells ≤ R.cells) (hs : slots ≤ R.slots) (hQ : Q none h) :
    own_Go p.tables e below (own_Post w EL Z R h0 ws Q s) T (mkF m pc Ls []) :=
  own_leave K hlk (fun _ => rfl) hc hs hQ fun locs vm0 X frs hr => X.returnOut hx hret hd hr
theorem own_ret (K : own_S w kf EL p l e R s m args below meth c Z a0 own h0 ws T h fs cells slots) (hx : p.tables.exec = Jvm.exec) (hlk : meth.locks = false) {t : FieldType} {i : Instr} {v : Value} (hret : meth.sig.returnType = some t) (hn : narrow t v = v)
    (hi : (i = .ireturn ∧ (t = .int ∨ t = .boolean ∨ t = .byte ∨ t = .char ∨ t = .short) ∧ ∃ z, v = .int z) ∨ (i = .lreturn ∧ t = .long ∧ ∃ z, v = .long z) ∨ (i = .dreturn ∧ t = .double ∧ ∃ z, v = .double z) ∨ (i = .freturn ∧ t = .float ∧ ∃ z, v = .float z) ∨ (i = .areturn ∧ t.isReference = true ∧ v.isRef = true))
    (hd : decode c.code pc = .ok (i, 1)) (hc : cells ≤ R.cells) (hs : slots ≤ R.slots) (hQ : Q (some v) h) :
    own_Go p.tables e below (own_Post w EL Z R h0 ws Q s) T (mkF m pc Ls (v :: St)) :=
  own_leave K hlk (fun q => by rw [hret] at q; cases q) hc hs hQ fun locs vm0 X frs hr => retOut X hx hret hn hi hd hr
/-- ireturn of an int -/
theorem own_retI (K : own_S w kf EL p l e R s m args below meth c Z a0 own h0 ws T h fs cells slots) (hx : p.tables.exec = Jvm.exec) (hlk : meth.locks = false) {z : Int32} (hret : meth.sig.returnType = some .int) (hd : decode c.code pc = .ok (.ireturn, 1)) (hc : cells ≤ R.cells) (hs : slots ≤ R.slots) (hQ : Q (some (.int z)) h) :
    own_Go p.tables e below (own_Post w EL Z R h0 ws Q s) T (mkF m pc Ls (.int z :: St)) :=
  own_ret K hx hlk hret rfl (Or.inl ⟨rfl, Or.inl rfl, z, rfl⟩) hd hc hs hQ
/-- ireturn of a boolean, byte, char or short: narrowed -/
theorem own_retN (K : own_S w kf EL p l e R s m args below meth c Z a0 own h0 ws T h fs cells slots) (hx : p.tables.exec = Jvm.exec) (hlk : meth.locks = false) {t : FieldType} {z : Int32} (hret : meth.sig.returnType = some t) (ht : t = .boolean ∨ t = .byte ∨ t = .char ∨ t = .short) (hd : decode c.code pc = .ok (.ireturn, 1)) (hc : cells ≤ R.cells) (hs : slots ≤ R.slots) (hQ : Q (some (.int (nar t z))) h) :
    own_Go p.tables e below (own_Post w EL Z R h0 ws Q s) T (mkF m pc Ls (.int z :: St)) :=
  own_leave K hlk (fun q => by rw [hret] at q; cases q) hc hs hQ fun locs vm0 X frs hr => retN X hx hret ht hd hr
/-- areturn -/
theorem own_retR (K : own_S w kf EL p l e R s m args below meth c Z a0 own h0 ws T h fs cells slots) (hx : p.tables.exec = Jvm.exec) (hlk : meth.locks = false) {t : FieldType} {v : Value} (hret : meth.sig.returnType = some t) (ht : t.isReference = true) (hv : v.isRef = true) (hd : decode c.code pc = .ok (.areturn, 1)) (hc : cells ≤ R.cells) (hs : slots ≤ R.slots) (hQ : Q (some v) h) :
    own_Go p.tables e below (own_Post w EL Z R h0 ws Q s) T (mkF m pc Ls (v :: St)) :=
  own_ret K hx hlk hret (by cases t <;> cases v <;> first | rfl | (simp [FieldType.isReference] at ht) | (simp [Value.isRef] at hv)) (Or.inr (Or.inr (Or.inr (Or.inr ⟨rfl, ht, hv⟩)))) hd hc hs hQ
end OwnCore
section OwnWords
variable {args : Array Value} {first s : State} {o : Option Outcome} {idx : List Nat}
/-- one object, one ordinal -/
theorem own_ord {t u : Term} {x y : Addr} {C n d : String} {a b : Int32} (ht : t.eval args first o idx s = some (.ref x)) (hu : u.eval args first o idx s = some (.ref y)) (h1 : (Cond.eq (Term.field t C n d) (Term.int a)).value args first o s idx = some true) (h2 : (Cond.eq (Term.field u C n d) (Term.int b)).value args first o s idx = some true) (hne : a ≠ b) : x ≠ y := fun q => by
  subst q
  obtain ⟨v1, w1, a1, b1, -, k1⟩ := cmp_v (Or.inl h1)
  obtain ⟨v2, w2, a2, b2, -, k2⟩ := cmp_v (Or.inl h2)
  cases (Term.int_eval a).symm.trans b1
  cases (Term.int_eval b).symm.trans b2
  obtain ⟨z1, rfl⟩ := k1
  obtain ⟨z2, rfl⟩ := k2
  have e1 := gotT (Cond.eq_ints a1 (Term.int_eval a)) h1
  have e2 := gotT (Cond.eq_ints a2 (Term.int_eval b)) h2
  rw [fld_at ht] at a1
  rw [fld_at hu] at a2
  have e3 := a1.symm.trans a2
  simp only [Option.some.injEq, Value.int.injEq] at e3
  exact hne (e1.symm.trans (e3.trans e2))
end OwnWords
/-! OWN KIT, single steps (printed by mkrules.py) -/
section OwnSteps
variable {p : Program} {e : Env} {m : MethodId} {below : List Frame} {c : Code} {T : State} {P : Outcome → State → Prop} {pc : Nat} {Ls : Array Slot} {St : List Value}
theorem own_iload (A : At T m c below) (hx : p.tables.exec = Jvm.exec) {pc' : Nat} {k : Nat} {v : Int32} (hd : decode c.code pc = .ok (.iload k, 2)) (hl : Ls[k]? = some (.val (.int v))) (hp : pc + 2 = pc') (G : own_Go p.tables e below P T (mkF m pc' Ls (.int v :: St))) : own_Go p.tables e below P T (mkF m pc Ls (St)) := by
  subst hp
  exact own_by (fun t q => XS.iload A hx rfl hd hl q) G
theorem own_iloadN (A : At T m c below) (hx : p.tables.exec = Jvm.exec) {pc' : Nat} {k : Fin 4} {v : Int32} (hd : decode c.code pc = .ok (.iload_n k, 1)) (hl : Ls[k.val]? = some (.val (.int v))) (hp : pc + 1 = pc') (G : own_Go p.tables e below P T (mkF m pc' Ls (.int v :: St))) : own_Go p.tables e below P T (mkF m pc Ls (St)) := by
  subst hp
  exact own_by (fun t q => XS.iloadN A hx rfl hd hl q) G
theorem own_lload (A : At T m c below) (hx : p.tables.exec = Jvm.exec) {pc' : Nat} {k : Nat} {v : Int64} (hd : decode c.code pc = .ok (.lload k, 2)) (hl : Ls[k]? = some (.val (.long v))) (hp : pc + 2 = pc') (G : own_Go p.tables e below P T (mkF m pc' Ls (.long v :: St))) : own_Go p.tables e below P T (mkF m pc Ls (St)) := by
  subst hp
  exact own_by (fun t q => XS.lload A hx rfl hd hl q) G
theorem own_lloadN (A : At T m c below) (hx : p.tables.exec = Jvm.exec) {pc' : Nat} {k : Fin 4} {v : Int64} (hd : decode c.code pc = .ok (.lload_n k, 1)) (hl : Ls[k.val]? = some (.val (.long v))) (hp : pc + 1 = pc') (G : own_Go p.tables e below P T (mkF m pc' Ls (.long v :: St))) : own_Go p.tables e below P T (mkF m pc Ls (St)) := by
  subst hp
  exact own_by (fun t q => XS.lloadN A hx rfl hd hl q) G
theorem own_aload (A : At T m c below) (hx : p.tables.exec = Jvm.exec) {pc' : Nat} {k : Nat} {v : Value} (hd : decode c.code pc = .ok (.aload k, 2)) (hl : Ls[k]? = some (.val v)) (hv : v.isRef = true) (hp : pc + 2 = pc') (G : own_Go p.tables e below P T (mkF m pc' Ls (v :: St))) : own_Go p.tables e below P T (mkF m pc Ls (St)) := by
  subst hp
  exact own_by (fun t q => XS.aload A hx rfl hd hl hv q) G
theorem own_aloadN (A : At T m c below) (hx : p.tables.exec = Jvm.exec) {pc' : Nat} {k : Fin 4} {v : Value} (hd : decode c.code pc = .ok (.aload_n k, 1)) (hl : Ls[k.val]? = some (.val v)) (hv : v.isRef = true) (hp : pc + 1 = pc') (G : own_Go p.tables e below P T (mkF m pc' Ls (v :: St))) : own_Go p.tables e below P T (mkF m pc Ls (St)) := by
  subst hp
  exact own_by (fun t q => XS.aloadN A hx rfl hd hl hv q) G
theorem own_istore (A : At T m c below) (hx : p.tables.exec = Jvm.exec) {pc' : Nat} {k : Nat} {v : Int32} (l' : Array Slot) (hd : decode c.code pc = .ok (.istore k, 2)) (hl : storeLocals Ls k (.int v) = some l') (hp : pc + 2 = pc') (G : own_Go p.tables e below P T (mkF m pc' l' (St))) : own_Go p.tables e below P T (mkF m pc Ls (.int v :: St)) := by
  subst hp
  exact own_by (fun t q => XS.istore A hx rfl hd rfl hl q) G
theorem own_istoreN (A : At T m c below) (hx : p.tables.exec = Jvm.exec) {pc' : Nat} {k : Fin 4} {v : Int32} (l' : Array Slot) (hd : decode c.code pc = .ok (.istore_n k, 1)) (hl : storeLocals Ls k.val (.int v) = some l') (hp : pc + 1 = pc') (G : own_Go p.tables e below P T (mkF m pc' l' (St))) : own_Go p.tables e below P T (mkF m pc Ls (.int v :: St)) := by
  subst hp
  exact own_by (fun t q => XS.istoreN A hx rfl hd rfl hl q) G
theorem own_lstore (A : At T m c below) (hx : p.tables.exec = Jvm.exec) {pc' : Nat} {k : Nat} {v : Int64} (l' : Array Slot) (hd : decode c.code pc = .ok (.lstore k, 2)) (hl : storeLocals Ls k (.long v) = some l') (hp : pc + 2 = pc') (G : own_Go p.tables e below P T (mkF m pc' l' (St))) : own_Go p.tables e below P T (mkF m pc Ls (.long v :: St)) := by
  subst hp
  exact own_by (fun t q => XS.lstore A hx rfl hd rfl hl q) G
theorem own_lstoreN (A : At T m c below) (hx : p.tables.exec = Jvm.exec) {pc' : Nat} {k : Fin 4} {v : Int64} (l' : Array Slot) (hd : decode c.code pc = .ok (.lstore_n k, 1)) (hl : storeLocals Ls k.val (.long v) = some l') (hp : pc + 1 = pc') (G : own_Go p.tables e below P T (mkF m pc' l' (St))) : own_Go p.tables e below P T (mkF m pc Ls (.long v :: St)) := by
  subst hp
  exact own_by (fun t q => XS.lstoreN A hx rfl hd rfl hl q) G
theorem own_astore (A : At T m c below) (hx : p.tables.exec = Jvm.exec) {pc' : Nat} {k : Nat} {v : Value} (l' : Array Slot) (hd : decode c.code pc = .ok (.astore k, 2)) (hv : v.isRef = true) (hl : storeLocals Ls k v = some l') (hp : pc + 2 = pc') (G : own_Go p.tables e below P T (mkF m pc' l' (St))) : own_Go p.tables e below P T (mkF m pc Ls (v :: St)) := by
  subst hp
  exact own_by (fun t q => XS.astore A hx rfl hd rfl hv hl q) G
theorem own_astoreN (A : At T m c below) (hx : p.tables.exec = Jvm.exec) {pc' : Nat} {k : Fin 4} {v : Value} (l' : Array Slot) (hd : decode c.code pc = .ok (.astore_n k, 1)) (hv : v.isRef = true) (hl : storeLocals Ls k.val v = some l') (hp : pc + 1 = pc') (G : own_Go p.tables e below P T (mkF m pc' l' (St))) : own_Go p.tables e below P T (mkF m pc Ls (v :: St)) := by
  subst hp
  exact own_by (fun t q => XS.astoreN A hx rfl hd rfl hv hl q) G
theorem own_iconst (A : At T m c below) (hx : p.tables.exec = Jvm.exec) {pc' : Nat} {i : Int} {z : Int32} (hd : decode c.code pc = .ok (.iconst i, 1))  (hz : Int32.ofInt i = z) (hp : pc + 1 = pc') (G : own_Go p.tables e below P T (mkF m pc' Ls (.int z :: St))) : own_Go p.tables e below P T (mkF m pc Ls (St)) := by
  subst hz hp
  exact own_by (fun t q => XS.iconst A hx rfl hd  q) G
theorem own_bipush (A : At T m c below) (hx : p.tables.exec = Jvm.exec) {pc' : Nat} {i : Int} {z : Int32} (hd : decode c.code pc = .ok (.bipush i, 2))  (hz : (Int8.ofInt i).toInt32 = z) (hp : pc + 2 = pc') (G : own_Go p.tables e below P T (mkF m pc' Ls (.int z :: St))) : own_Go p.tables e below P T (mkF m pc Ls (St)) := by
  subst hz hp
  exact own_by (fun t q => XS.bipush A hx rfl hd  q) G
theorem own_sipush (A : At T m c below) (hx : p.tables.exec = Jvm.exec) {pc' : Nat} {i : Int} {z : Int32} (hd : decode c.code pc = .ok (.sipush i, 3))  (hz : (Int16.ofInt i).toInt32 = z) (hp : pc + 3 = pc') (G : own_Go p.tables e below P T (mkF m pc' Ls (.int z :: St))) : own_Go p.tables e below P T (mkF m pc Ls (St)) := by
  subst hz hp
  exact own_by (fun t q => XS.sipush A hx rfl hd  q) G
theorem own_lconst (A : At T m c below) (hx : p.tables.exec = Jvm.exec) {pc' : Nat} {k : Fin 2} {z : Int64} (hd : decode c.code pc = .ok (.lconst k, 1))  (hz : Int64.ofNat k = z) (hp : pc + 1 = pc') (G : own_Go p.tables e below P T (mkF m pc' Ls (.long z :: St))) : own_Go p.tables e below P T (mkF m pc Ls (St)) := by
  subst hz hp
  exact own_by (fun t q => XS.lconst A hx rfl hd  q) G
theorem own_null (A : At T m c below) (hx : p.tables.exec = Jvm.exec) {pc' : Nat}  (hd : decode c.code pc = .ok (.aconst_null, 1))  (hp : pc + 1 = pc') (G : own_Go p.tables e below P T (mkF m pc' Ls (.null :: St))) : own_Go p.tables e below P T (mkF m pc Ls (St)) := by
  subst hp
  exact own_by (fun t q => XS.aconstNull A hx rfl hd  q) G
theorem own_iadd (A : At T m c below) (hx : p.tables.exec = Jvm.exec) {pc' : Nat} {x y : Int32} {z : Int32} (hd : decode c.code pc = .ok (.iadd, 1))  (hz : x + y = z) (hp : pc + 1 = pc') (G : own_Go p.tables e below P T (mkF m pc' Ls (.int z :: St))) : own_Go p.tables e below P T (mkF m pc Ls (.int y :: .int x :: St)) := by
  subst hz hp
  exact own_by (fun t q => XS.iadd A hx rfl hd rfl q) G
theorem own_isub (A : At T m c below) (hx : p.tables.exec = Jvm.exec) {pc' : Nat} {x y : Int32} {z : Int32} (hd : decode c.code pc = .ok (.isub, 1))  (hz : x - y = z) (hp : pc + 1 = pc') (G : own_Go p.tables e below P T (mkF m pc' Ls (.int z :: St))) : own_Go p.tables e below P T (mkF m pc Ls (.int y :: .int x :: St)) := by
  subst hz hp
  exact own_by (fun t q => XS.isub A hx rfl hd rfl q) G
theorem own_imul (A : At T m c below) (hx : p.tables.exec = Jvm.exec) {pc' : Nat} {x y : Int32} {z : Int32} (hd : decode c.code pc = .ok (.imul, 1))  (hz : x * y = z) (hp : pc + 1 = pc') (G : own_Go p.tables e below P T (mkF m pc' Ls (.int z :: St))) : own_Go p.tables e below P T (mkF m pc Ls (.int y :: .int x :: St)) := by
  subst hz hp
  exact own_by (fun t q => XS.imul A hx rfl hd rfl q) G
theorem own_iand (A : At T m c below) (hx : p.tables.exec = Jvm.exec) {pc' : Nat} {x y : Int32} {z : Int32} (hd : decode c.code pc = .ok (.iand, 1))  (hz : x &&& y = z) (hp : pc + 1 = pc') (G : own_Go p.tables e below P T (mkF m pc' Ls (.int z :: St))) : own_Go p.tables e below P T (mkF m pc Ls (.int y :: .int x :: St)) := by
  subst hz hp
  exact own_by (fun t q => XS.iand A hx rfl hd rfl q) G
theorem own_ior (A : At T m c below) (hx : p.tables.exec = Jvm.exec) {pc' : Nat} {x y : Int32} {z : Int32} (hd : decode c.code pc = .ok (.ior, 1))  (hz : x ||| y = z) (hp : pc + 1 = pc') (G : own_Go p.tables e below P T (mkF m pc' Ls (.int z :: St))) : own_Go p.tables e below P T (mkF m pc Ls (.int y :: .int x :: St)) := by
  subst hz hp
  exact own_by (fun t q => XS.ior A hx rfl hd rfl q) G
theorem own_ixor (A : At T m c below) (hx : p.tables.exec = Jvm.exec) {pc' : Nat} {x y : Int32} {z : Int32} (hd : decode c.code pc = .ok (.ixor, 1))  (hz : x ^^^ y = z) (hp : pc + 1 = pc') (G : own_Go p.tables e below P T (mkF m pc' Ls (.int z :: St))) : own_Go p.tables e below P T (mkF m pc Ls (.int y :: .int x :: St)) := by
  subst hz hp
  exact own_by (fun t q => XS.ixor A hx rfl hd rfl q) G
theorem own_ishl (A : At T m c below) (hx : p.tables.exec = Jvm.exec) {pc' : Nat} {x y : Int32} {z : Int32} (hd : decode c.code pc = .ok (.ishl, 1))  (hz : x <<< (y &&& 31) = z) (hp : pc + 1 = pc') (G : own_Go p.tables e below P T (mkF m pc' Ls (.int z :: St))) : own_Go p.tables e below P T (mkF m pc Ls (.int y :: .int x :: St)) := by
  subst hz hp
  exact own_by (fun t q => XS.ishl A hx rfl hd rfl q) G
theorem own_ishr (A : At T m c below) (hx : p.tables.exec = Jvm.exec) {pc' : Nat} {x y : Int32} {z : Int32} (hd : decode c.code pc = .ok (.ishr, 1))  (hz : x >>> (y &&& 31) = z) (hp : pc + 1 = pc') (G : own_Go p.tables e below P T (mkF m pc' Ls (.int z :: St))) : own_Go p.tables e below P T (mkF m pc Ls (.int y :: .int x :: St)) := by
  subst hz hp
  exact own_by (fun t q => XS.ishr A hx rfl hd rfl q) G
theorem own_iushr (A : At T m c below) (hx : p.tables.exec = Jvm.exec) {pc' : Nat} {x y : Int32} {z : Int32} (hd : decode c.code pc = .ok (.iushr, 1))  (hz : (x.toUInt32 >>> (y &&& 31).toUInt32).toInt32 = z) (hp : pc + 1 = pc') (G : own_Go p.tables e below P T (mkF m pc' Ls (.int z :: St))) : own_Go p.tables e below P T (mkF m pc Ls (.int y :: .int x :: St)) := by
  subst hz hp
  exact own_by (fun t q => XS.iushr A hx rfl hd rfl q) G
theorem own_idiv (A : At T m c below) (hx : p.tables.exec = Jvm.exec) {pc' : Nat} {x y : Int32} {z : Int32} (hd : decode c.code pc = .ok (.idiv, 1)) (hy : y ≠ 0) (hz : x / y = z) (hp : pc + 1 = pc') (G : own_Go p.tables e below P T (mkF m pc' Ls (.int z :: St))) : own_Go p.tables e below P T (mkF m pc Ls (.int y :: .int x :: St)) := by
  subst hz hp
  exact own_by (fun t q => XS.idiv A hx rfl hd rfl hy q) G
theorem own_ineg (A : At T m c below) (hx : p.tables.exec = Jvm.exec) {pc' : Nat} {x : Int32} {z : Int32} (hd : decode c.code pc = .ok (.ineg, 1))  (hz : -x = z) (hp : pc + 1 = pc') (G : own_Go p.tables e below P T (mkF m pc' Ls (.int z :: St))) : own_Go p.tables e below P T (mkF m pc Ls (.int x :: St)) := by
  subst hz hp
  exact own_by (fun t q => XS.ineg A hx rfl hd rfl q) G
theorem own_i2b (A : At T m c below) (hx : p.tables.exec = Jvm.exec) {pc' : Nat} {x : Int32} {z : Int32} (hd : decode c.code pc = .ok (.i2b, 1))  (hz : x.toInt8.toInt32 = z) (hp : pc + 1 = pc') (G : own_Go p.tables e below P T (mkF m pc' Ls (.int z :: St))) : own_Go p.tables e below P T (mkF m pc Ls (.int x :: St)) := by
  subst hz hp
  exact own_by (fun t q => XS.i2b A hx rfl hd rfl q) G
theorem own_i2c (A : At T m c below) (hx : p.tables.exec = Jvm.exec) {pc' : Nat} {x : Int32} {z : Int32} (hd : decode c.code pc = .ok (.i2c, 1))  (hz : x.toUInt32.toUInt16.toUInt32.toInt32 = z) (hp : pc + 1 = pc') (G : own_Go p.tables e below P T (mkF m pc' Ls (.int z :: St))) : own_Go p.tables e below P T (mkF m pc Ls (.int x :: St)) := by
  subst hz hp
  exact own_by (fun t q => XS.i2c A hx rfl hd rfl q) G
theorem own_i2s (A : At T m c below) (hx : p.tables.exec = Jvm.exec) {pc' : Nat} {x : Int32} {z : Int32} (hd : decode c.code pc = .ok (.i2s, 1))  (hz : x.toInt16.toInt32 = z) (hp : pc + 1 = pc') (G : own_Go p.tables e below P T (mkF m pc' Ls (.int z :: St))) : own_Go p.tables e below P T (mkF m pc Ls (.int x :: St)) := by
  subst hz hp
  exact own_by (fun t q => XS.i2s A hx rfl hd rfl q) G
theorem own_i2l (A : At T m c below) (hx : p.tables.exec = Jvm.exec) {pc' : Nat} {x : Int32} {z : Int64} (hd : decode c.code pc = .ok (.i2l, 1))  (hz : x.toInt64 = z) (hp : pc + 1 = pc') (G : own_Go p.tables e below P T (mkF m pc' Ls (.long z :: St))) : own_Go p.tables e below P T (mkF m pc Ls (.int x :: St)) := by
  subst hz hp
  exact own_by (fun t q => XS.i2l A hx rfl hd rfl q) G
theorem own_l2i (A : At T m c below) (hx : p.tables.exec = Jvm.exec) {pc' : Nat} {x : Int64} {z : Int32} (hd : decode c.code pc = .ok (.l2i, 1))  (hz : x.toInt32 = z) (hp : pc + 1 = pc') (G : own_Go p.tables e below P T (mkF m pc' Ls (.int z :: St))) : own_Go p.tables e below P T (mkF m pc Ls (.long x :: St)) := by
  subst hz hp
  exact own_by (fun t q => XS.l2i A hx rfl hd rfl q) G
theorem own_ladd (A : At T m c below) (hx : p.tables.exec = Jvm.exec) {pc' : Nat} {x y : Int64} {z : Int64} (hd : decode c.code pc = .ok (.ladd, 1))  (hz : x + y = z) (hp : pc + 1 = pc') (G : own_Go p.tables e below P T (mkF m pc' Ls (.long z :: St))) : own_Go p.tables e below P T (mkF m pc Ls (.long y :: .long x :: St)) := by
  subst hz hp
  exact own_by (fun t q => XS.ladd A hx rfl hd rfl q) G
theorem own_lsub (A : At T m c below) (hx : p.tables.exec = Jvm.exec) {pc' : Nat} {x y : Int64} {z : Int64} (hd : decode c.code pc = .ok (.lsub, 1))  (hz : x - y = z) (hp : pc + 1 = pc') (G : own_Go p.tables e below P T (mkF m pc' Ls (.long z :: St))) : own_Go p.tables e below P T (mkF m pc Ls (.long y :: .long x :: St)) := by
  subst hz hp
  exact own_by (fun t q => XS.lsub A hx rfl hd rfl q) G
theorem own_lmul (A : At T m c below) (hx : p.tables.exec = Jvm.exec) {pc' : Nat} {x y : Int64} {z : Int64} (hd : decode c.code pc = .ok (.lmul, 1))  (hz : x * y = z) (hp : pc + 1 = pc') (G : own_Go p.tables e below P T (mkF m pc' Ls (.long z :: St))) : own_Go p.tables e below P T (mkF m pc Ls (.long y :: .long x :: St)) := by
  subst hz hp
  exact own_by (fun t q => XS.lmul A hx rfl hd rfl q) G
theorem own_land (A : At T m c below) (hx : p.tables.exec = Jvm.exec) {pc' : Nat} {x y : Int64} {z : Int64} (hd : decode c.code pc = .ok (.land, 1))  (hz : x &&& y = z) (hp : pc + 1 = pc') (G : own_Go p.tables e below P T (mkF m pc' Ls (.long z :: St))) : own_Go p.tables e below P T (mkF m pc Ls (.long y :: .long x :: St)) := by
  subst hz hp
  exact own_by (fun t q => XS.land A hx rfl hd rfl q) G
theorem own_lor (A : At T m c below) (hx : p.tables.exec = Jvm.exec) {pc' : Nat} {x y : Int64} {z : Int64} (hd : decode c.code pc = .ok (.lor, 1))  (hz : x ||| y = z) (hp : pc + 1 = pc') (G : own_Go p.tables e below P T (mkF m pc' Ls (.long z :: St))) : own_Go p.tables e below P T (mkF m pc Ls (.long y :: .long x :: St)) := by
  subst hz hp
  exact own_by (fun t q => XS.lor A hx rfl hd rfl q) G
theorem own_lxor (A : At T m c below) (hx : p.tables.exec = Jvm.exec) {pc' : Nat} {x y : Int64} {z : Int64} (hd : decode c.code pc = .ok (.lxor, 1))  (hz : x ^^^ y = z) (hp : pc + 1 = pc') (G : own_Go p.tables e below P T (mkF m pc' Ls (.long z :: St))) : own_Go p.tables e below P T (mkF m pc Ls (.long y :: .long x :: St)) := by
  subst hz hp
  exact own_by (fun t q => XS.lxor A hx rfl hd rfl q) G
theorem own_lshl (A : At T m c below) (hx : p.tables.exec = Jvm.exec) {pc' : Nat} {x : Int64} {y : Int32} {z : Int64} (hd : decode c.code pc = .ok (.lshl, 1))  (hz : x <<< (y &&& 0x3f).toInt64 = z) (hp : pc + 1 = pc') (G : own_Go p.tables e below P T (mkF m pc' Ls (.long z :: St))) : own_Go p.tables e below P T (mkF m pc Ls (.int y :: .long x :: St)) := by
  subst hz hp
  exact own_by (fun t q => XS.lshl A hx rfl hd rfl q) G
theorem own_lshr (A : At T m c below) (hx : p.tables.exec = Jvm.exec) {pc' : Nat} {x : Int64} {y : Int32} {z : Int64} (hd : decode c.code pc = .ok (.lshr, 1))  (hz : x >>> (y &&& 0x3f).toInt64 = z) (hp : pc + 1 = pc') (G : own_Go p.tables e below P T (mkF m pc' Ls (.long z :: St))) : own_Go p.tables e below P T (mkF m pc Ls (.int y :: .long x :: St)) := by
  subst hz hp
  exact own_by (fun t q => XS.lshr A hx rfl hd rfl q) G
theorem own_lushr (A : At T m c below) (hx : p.tables.exec = Jvm.exec) {pc' : Nat} {x : Int64} {y : Int32} {z : Int64} (hd : decode c.code pc = .ok (.lushr, 1))  (hz : (x.toUInt64 >>> (y &&& 0x3f).toInt64.toUInt64).toInt64 = z) (hp : pc + 1 = pc') (G : own_Go p.tables e below P T (mkF m pc' Ls (.long z :: St))) : own_Go p.tables e below P T (mkF m pc Ls (.int y :: .long x :: St)) := by
  subst hz hp
  exact own_by (fun t q => XS.lushr A hx rfl hd rfl q) G
theorem own_lcmp (A : At T m c below) (hx : p.tables.exec = Jvm.exec) {pc' : Nat} {x y : Int64} {z : Int32} (hd : decode c.code pc = .ok (.lcmp, 1))  (hz : lcmpW x y = z) (hp : pc + 1 = pc') (G : own_Go p.tables e below P T (mkF m pc' Ls (.int z :: St))) : own_Go p.tables e below P T (mkF m pc Ls (.long y :: .long x :: St)) := by
  subst hz hp
  exact own_by (fun t q => XS.lcmp A hx rfl hd rfl q) G
theorem own_iinc (A : At T m c below) (hx : p.tables.exec = Jvm.exec) {pc' : Nat} {k : Nat} {cst : Int} {x : Int32} (l' : Array Slot) (hd : decode c.code pc = .ok (.iinc k cst, 3)) (hl : Ls[k]? = some (.val (.int x))) (hl' : storeLocals Ls k (.int (x + Int32.ofInt cst)) = some l') (hp : pc + 3 = pc') (G : own_Go p.tables e below P T (mkF m pc' l' (St))) : own_Go p.tables e below P T (mkF m pc Ls (St)) := by
  subst hp
  exact own_by (fun t q => XS.iinc A hx rfl hd hl hl' q) G
theorem own_dup (A : At T m c below) (hx : p.tables.exec = Jvm.exec) {pc' : Nat} {v : Value} (hd : decode c.code pc = .ok (.dup, 1)) (hv : v.category = 1) (hp : pc + 1 = pc') (G : own_Go p.tables e below P T (mkF m pc' Ls (v :: v :: St))) : own_Go p.tables e below P T (mkF m pc Ls (v :: St)) := by
  subst hp
  exact own_by (fun t q => XS.dup A hx rfl hd rfl hv q) G
theorem own_pop (A : At T m c below) (hx : p.tables.exec = Jvm.exec) {pc' : Nat} {v : Value} (hd : decode c.code pc = .ok (.pop, 1)) (hv : v.category = 1) (hp : pc + 1 = pc') (G : own_Go p.tables e below P T (mkF m pc' Ls (St))) : own_Go p.tables e below P T (mkF m pc Ls (v :: St)) := by
  subst hp
  exact own_by (fun t q => XS.pop A hx rfl hd rfl hv q) G
theorem own_dupX1 (A : At T m c below) (hx : p.tables.exec = Jvm.exec) {pc' : Nat} {v u : Value} (hd : decode c.code pc = .ok (.dup_x1, 1)) (hv : v.category = 1) (hu : u.category = 1) (hp : pc + 1 = pc') (G : own_Go p.tables e below P T (mkF m pc' Ls (v :: u :: v :: St))) : own_Go p.tables e below P T (mkF m pc Ls (v :: u :: St)) := by
  subst hp
  exact own_by (fun t q => XS.dupX1 A hx rfl hd rfl hv hu q) G
theorem own_goto (A : At T m c below) (hx : p.tables.exec = Jvm.exec) {o : Int} (pc' : Nat) (hd : decode c.code pc = .ok (.goto o, 3)) (ho : 0 ≤ (pc : Int) + o) (hp : ((pc : Int) + o).toNat = pc') (G : own_Go p.tables e below P T (mkF m pc' Ls St)) : own_Go p.tables e below P T (mkF m pc Ls St) :=
  own_by (fun t q => XS.goto A hx rfl rfl hd ho hp q) G
theorem own_icmp_eq (A : At T m c below) (hx : p.tables.exec = Jvm.exec) {o : Int} {x y : Int32} (pcY pcN : Nat) (hd : decode c.code pc = .ok (.if_icmp .eq o, 3)) (ho : 0 ≤ (pc : Int) + o) (hY : ((pc : Int) + o).toNat = pcY) (hN : pc + 3 = pcN) (GY : x = y → own_Go p.tables e below P T (mkF m pcY Ls St)) (GN : ¬ x = y → own_Go p.tables e below P T (mkF m pcN Ls St)) : own_Go p.tables e below P T (mkF m pc Ls (.int y :: .int x :: St)) := by
  by_cases q : x = y
  · exact own_by (fun t k => XS.icmpYes A hx rfl rfl hd rfl (teq q).1 ho hY k) (GY q)
  · have q : ¬ x = y := q
    subst hN
    exact own_by (fun t k => XS.icmpNo A hx rfl hd rfl (feq q).1 k) (GN q)
theorem own_if_eq (A : At T m c below) (hx : p.tables.exec = Jvm.exec) {o : Int} {x : Int32} (pcY pcN : Nat) (hd : decode c.code pc = .ok (.ifCond .eq o, 3)) (ho : 0 ≤ (pc : Int) + o) (hY : ((pc : Int) + o).toNat = pcY) (hN : pc + 3 = pcN) (GY : x = 0 → own_Go p.tables e below P T (mkF m pcY Ls St)) (GN : ¬ x = 0 → own_Go p.tables e below P T (mkF m pcN Ls St)) : own_Go p.tables e below P T (mkF m pc Ls (.int x :: St)) := by
  by_cases q : x = 0
  · exact own_by (fun t k => XS.ifYes A hx rfl rfl hd rfl ((if0 _ _).trans (teq q).1) ho hY k) (GY q)
  · have q : ¬ x = 0 := q
    subst hN
    exact own_by (fun t k => XS.ifNo A hx rfl hd rfl ((if0 _ _).trans (feq q).1) k) (GN q)
theorem own_icmp_ne (A : At T m c below) (hx : p.tables.exec = Jvm.exec) {o : Int} {x y : Int32} (pcY pcN : Nat) (hd : decode c.code pc = .ok (.if_icmp .ne o, 3)) (ho : 0 ≤ (pc : Int) + o) (hY : ((pc : Int) + o).toNat = pcY) (hN : pc + 3 = pcN) (GY : ¬ x = y → own_Go p.tables e below P T (mkF m pcY Ls St)) (GN : x = y → own_Go p.tables e below P T (mkF m pcN Ls St)) : own_Go p.tables e below P T (mkF m pc Ls (.int y :: .int x :: St)) := by
  by_cases q : ¬ x = y
  · exact own_by (fun t k => XS.icmpYes A hx rfl rfl hd rfl (feq q).2 ho hY k) (GY q)
  · have q : x = y := Classical.not_not.mp q
    subst hN
    exact own_by (fun t k => XS.icmpNo A hx rfl hd rfl (teq q).2 k) (GN q)
theorem own_if_ne (A : At T m c below) (hx : p.tables.exec = Jvm.exec) {o : Int} {x : Int32} (pcY pcN : Nat) (hd : decode c.code pc = .ok (.ifCond .ne o, 3)) (ho : 0 ≤ (pc : Int) + o) (hY : ((pc : Int) + o).toNat = pcY) (hN : pc + 3 = pcN) (GY : ¬ x = 0 → own_Go p.tables e below P T (mkF m pcY Ls St)) (GN : x = 0 → own_Go p.tables e below P T (mkF m pcN Ls St)) : own_Go p.tables e below P T (mkF m pc Ls (.int x :: St)) := by
  by_cases q : ¬ x = 0
  · exact own_by (fun t k => XS.ifYes A hx rfl rfl hd rfl ((if0 _ _).trans (feq q).2) ho hY k) (GY q)
  · have q : x = 0 := Classical.not_not.mp q
    subst hN
    exact own_by (fun t k => XS.ifNo A hx rfl hd rfl ((if0 _ _).trans (teq q).2) k) (GN q)
theorem own_icmp_lt (A : At T m c below) (hx : p.tables.exec = Jvm.exec) {o : Int} {x y : Int32} (pcY pcN : Nat) (hd : decode c.code pc = .ok (.if_icmp .lt o, 3)) (ho : 0 ≤ (pc : Int) + o) (hY : ((pc : Int) + o).toNat = pcY) (hN : pc + 3 = pcN) (GY : x < y → own_Go p.tables e below P T (mkF m pcY Ls St)) (GN : ¬ x < y → own_Go p.tables e below P T (mkF m pcN Ls St)) : own_Go p.tables e below P T (mkF m pc Ls (.int y :: .int x :: St)) := by
  by_cases q : x < y
  · exact own_by (fun t k => XS.icmpYes A hx rfl rfl hd rfl (tlt q).1 ho hY k) (GY q)
  · have q : ¬ x < y := q
    subst hN
    exact own_by (fun t k => XS.icmpNo A hx rfl hd rfl (flt q).1 k) (GN q)
theorem own_if_lt (A : At T m c below) (hx : p.tables.exec = Jvm.exec) {o : Int} {x : Int32} (pcY pcN : Nat) (hd : decode c.code pc = .ok (.ifCond .lt o, 3)) (ho : 0 ≤ (pc : Int) + o) (hY : ((pc : Int) + o).toNat = pcY) (hN : pc + 3 = pcN) (GY : x < 0 → own_Go p.tables e below P T (mkF m pcY Ls St)) (GN : ¬ x < 0 → own_Go p.tables e below P T (mkF m pcN Ls St)) : own_Go p.tables e below P T (mkF m pc Ls (.int x :: St)) := by
  by_cases q : x < 0
  · exact own_by (fun t k => XS.ifYes A hx rfl rfl hd rfl ((if0 _ _).trans (tlt q).1) ho hY k) (GY q)
  · have q : ¬ x < 0 := q
    subst hN
    exact own_by (fun t k => XS.ifNo A hx rfl hd rfl ((if0 _ _).trans (flt q).1) k) (GN q)
theorem own_icmp_ge (A : At T m c below) (hx : p.tables.exec = Jvm.exec) {o : Int} {x y : Int32} (pcY pcN : Nat) (hd : decode c.code pc = .ok (.if_icmp .ge o, 3)) (ho : 0 ≤ (pc : Int) + o) (hY : ((pc : Int) + o).toNat = pcY) (hN : pc + 3 = pcN) (GY : ¬ x < y → own_Go p.tables e below P T (mkF m pcY Ls St)) (GN : x < y → own_Go p.tables e below P T (mkF m pcN Ls St)) : own_Go p.tables e below P T (mkF m pc Ls (.int y :: .int x :: St)) := by
  by_cases q : ¬ x < y
  · exact own_by (fun t k => XS.icmpYes A hx rfl rfl hd rfl (flt q).2.1 ho hY k) (GY q)
  · have q : x < y := Classical.not_not.mp q
    subst hN
    exact own_by (fun t k => XS.icmpNo A hx rfl hd rfl (tlt q).2.1 k) (GN q)
theorem own_if_ge (A : At T m c below) (hx : p.tables.exec = Jvm.exec) {o : Int} {x : Int32} (pcY pcN : Nat) (hd : decode c.code pc = .ok (.ifCond .ge o, 3)) (ho : 0 ≤ (pc : Int) + o) (hY : ((pc : Int) + o).toNat = pcY) (hN : pc + 3 = pcN) (GY : ¬ x < 0 → own_Go p.tables e below P T (mkF m pcY Ls St)) (GN : x < 0 → own_Go p.tables e below P T (mkF m pcN Ls St)) : own_Go p.tables e below P T (mkF m pc Ls (.int x :: St)) := by
  by_cases q : ¬ x < 0
  · exact own_by (fun t k => XS.ifYes A hx rfl rfl hd rfl ((if0 _ _).trans (flt q).2.1) ho hY k) (GY q)
  · have q : x < 0 := Classical.not_not.mp q
    subst hN
    exact own_by (fun t k => XS.ifNo A hx rfl hd rfl ((if0 _ _).trans (tlt q).2.1) k) (GN q)
theorem own_icmp_gt (A : At T m c below) (hx : p.tables.exec = Jvm.exec) {o : Int} {x y : Int32} (pcY pcN : Nat) (hd : decode c.code pc = .ok (.if_icmp .gt o, 3)) (ho : 0 ≤ (pc : Int) + o) (hY : ((pc : Int) + o).toNat = pcY) (hN : pc + 3 = pcN) (GY : y < x → own_Go p.tables e below P T (mkF m pcY Ls St)) (GN : ¬ y < x → own_Go p.tables e below P T (mkF m pcN Ls St)) : own_Go p.tables e below P T (mkF m pc Ls (.int y :: .int x :: St)) := by
  by_cases q : y < x
  · exact own_by (fun t k => XS.icmpYes A hx rfl rfl hd rfl (tlt q).2.2.1 ho hY k) (GY q)
  · have q : ¬ y < x := q
    subst hN
    exact own_by (fun t k => XS.icmpNo A hx rfl hd rfl (flt q).2.2.1 k) (GN q)
theorem own_if_gt (A : At T m c below) (hx : p.tables.exec = Jvm.exec) {o : Int} {x : Int32} (pcY pcN : Nat) (hd : decode c.code pc = .ok (.ifCond .gt o, 3)) (ho : 0 ≤ (pc : Int) + o) (hY : ((pc : Int) + o).toNat = pcY) (hN : pc + 3 = pcN) (GY : 0 < x → own_Go p.tables e below P T (mkF m pcY Ls St)) (GN : ¬ 0 < x → own_Go p.tables e below P T (mkF m pcN Ls St)) : own_Go p.tables e below P T (mkF m pc Ls (.int x :: St)) := by
  by_cases q : 0 < x
  · exact own_by (fun t k => XS.ifYes A hx rfl rfl hd rfl ((if0 _ _).trans (tlt q).2.2.1) ho hY k) (GY q)
  · have q : ¬ 0 < x := q
    subst hN
    exact own_by (fun t k => XS.ifNo A hx rfl hd rfl ((if0 _ _).trans (flt q).2.2.1) k) (GN q)
theorem own_icmp_le (A : At T m c below) (hx : p.tables.exec = Jvm.exec) {o : Int} {x y : Int32} (pcY pcN : Nat) (hd : decode c.code pc = .ok (.if_icmp .le o, 3)) (ho : 0 ≤ (pc : Int) + o) (hY : ((pc : Int) + o).toNat = pcY) (hN : pc + 3 = pcN) (GY : ¬ y < x → own_Go p.tables e below P T (mkF m pcY Ls St)) (GN : y < x → own_Go p.tables e below P T (mkF m pcN Ls St)) : own_Go p.tables e below P T (mkF m pc Ls (.int y :: .int x :: St)) := by
  by_cases q : ¬ y < x
  · exact own_by (fun t k => XS.icmpYes A hx rfl rfl hd rfl (flt q).2.2.2 ho hY k) (GY q)
  · have q : y < x := Classical.not_not.mp q
    subst hN
    exact own_by (fun t k => XS.icmpNo A hx rfl hd rfl (tlt q).2.2.2 k) (GN q)
theorem own_if_le (A : At T m c below) (hx : p.tables.exec = Jvm.exec) {o : Int} {x : Int32} (pcY pcN : Nat) (hd : decode c.code pc = .ok (.ifCond .le o, 3)) (ho : 0 ≤ (pc : Int) + o) (hY : ((pc : Int) + o).toNat = pcY) (hN : pc + 3 = pcN) (GY : ¬ 0 < x → own_Go p.tables e below P T (mkF m pcY Ls St)) (GN : 0 < x → own_Go p.tables e below P T (mkF m pcN Ls St)) : own_Go p.tables e below P T (mkF m pc Ls (.int x :: St)) := by
  by_cases q : ¬ 0 < x
  · exact own_by (fun t k => XS.ifYes A hx rfl rfl hd rfl ((if0 _ _).trans (flt q).2.2.2) ho hY k) (GY q)
  · have q : 0 < x := Classical.not_not.mp q
    subst hN
    exact own_by (fun t k => XS.ifNo A hx rfl hd rfl ((if0 _ _).trans (tlt q).2.2.2) k) (GN q)
theorem own_ifnull_t (A : At T m c below) (hx : p.tables.exec = Jvm.exec) {o : Int} (pcY : Nat) (hd : decode c.code pc = .ok (.ifnull o, 3)) (ho : 0 ≤ (pc : Int) + o) (hY : ((pc : Int) + o).toNat = pcY) (G : own_Go p.tables e below P T (mkF m pcY Ls St)) : own_Go p.tables e below P T (mkF m pc Ls (.null :: St)) := own_by (fun t k => XS.ifnullYes A hx rfl rfl hd rfl ho hY k) G
theorem own_ifnull_f (A : At T m c below) (hx : p.tables.exec = Jvm.exec) {o : Int} {b : Addr} (pcN : Nat) (hd : decode c.code pc = .ok (.ifnull o, 3)) (hN : pc + 3 = pcN) (G : own_Go p.tables e below P T (mkF m pcN Ls St)) : own_Go p.tables e below P T (mkF m pc Ls (.ref b :: St)) := by subst hN; exact own_by (fun t k => XS.ifnullNo A hx rfl hd rfl k) G
theorem own_ifnonnull_t (A : At T m c below) (hx : p.tables.exec = Jvm.exec) {o : Int} {b : Addr} (pcY : Nat) (hd : decode c.code pc = .ok (.ifnonnull o, 3)) (ho : 0 ≤ (pc : Int) + o) (hY : ((pc : Int) + o).toNat = pcY) (G : own_Go p.tables e below P T (mkF m pcY Ls St)) : own_Go p.tables e below P T (mkF m pc Ls (.ref b :: St)) := own_by (fun t k => XS.ifnonnullYes A hx rfl rfl hd rfl ho hY k) G
theorem own_ifnonnull_f (A : At T m c below) (hx : p.tables.exec = Jvm.exec) {o : Int} (pcN : Nat) (hd : decode c.code pc = .ok (.ifnonnull o, 3)) (hN : pc + 3 = pcN) (G : own_Go p.tables e below P T (mkF m pcN Ls St)) : own_Go p.tables e below P T (mkF m pc Ls (.null :: St)) := by subst hN; exact own_by (fun t k => XS.ifnonnullNo A hx rfl hd rfl k) G
end OwnSteps
/-! OWN KIT, steps on the heap -/
section OwnHeap
variable {p : Program} {l : Launch} {e : Env} {R : Room} {s : State} {m : MethodId} {args : Array Value} {below : List Frame} {meth : Method} {c : Code} {T : State} {cells slots : Nat} {Z : State} {a0 : Array Value} {h h0 : Heap} {w kf : Bool} {EL : List (String × Nat)} {own : String} {ws fs : List Addr} {P : Outcome → State → Prop} {pc pc' : Nat} {Ls : Array Slot} {St : List Value} {index : Nat}
theorem own_new {C : String} {n : Nat} (K : own_S w kf EL p l e R s m args below meth c Z a0 own h0 ws T h fs cells slots) (hx : p.tables.exec = Jvm.exec) (w1 : (Cond.classLink own index C).before a0 Z = true) (wi : (Cond.instantiable C n).before a0 Z = true) (wz : (Cond.initialized C).before a0 Z = true)
    (hd : decode c.code pc = .ok (.new index, 3)) (hp : pc + 3 = pc') (hc : cells + 1 ≤ R.cells) (hl : slots + n ≤ R.slots)
    (G : ∀ (T' : State) (h' : Heap) (a : Addr), a = h.size → own_S w kf EL p l e R s m args below meth c Z a0 own h0 ws T' h' (a :: fs) (cells + 1) (slots + n) → Ext h h' → Exa Z h' a C → (∀ {O nm d : String} {ty : FieldType}, Laid Z a0 C O nm d → parseFieldDescriptor d = some ty → Fld Z h' a O nm d (defaultValue ty)) → Unt h' a →
      own_Go p.tables e below P T' (mkF m pc' Ls (.ref a :: St))) : own_Go p.tables e below P T (mkF m pc Ls St) := by
  subst hp
  obtain ⟨vm0, locs, k0, X, eT, I⟩ := K
  obtain ⟨T', h', X', e', E, F, D, N, st⟩ := newO X hx I.1 I.2.1 w1 wi wz eT (g := mkF m pc Ls St) rfl hd hc hl
  exact own_by st (G T' h' _ rfl ⟨vm0, locs, k0, X', e', I.grow E F.lt⟩ E F D N)
theorem own_newarr {aty : ArrayType} {n : Int32} (K : own_S w kf EL p l e R s m args below meth c Z a0 own h0 ws T h fs cells slots) (hx : p.tables.exec = Jvm.exec) (w1 : (Cond.arrayClass (newarray.typeOf aty)).before a0 Z = true)
    (hd : decode c.code pc = .ok (.newarray aty, 2)) (hp : pc + 2 = pc') (hn : ¬ n < 0) (cap : Nat) (hcap : n.toNatClampNeg ≤ cap) (hb : cap * 8 ≤ 536870912) (hc : cells + 1 ≤ R.cells) (hl : slots + cap ≤ R.slots)
    (G : ∀ (T' : State) (h' : Heap) (a : Addr) (k : ClassId), a = h.size → own_S w kf EL p l e R s m args below meth c Z a0 own h0 ws T' h' (a :: fs) (cells + 1) (slots + cap) → Ext h h' → Arv Z h' a k (newarray.typeOf aty) n [] (defaultValue (newarray.typeOf aty)) →
      own_Go p.tables e below P T' (mkF m pc' Ls (.ref a :: St))) : own_Go p.tables e below P T (mkF m pc Ls (.int n :: St)) := by
  subst hp
  obtain ⟨vm0, locs, k0, X, eT, I⟩ := K
  obtain ⟨T', h', k, X', e', E, F, st⟩ := newP X hx I.1 w1 eT (g := mkF m pc Ls (.int n :: St)) rfl hd rfl hn hcap hb hc hl
  exact own_by st (G T' h' _ k rfl ⟨vm0, locs, k0, X', e', I.grow E F.lt⟩ E (Arv.new F hn))
theorem own_newref {C : String} {n : Int32} (K : own_S w kf EL p l e R s m args below meth c Z a0 own h0 ws T h fs cells slots) (hx : p.tables.exec = Jvm.exec) (w1 : (Cond.classLink own index C).before a0 Z = true) (w2 : (Cond.arrayOver (.object C)).before a0 Z = true)
    (hd : decode c.code pc = .ok (.anewarray index, 3)) (hp : pc + 3 = pc') (hn : ¬ n < 0) (cap : Nat) (hcap : n.toNatClampNeg ≤ cap) (hb : cap * 8 ≤ 536870912) (hc : cells + 1 ≤ R.cells) (hl : slots + cap ≤ R.slots)
    (G : ∀ (T' : State) (h' : Heap) (a : Addr) (k : ClassId), a = h.size → own_S w kf EL p l e R s m args below meth c Z a0 own h0 ws T' h' (a :: fs) (cells + 1) (slots + cap) → Ext h h' → Arv Z h' a k (.object C) n [] .null → Ovr Z k C →
      own_Go p.tables e below P T' (mkF m pc' Ls (.ref a :: St))) : own_Go p.tables e below P T (mkF m pc Ls (.int n :: St)) := by
  subst hp
  obtain ⟨vm0, locs, k0, X, eT, I⟩ := K
  obtain ⟨T', h', k, X', e', E, F, O, st⟩ := newR X hx I.1 I.2.1 w1 w2 eT (g := mkF m pc Ls (.int n :: St)) rfl hd rfl hn hcap hb hc hl
  exact own_by st (G T' h' _ k rfl ⟨vm0, locs, k0, X', e', I.grow E F.lt⟩ E (Arv.new F hn) O)
/-- a place of a cell that the walk may write is written -/
theorem own_wrote {vm0 : Vm} {locs : List Loc} {k0 : Nat} {T' : State} {h' : Heap} {a : Addr} {sl : Nat} {v : Value} (I : own_I w kf EL s m below Z a0 own h0 ws h fs vm0 locs k0) (X' : Stand p l e R (s.setVm vm0) m args below meth c T' (locs ++ [⟨a, sl⟩]) cells slots) (e' : T'.heap = h') (W : Wr h h' a sl v) (ha : a ∈ fs) :
    own_S w kf EL p l e R s m args below meth c Z a0 own h0 ws T' h' fs cells slots :=
  ⟨vm0, _, k0, X', e', I.keep (Keep.of_wr W) (fun x hx => by cases List.mem_singleton.mp hx; exact ha) (fun y hy => by cases List.mem_singleton.mp hy; obtain ⟨-, -, -, -, -, -, -, -, -, -, -, -, h12⟩ := I; exact (h12 a ha).2.1)⟩
theorem own_putF {R0 O n d C host : String} {kk : Nat} {ty : FieldType} {a : Addr} {v old : Value} (K : own_S w kf EL p l e R s m args below meth c Z a0 own h0 ws T h fs cells slots) (hx : p.tables.exec = Jvm.exec)
    (w1 : (Cond.fieldLink own index R0 n d).before a0 Z = true ∨ (Cond.fieldLinkNest own index R0 n d host).before a0 Z = true) (via : Via Z R0 O n d) (F : Fld Z h a O n d old) (E : Exa Z h a C) (L : (Cond.lays C O n d).before a0 Z = true ∨ ((Cond.laysFinal C O n d).before a0 Z = true ∧ own = O ∧ meth.name = "<init>")) (wi : (Cond.instantiable C kk).before a0 Z = true)
    (hty : parseFieldDescriptor d = some ty) (hn : narrow ty v = v) (hf : fits ty v = true) (ha : a ∈ fs) (hd : decode c.code pc = .ok (.putfield index, 3)) (hp : pc + 3 = pc')
    (G : ∀ (T' : State) (h' : Heap), own_S w kf EL p l e R s m args below meth c Z a0 own h0 ws T' h' fs cells slots → Wr h h' a (Jvm.RoadKit.slotOf Z O n d) v → own_Go p.tables e below P T' (mkF m pc' Ls St)) : own_Go p.tables e below P T (mkF m pc Ls (v :: .ref a :: St)) := by
  subst hp
  obtain ⟨vm0, locs, k0, X, eT, I⟩ := K
  obtain ⟨T', h', X', e', W, st⟩ := putF X hx I.1 I.2.1 w1 via eT F E L wi hty hn hf (g := mkF m pc Ls (v :: .ref a :: St)) rfl rfl hd
  exact own_by st (G T' h' (own_wrote I X' e' W ha) W)
theorem own_getF {R0 O n d host : String} {a : Addr} {v : Value} (K : own_S w kf EL p l e R s m args below meth c Z a0 own h0 ws T h fs cells slots) (hx : p.tables.exec = Jvm.exec)
    (w1 : (Cond.fieldLink own index R0 n d).before a0 Z = true ∨ (Cond.fieldLinkNest own index R0 n d host).before a0 Z = true) (via : Via Z R0 O n d) (F : Fld Z h a O n d v) (hd : decode c.code pc = .ok (.getfield index, 3)) (hp : pc + 3 = pc')
    (G : ∀ T' : State, own_S w kf EL p l e R s m args below meth c Z a0 own h0 ws T' h fs cells slots → own_Go p.tables e below P T' (mkF m pc' Ls (v :: St))) : own_Go p.tables e below P T (mkF m pc Ls (.ref a :: St)) := by
  subst hp
  obtain ⟨vm0, locs, k0, X, eT, I⟩ := K
  obtain ⟨T', X', e', st⟩ := getF X hx I.1 I.2.1 w1 via eT F (g := mkF m pc Ls (.ref a :: St)) rfl rfl hd
  exact own_by st (G T' ⟨vm0, locs, k0, X', e', I⟩)
theorem own_getS {R0 O n d host : String} {v : Value} (K : own_S w kf EL p l e R s m args below meth c Z a0 own h0 ws T h fs cells slots) (hx : p.tables.exec = Jvm.exec)
    (w1 : (Cond.fieldLink own index R0 n d).before a0 Z = true ∨ (Cond.fieldLinkNest own index R0 n d host).before a0 Z = true) (via : Via Z R0 O n d) (F : Sta Z Z.heap O n d v) (hd : decode c.code pc = .ok (.getstatic index, 3)) (hp : pc + 3 = pc')
    (G : ∀ T' : State, own_S w kf EL p l e R s m args below meth c Z a0 own h0 ws T' h fs cells slots → own_Go p.tables e below P T' (mkF m pc' Ls (v :: St))) : own_Go p.tables e below P T (mkF m pc Ls St) := by
  subst hp
  have F' := own_sta K F
  obtain ⟨vm0, locs, k0, X, eT, I⟩ := K
  obtain ⟨T', X', e', st⟩ := getS2 X hx I.1 I.2.1 w1 via eT F' (g := mkF m pc Ls St) rfl hd
  exact own_by st (G T' ⟨vm0, locs, k0, X', e', I⟩)
theorem own_cast {C : String} {a : Addr} (K : own_S w kf EL p l e R s m args below meth c Z a0 own h0 ws T h fs cells slots) (hx : p.tables.exec = Jvm.exec) (w1 : (Cond.classLink own index C).before a0 Z = true) (F : Ins Z h a C true) (hd : decode c.code pc = .ok (.checkcast index, 3)) (hp : pc + 3 = pc')
    (G : ∀ T' : State, own_S w kf EL p l e R s m args below meth c Z a0 own h0 ws T' h fs cells slots → own_Go p.tables e below P T' (mkF m pc' Ls (.ref a :: St))) : own_Go p.tables e below P T (mkF m pc Ls (.ref a :: St)) := by
  subst hp
  obtain ⟨vm0, locs, k0, X, eT, I⟩ := K
  obtain ⟨T', X', e', st⟩ := castY X hx I.1 I.2.1 w1 eT F (g := mkF m pc Ls (.ref a :: St)) rfl rfl hd
  exact own_by st (G T' ⟨vm0, locs, k0, X', e', I⟩)
theorem own_instY {C : String} {a : Addr} (K : own_S w kf EL p l e R s m args below meth c Z a0 own h0 ws T h fs cells slots) (hx : p.tables.exec = Jvm.exec) (w1 : (Cond.classLink own index C).before a0 Z = true) (F : Ins Z h a C true) (hd : decode c.code pc = .ok (.instanceof index, 3)) (hp : pc + 3 = pc')
    (G : ∀ T' : State, own_S w kf EL p l e R s m args below meth c Z a0 own h0 ws T' h fs cells slots → own_Go p.tables e below P T' (mkF m pc' Ls (.int 1 :: St))) : own_Go p.tables e below P T (mkF m pc Ls (.ref a :: St)) := by
  subst hp
  obtain ⟨vm0, locs, k0, X, eT, I⟩ := K
  obtain ⟨T', X', e', st⟩ := instY X hx I.1 I.2.1 w1 eT F (g := mkF m pc Ls (.ref a :: St)) rfl rfl hd
  exact own_by st (G T' ⟨vm0, locs, k0, X', e', I⟩)
/-- Object.<init> -/
theorem own_initO {a : Addr} (K : own_S w kf EL p l e R s m args below meth c Z a0 own h0 ws T h fs cells slots) (hx : p.tables.exec = Jvm.exec) (w1 : (Cond.methodLink own index Lib.objectInit).before a0 Z = true) (w2 : (Cond.instanceMethod Lib.objectInit).before a0 Z = true) (w3 : (Cond.code Lib.objectInit ⟨#[0xb1]⟩ 1 none).before a0 Z = true)
    (hsz : Ls.size = c.maxLocals) (W : Nat) (hW : (St.map fun v => v.category).sum ≤ W) (hf : 1 ≤ R.frames) (hl : W + 12 ≤ R.locals) (hd : decode c.code pc = .ok (.invokespecial index, 3)) (hp : pc + 3 = pc')
    (G : ∀ T' : State, own_S w kf EL p l e R s m args below meth c Z a0 own h0 ws T' h fs cells slots → own_Go p.tables e below P T' (mkF m pc' Ls St)) : own_Go p.tables e below P T (mkF m pc Ls (.ref a :: St)) := by
  subst hp
  obtain ⟨vm0, locs, k0, X, eT, I⟩ := K
  obtain ⟨T', X', e', st⟩ := initO X hx I.1 I.2.1 w1 w2 w3 eT (g := mkF m pc Ls (.ref a :: St)) rfl hsz rfl hd hf (W := W) (by show 2 * 0 + _ ≤ _; omega) hl
  exact own_by st (G T' ⟨vm0, locs, k0, X', e', I⟩)
section OwnArr
variable {a : Addr} {k : ClassId} {n j : Int32} {vs : List Value} {dv : Value}
/-- castore into an array whose first components are said -/
theorem own_stC {x : Int32} (K : own_S w kf EL p l e R s m args below meth c Z a0 own h0 ws T h fs cells slots) (hx : p.tables.exec = Jvm.exec) (F : Arv Z h a k .char n vs dv) (ha : a ∈ fs) (hj : ¬ j < 0 ∧ j < n) (i : Nat) (hi : j.toNatClampNeg = i) (hl : i < vs.length) (hd : decode c.code pc = .ok (.castore, 1)) (hp : pc + 1 = pc')
    (G : ∀ (T' : State) (h' : Heap), own_S w kf EL p l e R s m args below meth c Z a0 own h0 ws T' h' fs cells slots → Wr h h' a j.toNatClampNeg (.int (nar .char x)) → Arv Z h' a k .char n (vs.set i (.int (nar .char x))) dv → own_Go p.tables e below P T' (mkF m pc' Ls St)) : own_Go p.tables e below P T (mkF m pc Ls (.int x :: .int j :: .ref a :: St)) := by
  subst hp
  obtain ⟨vm0, locs, k0, X, eT, I⟩ := K
  obtain ⟨cl, A, q1, q2, q3, q4, q5⟩ := F
  obtain ⟨T', h', X', e', W, st⟩ := stC X hx I.1 eT A (j := j) (x := x) (inb_of q2 hj) (g := mkF m pc Ls (.int x :: .int j :: .ref a :: St)) rfl rfl hd
  exact own_by st (G T' h' (own_wrote I X' e' W ha) W (Arv.set A q1 q2 q3 q4 q5 (fits_nar_char _) W i hi hl))
theorem own_stB {x : Int32} (K : own_S w kf EL p l e R s m args below meth c Z a0 own h0 ws T h fs cells slots) (hx : p.tables.exec = Jvm.exec) (F : Arv Z h a k .byte n vs dv) (ha : a ∈ fs) (hj : ¬ j < 0 ∧ j < n) (i : Nat) (hi : j.toNatClampNeg = i) (hl : i < vs.length) (hd : decode c.code pc = .ok (.bastore, 1)) (hp : pc + 1 = pc')
    (G : ∀ (T' : State) (h' : Heap), own_S w kf EL p l e R s m args below meth c Z a0 own h0 ws T' h' fs cells slots → Wr h h' a j.toNatClampNeg (.int x.toInt8.toInt32) → Arv Z h' a k .byte n (vs.set i (.int x.toInt8.toInt32)) dv → own_Go p.tables e below P T' (mkF m pc' Ls St)) : own_Go p.tables e below P T (mkF m pc Ls (.int x :: .int j :: .ref a :: St)) := by
  subst hp
  obtain ⟨vm0, locs, k0, X, eT, I⟩ := K
  obtain ⟨cl, A, q1, q2, q3, q4, q5⟩ := F
  obtain ⟨T', h', X', e', W, st⟩ := stB X hx I.1 eT A (j := j) (x := x) (inb_of q2 hj) (g := mkF m pc Ls (.int x :: .int j :: .ref a :: St)) rfl rfl hd
  exact own_by st (G T' h' (own_wrote I X' e' W ha) W (Arv.set A q1 q2 q3 q4 q5 (fits_nar_byte _) W i hi hl))
theorem own_stR {C : String} {v : Value} (K : own_S w kf EL p l e R s m args below meth c Z a0 own h0 ws T h fs cells slots) (hx : p.tables.exec = Jvm.exec) (F : Arv Z h a k (.object C) n vs dv) (hS : Sto Z h a v) (hv : v.isRef = true) (ha : a ∈ fs) (hj : ¬ j < 0 ∧ j < n) (i : Nat) (hi : j.toNatClampNeg = i) (hl : i < vs.length) (hd : decode c.code pc = .ok (.aastore, 1)) (hp : pc + 1 = pc')
    (G : ∀ (T' : State) (h' : Heap), own_S w kf EL p l e R s m args below meth c Z a0 own h0 ws T' h' fs cells slots → Wr h h' a j.toNatClampNeg v → Arv Z h' a k (.object C) n (vs.set i v) dv → own_Go p.tables e below P T' (mkF m pc' Ls St)) : own_Go p.tables e below P T (mkF m pc Ls (v :: .int j :: .ref a :: St)) := by
  subst hp
  obtain ⟨vm0, locs, k0, X, eT, I⟩ := K
  obtain ⟨cl, A, q1, q2, q3, q4, q5⟩ := F
  obtain ⟨T', h', X', e', W, st⟩ := stR X hx I.1 eT A (j := j) (v := v) (inb_of q2 hj) rfl hS (g := mkF m pc Ls (v :: .int j :: .ref a :: St)) rfl rfl hd
  exact own_by st (G T' h' (own_wrote I X' e' W ha) W (Arv.set A q1 q2 q3 q4 q5 (by rcases ref_cases hv with rfl | ⟨_, rfl⟩ <;> rfl) W i hi hl))
theorem own_ldC {x : Int32} (K : own_S w kf EL p l e R s m args below meth c Z a0 own h0 ws T h fs cells slots) (hx : p.tables.exec = Jvm.exec) (F : Arv Z h a k .char n vs dv) (hj : ¬ j < 0 ∧ j < n) (hv : vs.getD j.toNatClampNeg dv = .int x) (hd : decode c.code pc = .ok (.caload, 1)) (hp : pc + 1 = pc')
    (G : own_Go p.tables e below P T (mkF m pc' Ls (.int x :: St))) : own_Go p.tables e below P T (mkF m pc Ls (.int j :: .ref a :: St)) := by
  subst hp
  obtain ⟨vm0, locs, k0, X, eT, I⟩ := K
  obtain ⟨cl, A, q1, q2, q3, q4, q5⟩ := F
  exact own_by (fun t q => X.caload hx (j := j) (v := .int x) (by rw [eT]; exact A.1) (State.isArrayOf_alike I.1.alike A.2.1) A.2.2 (inb_of q2 hj) (q4.at (inb_of q2 hj) hv) (g := mkF m pc Ls (.int j :: .ref a :: St)) rfl rfl hd _ q) G
theorem own_ldB {x : Int32} (K : own_S w kf EL p l e R s m args below meth c Z a0 own h0 ws T h fs cells slots) (hx : p.tables.exec = Jvm.exec) (F : Arv Z h a k .byte n vs dv) (hj : ¬ j < 0 ∧ j < n) (hv : vs.getD j.toNatClampNeg dv = .int x) (hd : decode c.code pc = .ok (.baload, 1)) (hp : pc + 1 = pc')
    (G : own_Go p.tables e below P T (mkF m pc' Ls (.int x :: St))) : own_Go p.tables e below P T (mkF m pc Ls (.int j :: .ref a :: St)) := by
  subst hp
  obtain ⟨vm0, locs, k0, X, eT, I⟩ := K
  obtain ⟨cl, A, q1, q2, q3, q4, q5⟩ := F
  exact own_by (fun t q => X.baloadBytes hx (j := j) (v := .int x) (by rw [eT]; exact A.1) (State.isArrayOf_alike I.1.alike A.2.1) A.2.2 (inb_of q2 hj) (q4.at (inb_of q2 hj) hv) (g := mkF m pc Ls (.int j :: .ref a :: St)) rfl rfl hd _ q) G
theorem own_ldR {C : String} {v : Value} (K : own_S w kf EL p l e R s m args below meth c Z a0 own h0 ws T h fs cells slots) (hx : p.tables.exec = Jvm.exec) (F : Arv Z h a k (.object C) n vs dv) (hj : ¬ j < 0 ∧ j < n) (hv : vs.getD j.toNatClampNeg dv = v) (hd : decode c.code pc = .ok (.aaload, 1)) (hp : pc + 1 = pc')
    (G : own_Go p.tables e below P T (mkF m pc' Ls (v :: St))) : own_Go p.tables e below P T (mkF m pc Ls (.int j :: .ref a :: St)) := by
  subst hp
  obtain ⟨vm0, locs, k0, X, eT, I⟩ := K
  obtain ⟨cl, A, q1, q2, q3, q4, q5⟩ := F
  exact own_by (fun t q => X.aaload hx (j := j) (v := v) (by rw [eT]; exact A.1) (State.isArrayOf_alike I.1.alike A.2.1) rfl A.2.2 (inb_of q2 hj) (q4.at (inb_of q2 hj) hv) (g := mkF m pc Ls (.int j :: .ref a :: St)) rfl rfl hd _ q) G
theorem own_len {ty : FieldType} (K : own_S w kf EL p l e R s m args below meth c Z a0 own h0 ws T h fs cells slots) (hx : p.tables.exec = Jvm.exec) (F : Arv Z h a k ty n vs dv) (hd : decode c.code pc = .ok (.arraylength, 1)) (hp : pc + 1 = pc')
    (G : own_Go p.tables e below P T (mkF m pc' Ls (.int n :: St))) : own_Go p.tables e below P T (mkF m pc Ls (.ref a :: St)) := by
  subst hp
  obtain ⟨vm0, locs, k0, X, eT, I⟩ := K
  obtain ⟨cl, A, q1, q2, q3, q4, q5⟩ := F
  refine own_by (fun t q => X.arraylength hx (by rw [eT]; exact A.1) (State.isArrayOf_alike I.1.alike A.2.1) (g := mkF m pc Ls (.ref a :: St)) rfl rfl hd _ ?_) G
  rw [len_of q2 q3]; exact q
end OwnArr
theorem own_acmp {x y : Value} {cd : ACond} {o : Int} (K : own_S w kf EL p l e R s m args below meth c Z a0 own h0 ws T h fs cells slots) (hx : p.tables.exec = Jvm.exec) (h1 : x.isRef = true) (h2 : y.isRef = true) (same : Bool) (hq : decide (x = y) = same) (hd : decode c.code pc = .ok (.if_acmp cd o, 3)) (ho : 0 ≤ (pc : Int) + o) (hp : pc' = if acV cd same = true then ((pc : Int) + o).toNat else pc + 3)
    (G : own_Go p.tables e below P T (mkF m pc' Ls St)) : own_Go p.tables e below P T (mkF m pc Ls (y :: x :: St)) := by
  obtain ⟨vm0, locs, k0, X, eT, I⟩ := K
  exact own_by (fun t q => acmp X hx (g := mkF m pc Ls (y :: x :: St)) rfl h1 h2 rfl hd rfl hq ho hp q) G
theorem own_irem {x y z : Int32} (K : own_S w kf EL p l e R s m args below meth c Z a0 own h0 ws T h fs cells slots) (hx : p.tables.exec = Jvm.exec) (hy : y ≠ 0) (hz : x % y = z) (hd : decode c.code pc = .ok (.irem, 1)) (hp : pc + 1 = pc')
    (G : own_Go p.tables e below P T (mkF m pc' Ls (.int z :: St))) : own_Go p.tables e below P T (mkF m pc Ls (.int y :: .int x :: St)) := by
  subst hp hz
  obtain ⟨vm0, locs, k0, X, eT, I⟩ := K
  exact own_by (fun t q => iremM X hx (g := mkF m pc Ls (.int y :: .int x :: St)) rfl hd rfl hy q) G
end OwnHeap
/-! OWN KIT, calls -/
section OwnCalls
variable {p : Program} {l : Launch} {e : Env} {R : Room} {s : State} {m : MethodId} {args : Array Value} {below : List Frame} {meth : Method} {c : Code} {T : State} {cells slots : Nat} {Z : State} {a0 : Array Value} {h h0 : Heap} {w kf : Bool} {EL : List (String × Nat)} {own : String} {ws ws' fs : List Addr} {P : Outcome → State → Prop} {pc pc' : Nat} {Ls : Array Slot} {St : List Value} {index : Nat}
variable {y z : MethodName} {bytes : ByteArray} {maxL len W : Nat} {ret : Option FieldType} {rm : Room} {as' : Array Value} {Q' : Option Value → Heap → Prop} {vm0 : Vm} {locs : List Loc} {k0 : Nat} {argsL rest : List Value}
abbrev own_BackF (l : Launch) (R : Room) (p : Program) (e : Env) (below : List Frame) (s : State) (args : Array Value) (y : MethodName) (len W : Nat) (as' : Array Value) (h : Heap) (kc ks : Nat) (Q : Option Value → Heap → List Loc → Prop) : Prop :=
  Back l R p e below s args y len W (fun A a => a = as' ∧ A.U.heap = h ∧ A.cells + kc ≤ R.cells ∧ A.slots + ks ≤ R.slots) (fun A _ v B => ∃ L, Q v B.U.heap L ∧ B.locs = A.locs ++ L ∧ B.cells = A.cells + kc ∧ B.slots = A.slots + ks)
/-- a callee's contract, where the tables stay -/
theorem own_backN (hM : own_Met false kf EL l Z a0 y bytes maxL ret [] rm as' h ws' Q') (I : own_I false kf EL s m below Z a0 own h0 ws h fs vm0 locs k0) (hw : ∀ x ∈ ws', x ∈ fs) (wc : (Cond.code y bytes maxL ret).before a0 Z = true) (wz : (Cond.initialized y.cls).before a0 Z = true) (hf : rm.frames + 1 ≤ R.frames) (hl : W + (maxL + 11) + rm.locals ≤ R.locals) :
    own_BackF l R p e below (s.setVm vm0) args y len W as' h rm.cells rm.slots (fun v h' L => Q' v h' ∧ Keep h h' ws' ∧ Fr Z.heap.size L) := by
  obtain ⟨h1, h2, h3, h4, h5, h6, h7, h8, h9, h10, h11, hst0, h12⟩ := I
  exact Back.of_freeG (bytes := bytes) (maxL := maxL) (ret := ret) (E := fun _ _ o t L k n => k = rm.cells ∧ n = rm.slots ∧ ∃ v, o = .returned v ∧ Q' v t.heap ∧ Keep h t.heap ws' ∧ Fr Z.heap.size L) hM hf hl
    (fun m meth c A a Y hp => have hU : Z.Warmed39 A.U.vm := wtrans (s := s.setVm vm0) h1 Y.warmed
      ⟨by show (Cond.and _ .tt).before a A.U = true; rw [Cond.before_and, mv hU wc]; rfl, mv hU wc, mv hU wz, hp.2.2.1, hp.2.2.2⟩)
    (fun m meth c A a g mk Y hp => have C : CHr Z EL vm0 h A.U.vm h := CHv.at Y h1 h8 h9.1
      ⟨hp.1, wtrans (s := s.setVm vm0) h1 Y.warmed, hp.2.1, h4, h8, C.1, fun x hx => have q := h12 x (hw x hx); ⟨q.2.1, q.2.2.1, C.safe q.2.2.1 q.2.2.2⟩⟩)
    (fun m meth c A a g mk Y _ hg q => known_frames Y hg (h11 q).1 (h11 q).2)
    (fun _ _ _ _ ⟨v, L, g1, g2, g3, g4, g5, g6⟩ => ⟨L, _, _, g6.2 rfl, rfl, rfl, v, g1, g2, g3, g4⟩)
    (fun m meth c A a g mk v t L k n Y hp _ _ ⟨e1, e2, v', e3, e4⟩ => by cases e3; subst e1 e2; exact ⟨L, e4, rfl, rfl, rfl⟩)
/-- a callee's contract, where it may intern -/
theorem own_backW (hM : own_Met true kf EL l Z a0 y bytes maxL ret [] rm as' h ws' Q') (I : own_I true kf EL s m below Z a0 own h0 ws h fs vm0 locs k0) (hw : ∀ x ∈ ws', x ∈ fs) (wc : (Cond.code y bytes maxL ret).before a0 Z = true) (wz : (Cond.initialized y.cls).before a0 Z = true) (hf : rm.frames + 1 ≤ R.frames) (hl : W + (maxL + 11) + rm.locals ≤ R.locals) :
    BackS l R p e below (s.setVm vm0) args y len W (fun A a => a = as' ∧ A.U.heap = h ∧ A.cells + rm.cells ≤ R.cells ∧ A.slots + rm.slots ≤ R.slots)
      (fun A _ v B => ∃ L, (Q' v B.U.heap ∧ Keep h B.U.heap ws' ∧ Fr Z.heap.size L ∧ CHr Z EL vm0 h B.U.vm B.U.heap) ∧ B.locs = A.locs ++ L ∧ B.cells = A.cells + rm.cells ∧ B.slots = A.slots + rm.slots) := by
  obtain ⟨h1, h2, h3, h4, h5, h6, h7, h8, h9, h10, h11, hst0, h12⟩ := I
  exact BackS.of_freeWG (bytes := bytes) (maxL := maxL) (ret := ret) (E := fun _ first o t L k n => k = rm.cells ∧ n = rm.slots ∧ (∃ v, o = .returned v ∧ Q' v t.heap ∧ Keep h t.heap ws' ∧ Fr Z.heap.size L) ∧ CHr Z EL first.vm h t.vm t.heap) hM hf hl
    (fun m meth c A a Y hp => have hU : Z.Warmed39 A.U.vm := wtrans (s := s.setVm vm0) h1 Y.warmed
      ⟨by show (Cond.and _ .tt).before a A.U = true; rw [Cond.before_and, mv hU wc]; rfl, mv hU wc, mv hU wz, hp.2.2.1, hp.2.2.2⟩)
    (fun m meth c A a g mk Y hp => have C : CHr Z EL vm0 h A.U.vm h := CHv.at Y h1 h8 h9.1
      ⟨hp.1, wtrans (s := s.setVm vm0) h1 Y.warmed, hp.2.1, h4, h8, C.1, fun x hx => have q := h12 x (hw x hx); ⟨q.2.1, q.2.2.1, C.safe q.2.2.1 q.2.2.2⟩⟩)
    (fun m meth c A a g mk Y _ hg q => known_frames Y hg (h11 q).1 (h11 q).2)
    (fun _ _ _ _ ⟨v, L, g1, g2, g3, g4, g5, g6⟩ => ⟨L, _, _, g6.1 rfl, rfl, rfl, ⟨v, g1, g2, g3, g4⟩, g5⟩)
    (fun m meth c A a g mk v t L k n Y hp _ _ ⟨e1, e2, ⟨v', e3, e4, e5, e6⟩, e7⟩ => by
      cases e3; subst e1 e2
      exact ⟨L, ⟨e4, e5, e6, (CHv.at Y h1 h8 h9.1).trans e7⟩, rfl, rfl, rfl⟩)
/-- where the walk stands behind a callee that leaves the tables -/
theorem own_afterN {B : Pt} {kc ks : Nat} {L : List Loc} (I : own_I w kf EL s m below Z a0 own h0 ws h fs vm0 locs k0) (X' : Stand p l e R (s.setVm vm0) m args below meth c B.U B.locs B.cells B.slots) (Kp : Keep h B.U.heap ws') (hw : ∀ x ∈ ws', x ∈ fs) (hL : Fr Z.heap.size L) (e1 : B.locs = locs ++ L) (e2 : B.cells = cells + kc) (e3 : B.slots = slots + ks) :
    own_S w kf EL p l e R s m args below meth c Z a0 own h0 ws B.U B.U.heap fs (cells + kc) (slots + ks) := by
  rw [e1, e2, e3] at X'
  exact ⟨vm0, _, k0, X', rfl, I.keep Kp hw hL⟩
theorem own_afterW {B : Pt} {kc ks : Nat} {L : List Loc} (I : own_I true kf EL s m below Z a0 own h0 ws h fs vm0 locs k0) (X' : Stand p l e R ((s.setVm vm0).setVm B.U.vm) m args below meth c B.U B.locs B.cells B.slots) (S : (s.setVm vm0).Since B.U.vm B.U.heap.size) (C : CHr Z EL vm0 h B.U.vm B.U.heap) (Kp : Keep h B.U.heap ws') (hw : ∀ x ∈ ws', x ∈ fs) (hL : Fr Z.heap.size L) (e1 : B.locs = locs ++ L) (e2 : B.cells = cells + kc) (e3 : B.slots = slots + ks) :
    own_S true kf EL p l e R s m args below meth c Z a0 own h0 ws B.U B.U.heap fs (cells + kc) (slots + ks) := by
  rw [e1, e2, e3] at X'
  exact ⟨B.U.vm, _, _, X', rfl, I.wide rfl C S Kp.1 (Nat.le_refl _) Kp hw hL⟩

/-- invokestatic of a body by its contract -/
theorem own_callS (K : own_S w kf EL p l e R s m args below meth c Z a0 own h0 ws T h fs cells slots) (hx : p.tables.exec = Jvm.exec) (hsz : Ls.size = c.maxLocals)
    (w1 : (Cond.methodLink own index y).before a0 Z = true) (w2 : (Cond.static y).before a0 Z = true) (wz : (Cond.initialized y.cls).before a0 Z = true) (wc : (Cond.code y bytes maxL ret).before a0 Z = true) (hy : y.cls ≠ "java/lang/invoke/MethodHandle" ∧ y.cls ≠ "java/lang/invoke/VarHandle")
    (hM : own_Met w kf EL l Z a0 y bytes maxL ret [] rm argsL.toArray h ws' Q') (hw : ∀ x ∈ ws', x ∈ fs) (hlen : ∀ sig, parseMethodDescriptor y.desc = some sig → argsL.length = sig.parameters.length) (hst : St = argsL.reverse ++ rest) (W : Nat) (hW : (rest.map fun v => v.category).sum ≤ W)
    (hd : decode c.code pc = .ok (.invokestatic index, 3)) (hp : pc + 3 = pc') (hf : rm.frames + 1 ≤ R.frames) (hl : W + (maxL + 11) + rm.locals ≤ R.locals) (hc : cells + rm.cells ≤ R.cells) (hs : slots + rm.slots ≤ R.slots)
    (G : ∀ (v : Option Value) (T' : State) (h' : Heap), own_S w kf EL p l e R s m args below meth c Z a0 own h0 ws T' h' fs (cells + rm.cells) (slots + rm.slots) → Keep h h' ws' → Q' v h' → own_Go p.tables e below P T' (mkF m pc' Ls (v.toList ++ rest))) :
    own_Go p.tables e below P T (mkF m pc Ls St) := by
  subst hp
  obtain ⟨vm0, locs, k0, X, eT, I⟩ := K
  have hZ : Z.Warmed39 (s.setVm vm0).vm := I.1
  cases w with
  | false =>
    obtain ⟨v, vm₁, B, -, X', ⟨L, ⟨q1, q2, q3⟩, e1, e2, e3⟩, st⟩ := Jvm.LawKit.callS X hx (y := y) I.2.1 (mvT hZ w1) (mvT hZ w2) (mvT hZ wz) (mvT hZ wc) hy (own_backN (len := 3) (W := W) hM I hw wc wz hf hl) (g := mkF m pc Ls St) rfl hsz (argsL := argsL) (rest := rest) hlen hst (by show 2 * 0 + _ ≤ _; omega) hd (fun _ _ => ⟨rfl, eT, hc, hs⟩)
    exact own_by st (G v B.U _ (own_afterN I X' q2 hw q3 e1 e2 e3) q2 q1)
  | true =>
    obtain ⟨v, vm₁, B, -, X', hS, hgr, ⟨L, ⟨q1, q2, q3, q4⟩, e1, e2, e3⟩, st⟩ := callSS X hx (y := y) I.2.1 (mvT hZ w1) (mvT hZ w2) (mvT hZ wz) (mvT hZ wc) hy (own_backW (len := 3) (W := W) hM I hw wc wz hf hl) (g := mkF m pc Ls St) rfl hsz (argsL := argsL) (rest := rest) hlen hst (by show 2 * 0 + _ ≤ _; omega) hd (fun _ _ => ⟨rfl, eT, hc, hs⟩)
    exact own_on st (G v B.U _ (own_afterW I X' hS q4 q2 hw q3 e1 e2 e3) q2 q1)
/-- a constructor by its contract -/
theorem own_callSp {a : Addr} (K : own_S w kf EL p l e R s m args below meth c Z a0 own h0 ws T h fs cells slots) (hx : p.tables.exec = Jvm.exec) (hsz : Ls.size = c.maxLocals) (hy1 : y.name = "<init>")
    (w1 : (Cond.methodLink own index y).before a0 Z = true) (w2 : (Cond.instanceMethod y).before a0 Z = true) (wz : (Cond.initialized y.cls).before a0 Z = true) (wc : (Cond.code y bytes maxL none).before a0 Z = true) (hy : y.cls ≠ "java/lang/invoke/MethodHandle" ∧ y.cls ≠ "java/lang/invoke/VarHandle")
    (hM : own_Met w kf EL l Z a0 y bytes maxL none [] rm (.ref a :: argsL).toArray h ws' Q') (hw : ∀ x ∈ ws', x ∈ fs) (hlen : ∀ sig, parseMethodDescriptor y.desc = some sig → argsL.length = sig.parameters.length) (hst : St = argsL.reverse ++ .ref a :: rest) (W : Nat) (hW : (rest.map fun v => v.category).sum ≤ W)
    (hd : decode c.code pc = .ok (.invokespecial index, 3)) (hp : pc + 3 = pc') (hf : rm.frames + 1 ≤ R.frames) (hl : W + (maxL + 11) + rm.locals ≤ R.locals) (hc : cells + rm.cells ≤ R.cells) (hs : slots + rm.slots ≤ R.slots)
    (G : ∀ (v : Option Value) (T' : State) (h' : Heap), own_S w kf EL p l e R s m args below meth c Z a0 own h0 ws T' h' fs (cells + rm.cells) (slots + rm.slots) → Keep h h' ws' → Q' v h' → own_Go p.tables e below P T' (mkF m pc' Ls (v.toList ++ rest))) :
    own_Go p.tables e below P T (mkF m pc Ls St) := by
  subst hp
  obtain ⟨vm0, locs, k0, X, eT, I⟩ := K
  have hZ : Z.Warmed39 (s.setVm vm0).vm := I.1
  cases w with
  | false =>
    obtain ⟨v, vm₁, B, -, X', ⟨L, ⟨q1, q2, q3⟩, e1, e2, e3⟩, st⟩ := X.specialBack hx (y := y) hy1 I.2.1 (mvT hZ w1) (mvT hZ w2) (mvT hZ wc) hy (own_backN (len := 3) (W := W) hM I hw wc wz hf hl) (g := mkF m pc Ls St) rfl hsz (Steps.refl _) (a := a) (argsL := argsL) (rest := rest) hlen hst (by show 2 * 0 + _ ≤ _; omega) hd (fun _ _ => ⟨rfl, eT, hc, hs⟩)
    exact own_on st (G v B.U _ (own_afterN I X' q2 hw q3 e1 e2 e3) q2 q1)
  | true =>
    obtain ⟨v, vm₁, B, -, X', hS, hgr, ⟨L, ⟨q1, q2, q3, q4⟩, e1, e2, e3⟩, st⟩ := X.specialBackS hx (y := y) hy1 I.2.1 (mvT hZ w1) (mvT hZ w2) (mvT hZ wc) hy (own_backW (len := 3) (W := W) hM I hw wc wz hf hl) (g := mkF m pc Ls St) rfl hsz (Steps.refl _) (a := a) (argsL := argsL) (rest := rest) hlen hst (by show 2 * 0 + _ ≤ _; omega) hd (fun _ _ => ⟨rfl, eT, hc, hs⟩)
    exact own_on st (G v B.U _ (own_afterW I X' hS q4 q2 hw q3 e1 e2 e3) q2 q1)
/-- invokevirtual by the contract of the body that the receiver's class selects -/
theorem own_callV {C : String} {b : Addr} (K : own_S w kf EL p l e R s m args below meth c Z a0 own h0 ws T h fs cells slots) (hx : p.tables.exec = Jvm.exec) (hsz : Ls.size = c.maxLocals)
    (w1 : (Cond.methodLink own index y).before a0 Z = true) (w2 : (Cond.declares y).before a0 Z = true) (hnf : ∀ U : State, Z.Warmed39 U.vm → NotFace U y) (w3 : (Cond.selects C y z).before a0 Z = true) (w4 : (Cond.instanceMethod z).before a0 Z = true) (wz : (Cond.initialized z.cls).before a0 Z = true) (wc : (Cond.code z bytes maxL ret).before a0 Z = true) (hy : y.cls ≠ "java/lang/invoke/MethodHandle" ∧ y.cls ≠ "java/lang/invoke/VarHandle") (E : Exa Z h b C)
    (hM : own_Met w kf EL l Z a0 z bytes maxL ret [] rm (.ref b :: argsL).toArray h ws' Q') (hw : ∀ x ∈ ws', x ∈ fs) (hlen : ∀ sig, parseMethodDescriptor y.desc = some sig → argsL.length = sig.parameters.length) (hst : St = argsL.reverse ++ .ref b :: rest) (W : Nat) (hW : (rest.map fun v => v.category).sum ≤ W)
    (hd : decode c.code pc = .ok (.invokevirtual index, 3)) (hp : pc + 3 = pc') (hf : rm.frames + 1 ≤ R.frames) (hl : W + (maxL + 11) + rm.locals ≤ R.locals) (hc : cells + rm.cells ≤ R.cells) (hs : slots + rm.slots ≤ R.slots)
    (G : ∀ (v : Option Value) (T' : State) (h' : Heap), own_S w kf EL p l e R s m args below meth c Z a0 own h0 ws T' h' fs (cells + rm.cells) (slots + rm.slots) → Keep h h' ws' → Q' v h' → own_Go p.tables e below P T' (mkF m pc' Ls (v.toList ++ rest))) :
    own_Go p.tables e below P T (mkF m pc Ls St) := by
  subst hp
  obtain ⟨vm0, locs, k0, X, eT, I⟩ := K
  have hZ : Z.Warmed39 (s.setVm vm0).vm := I.1
  obtain ⟨cB, kB, b1, b2, b3⟩ := isOf hZ eT E
  cases w with
  | false =>
    obtain ⟨v, vm₁, B, -, X', ⟨L, ⟨q1, q2, q3⟩, e1, e2, e3⟩, st⟩ := X.virtualBack hx (y := y) (z := z) I.2.1 (mvT hZ w1) (mvT hZ w2) (hnf _ hZ) (mvT hZ w3) (mvT hZ w4) hy (own_backN (len := 3) (W := W) hM I hw wc wz hf hl) b1 b3 (g := mkF m pc Ls St) rfl hsz (Steps.refl _) (argsL := argsL) (rest := rest) hlen hst (by show 2 * 0 + _ ≤ _; omega) hd (fun _ _ => ⟨rfl, eT, hc, hs⟩)
    exact own_on st (G v B.U _ (own_afterN I X' q2 hw q3 e1 e2 e3) q2 q1)
  | true =>
    obtain ⟨v, vm₁, B, -, X', hS, hgr, ⟨L, ⟨q1, q2, q3, q4⟩, e1, e2, e3⟩, st⟩ := X.virtualBackS hx (y := y) (z := z) I.2.1 (mvT hZ w1) (mvT hZ w2) (hnf _ hZ) (mvT hZ w3) (mvT hZ w4) hy (own_backW (len := 3) (W := W) hM I hw wc wz hf hl) b1 b3 (g := mkF m pc Ls St) rfl hsz (Steps.refl _) (argsL := argsL) (rest := rest) hlen hst (by show 2 * 0 + _ ≤ _; omega) hd (fun _ _ => ⟨rfl, eT, hc, hs⟩)
    exact own_on st (G v B.U _ (own_afterW I X' hS q4 q2 hw q3 e1 e2 e3) q2 q1)
/-- invokevirtual where the entry names a class beneath the declaring one -/
theorem own_callVU {C owner : String} {b : Addr} (K : own_S w kf EL p l e R s m args below meth c Z a0 own h0 ws T h fs cells slots) (hx : p.tables.exec = Jvm.exec) (hsz : Ls.size = c.maxLocals)
    (w1 : (Cond.methodLink own index y).before a0 Z = true) (wsm : (Cond.sameMethod y.cls owner y.name y.desc).before a0 Z = true) (w2 : (Cond.declares ⟨owner, y.name, y.desc⟩).before a0 Z = true) (w3 : (Cond.selects C y z).before a0 Z = true) (w4 : (Cond.instanceMethod z).before a0 Z = true) (wz : (Cond.initialized z.cls).before a0 Z = true) (wc : (Cond.code z bytes maxL ret).before a0 Z = true) (hy : owner ≠ "java/lang/invoke/MethodHandle" ∧ owner ≠ "java/lang/invoke/VarHandle") (E : Exa Z h b C)
    (hM : own_Met w kf EL l Z a0 z bytes maxL ret [] rm (.ref b :: argsL).toArray h ws' Q') (hw : ∀ x ∈ ws', x ∈ fs) (hlen : ∀ sig, parseMethodDescriptor y.desc = some sig → argsL.length = sig.parameters.length) (hst : St = argsL.reverse ++ .ref b :: rest) (W : Nat) (hW : (rest.map fun v => v.category).sum ≤ W)
    (hd : decode c.code pc = .ok (.invokevirtual index, 3)) (hp : pc + 3 = pc') (hf : rm.frames + 1 ≤ R.frames) (hl : W + (maxL + 11) + rm.locals ≤ R.locals) (hc : cells + rm.cells ≤ R.cells) (hs : slots + rm.slots ≤ R.slots)
    (G : ∀ (v : Option Value) (T' : State) (h' : Heap), own_S w kf EL p l e R s m args below meth c Z a0 own h0 ws T' h' fs (cells + rm.cells) (slots + rm.slots) → Keep h h' ws' → Q' v h' → own_Go p.tables e below P T' (mkF m pc' Ls (v.toList ++ rest))) :
    own_Go p.tables e below P T (mkF m pc Ls St) := by
  subst hp
  obtain ⟨vm0, locs, k0, X, eT, I⟩ := K
  have hZ : Z.Warmed39 (s.setVm vm0).vm := I.1
  obtain ⟨cB, kB, b1, b2, b3⟩ := isOf hZ eT E
  cases w with
  | false =>
    obtain ⟨v, vm₁, B, -, X', ⟨L, ⟨q1, q2, q3⟩, e1, e2, e3⟩, st⟩ := X.virtualBackUp hx (x := y) (y := z) I.2.1 (mvT hZ w1) (mvT hZ wsm) (mvT hZ w2) hy (mvT hZ w3) (mvT hZ w4) (own_backN (len := 3) (W := W) hM I hw wc wz hf hl) b1 b3 (g := mkF m pc Ls St) rfl hsz (Steps.refl _) (argsL := argsL) (rest := rest) hlen hst (by show 2 * 0 + _ ≤ _; omega) hd (fun _ _ => ⟨rfl, eT, hc, hs⟩)
    exact own_on st (G v B.U _ (own_afterN I X' q2 hw q3 e1 e2 e3) q2 q1)
  | true =>
    obtain ⟨v, vm₁, B, -, X', hS, hgr, ⟨L, ⟨q1, q2, q3, q4⟩, e1, e2, e3⟩, st⟩ := virtualBackUpS X hx (x := y) (y := z) I.2.1 (mvT hZ w1) (mvT hZ wsm) (mvT hZ w2) hy (mvT hZ w3) (mvT hZ w4) (own_backW (len := 3) (W := W) hM I hw wc wz hf hl) b1 b3 (g := mkF m pc Ls St) rfl hsz (Steps.refl _) (argsL := argsL) (rest := rest) hlen hst (by show 2 * 0 + _ ≤ _; omega) hd (fun _ _ => ⟨rfl, eT, hc, hs⟩)
    exact own_on st (G v B.U _ (own_afterW I X' hS q4 q2 hw q3 e1 e2 e3) q2 q1)
/-- a static JDK member by a law of its own -/
theorem own_byS {kc ks : Nat} {QL : Option Value → Heap → List Loc → Prop} (K : own_S w kf EL p l e R s m args below meth c Z a0 own h0 ws T h fs cells slots) (hx : p.tables.exec = Jvm.exec) (hsz : Ls.size = c.maxLocals)
    (w1 : (Cond.methodLink own index y).before a0 Z = true) (w2 : (Cond.static y).before a0 Z = true) (wz : (Cond.initialized y.cls).before a0 Z = true) (wc : (Cond.code y bytes maxL ret).before a0 Z = true) (hy : y.cls ≠ "java/lang/invoke/MethodHandle" ∧ y.cls ≠ "java/lang/invoke/VarHandle")
    (hB : ∀ vm0 : Vm, Z.Warmed39 (s.setVm vm0).vm → own_BackF l R p e below (s.setVm vm0) args y 3 W argsL.toArray h kc ks QL) (hQ : ∀ v h' L, QL v h' L → Keep h h' ws' ∧ Fr Z.heap.size L) (hw : ∀ x ∈ ws', x ∈ fs) (hlen : ∀ sig, parseMethodDescriptor y.desc = some sig → argsL.length = sig.parameters.length) (hst : St = argsL.reverse ++ rest) (hW : (rest.map fun v => v.category).sum ≤ W)
    (hd : decode c.code pc = .ok (.invokestatic index, 3)) (hp : pc + 3 = pc') (hc : cells + kc ≤ R.cells) (hs : slots + ks ≤ R.slots)
    (G : ∀ (v : Option Value) (T' : State) (h' : Heap) (L : List Loc), own_S w kf EL p l e R s m args below meth c Z a0 own h0 ws T' h' fs (cells + kc) (slots + ks) → Keep h h' ws' → QL v h' L → own_Go p.tables e below P T' (mkF m pc' Ls (v.toList ++ rest))) :
    own_Go p.tables e below P T (mkF m pc Ls St) := by
  subst hp
  obtain ⟨vm0, locs, k0, X, eT, I⟩ := K
  have hZ : Z.Warmed39 (s.setVm vm0).vm := I.1
  obtain ⟨v, vm₁, B, -, X', ⟨L, q1, e1, e2, e3⟩, st⟩ := Jvm.LawKit.callS X hx (y := y) I.2.1 (mvT hZ w1) (mvT hZ w2) (mvT hZ wz) (mvT hZ wc) hy (hB vm0 hZ) (g := mkF m pc Ls St) rfl hsz (argsL := argsL) (rest := rest) hlen hst (by show 2 * 0 + _ ≤ _; omega) hd (fun _ _ => ⟨rfl, eT, hc, hs⟩)
  obtain ⟨q2, q3⟩ := hQ _ _ _ q1
  exact own_by st (G v B.U _ L (own_afterN I X' q2 hw q3 e1 e2 e3) q2 q1)
/-- a constructor of the JDK by a law of its own -/
theorem own_bySp {a : Addr} {kc ks : Nat} {QL : Option Value → Heap → List Loc → Prop} (K : own_S w kf EL p l e R s m args below meth c Z a0 own h0 ws T h fs cells slots) (hx : p.tables.exec = Jvm.exec) (hsz : Ls.size = c.maxLocals) (hy1 : y.name = "<init>")
    (w1 : (Cond.methodLink own index y).before a0 Z = true) (w2 : (Cond.instanceMethod y).before a0 Z = true) (wc : (Cond.code y bytes maxL none).before a0 Z = true) (hy : y.cls ≠ "java/lang/invoke/MethodHandle" ∧ y.cls ≠ "java/lang/invoke/VarHandle")
    (hB : ∀ vm0 : Vm, Z.Warmed39 (s.setVm vm0).vm → own_BackF l R p e below (s.setVm vm0) args y 3 W (.ref a :: argsL).toArray h kc ks QL) (hQ : ∀ v h' L, QL v h' L → Keep h h' ws' ∧ Fr Z.heap.size L) (hw : ∀ x ∈ ws', x ∈ fs) (hlen : ∀ sig, parseMethodDescriptor y.desc = some sig → argsL.length = sig.parameters.length) (hst : St = argsL.reverse ++ .ref a :: rest) (hW : (rest.map fun v => v.category).sum ≤ W)
    (hd : decode c.code pc = .ok (.invokespecial index, 3)) (hp : pc + 3 = pc') (hc : cells + kc ≤ R.cells) (hs : slots + ks ≤ R.slots)
    (G : ∀ (v : Option Value) (T' : State) (h' : Heap) (L : List Loc), own_S w kf EL p l e R s m args below meth c Z a0 own h0 ws T' h' fs (cells + kc) (slots + ks) → Keep h h' ws' → QL v h' L → own_Go p.tables e below P T' (mkF m pc' Ls (v.toList ++ rest))) :
    own_Go p.tables e below P T (mkF m pc Ls St) := by
  subst hp
  obtain ⟨vm0, locs, k0, X, eT, I⟩ := K
  have hZ : Z.Warmed39 (s.setVm vm0).vm := I.1
  obtain ⟨v, vm₁, B, -, X', ⟨L, q1, e1, e2, e3⟩, st⟩ := X.specialBack hx (y := y) hy1 I.2.1 (mvT hZ w1) (mvT hZ w2) (mvT hZ wc) hy (hB vm0 hZ) (g := mkF m pc Ls St) rfl hsz (Steps.refl _) (a := a) (argsL := argsL) (rest := rest) hlen hst (by show 2 * 0 + _ ≤ _; omega) hd (fun _ _ => ⟨rfl, eT, hc, hs⟩)
  obtain ⟨q2, q3⟩ := hQ _ _ _ q1
  exact own_on st (G v B.U _ L (own_afterN I X' q2 hw q3 e1 e2 e3) q2 q1)
/-- an instance method of the JDK by a law of its own -/
theorem own_byV {C : String} {b : Addr} {kc ks : Nat} {QL : Option Value → Heap → List Loc → Prop} (K : own_S w kf EL p l e R s m args below meth c Z a0 own h0 ws T h fs cells slots) (hx : p.tables.exec = Jvm.exec) (hsz : Ls.size = c.maxLocals)
    (w1 : (Cond.methodLink own index y).before a0 Z = true) (w2 : (Cond.declares y).before a0 Z = true) (hnf : ∀ U : State, Z.Warmed39 U.vm → NotFace U y) (w3 : (Cond.selects C y z).before a0 Z = true) (w4 : (Cond.instanceMethod z).before a0 Z = true) (hy : y.cls ≠ "java/lang/invoke/MethodHandle" ∧ y.cls ≠ "java/lang/invoke/VarHandle") (E : Exa Z h b C)
    (hB : ∀ vm0 : Vm, Z.Warmed39 (s.setVm vm0).vm → own_BackF l R p e below (s.setVm vm0) args z 3 W (.ref b :: argsL).toArray h kc ks QL) (hQ : ∀ v h' L, QL v h' L → Keep h h' ws' ∧ Fr Z.heap.size L) (hw : ∀ x ∈ ws', x ∈ fs) (hlen : ∀ sig, parseMethodDescriptor y.desc = some sig → argsL.length = sig.parameters.length) (hst : St = argsL.reverse ++ .ref b :: rest) (hW : (rest.map fun v => v.category).sum ≤ W)
    (hd : decode c.code pc = .ok (.invokevirtual index, 3)) (hp : pc + 3 = pc') (hc : cells + kc ≤ R.cells) (hs : slots + ks ≤ R.slots)
    (G : ∀ (v : Option Value) (T' : State) (h' : Heap) (L : List Loc), own_S w kf EL p l e R s m args below meth c Z a0 own h0 ws T' h' fs (cells + kc) (slots + ks) → Keep h h' ws' → QL v h' L → own_Go p.tables e below P T' (mkF m pc' Ls (v.toList ++ rest))) :
    own_Go p.tables e below P T (mkF m pc Ls St) := by
  subst hp
  obtain ⟨vm0, locs, k0, X, eT, I⟩ := K
  have hZ : Z.Warmed39 (s.setVm vm0).vm := I.1
  obtain ⟨cB, kB, b1, b2, b3⟩ := isOf hZ eT E
  obtain ⟨v, vm₁, B, -, X', ⟨L, q1, e1, e2, e3⟩, st⟩ := X.virtualBack hx (y := y) (z := z) I.2.1 (mvT hZ w1) (mvT hZ w2) (hnf _ hZ) (mvT hZ w3) (mvT hZ w4) hy (hB vm0 hZ) b1 b3 (g := mkF m pc Ls St) rfl hsz (Steps.refl _) (argsL := argsL) (rest := rest) hlen hst (by show 2 * 0 + _ ≤ _; omega) hd (fun _ _ => ⟨rfl, eT, hc, hs⟩)
  obtain ⟨q2, q3⟩ := hQ _ _ _ q1
  exact own_on st (G v B.U _ L (own_afterN I X' q2 hw q3 e1 e2 e3) q2 q1)
/-- ldc of a String constant, what it holds unsaid -/
theorem own_ldc {text : String} {n : Nat} (K : own_S true kf EL p l e R s m args below meth c Z a0 own h0 ws T h fs cells slots) (hx : p.tables.exec = Jvm.exec) (w1 : (Cond.stringLink own index text).before a0 Z = true) (wS : ∀ a ∈ Bundle.stringAtoms, a.before a0 Z = true)
    (hd : decode c.code pc = .ok (.ldc index, 2)) (hp : pc + 2 = pc') (hn : 4 * text.toList.length ≤ n) (hbig : n ≤ 536870912) (hc : cells + 2 ≤ R.cells) (hs : slots + (n + 4) ≤ R.slots)
    (G : ∀ (a : Addr) (T' : State) (h' : Heap), own_S true kf EL p l e R s m args below meth c Z a0 own h0 ws T' h' fs (cells + 2) (slots + (n + 4)) → Ext h h' → own_Go p.tables e below P T' (mkF m pc' Ls (.ref a :: St))) : own_Go p.tables e below P T (mkF m pc Ls St) := by
  subst hp
  obtain ⟨vm0, locs, k0, X, eT, I⟩ := K
  obtain ⟨h1, h2, h3, h4, h5, h6, h7, h8, h9, h10, h11, hst0, h12⟩ := id I
  obtain ⟨a, T', h', k1, X', e', E, hS, hk, hZ', ho', C, -, st⟩ := ldcOH X hx h1 h2 w1 wS eT (s := s.setVm vm0) (k0 := h.size) ((State.WarmedH.refl (s.setVm vm0)).since _) (Nat.le_refl _) h8 h9.1 (g := mkF m pc Ls St) rfl hd hn hbig hc hs
  have I' := I.wide (L := []) rfl C (k1 := h'.size) ⟨hS.1, fun j q hj hq => ⟨(hS.2 j q hj hq).1, Nat.lt_of_lt_of_le (hS.2 j q hj hq).2 hk⟩⟩ E.1 (Nat.le_refl _) ((Keep.refl h []).ext E) (fun _ q => nomatch q) (Fr.nil _)
  rw [List.append_nil] at I'
  exact own_by st (G a T' h' ⟨T'.vm, locs, _, X', e', I'⟩ E)
/-- ldc of a String constant of EL, read -/
theorem own_ldcR {text : String} {n : Nat} {vs : List Value} {zn : Int32} (K : own_S true kf EL p l e R s m args below meth c Z a0 own h0 ws T h fs cells slots) (hx : p.tables.exec = Jvm.exec) (w1 : (Cond.stringLink own index text).before a0 Z = true) (wS : ∀ a ∈ Bundle.stringAtoms, a.before a0 Z = true) (hmem : (own, index) ∈ EL)
    (ht : (∀ c ∈ text.toList, c.toNat < 256) ∧ text.toList.map (fun c => Value.int (Jvm.Lit.byteI c.toNat.toUInt16)) = vs) (hz : ¬ zn < 0) (hlz : zn.toNatClampNeg = vs.length)
    (hd : decode c.code pc = .ok (.ldc index, 2)) (hp : pc + 2 = pc') (hn : 4 * text.toList.length ≤ n) (hbig : n ≤ 536870912) (hc : cells + 2 ≤ R.cells) (hs : slots + (n + 4) ≤ R.slots)
    (G : ∀ (a : Addr) (T' : State) (h' : Heap) (b : Addr) (k : ClassId), own_S true kf EL p l e R s m args below meth c Z a0 own h0 ws T' h' fs (cells + 2) (slots + (n + 4)) → Ext h h' → Exa Z h' a "java/lang/String" → Fld Z h' a "java/lang/String" "coder" "B" (.int 0) → Fld Z h' a "java/lang/String" "value" "[B" (.ref b) → Arv Z h' b k .byte zn vs (.int 0) → (∀ x ∈ fs, x ≠ a ∧ x ≠ b) →
      own_Go p.tables e below P T' (mkF m pc' Ls (.ref a :: St))) : own_Go p.tables e below P T (mkF m pc Ls St) := by
  subst hp
  obtain ⟨vm0, locs, k0, X, eT, I⟩ := K
  obtain ⟨h1, h2, h3, h4, h5, h6, h7, h8, h9, h10, h11, hst0, h12⟩ := id I
  obtain ⟨a, T', h', k1, b, k, X', e', E, hS, hk, hZ', ho', Ex, Fc, Fv, Ar, -, -, C, -, hne, st⟩ := ldcCH X hx h1 h2 w1 wS eT (s := s.setVm vm0) (k0 := h.size) ((State.WarmedH.refl (s.setVm vm0)).since _) (Nat.le_refl _) h8 hmem h9.1 ht hz hlz (g := mkF m pc Ls St) rfl hd hn hbig hc hs
  have I' := I.wide (L := []) rfl C (k1 := h'.size) ⟨hS.1, fun j q hj hq => ⟨(hS.2 j q hj hq).1, Nat.lt_of_lt_of_le (hS.2 j q hj hq).2 hk⟩⟩ E.1 (Nat.le_refl _) ((Keep.refl h []).ext E) (fun _ q => nomatch q) (Fr.nil _)
  rw [List.append_nil] at I'
  have h12' : ∀ x ∈ fs, x ≠ a ∧ x ≠ b := fun x hx => hne x (C.safe (h12 x hx).2.2.1 (h12 x hx).2.2.2)
  exact own_by st (G a T' h' b k ⟨T'.vm, locs, _, X', e', I'⟩ E Ex Fc Fv Ar h12')
end OwnCalls
theorem own_sa {Z : State} {a0 : Array Value} (hw : ∀ d ∈ tables_1, d.before a0 Z = true) : ∀ a ∈ Bundle.stringAtoms, a.before a0 Z = true := fun d hd => hw d ((by decide +kernel : ∀ d ∈ Bundle.stringAtoms, d ∈ tables_1) d hd)
theorem own_c255 (x : Int32) : ¬ ((x &&& (255 : Int32)).toUInt32.toUInt16.toUInt32.toInt32) < 0 ∧ ¬ (255 : Int32) < ((x &&& (255 : Int32)).toUInt32.toUInt16.toUInt32.toInt32) := by
  rw [i2c_mask]
  have h : (x &&& 255).toBitVec.toNat < 256 := by
    simp only [Int32.toBitVec_and, BitVec.toNat_and]
    exact Nat.lt_succ_of_le Nat.and_le_right
  have t : ∀ k : Fin 256, ¬ (Int32.ofNat k.val) < 0 ∧ ¬ (255 : Int32) < (Int32.ofNat k.val) := by decide +kernel
  have e : (x &&& 255) = Int32.ofNat (x &&& 255).toBitVec.toNat := by
    apply Int32.toBitVec_inj.mp
    show _ = BitVec.ofNat 32 _
    rw [BitVec.ofNat_toNat]; simp
  rw [e]
  exact t ⟨_, h⟩
theorem own_n255 (x : Int32) : nar .char ((x &&& (255 : Int32)).toUInt32.toUInt16.toUInt32.toInt32) = ((x &&& (255 : Int32)).toUInt32.toUInt16.toUInt32.toInt32) := by simp only [nar, UInt32.toUInt32_toInt32, UInt16.toUInt16_toUInt32]
theorem own_and3 (x : Int32) : (x &&& 3) = 0 ∨ (x &&& 3) = 1 ∨ (x &&& 3) = 2 ∨ (x &&& 3) = 3 := by
  have t : ∀ k : Fin 4, (Int32.ofNat k.val) = 0 ∨ (Int32.ofNat k.val) = 1 ∨ (Int32.ofNat k.val) = 2 ∨ (Int32.ofNat k.val) = 3 := by decide +kernel
  have h : (x &&& 3).toBitVec.toNat < 4 := by
    simp only [Int32.toBitVec_and, BitVec.toNat_and]
    exact Nat.lt_succ_of_le Nat.and_le_right
  have e : (x &&& 3) = Int32.ofNat (x &&& 3).toBitVec.toNat := by
    apply Int32.toBitVec_inj.mp
    show _ = BitVec.ofNat 32 _
    rw [BitVec.ofNat_toNat]; simp
  rw [e]
  exact t ⟨_, h⟩
def own_kind (k : Int32) (e0 e1 e2 e3 : Addr) : Addr := if k = 0 then e0 else if k = 1 then e1 else if k = 2 then e2 else e3
theorem own_k0 (k : Int32) {e0 e1 e2 e3 : Addr} (n01 : e0 ≠ e1) (n02 : e0 ≠ e2) (n03 : e0 ≠ e3) (n12 : e1 ≠ e2) (n13 : e1 ≠ e3) (n23 : e2 ≠ e3) : (if own_kind (k &&& 3) e0 e1 e2 e3 = e0 then (1 : Int32) else 0) = if (k &&& 3) = 0 then 1 else 0 := by
  have q := own_and3 k
  unfold own_kind
  rcases q with q | q | q | q <;> rw [q] <;> simp [n01, n02, n03, n12, n13, n23, n01.symm, n02.symm, n03.symm, n12.symm, n13.symm, n23.symm]
theorem own_k1 (k : Int32) {e0 e1 e2 e3 : Addr} (n01 : e0 ≠ e1) (n02 : e0 ≠ e2) (n03 : e0 ≠ e3) (n12 : e1 ≠ e2) (n13 : e1 ≠ e3) (n23 : e2 ≠ e3) : (if own_kind (k &&& 3) e0 e1 e2 e3 = e1 then (1 : Int32) else 0) = if (k &&& 3) = 1 then 1 else 0 := by
  have q := own_and3 k
  unfold own_kind
  rcases q with q | q | q | q <;> rw [q] <;> simp [n01, n02, n03, n12, n13, n23, n01.symm, n02.symm, n03.symm, n12.symm, n13.symm, n23.symm]
theorem own_k2 (k : Int32) {e0 e1 e2 e3 : Addr} (n01 : e0 ≠ e1) (n02 : e0 ≠ e2) (n03 : e0 ≠ e3) (n12 : e1 ≠ e2) (n13 : e1 ≠ e3) (n23 : e2 ≠ e3) : (if own_kind (k &&& 3) e0 e1 e2 e3 = e2 then (1 : Int32) else 0) = if (k &&& 3) = 2 then 1 else 0 := by
  have q := own_and3 k
  unfold own_kind
  rcases q with q | q | q | q <;> rw [q] <;> simp [n01, n02, n03, n12, n13, n23, n01.symm, n02.symm, n03.symm, n12.symm, n13.symm, n23.symm]
theorem own_k3 (k : Int32) {e0 e1 e2 e3 : Addr} (n01 : e0 ≠ e1) (n02 : e0 ≠ e2) (n03 : e0 ≠ e3) (n12 : e1 ≠ e2) (n13 : e1 ≠ e3) (n23 : e2 ≠ e3) : (if own_kind (k &&& 3) e0 e1 e2 e3 = e3 then (1 : Int32) else 0) = if (k &&& 3) = 3 then 1 else 0 := by
  have q := own_and3 k
  unfold own_kind
  rcases q with q | q | q | q <;> rw [q] <;> simp [n01, n02, n03, n12, n13, n23, n01.symm, n02.symm, n03.symm, n12.symm, n13.symm, n23.symm]
theorem d_method_2_0 : decode method_2_code 0 = .ok (.iload_n 0, 1) := by decide +kernel
theorem d_method_2_1 : decode method_2_code 1 = .ok (.ifCond .ne 7, 3) := by decide +kernel
theorem d_method_2_8 : decode method_2_code 8 = .ok (.iload_n 0, 1) := by decide +kernel
theorem d_method_2_9 : decode method_2_code 9 = .ok (.iconst 1, 1) := by decide +kernel
theorem d_method_2_10 : decode method_2_code 10 = .ok (.if_icmp .ne 7, 3) := by decide +kernel
theorem d_method_2_17 : decode method_2_code 17 = .ok (.iload_n 0, 1) := by decide +kernel
theorem d_method_2_18 : decode method_2_code 18 = .ok (.iconst 2, 1) := by decide +kernel
theorem d_method_2_19 : decode method_2_code 19 = .ok (.if_icmp .ne 7, 3) := by decide +kernel
theorem d_method_2_26 : decode method_2_code 26 = .ok (.getstatic 19, 3) := by decide +kernel
theorem d_method_2_29 : decode method_2_code 29 = .ok (.areturn, 1) := by decide +kernel
theorem d_method_2_22 : decode method_2_code 22 = .ok (.getstatic 16, 3) := by decide +kernel
theorem d_method_2_25 : decode method_2_code 25 = .ok (.areturn, 1) := by decide +kernel
theorem d_method_2_13 : decode method_2_code 13 = .ok (.getstatic 13, 3) := by decide +kernel
theorem d_method_2_16 : decode method_2_code 16 = .ok (.areturn, 1) := by decide +kernel
theorem d_method_2_4 : decode method_2_code 4 = .ok (.getstatic 7, 3) := by decide +kernel
theorem d_method_2_7 : decode method_2_code 7 = .ok (.areturn, 1) := by decide +kernel
theorem ef_rm_kind (m : MethodId) (p1 : Int32)  : entryFrame m #[(.int p1)] 1 = mkF m 0 #[.val (.int p1)] [] := by  first | (simp [entryFrame, mkF, argsToLocals, Value.category]; done) | rfl
theorem pn_0 : plainName "com/example/mannered_forms/manneredforms/ScalarIsNullPinLaw" = true := by first | (simp [plainName, overriddenIn]; done) | decide +kernel
set_option maxRecDepth 65536 in
set_option maxHeartbeats 40000000 in
theorem rm_kind (l : Launch) (Z : State) (a0 : Array Value) (hw : ∀ d ∈ tables_1, d.before a0 Z = true) (more : List Jvm.Cond) (h0 : Heap) (p1 : Int32) (e0 e1 e2 e3 : Addr) (S_STRING : Sta Z Z.heap "com/example/mannered_forms/manneredforms/JsonValue$Scalar$Kind" "STRING" "Lcom/example/mannered_forms/manneredforms/JsonValue$Scalar$Kind;" (.ref e0)) (S_NUMBER : Sta Z Z.heap "com/example/mannered_forms/manneredforms/JsonValue$Scalar$Kind" "NUMBER" "Lcom/example/mannered_forms/manneredforms/JsonValue$Scalar$Kind;" (.ref e1)) (S_BOOLEAN : Sta Z Z.heap "com/example/mannered_forms/manneredforms/JsonValue$Scalar$Kind" "BOOLEAN" "Lcom/example/mannered_forms/manneredforms/JsonValue$Scalar$Kind;" (.ref e2)) (S_NULL : Sta Z Z.heap "com/example/mannered_forms/manneredforms/JsonValue$Scalar$Kind" "NULL" "Lcom/example/mannered_forms/manneredforms/JsonValue$Scalar$Kind;" (.ref e3)) :
    own_Met true false consts_1 l Z a0 (⟨"com/example/mannered_forms/manneredforms/ScalarIsNullPinLaw", "kindOf", "(I)Lcom/example/mannered_forms/manneredforms/JsonValue$Scalar$Kind;"⟩ : MethodName) method_2_code 1 (some (.object "com/example/mannered_forms/manneredforms/JsonValue$Scalar$Kind")) more ({ frames := 0, cells := 0, slots := 0, locals := 0 } : Room) #[(.int p1)] h0 [] (fun v h => v = some (.ref (own_kind p1 e0 e1 e2 e3)) ∧ h = h0) := by
  refine own_enter (own := "com/example/mannered_forms/manneredforms/ScalarIsNullPinLaw") rfl (plainFor_of_name pn_0) ?_
  intro p e s m below meth c T hx hby hml hret hlk hnm K
  rw [ef_rm_kind m p1]
  have A := own_here K
  refine own_iloadN A hx (pc' := 1) (hb hby d_method_2_0) rfl rfl ?_
  refine own_if_ne A hx 8 4 (hb hby d_method_2_1) (by decide) (by decide) rfl (fun hc1 => ?_) (fun hc1 => ?_)
  · refine own_iloadN A hx (pc' := 9) (hb hby d_method_2_8) rfl rfl ?_
    refine own_iconst A hx (pc' := 10) (hb hby d_method_2_9) (z := (1 : Int32)) (by decide) rfl ?_
    refine own_icmp_ne A hx 17 13 (hb hby d_method_2_10) (by decide) (by decide) rfl (fun hc10 => ?_) (fun hc10 => ?_)
    · refine own_iloadN A hx (pc' := 18) (hb hby d_method_2_17) rfl rfl ?_
      refine own_iconst A hx (pc' := 19) (hb hby d_method_2_18) (z := (2 : Int32)) (by decide) rfl ?_
      refine own_icmp_ne A hx 26 22 (hb hby d_method_2_19) (by decide) (by decide) rfl (fun hc19 => ?_) (fun hc19 => ?_)
      · refine own_getS K hx (host := "") (Or.inl (hw _ (List.mem_of_getElem? (i := 64) rfl))) Via.refl S_NULL (hb hby d_method_2_26) (pc' := 29) rfl ?_
        intro T1 K1
        have A1 := own_here K1
        exact own_retR K1 hx hlk hret rfl rfl (hb hby d_method_2_29) (by decide) (by decide) ⟨by rw [own_kind, if_neg hc1, if_neg hc10, if_neg hc19], rfl⟩
      · refine own_getS K hx (host := "") (Or.inl (hw _ (List.mem_of_getElem? (i := 65) rfl))) Via.refl S_BOOLEAN (hb hby d_method_2_22) (pc' := 25) rfl ?_
        intro T2 K2
        have A2 := own_here K2
        exact own_retR K2 hx hlk hret rfl rfl (hb hby d_method_2_25) (by decide) (by decide) ⟨by rw [own_kind, if_neg hc1, if_neg hc10, if_pos hc19], rfl⟩
    · refine own_getS K hx (host := "") (Or.inl (hw _ (List.mem_of_getElem? (i := 43) rfl))) Via.refl S_NUMBER (hb hby d_method_2_13) (pc' := 16) rfl ?_
      intro T3 K3
      have A3 := own_here K3
      exact own_retR K3 hx hlk hret rfl rfl (hb hby d_method_2_16) (by decide) (by decide) ⟨by rw [own_kind, if_neg hc1, if_pos hc10], rfl⟩
  · refine own_getS K hx (host := "") (Or.inl (hw _ (List.mem_of_getElem? (i := 4) rfl))) Via.refl S_STRING (hb hby d_method_2_4) (pc' := 7) rfl ?_
    intro T4 K4
    have A4 := own_here K4
    exact own_retR K4 hx hlk hret rfl rfl (hb hby d_method_2_7) (by decide) (by decide) ⟨by rw [own_kind, if_pos hc1], rfl⟩
theorem d_jdk_43_method_3_0 : decode jdk_43_method_3_code 0 = .ok (.iload_n 0, 1) := by decide +kernel
theorem d_jdk_43_method_3_1 : decode jdk_43_method_3_code 1 = .ok (.sipush 255, 3) := by decide +kernel
theorem d_jdk_43_method_3_4 : decode jdk_43_method_3_code 4 = .ok (.if_icmp .gt 7, 3) := by decide +kernel
theorem d_jdk_43_method_3_7 : decode jdk_43_method_3_code 7 = .ok (.iconst 1, 1) := by decide +kernel
theorem d_jdk_43_method_3_8 : decode jdk_43_method_3_code 8 = .ok (.goto 4, 3) := by decide +kernel
theorem d_jdk_43_method_3_12 : decode jdk_43_method_3_code 12 = .ok (.ireturn, 1) := by decide +kernel
theorem ef_rm_can (m : MethodId) (p1 : Int32)  : entryFrame m #[(.int p1)] 1 = mkF m 0 #[.val (.int p1)] [] := by  first | (simp [entryFrame, mkF, argsToLocals, Value.category]; done) | rfl
theorem pn_1 : plainName "java/lang/StringLatin1" = true := by first | (simp [plainName, overriddenIn]; done) | decide +kernel
set_option maxRecDepth 65536 in
set_option maxHeartbeats 40000000 in
theorem rm_can (l : Launch) (Z : State) (a0 : Array Value) (hw : ∀ d ∈ tables_1, d.before a0 Z = true) (more : List Jvm.Cond) (h0 : Heap) (p1 : Int32)  (hle : ¬ (255 : Int32) < p1) :
    own_Met true false consts_1 l Z a0 (⟨"java/lang/StringLatin1", "canEncode", "(C)Z"⟩ : MethodName) jdk_43_method_3_code 1 (some .boolean) more ({ frames := 0, cells := 0, slots := 0, locals := 0 } : Room) #[(.int p1)] h0 [] (fun v h => v = some (.int 1) ∧ h = h0) := by
  refine own_enter (own := "java/lang/StringLatin1") rfl (plainFor_of_name pn_1) ?_
  intro p e s m below meth c T hx hby hml hret hlk hnm K
  rw [ef_rm_can m p1]
  have A := own_here K
  refine own_iloadN A hx (pc' := 1) (hb hby d_jdk_43_method_3_0) rfl rfl ?_
  refine own_sipush A hx (pc' := 4) (hb hby d_jdk_43_method_3_1) (z := (255 : Int32)) (by decide) rfl ?_
  refine own_icmp_gt A hx 11 7 (hb hby d_jdk_43_method_3_4) (by decide) (by decide) rfl (fun hc4 => ?_) (fun hc4 => ?_)
  · exact absurd hc4 hle
  refine own_iconst A hx (pc' := 8) (hb hby d_jdk_43_method_3_7) (z := (1 : Int32)) (by decide) rfl ?_
  refine own_goto A hx 12 (hb hby d_jdk_43_method_3_8) (by decide) (by decide) ?_
  exact own_retN K hx hlk hret (by simp) (hb hby d_jdk_43_method_3_12) (by decide) (by decide) ⟨rfl, rfl⟩
theorem own_i8 (x : Int32) : x.toInt8.toInt32.toInt8.toInt32 = x.toInt8.toInt32 := by rw [Int8.toInt8_toInt32]
theorem d_jdk_43_method_46_0 : decode jdk_43_method_46_code 0 = .ok (.iconst 1, 1) := by decide +kernel
theorem d_jdk_43_method_46_1 : decode jdk_43_method_46_code 1 = .ok (.newarray .byte, 2) := by decide +kernel
theorem d_jdk_43_method_46_3 : decode jdk_43_method_46_code 3 = .ok (.dup, 1) := by decide +kernel
theorem d_jdk_43_method_46_4 : decode jdk_43_method_46_code 4 = .ok (.iconst 0, 1) := by decide +kernel
theorem d_jdk_43_method_46_5 : decode jdk_43_method_46_code 5 = .ok (.iload_n 0, 1) := by decide +kernel
theorem d_jdk_43_method_46_6 : decode jdk_43_method_46_code 6 = .ok (.i2b, 1) := by decide +kernel
theorem d_jdk_43_method_46_7 : decode jdk_43_method_46_code 7 = .ok (.bastore, 1) := by decide +kernel
theorem d_jdk_43_method_46_8 : decode jdk_43_method_46_code 8 = .ok (.areturn, 1) := by decide +kernel
theorem ef_rm_tb (m : MethodId) (p1 : Int32)  : entryFrame m #[(.int p1)] 1 = mkF m 0 #[.val (.int p1)] [] := by  first | (simp [entryFrame, mkF, argsToLocals, Value.category]; done) | rfl
set_option maxRecDepth 65536 in
set_option maxHeartbeats 40000000 in
theorem rm_tb (l : Launch) (Z : State) (a0 : Array Value) (hw : ∀ d ∈ tables_1, d.before a0 Z = true) (more : List Jvm.Cond) (h0 : Heap) (p1 : Int32)   :
    own_Met true false consts_1 l Z a0 (⟨"java/lang/StringLatin1", "toBytes", "(C)[B"⟩ : MethodName) jdk_43_method_46_code 1 (some (.array .byte)) more ({ frames := 0, cells := 1, slots := 1, locals := 0 } : Room) #[(.int p1)] h0 [] (fun v h => ∃ b k, v = some (.ref b) ∧ Arv Z h b k .byte 1 [.int p1.toInt8.toInt32] (.int 0) ∧ h0.size ≤ b) := by
  refine own_enter (own := "java/lang/StringLatin1") rfl (plainFor_of_name pn_1) ?_
  intro p e s m below meth c T hx hby hml hret hlk hnm K
  rw [ef_rm_tb m p1]
  have A := own_here K
  refine own_iconst A hx (pc' := 1) (hb hby d_jdk_43_method_46_0) (z := (1 : Int32)) (by decide) rfl ?_
  refine own_newarr K hx (hw _ (List.mem_of_getElem? (i := 13) rfl)) (hb hby d_jdk_43_method_46_1) (pc' := 3) rfl (by decide) 1 (by decide) (by decide) (by decide) (by decide) ?_
  intro T5 h5 b5 k5 g5 K5 E5 V5
  have A5 := own_here K5
  have V5 : Arv Z h5 b5 k5 .byte (1 : Int32) [(.int (0 : Int32))] (.int (0 : Int32)) := V5.pad (pad_rep [] (.int (0 : Int32)) 1)
  refine own_dup A5 hx (pc' := 4) (hb hby d_jdk_43_method_46_3) rfl rfl ?_
  refine own_iconst A5 hx (pc' := 5) (hb hby d_jdk_43_method_46_4) (z := (0 : Int32)) (by decide) rfl ?_
  refine own_iloadN A5 hx (pc' := 6) (hb hby d_jdk_43_method_46_5) rfl rfl ?_
  refine own_i2b A5 hx (pc' := 7) (hb hby d_jdk_43_method_46_6) (z := (p1.toInt8.toInt32)) rfl rfl ?_
  refine own_stB K5 hx V5 (List.mem_of_getElem? (i := 0) rfl) (by decide) 0 rfl (Nat.le_of_ble_eq_true rfl) (hb hby d_jdk_43_method_46_7) (pc' := 8) rfl ?_
  intro T6 h6 K6 W6 V6
  have A6 := own_here K6
  rw [own_i8] at V6
  exact own_retR K6 hx hlk hret rfl rfl (hb hby d_jdk_43_method_46_8) (by decide) (by decide) ⟨_, _, rfl, V6, by rw [g5]; exact Nat.le_refl _⟩
theorem d_jdk_42_method_151_0 : decode jdk_42_method_151_code 0 = .ok (.aload_n 0, 1) := by decide +kernel
theorem d_jdk_42_method_151_1 : decode jdk_42_method_151_code 1 = .ok (.invokespecial 1, 3) := by decide +kernel
theorem d_jdk_42_method_151_4 : decode jdk_42_method_151_code 4 = .ok (.aload_n 0, 1) := by decide +kernel
theorem d_jdk_42_method_151_5 : decode jdk_42_method_151_code 5 = .ok (.aload_n 1, 1) := by decide +kernel
theorem d_jdk_42_method_151_6 : decode jdk_42_method_151_code 6 = .ok (.putfield 9, 3) := by decide +kernel
theorem d_jdk_42_method_151_9 : decode jdk_42_method_151_code 9 = .ok (.aload_n 0, 1) := by decide +kernel
theorem d_jdk_42_method_151_10 : decode jdk_42_method_151_code 10 = .ok (.iload_n 2, 1) := by decide +kernel
theorem d_jdk_42_method_151_11 : decode jdk_42_method_151_code 11 = .ok (.putfield 15, 3) := by decide +kernel
theorem d_jdk_42_method_151_14 : decode jdk_42_method_151_code 14 = .ok (.return_, 1) := by decide +kernel
theorem ef_rm_i2 (m : MethodId) (x : Addr) (b : Addr)  : entryFrame m #[(.ref x), (.ref b), (.int (0 : Int32))] 3 = mkF m 0 #[.val (.ref x), .val (.ref b), .val (.int (0 : Int32))] [] := by  first | (simp [entryFrame, mkF, argsToLocals, Value.category]; done) | rfl
theorem pn_2 : plainName "java/lang/String" = true := by first | (simp [plainName, overriddenIn]; done) | decide +kernel
set_option maxRecDepth 65536 in
set_option maxHeartbeats 40000000 in
theorem rm_i2 (l : Launch) (Z : State) (a0 : Array Value) (hw : ∀ d ∈ tables_1, d.before a0 Z = true) (more : List Jvm.Cond) (h0 : Heap) (x : Addr) (b : Addr) (v0 c0 : Value) (E : Exa Z h0 x "java/lang/String") (V : Fld Z h0 x "java/lang/String" "value" "[B" v0) (C : Fld Z h0 x "java/lang/String" "coder" "B" c0) :
    own_Met true false consts_1 l Z a0 (⟨"java/lang/String", "<init>", "([BB)V"⟩ : MethodName) jdk_42_method_151_code 3 none more ({ frames := 1, cells := 0, slots := 0, locals := 12 } : Room) #[(.ref x), (.ref b), (.int (0 : Int32))] h0 [x] (fun v h => v = none ∧ Exa Z h x "java/lang/String" ∧ Fld Z h x "java/lang/String" "value" "[B" (.ref b) ∧ Fld Z h x "java/lang/String" "coder" "B" (.int 0)) := by
  refine own_enter (own := "java/lang/String") rfl (plainFor_of_name pn_2) ?_
  intro p e s m below meth c T hx hby hml hret hlk hnm K
  rw [ef_rm_i2 m x b]
  have A := own_here K
  refine own_aloadN A hx (pc' := 1) (hb hby d_jdk_42_method_151_0) rfl rfl rfl ?_
  refine own_initO K hx (hw _ (List.mem_of_getElem? (i := 61) rfl)) (hw _ (List.mem_of_getElem? (i := 30) rfl)) (hw _ (List.mem_of_getElem? (i := 31) rfl)) (by rw [hml]; rfl) 0 (Nat.le_of_eq rfl) (by decide) (by decide) (hb hby d_jdk_42_method_151_1) (pc' := 4) rfl ?_
  intro T7 K7
  have A7 := own_here K7
  refine own_aloadN A7 hx (pc' := 5) (hb hby d_jdk_42_method_151_4) rfl rfl rfl ?_
  refine own_aloadN A7 hx (pc' := 6) (hb hby d_jdk_42_method_151_5) rfl rfl rfl ?_
  refine own_putF K7 hx (host := "") (Or.inl (hw _ (List.mem_of_getElem? (i := 62) rfl))) Via.refl V E (Or.inr ⟨(hw _ (List.mem_of_getElem? (i := 14) rfl)), rfl, hnm⟩) (hw _ (List.mem_of_getElem? (i := 12) rfl)) (ty := (.array .byte)) (by decide) rfl rfl (List.mem_of_getElem? (i := 0) rfl) (hb hby d_jdk_42_method_151_6) (pc' := 9) rfl ?_
  intro T8 h8 K8 W8
  have E := E.wr W8
  have V := V.same W8
  have C := C.other W8 (Or.inr (slot_ne (Or.inr (hw _ (List.mem_of_getElem? (i := 15) rfl))) (Or.inr (hw _ (List.mem_of_getElem? (i := 14) rfl))) (by decide) (t := .byte) (t' := (.array .byte)) (by decide) (by decide)))
  have A8 := own_here K8
  refine own_aloadN A8 hx (pc' := 10) (hb hby d_jdk_42_method_151_9) rfl rfl rfl ?_
  refine own_iloadN A8 hx (pc' := 11) (hb hby d_jdk_42_method_151_10) rfl rfl ?_
  refine own_putF K8 hx (host := "") (Or.inl (hw _ (List.mem_of_getElem? (i := 63) rfl))) Via.refl C E (Or.inr ⟨(hw _ (List.mem_of_getElem? (i := 15) rfl)), rfl, hnm⟩) (hw _ (List.mem_of_getElem? (i := 12) rfl)) (ty := .byte) (by decide) (by decide) (by decide) (List.mem_of_getElem? (i := 0) rfl) (hb hby d_jdk_42_method_151_11) (pc' := 14) rfl ?_
  intro T9 h9 K9 W9
  have E := E.wr W9
  have V := V.other W9 (Or.inr (slot_ne (Or.inr (hw _ (List.mem_of_getElem? (i := 14) rfl))) (Or.inr (hw _ (List.mem_of_getElem? (i := 15) rfl))) (by decide) (t := (.array .byte)) (t' := .byte) (by decide) (by decide)))
  have C := C.same W9
  have A9 := own_here K9
  exact own_retV K9 hx hlk hret (hb hby d_jdk_42_method_151_14) (by decide) (by decide) ⟨rfl, E, V, C⟩
theorem d_jdk_42_method_139_0 : decode jdk_42_method_139_code 0 = .ok (.getstatic 38, 3) := by decide +kernel
theorem d_jdk_42_method_139_3 : decode jdk_42_method_139_code 3 = .ok (.ifCond .eq 23, 3) := by decide +kernel
theorem d_jdk_42_method_139_6 : decode jdk_42_method_139_code 6 = .ok (.iload_n 0, 1) := by decide +kernel
theorem pd_0 : parseMethodDescriptor "(C)Z" = some ⟨[.char], some .boolean⟩ := by decide +kernel
theorem d_jdk_42_method_139_7 : decode jdk_42_method_139_code 7 = .ok (.invokestatic 1015, 3) := by decide +kernel
theorem d_jdk_42_method_139_10 : decode jdk_42_method_139_code 10 = .ok (.ifCond .eq 16, 3) := by decide +kernel
theorem d_jdk_42_method_139_13 : decode jdk_42_method_139_code 13 = .ok (.new 10, 3) := by decide +kernel
theorem d_jdk_42_method_139_16 : decode jdk_42_method_139_code 16 = .ok (.dup, 1) := by decide +kernel
theorem d_jdk_42_method_139_17 : decode jdk_42_method_139_code 17 = .ok (.iload_n 0, 1) := by decide +kernel
theorem pd_1 : parseMethodDescriptor "(C)[B" = some ⟨[.char], some (.array .byte)⟩ := by decide +kernel
theorem d_jdk_42_method_139_18 : decode jdk_42_method_139_code 18 = .ok (.invokestatic 1018, 3) := by decide +kernel
theorem d_jdk_42_method_139_21 : decode jdk_42_method_139_code 21 = .ok (.iconst 0, 1) := by decide +kernel
theorem pd_2 : parseMethodDescriptor "([BB)V" = some ⟨[(.array .byte), .byte], none⟩ := by decide +kernel
theorem d_jdk_42_method_139_22 : decode jdk_42_method_139_code 22 = .ok (.invokespecial 209, 3) := by decide +kernel
theorem d_jdk_42_method_139_25 : decode jdk_42_method_139_code 25 = .ok (.areturn, 1) := by decide +kernel
theorem ef_rm_vof (m : MethodId) (p1 : Int32)  : entryFrame m #[(.int p1)] 1 = mkF m 0 #[.val (.int p1)] [] := by  first | (simp [entryFrame, mkF, argsToLocals, Value.category]; done) | rfl
set_option maxRecDepth 65536 in
set_option maxHeartbeats 40000000 in
theorem rm_vof (l : Launch) (Z : State) (a0 : Array Value) (hw : ∀ d ∈ tables_1, d.before a0 Z = true) (more : List Jvm.Cond) (h0 : Heap) (p1 : Int32)  (G1 : Int32) (O2 : Sta Z Z.heap "java/lang/String" "COMPACT_STRINGS" "Z" (.int G1)) (P5 : ¬ (G1 = (0 : Int32))) (hge : ¬ p1 < 0) (hle : ¬ (255 : Int32) < p1) :
    own_Met true false consts_1 l Z a0 (⟨"java/lang/String", "valueOf", "(C)Ljava/lang/String;"⟩ : MethodName) jdk_42_method_139_code 1 (some (.object "java/lang/String")) more ({ frames := 2, cells := 2, slots := 5, locals := 27 } : Room) #[(.int p1)] h0 [] (fun v h => ∃ a, v = some (.ref a)) := by
  refine own_enter (own := "java/lang/String") rfl (plainFor_of_name pn_2) ?_
  intro p e s m below meth c T hx hby hml hret hlk hnm K
  rw [ef_rm_vof m p1]
  have A := own_here K
  refine own_getS K hx (host := "") (Or.inl (hw _ (List.mem_of_getElem? (i := 48) rfl))) Via.refl O2 (hb hby d_jdk_42_method_139_0) (pc' := 3) rfl ?_
  intro T10 K10
  have A10 := own_here K10
  refine own_if_eq A10 hx 26 6 (hb hby d_jdk_42_method_139_3) (by decide) (by decide) rfl (fun hc3 => ?_) (fun hc3 => ?_)
  · exact absurd hc3 P5
  refine own_iloadN A10 hx (pc' := 7) (hb hby d_jdk_42_method_139_6) rfl rfl ?_
  refine own_callS K10 hx (by rw [hml]; rfl) (hw _ (List.mem_of_getElem? (i := 49) rfl)) (hw _ (List.mem_of_getElem? (i := 50) rfl)) (hw _ (List.mem_of_getElem? (i := 51) rfl)) (hw _ (List.mem_of_getElem? (i := 52) rfl)) (by decide) (rm_can l Z a0 hw [] h0 p1 hle) (fun _ q => nomatch q) (argsL := [(.int p1)]) (rest := []) (lenOf pd_0 rfl) rfl 0 (Nat.le_of_eq rfl) (hb hby d_jdk_42_method_139_7) (pc' := 10) rfl (by decide) (by decide) (by decide) (by decide) ?_
  intro v11 T11 h11 K11 Kp11 Q11
  obtain ⟨rfl, -⟩ := Q11
  have A11 := own_here K11
  show own_Go p.tables e below _ T11 (mkF m 10 #[.val (.int p1)] [(.int (1 : Int32))])
  refine own_if_eq A11 hx 26 13 (hb hby d_jdk_42_method_139_10) (by decide) (by decide) rfl (fun hc10 => ?_) (fun hc10 => ?_)
  · exact absurd hc10 (by decide)
  refine own_new K11 hx (hw _ (List.mem_of_getElem? (i := 53) rfl)) (hw _ (List.mem_of_getElem? (i := 12) rfl)) (hw _ (List.mem_of_getElem? (i := 11) rfl)) (hb hby d_jdk_42_method_139_13) (pc' := 16) rfl (by decide) (by decide) ?_
  intro T12 h12 b12 g12 K12 E12 X12 D12 U12
  have A12 := own_here K12
  have F_value_b12 := D12 (Or.inr (hw _ (List.mem_of_getElem? (i := 14) rfl))) (ty := (.array .byte)) (by decide)
  have F_coder_b12 := D12 (Or.inr (hw _ (List.mem_of_getElem? (i := 15) rfl))) (ty := .byte) (by decide)
  refine own_dup A12 hx (pc' := 17) (hb hby d_jdk_42_method_139_16) rfl rfl ?_
  have X0_b12 := X12
  refine own_iloadN A12 hx (pc' := 18) (hb hby d_jdk_42_method_139_17) rfl rfl ?_
  refine own_callS K12 hx (by rw [hml]; rfl) (hw _ (List.mem_of_getElem? (i := 54) rfl)) (hw _ (List.mem_of_getElem? (i := 55) rfl)) (hw _ (List.mem_of_getElem? (i := 51) rfl)) (hw _ (List.mem_of_getElem? (i := 56) rfl)) (by decide) (rm_tb l Z a0 hw [] h12 p1) (fun _ q => nomatch q) (argsL := [(.int p1)]) (rest := [(.ref b12), (.ref b12)]) (lenOf pd_1 rfl) rfl 2 (Nat.le_of_eq rfl) (hb hby d_jdk_42_method_139_18) (pc' := 21) rfl (by decide) (by decide) (by decide) (by decide) ?_
  intro v13 T13 h13 K13 Kp13 Q13
  obtain ⟨t13, kt13, rfl, Y13, ge13⟩ := Q13
  have X12 := X12.keep Kp13
  have F_value_b12 := F_value_b12.keep Kp13 nin0
  have F_coder_b12 := F_coder_b12.keep Kp13 nin0
  have A13 := own_here K13
  show own_Go p.tables e below _ T13 (mkF m 21 #[.val (.int p1)] [(.ref t13), (.ref b12), (.ref b12)])
  have ne_t13 : t13 ≠ b12 := fun q => Nat.lt_irrefl _ (Nat.lt_of_lt_of_le X0_b12.lt (q ▸ ge13))
  refine own_iconst A13 hx (pc' := 22) (hb hby d_jdk_42_method_139_21) (z := (0 : Int32)) (by decide) rfl ?_
  refine own_callSp K13 hx (by rw [hml]; rfl) rfl (hw _ (List.mem_of_getElem? (i := 57) rfl)) (hw _ (List.mem_of_getElem? (i := 58) rfl)) (hw _ (List.mem_of_getElem? (i := 11) rfl)) (hw _ (List.mem_of_getElem? (i := 60) rfl)) (by decide) (rm_i2 l Z a0 hw [] h13 b12 t13 _ _ X12 F_value_b12 F_coder_b12) (own_mem1 (List.mem_of_getElem? (i := 0) rfl)) (argsL := [(.ref t13), (.int (0 : Int32))]) (rest := [(.ref b12)]) (lenOf pd_2 rfl) rfl 1 (Nat.le_of_eq rfl) (hb hby d_jdk_42_method_139_22) (pc' := 25) rfl (by decide) (by decide) (by decide) (by decide) ?_
  intro v14 T14 h14 K14 Kp14 Q14
  obtain ⟨rfl, E14, V14, C14⟩ := Q14
  have X12 := X12.keep Kp14
  have Y13 := Y13.keep Kp14 (ninS ne_t13 nin0)
  have A14 := own_here K14
  show own_Go p.tables e below _ T14 (mkF m 25 #[.val (.int p1)] [(.ref b12)])
  exact own_retR K14 hx hlk hret rfl rfl (hb hby d_jdk_42_method_139_25) (by decide) (by decide) ⟨_, rfl⟩
theorem d_jdk_42_method_149_0 : decode jdk_42_method_149_code 0 = .ok (.aload_n 0, 1) := by decide +kernel
theorem d_jdk_42_method_149_1 : decode jdk_42_method_149_code 1 = .ok (.invokespecial 1, 3) := by decide +kernel
theorem d_jdk_42_method_149_4 : decode jdk_42_method_149_code 4 = .ok (.iload_n 3, 1) := by decide +kernel
theorem d_jdk_42_method_149_5 : decode jdk_42_method_149_code 5 = .ok (.ifCond .ne 22, 3) := by decide +kernel
theorem d_jdk_42_method_149_8 : decode jdk_42_method_149_code 8 = .ok (.aload_n 0, 1) := by decide +kernel
theorem d_jdk_42_method_149_9 : decode jdk_42_method_149_code 9 = .ok (.ldc 7, 2) := by decide +kernel
theorem d_jdk_42_method_149_11 : decode jdk_42_method_149_code 11 = .ok (.getfield 9, 3) := by decide +kernel
theorem d_jdk_42_method_149_14 : decode jdk_42_method_149_code 14 = .ok (.putfield 9, 3) := by decide +kernel
theorem d_jdk_42_method_149_17 : decode jdk_42_method_149_code 17 = .ok (.aload_n 0, 1) := by decide +kernel
theorem d_jdk_42_method_149_18 : decode jdk_42_method_149_code 18 = .ok (.ldc 7, 2) := by decide +kernel
theorem d_jdk_42_method_149_20 : decode jdk_42_method_149_code 20 = .ok (.getfield 15, 3) := by decide +kernel
theorem d_jdk_42_method_149_23 : decode jdk_42_method_149_code 23 = .ok (.putfield 15, 3) := by decide +kernel
theorem d_jdk_42_method_149_26 : decode jdk_42_method_149_code 26 = .ok (.return_, 1) := by decide +kernel
theorem ef_rm_new0a (m : MethodId) (x : Addr) (b : Addr)  : entryFrame m #[(.ref x), (.ref b), (.int (0 : Int32)), (.int (0 : Int32)), .null] 6 = mkF m 0 #[.val (.ref x), .val (.ref b), .val (.int (0 : Int32)), .val (.int (0 : Int32)), .val .null, .unset] [] := by  first | (simp [entryFrame, mkF, argsToLocals, Value.category]; done) | rfl
set_option maxRecDepth 65536 in
set_option maxHeartbeats 40000000 in
theorem rm_new0a (l : Launch) (Z : State) (a0 : Array Value) (hw : ∀ d ∈ tables_1, d.before a0 Z = true) (more : List Jvm.Cond) (h0 : Heap) (x : Addr) (b : Addr) (v0 c0 : Value) (E : Exa Z h0 x "java/lang/String") (V : Fld Z h0 x "java/lang/String" "value" "[B" v0) (C : Fld Z h0 x "java/lang/String" "coder" "B" c0) :
    own_Met true false consts_1 l Z a0 (⟨"java/lang/String", "<init>", "([CIILjava/lang/Void;)V"⟩ : MethodName) jdk_42_method_149_code 6 none more ({ frames := 1, cells := 4, slots := 8, locals := 12 } : Room) #[(.ref x), (.ref b), (.int (0 : Int32)), (.int (0 : Int32)), .null] h0 [x] (fun v h => v = none ∧ Exa Z h x "java/lang/String" ∧ Fld Z h x "java/lang/String" "coder" "B" (.int 0) ∧ ∃ t k, Fld Z h x "java/lang/String" "value" "[B" (.ref t) ∧ Arv Z h t k .byte 0 [] (.int 0)) := by
  refine own_enter (own := "java/lang/String") rfl (plainFor_of_name pn_2) ?_
  intro p e s m below meth c T hx hby hml hret hlk hnm K
  rw [ef_rm_new0a m x b]
  have A := own_here K
  refine own_aloadN A hx (pc' := 1) (hb hby d_jdk_42_method_149_0) rfl rfl rfl ?_
  refine own_initO K hx (hw _ (List.mem_of_getElem? (i := 61) rfl)) (hw _ (List.mem_of_getElem? (i := 30) rfl)) (hw _ (List.mem_of_getElem? (i := 31) rfl)) (by rw [hml]; rfl) 0 (Nat.le_of_eq rfl) (by decide) (by decide) (hb hby d_jdk_42_method_149_1) (pc' := 4) rfl ?_
  intro T15 K15
  have A15 := own_here K15
  refine own_iloadN A15 hx (pc' := 5) (hb hby d_jdk_42_method_149_4) rfl rfl ?_
  refine own_if_ne A15 hx 27 8 (hb hby d_jdk_42_method_149_5) (by decide) (by decide) rfl (fun hc5 => ?_) (fun hc5 => ?_)
  · exact absurd rfl hc5
  refine own_aloadN A15 hx (pc' := 9) (hb hby d_jdk_42_method_149_8) rfl rfl rfl ?_
  refine own_ldcR (n := 0) (zn := (0 : Int32)) (vs := []) K15 hx (hw _ (List.mem_of_getElem? (i := 75) rfl)) (own_sa hw) (by decide +kernel) ⟨by decide +kernel, by decide +kernel⟩ (by decide) (by decide) (hb hby d_jdk_42_method_149_9) (pc' := 11) rfl (by decide +kernel) (by decide) (by decide) (by decide) ?_
  intro b16 T16 h16 t16 kt16 K16 E16 X16 C16 V16 Y16 N16
  have E := E.ext E16
  have V := V.ext E16
  have C := C.ext E16
  have A16 := own_here K16
  refine own_getF K16 hx (host := "") (Or.inl (hw _ (List.mem_of_getElem? (i := 62) rfl))) Via.refl V16 (hb hby d_jdk_42_method_149_11) (pc' := 14) rfl ?_
  intro T17 K17
  have A17 := own_here K17
  refine own_putF K17 hx (host := "") (Or.inl (hw _ (List.mem_of_getElem? (i := 62) rfl))) Via.refl V E (Or.inr ⟨(hw _ (List.mem_of_getElem? (i := 14) rfl)), rfl, hnm⟩) (hw _ (List.mem_of_getElem? (i := 12) rfl)) (ty := (.array .byte)) (by decide) rfl rfl (List.mem_of_getElem? (i := 0) rfl) (hb hby d_jdk_42_method_149_14) (pc' := 17) rfl ?_
  intro T18 h18 K18 W18
  have E := E.wr W18
  have X16 := X16.wr W18
  have C16 := C16.other W18 (Or.inl (Ne.symm (N16 x (List.mem_of_getElem? (i := 0) rfl)).1))
  have V16 := V16.other W18 (Or.inl (Ne.symm (N16 x (List.mem_of_getElem? (i := 0) rfl)).1))
  have Y16 := Y16.other W18 (Ne.symm (N16 x (List.mem_of_getElem? (i := 0) rfl)).2)
  have V := V.same W18
  have C := C.other W18 (Or.inr (slot_ne (Or.inr (hw _ (List.mem_of_getElem? (i := 15) rfl))) (Or.inr (hw _ (List.mem_of_getElem? (i := 14) rfl))) (by decide) (t := .byte) (t' := (.array .byte)) (by decide) (by decide)))
  have A18 := own_here K18
  refine own_aloadN A18 hx (pc' := 18) (hb hby d_jdk_42_method_149_17) rfl rfl rfl ?_
  refine own_ldcR (n := 0) (zn := (0 : Int32)) (vs := []) K18 hx (hw _ (List.mem_of_getElem? (i := 75) rfl)) (own_sa hw) (by decide +kernel) ⟨by decide +kernel, by decide +kernel⟩ (by decide) (by decide) (hb hby d_jdk_42_method_149_18) (pc' := 20) rfl (by decide +kernel) (by decide) (by decide) (by decide) ?_
  intro b19 T19 h19 t19 kt19 K19 E19 X19 C19 V19 Y19 N19
  have E := E.ext E19
  have V := V.ext E19
  have C := C.ext E19
  have Y16 := Y16.ext E19
  have A19 := own_here K19
  refine own_getF K19 hx (host := "") (Or.inl (hw _ (List.mem_of_getElem? (i := 63) rfl))) Via.refl C19 (hb hby d_jdk_42_method_149_20) (pc' := 23) rfl ?_
  intro T20 K20
  have A20 := own_here K20
  refine own_putF K20 hx (host := "") (Or.inl (hw _ (List.mem_of_getElem? (i := 63) rfl))) Via.refl C E (Or.inr ⟨(hw _ (List.mem_of_getElem? (i := 15) rfl)), rfl, hnm⟩) (hw _ (List.mem_of_getElem? (i := 12) rfl)) (ty := .byte) (by decide) (by decide) (by decide) (List.mem_of_getElem? (i := 0) rfl) (hb hby d_jdk_42_method_149_23) (pc' := 26) rfl ?_
  intro T21 h21 K21 W21
  have E := E.wr W21
  have Y16 := Y16.other W21 (Ne.symm (N16 x (List.mem_of_getElem? (i := 0) rfl)).2)
  have X19 := X19.wr W21
  have C19 := C19.other W21 (Or.inl (Ne.symm (N19 x (List.mem_of_getElem? (i := 0) rfl)).1))
  have V19 := V19.other W21 (Or.inl (Ne.symm (N19 x (List.mem_of_getElem? (i := 0) rfl)).1))
  have Y19 := Y19.other W21 (Ne.symm (N19 x (List.mem_of_getElem? (i := 0) rfl)).2)
  have V := V.other W21 (Or.inr (slot_ne (Or.inr (hw _ (List.mem_of_getElem? (i := 14) rfl))) (Or.inr (hw _ (List.mem_of_getElem? (i := 15) rfl))) (by decide) (t := (.array .byte)) (t' := .byte) (by decide) (by decide)))
  have C := C.same W21
  have A21 := own_here K21
  exact own_retV K21 hx hlk hret (hb hby d_jdk_42_method_149_26) (by decide) (by decide) ⟨rfl, E, C, _, _, V, Y16⟩
theorem d_jdk_42_method_3_0 : decode jdk_42_method_3_code 0 = .ok (.aload_n 0, 1) := by decide +kernel
theorem d_jdk_42_method_3_1 : decode jdk_42_method_3_code 1 = .ok (.aload_n 1, 1) := by decide +kernel
theorem d_jdk_42_method_3_2 : decode jdk_42_method_3_code 2 = .ok (.iconst 0, 1) := by decide +kernel
theorem d_jdk_42_method_3_3 : decode jdk_42_method_3_code 3 = .ok (.aload_n 1, 1) := by decide +kernel
theorem d_jdk_42_method_3_4 : decode jdk_42_method_3_code 4 = .ok (.arraylength, 1) := by decide +kernel
theorem d_jdk_42_method_3_5 : decode jdk_42_method_3_code 5 = .ok (.aconst_null, 1) := by decide +kernel
theorem pd_3 : parseMethodDescriptor "([CIILjava/lang/Void;)V" = some ⟨[(.array .char), .int, .int, (.object "java/lang/Void")], none⟩ := by decide +kernel
theorem d_jdk_42_method_3_6 : decode jdk_42_method_3_code 6 = .ok (.invokespecial 27, 3) := by decide +kernel
theorem d_jdk_42_method_3_9 : decode jdk_42_method_3_code 9 = .ok (.return_, 1) := by decide +kernel
theorem ef_rm_new0 (m : MethodId) (x : Addr) (b : Addr)  : entryFrame m #[(.ref x), (.ref b)] 2 = mkF m 0 #[.val (.ref x), .val (.ref b)] [] := by  first | (simp [entryFrame, mkF, argsToLocals, Value.category]; done) | rfl
set_option maxRecDepth 65536 in
set_option maxHeartbeats 40000000 in
theorem rm_new0 (l : Launch) (Z : State) (a0 : Array Value) (hw : ∀ d ∈ tables_1, d.before a0 Z = true) (more : List Jvm.Cond) (h0 : Heap) (x : Addr) (b : Addr) (v0 c0 d0 : Value) (kb : ClassId) (vs0 : List Value) (E : Exa Z h0 x "java/lang/String") (V : Fld Z h0 x "java/lang/String" "value" "[B" v0) (C : Fld Z h0 x "java/lang/String" "coder" "B" c0) (A0 : Arv Z h0 b kb .char (0 : Int32) vs0 d0) :
    own_Met true false consts_1 l Z a0 (⟨"java/lang/String", "<init>", "([C)V"⟩ : MethodName) jdk_42_method_3_code 2 none more ({ frames := 2, cells := 4, slots := 8, locals := 29 } : Room) #[(.ref x), (.ref b)] h0 [x] (fun v h => v = none ∧ Exa Z h x "java/lang/String" ∧ Fld Z h x "java/lang/String" "coder" "B" (.int 0) ∧ ∃ t k, Fld Z h x "java/lang/String" "value" "[B" (.ref t) ∧ Arv Z h t k .byte 0 [] (.int 0)) := by
  refine own_enter (own := "java/lang/String") rfl (plainFor_of_name pn_2) ?_
  intro p e s m below meth c T hx hby hml hret hlk hnm K
  rw [ef_rm_new0 m x b]
  have A := own_here K
  refine own_aloadN A hx (pc' := 1) (hb hby d_jdk_42_method_3_0) rfl rfl rfl ?_
  refine own_aloadN A hx (pc' := 2) (hb hby d_jdk_42_method_3_1) rfl rfl rfl ?_
  refine own_iconst A hx (pc' := 3) (hb hby d_jdk_42_method_3_2) (z := (0 : Int32)) (by decide) rfl ?_
  refine own_aloadN A hx (pc' := 4) (hb hby d_jdk_42_method_3_3) rfl rfl rfl ?_
  refine own_len K hx A0 (hb hby d_jdk_42_method_3_4) (pc' := 5) rfl ?_
  refine own_null A hx (pc' := 6) (hb hby d_jdk_42_method_3_5) rfl ?_
  refine own_callSp K hx (by rw [hml]; rfl) rfl (hw _ (List.mem_of_getElem? (i := 72) rfl)) (hw _ (List.mem_of_getElem? (i := 73) rfl)) (hw _ (List.mem_of_getElem? (i := 11) rfl)) (hw _ (List.mem_of_getElem? (i := 74) rfl)) (by decide) (rm_new0a l Z a0 hw [] h0 x b _ _ E V C) (own_mem1 (List.mem_of_getElem? (i := 0) rfl)) (argsL := [(.ref b), (.int (0 : Int32)), (.int (0 : Int32)), .null]) (rest := []) (lenOf pd_3 rfl) rfl 0 (Nat.le_of_eq rfl) (hb hby d_jdk_42_method_3_6) (pc' := 9) rfl (by decide) (by decide) (by decide) (by decide) ?_
  intro v22 T22 h22 K22 Kp22 Q22
  obtain ⟨rfl, E22, C22, t22, kt22, V22, Y22⟩ := Q22
  have A22 := own_here K22
  show own_Go p.tables e below _ T22 (mkF m 9 #[.val (.ref x), .val (.ref b)] [])
  exact own_retV K22 hx hlk hret (hb hby d_jdk_42_method_3_9) (by decide) (by decide) ⟨rfl, E22, C22, _, _, V22, Y22⟩
theorem d_method_3_0 : decode method_3_code 0 = .ok (.iload_n 0, 1) := by decide +kernel
theorem d_method_3_1 : decode method_3_code 1 = .ok (.ifCond .ne 5, 3) := by decide +kernel
theorem d_method_3_6 : decode method_3_code 6 = .ok (.iload_n 0, 1) := by decide +kernel
theorem d_method_3_7 : decode method_3_code 7 = .ok (.iconst 1, 1) := by decide +kernel
theorem d_method_3_8 : decode method_3_code 8 = .ok (.if_icmp .ne 14, 3) := by decide +kernel
theorem d_method_3_22 : decode method_3_code 22 = .ok (.iload_n 0, 1) := by decide +kernel
theorem d_method_3_23 : decode method_3_code 23 = .ok (.iconst 2, 1) := by decide +kernel
theorem d_method_3_24 : decode method_3_code 24 = .ok (.if_icmp .ne 13, 3) := by decide +kernel
theorem d_method_3_37 : decode method_3_code 37 = .ok (.ldc 31, 2) := by decide +kernel
theorem d_method_3_39 : decode method_3_code 39 = .ok (.areturn, 1) := by decide +kernel
theorem d_method_3_27 : decode method_3_code 27 = .ok (.iload_n 1, 1) := by decide +kernel
theorem d_method_3_28 : decode method_3_code 28 = .ok (.sipush 255, 3) := by decide +kernel
theorem d_method_3_31 : decode method_3_code 31 = .ok (.iand, 1) := by decide +kernel
theorem d_method_3_32 : decode method_3_code 32 = .ok (.i2c, 1) := by decide +kernel
theorem pd_4 : parseMethodDescriptor "(C)Ljava/lang/String;" = some ⟨[.char], some (.object "java/lang/String")⟩ := by decide +kernel
theorem d_method_3_33 : decode method_3_code 33 = .ok (.invokestatic 27, 3) := by decide +kernel
theorem d_method_3_36 : decode method_3_code 36 = .ok (.areturn, 1) := by decide +kernel
theorem d_method_3_11 : decode method_3_code 11 = .ok (.new 22, 3) := by decide +kernel
theorem d_method_3_14 : decode method_3_code 14 = .ok (.dup, 1) := by decide +kernel
theorem d_method_3_15 : decode method_3_code 15 = .ok (.iconst 0, 1) := by decide +kernel
theorem d_method_3_16 : decode method_3_code 16 = .ok (.newarray .char, 2) := by decide +kernel
theorem pd_5 : parseMethodDescriptor "([C)V" = some ⟨[(.array .char)], none⟩ := by decide +kernel
theorem d_method_3_18 : decode method_3_code 18 = .ok (.invokespecial 24, 3) := by decide +kernel
theorem d_method_3_21 : decode method_3_code 21 = .ok (.areturn, 1) := by decide +kernel
theorem d_method_3_4 : decode method_3_code 4 = .ok (.aconst_null, 1) := by decide +kernel
theorem d_method_3_5 : decode method_3_code 5 = .ok (.areturn, 1) := by decide +kernel
theorem ef_rm_text (m : MethodId) (p1 : Int32) (p2 : Int32)  : entryFrame m #[(.int p1), (.int p2)] 2 = mkF m 0 #[.val (.int p1), .val (.int p2)] [] := by  first | (simp [entryFrame, mkF, argsToLocals, Value.category]; done) | rfl
set_option maxRecDepth 65536 in
set_option maxHeartbeats 40000000 in
theorem rm_text (l : Launch) (Z : State) (a0 : Array Value) (hw : ∀ d ∈ tables_1, d.before a0 Z = true) (more : List Jvm.Cond) (h0 : Heap) (p1 : Int32) (p2 : Int32)  (G1 : Int32) (O2 : Sta Z Z.heap "java/lang/String" "COMPACT_STRINGS" "Z" (.int G1)) (P5 : ¬ (G1 = (0 : Int32))) :
    own_Met true false consts_1 l Z a0 (⟨"com/example/mannered_forms/manneredforms/ScalarIsNullPinLaw", "textOf", "(II)Ljava/lang/String;"⟩ : MethodName) method_3_code 2 (some (.object "java/lang/String")) more ({ frames := 3, cells := 6, slots := 20, locals := 43 } : Room) #[(.int p1), (.int p2)] h0 [] (fun v h => ∃ t : Value, v = some t ∧ t.isRef = true) := by
  refine own_enter (own := "com/example/mannered_forms/manneredforms/ScalarIsNullPinLaw") rfl (plainFor_of_name pn_0) ?_
  intro p e s m below meth c T hx hby hml hret hlk hnm K
  rw [ef_rm_text m p1 p2]
  have A := own_here K
  refine own_iloadN A hx (pc' := 1) (hb hby d_method_3_0) rfl rfl ?_
  refine own_if_ne A hx 6 4 (hb hby d_method_3_1) (by decide) (by decide) rfl (fun hc1 => ?_) (fun hc1 => ?_)
  · refine own_iloadN A hx (pc' := 7) (hb hby d_method_3_6) rfl rfl ?_
    refine own_iconst A hx (pc' := 8) (hb hby d_method_3_7) (z := (1 : Int32)) (by decide) rfl ?_
    refine own_icmp_ne A hx 22 11 (hb hby d_method_3_8) (by decide) (by decide) rfl (fun hc8 => ?_) (fun hc8 => ?_)
    · refine own_iloadN A hx (pc' := 23) (hb hby d_method_3_22) rfl rfl ?_
      refine own_iconst A hx (pc' := 24) (hb hby d_method_3_23) (z := (2 : Int32)) (by decide) rfl ?_
      refine own_icmp_ne A hx 37 27 (hb hby d_method_3_24) (by decide) (by decide) rfl (fun hc24 => ?_) (fun hc24 => ?_)
      · refine own_ldc (n := 16) K hx (hw _ (List.mem_of_getElem? (i := 10) rfl)) (own_sa hw) (hb hby d_method_3_37) (pc' := 39) rfl (by decide +kernel) (by decide) (by decide) (by decide) ?_
        intro b23 T23 h23 K23 E23
        have A23 := own_here K23
        exact own_retR K23 hx hlk hret rfl rfl (hb hby d_method_3_39) (by decide) (by decide) ⟨_, rfl, rfl⟩
      · refine own_iloadN A hx (pc' := 28) (hb hby d_method_3_27) rfl rfl ?_
        refine own_sipush A hx (pc' := 31) (hb hby d_method_3_28) (z := (255 : Int32)) (by decide) rfl ?_
        refine own_iand A hx (pc' := 32) (hb hby d_method_3_31) (z := (p2 &&& (255 : Int32))) rfl rfl ?_
        refine own_i2c A hx (pc' := 33) (hb hby d_method_3_32) (z := ((p2 &&& (255 : Int32)).toUInt32.toUInt16.toUInt32.toInt32)) rfl rfl ?_
        refine own_callS K hx (by rw [hml]; rfl) (hw _ (List.mem_of_getElem? (i := 45) rfl)) (hw _ (List.mem_of_getElem? (i := 46) rfl)) (hw _ (List.mem_of_getElem? (i := 11) rfl)) (hw _ (List.mem_of_getElem? (i := 47) rfl)) (by decide) (rm_vof l Z a0 hw [] h0 ((p2 &&& (255 : Int32)).toUInt32.toUInt16.toUInt32.toInt32) G1 O2 P5 (own_c255 p2).1 (own_c255 p2).2) (fun _ q => nomatch q) (argsL := [(.int ((p2 &&& (255 : Int32)).toUInt32.toUInt16.toUInt32.toInt32))]) (rest := []) (lenOf pd_4 rfl) rfl 0 (Nat.le_of_eq rfl) (hb hby d_method_3_33) (pc' := 36) rfl (by decide) (by decide) (by decide) (by decide) ?_
        intro v24 T24 h24 K24 Kp24 Q24
        obtain ⟨a24, rfl⟩ := Q24
        have A24 := own_here K24
        show own_Go p.tables e below _ T24 (mkF m 36 #[.val (.int p1), .val (.int p2)] [(.ref a24)])
        exact own_retR K24 hx hlk hret rfl rfl (hb hby d_method_3_36) (by decide) (by decide) ⟨_, rfl, rfl⟩
    · refine own_new K hx (hw _ (List.mem_of_getElem? (i := 67) rfl)) (hw _ (List.mem_of_getElem? (i := 12) rfl)) (hw _ (List.mem_of_getElem? (i := 11) rfl)) (hb hby d_method_3_11) (pc' := 14) rfl (by decide) (by decide) ?_
      intro T25 h25 b25 g25 K25 E25 X25 D25 U25
      have A25 := own_here K25
      have F_value_b25 := D25 (Or.inr (hw _ (List.mem_of_getElem? (i := 14) rfl))) (ty := (.array .byte)) (by decide)
      have F_coder_b25 := D25 (Or.inr (hw _ (List.mem_of_getElem? (i := 15) rfl))) (ty := .byte) (by decide)
      refine own_dup A25 hx (pc' := 15) (hb hby d_method_3_14) rfl rfl ?_
      refine own_iconst A25 hx (pc' := 16) (hb hby d_method_3_15) (z := (0 : Int32)) (by decide) rfl ?_
      refine own_newarr K25 hx (hw _ (List.mem_of_getElem? (i := 68) rfl)) (hb hby d_method_3_16) (pc' := 18) rfl (by decide) 0 (by decide) (by decide) (by decide) (by decide) ?_
      intro T26 h26 b26 k26 g26 K26 E26 V26
      have ne_b25_b26 : b25 ≠ b26 := by rw [g26]; exact Nat.ne_of_lt X25.lt
      have X25 := X25.ext E26
      have F_value_b25 := F_value_b25.ext E26
      have F_coder_b25 := F_coder_b25.ext E26
      have A26 := own_here K26
      refine own_callSp K26 hx (by rw [hml]; rfl) rfl (hw _ (List.mem_of_getElem? (i := 69) rfl)) (hw _ (List.mem_of_getElem? (i := 70) rfl)) (hw _ (List.mem_of_getElem? (i := 11) rfl)) (hw _ (List.mem_of_getElem? (i := 71) rfl)) (by decide) (rm_new0 l Z a0 hw [] h26 b25 b26 _ _ _ _ _ X25 F_value_b25 F_coder_b25 V26) (own_mem1 (List.mem_of_getElem? (i := 1) rfl)) (argsL := [(.ref b26)]) (rest := [(.ref b25)]) (lenOf pd_5 rfl) rfl 1 (Nat.le_of_eq rfl) (hb hby d_method_3_18) (pc' := 21) rfl (by decide) (by decide) (by decide) (by decide) ?_
      intro v27 T27 h27 K27 Kp27 Q27
      obtain ⟨rfl, E27, C27, t27, kt27, V27, Y27⟩ := Q27
      have X25 := X25.keep Kp27
      have A27 := own_here K27
      show own_Go p.tables e below _ T27 (mkF m 21 #[.val (.int p1), .val (.int p2)] [(.ref b25)])
      exact own_retR K27 hx hlk hret rfl rfl (hb hby d_method_3_21) (by decide) (by decide) ⟨_, rfl, rfl⟩
  · refine own_null A hx (pc' := 5) (hb hby d_method_3_4) rfl ?_
    exact own_retR K hx hlk hret rfl rfl (hb hby d_method_3_5) (by decide) (by decide) ⟨_, rfl, rfl⟩
theorem d_jdk_30_method_1_0 : decode jdk_30_method_1_code 0 = .ok (.aload_n 0, 1) := by decide +kernel
theorem d_jdk_30_method_1_1 : decode jdk_30_method_1_code 1 = .ok (.invokespecial 1, 3) := by decide +kernel
theorem d_jdk_30_method_1_4 : decode jdk_30_method_1_code 4 = .ok (.return_, 1) := by decide +kernel
theorem ef_rm_rec (m : MethodId) (x : Addr)  : entryFrame m #[(.ref x)] 1 = mkF m 0 #[.val (.ref x)] [] := by  first | (simp [entryFrame, mkF, argsToLocals, Value.category]; done) | rfl
theorem pn_3 : plainName "java/lang/Record" = true := by first | (simp [plainName, overriddenIn]; done) | decide +kernel
set_option maxRecDepth 65536 in
set_option maxHeartbeats 40000000 in
theorem rm_rec (l : Launch) (Z : State) (a0 : Array Value) (hw : ∀ d ∈ tables_1, d.before a0 Z = true) (more : List Jvm.Cond) (h0 : Heap) (x : Addr)   :
    own_Met true false consts_1 l Z a0 (⟨"java/lang/Record", "<init>", "()V"⟩ : MethodName) jdk_30_method_1_code 1 none more ({ frames := 1, cells := 0, slots := 0, locals := 12 } : Room) #[(.ref x)] h0 [] (fun v h => v = none ∧ h = h0) := by
  refine own_enter (own := "java/lang/Record") rfl (plainFor_of_name pn_3) ?_
  intro p e s m below meth c T hx hby hml hret hlk hnm K
  rw [ef_rm_rec m x]
  have A := own_here K
  refine own_aloadN A hx (pc' := 1) (hb hby d_jdk_30_method_1_0) rfl rfl rfl ?_
  refine own_initO K hx (hw _ (List.mem_of_getElem? (i := 29) rfl)) (hw _ (List.mem_of_getElem? (i := 30) rfl)) (hw _ (List.mem_of_getElem? (i := 31) rfl)) (by rw [hml]; rfl) 0 (Nat.le_of_eq rfl) (by decide) (by decide) (hb hby d_jdk_30_method_1_1) (pc' := 4) rfl ?_
  intro T28 K28
  have A28 := own_here K28
  exact own_retV K28 hx hlk hret (hb hby d_jdk_30_method_1_4) (by decide) (by decide) ⟨rfl, rfl⟩
theorem d_prog_29_method_1_0 : decode prog_29_method_1_code 0 = .ok (.aload_n 0, 1) := by decide +kernel
theorem pd_6 : parseMethodDescriptor "()V" = some ⟨[], none⟩ := by decide +kernel
theorem d_prog_29_method_1_1 : decode prog_29_method_1_code 1 = .ok (.invokespecial 1, 3) := by decide +kernel
theorem d_prog_29_method_1_4 : decode prog_29_method_1_code 4 = .ok (.aload_n 0, 1) := by decide +kernel
theorem d_prog_29_method_1_5 : decode prog_29_method_1_code 5 = .ok (.aload_n 1, 1) := by decide +kernel
theorem d_prog_29_method_1_6 : decode prog_29_method_1_code 6 = .ok (.putfield 7, 3) := by decide +kernel
theorem d_prog_29_method_1_9 : decode prog_29_method_1_code 9 = .ok (.aload_n 0, 1) := by decide +kernel
theorem d_prog_29_method_1_10 : decode prog_29_method_1_code 10 = .ok (.aload_n 2, 1) := by decide +kernel
theorem d_prog_29_method_1_11 : decode prog_29_method_1_code 11 = .ok (.putfield 13, 3) := by decide +kernel
theorem d_prog_29_method_1_14 : decode prog_29_method_1_code 14 = .ok (.return_, 1) := by decide +kernel
theorem ef_rm_sc (m : MethodId) (x : Addr) (t : Value) (k : Addr) (hr_t : t.isRef = true) : entryFrame m #[(.ref x), t, (.ref k)] 3 = mkF m 0 #[.val (.ref x), .val t, .val (.ref k)] [] := by rcases ref_cases hr_t with rfl | ⟨_, rfl⟩ <;>  first | (simp [entryFrame, mkF, argsToLocals, Value.category]; done) | rfl
theorem pn_4 : plainName "com/example/mannered_forms/manneredforms/JsonValue$Scalar" = true := by first | (simp [plainName, overriddenIn]; done) | decide +kernel
set_option maxRecDepth 65536 in
set_option maxHeartbeats 40000000 in
theorem rm_sc (l : Launch) (Z : State) (a0 : Array Value) (hw : ∀ d ∈ tables_1, d.before a0 Z = true) (more : List Jvm.Cond) (h0 : Heap) (x : Addr) (t : Value) (k : Addr) (v0 v1 : Value) (hr_t : t.isRef = true) (E : Exa Z h0 x "com/example/mannered_forms/manneredforms/JsonValue$Scalar") (F1 : Fld Z h0 x "com/example/mannered_forms/manneredforms/JsonValue$Scalar" "text" "Ljava/lang/String;" v0) (F2 : Fld Z h0 x "com/example/mannered_forms/manneredforms/JsonValue$Scalar" "kind" "Lcom/example/mannered_forms/manneredforms/JsonValue$Scalar$Kind;" v1) :
    own_Met true false consts_1 l Z a0 (⟨"com/example/mannered_forms/manneredforms/JsonValue$Scalar", "<init>", "(Ljava/lang/String;Lcom/example/mannered_forms/manneredforms/JsonValue$Scalar$Kind;)V"⟩ : MethodName) prog_29_method_1_code 3 none more ({ frames := 2, cells := 0, slots := 0, locals := 24 } : Room) #[(.ref x), t, (.ref k)] h0 [x] (fun v h => v = none ∧ Fld Z h x "com/example/mannered_forms/manneredforms/JsonValue$Scalar" "kind" "Lcom/example/mannered_forms/manneredforms/JsonValue$Scalar$Kind;" (.ref k)) := by
  refine own_enter (own := "com/example/mannered_forms/manneredforms/JsonValue$Scalar") rfl (plainFor_of_name pn_4) ?_
  intro p e s m below meth c T hx hby hml hret hlk hnm K
  rw [ef_rm_sc m x t k hr_t]
  have A := own_here K
  refine own_aloadN A hx (pc' := 1) (hb hby d_prog_29_method_1_0) rfl rfl rfl ?_
  refine own_callSp K hx (by rw [hml]; rfl) rfl (hw _ (List.mem_of_getElem? (i := 24) rfl)) (hw _ (List.mem_of_getElem? (i := 25) rfl)) (hw _ (List.mem_of_getElem? (i := 27) rfl)) (hw _ (List.mem_of_getElem? (i := 28) rfl)) (by decide) (rm_rec l Z a0 hw [] h0 x) (fun _ q => nomatch q) (argsL := []) (rest := []) (lenOf pd_6 rfl) rfl 0 (Nat.le_of_eq rfl) (hb hby d_prog_29_method_1_1) (pc' := 4) rfl (by decide) (by decide) (by decide) (by decide) ?_
  intro v29 T29 h29 K29 Kp29 Q29
  obtain ⟨rfl, -⟩ := Q29
  have E := E.keep Kp29
  have F1 := F1.keep Kp29 nin0
  have F2 := F2.keep Kp29 nin0
  have A29 := own_here K29
  show own_Go p.tables e below _ T29 (mkF m 4 #[.val (.ref x), .val t, .val (.ref k)] [])
  refine own_aloadN A29 hx (pc' := 5) (hb hby d_prog_29_method_1_4) rfl rfl rfl ?_
  refine own_aloadN A29 hx (pc' := 6) (hb hby d_prog_29_method_1_5) rfl hr_t rfl ?_
  refine own_putF K29 hx (host := "") (Or.inl (hw _ (List.mem_of_getElem? (i := 32) rfl))) Via.refl F1 E (Or.inr ⟨(hw _ (List.mem_of_getElem? (i := 33) rfl)), rfl, hnm⟩) (hw _ (List.mem_of_getElem? (i := 19) rfl)) (ty := (.object "java/lang/String")) (by decide) rfl (own_fits hr_t) (List.mem_of_getElem? (i := 0) rfl) (hb hby d_prog_29_method_1_6) (pc' := 9) rfl ?_
  intro T30 h30 K30 W30
  have E := E.wr W30
  have F1 := F1.same W30
  have F2 := F2.other W30 (Or.inr (slot_ne (Or.inr (hw _ (List.mem_of_getElem? (i := 35) rfl))) (Or.inr (hw _ (List.mem_of_getElem? (i := 33) rfl))) (by decide) (t := (.object "com/example/mannered_forms/manneredforms/JsonValue$Scalar$Kind")) (t' := (.object "java/lang/String")) (by decide) (by decide)))
  have A30 := own_here K30
  refine own_aloadN A30 hx (pc' := 10) (hb hby d_prog_29_method_1_9) rfl rfl rfl ?_
  refine own_aloadN A30 hx (pc' := 11) (hb hby d_prog_29_method_1_10) rfl rfl rfl ?_
  refine own_putF K30 hx (host := "") (Or.inl (hw _ (List.mem_of_getElem? (i := 34) rfl))) Via.refl F2 E (Or.inr ⟨(hw _ (List.mem_of_getElem? (i := 35) rfl)), rfl, hnm⟩) (hw _ (List.mem_of_getElem? (i := 19) rfl)) (ty := (.object "com/example/mannered_forms/manneredforms/JsonValue$Scalar$Kind")) (by decide) rfl rfl (List.mem_of_getElem? (i := 0) rfl) (hb hby d_prog_29_method_1_11) (pc' := 14) rfl ?_
  intro T31 h31 K31 W31
  have E := E.wr W31
  have F1 := F1.other W31 (Or.inr (slot_ne (Or.inr (hw _ (List.mem_of_getElem? (i := 33) rfl))) (Or.inr (hw _ (List.mem_of_getElem? (i := 35) rfl))) (by decide) (t := (.object "java/lang/String")) (t' := (.object "com/example/mannered_forms/manneredforms/JsonValue$Scalar$Kind")) (by decide) (by decide)))
  have F2 := F2.same W31
  have A31 := own_here K31
  exact own_retV K31 hx hlk hret (hb hby d_prog_29_method_1_14) (by decide) (by decide) ⟨rfl, F2⟩
theorem d_prog_29_method_4_0 : decode prog_29_method_4_code 0 = .ok (.aload_n 0, 1) := by decide +kernel
theorem d_prog_29_method_4_1 : decode prog_29_method_4_code 1 = .ok (.getfield 13, 3) := by decide +kernel
theorem d_prog_29_method_4_4 : decode prog_29_method_4_code 4 = .ok (.getstatic 25, 3) := by decide +kernel
theorem d_prog_29_method_4_7 : decode prog_29_method_4_code 7 = .ok (.if_acmp .ne 7, 3) := by decide +kernel
theorem d_prog_29_method_4_10 : decode prog_29_method_4_code 10 = .ok (.iconst 1, 1) := by decide +kernel
theorem d_prog_29_method_4_11 : decode prog_29_method_4_code 11 = .ok (.goto 4, 3) := by decide +kernel
theorem d_prog_29_method_4_15 : decode prog_29_method_4_code 15 = .ok (.ireturn, 1) := by decide +kernel
theorem d_prog_29_method_4_14 : decode prog_29_method_4_code 14 = .ok (.iconst 0, 1) := by decide +kernel
theorem ef_rm_isn (m : MethodId) (x : Addr)  : entryFrame m #[(.ref x)] 1 = mkF m 0 #[.val (.ref x)] [] := by  first | (simp [entryFrame, mkF, argsToLocals, Value.category]; done) | rfl
set_option maxRecDepth 65536 in
set_option maxHeartbeats 40000000 in
theorem rm_isn (l : Launch) (Z : State) (a0 : Array Value) (hw : ∀ d ∈ tables_1, d.before a0 Z = true) (more : List Jvm.Cond) (h0 : Heap) (x : Addr) (k : Addr) (e0 e1 e2 e3 : Addr) (S_STRING : Sta Z Z.heap "com/example/mannered_forms/manneredforms/JsonValue$Scalar$Kind" "STRING" "Lcom/example/mannered_forms/manneredforms/JsonValue$Scalar$Kind;" (.ref e0)) (S_NUMBER : Sta Z Z.heap "com/example/mannered_forms/manneredforms/JsonValue$Scalar$Kind" "NUMBER" "Lcom/example/mannered_forms/manneredforms/JsonValue$Scalar$Kind;" (.ref e1)) (S_BOOLEAN : Sta Z Z.heap "com/example/mannered_forms/manneredforms/JsonValue$Scalar$Kind" "BOOLEAN" "Lcom/example/mannered_forms/manneredforms/JsonValue$Scalar$Kind;" (.ref e2)) (S_NULL : Sta Z Z.heap "com/example/mannered_forms/manneredforms/JsonValue$Scalar$Kind" "NULL" "Lcom/example/mannered_forms/manneredforms/JsonValue$Scalar$Kind;" (.ref e3)) (F2 : Fld Z h0 x "com/example/mannered_forms/manneredforms/JsonValue$Scalar" "kind" "Lcom/example/mannered_forms/manneredforms/JsonValue$Scalar$Kind;" (.ref k)) :
    own_Met true false consts_1 l Z a0 (⟨"com/example/mannered_forms/manneredforms/JsonValue$Scalar", "isNull", "()Z"⟩ : MethodName) prog_29_method_4_code 1 (some .boolean) more ({ frames := 0, cells := 0, slots := 0, locals := 0 } : Room) #[(.ref x)] h0 [] (fun v h => v = some (.int (if k = e3 then 1 else 0)) ∧ h = h0) := by
  refine own_enter (own := "com/example/mannered_forms/manneredforms/JsonValue$Scalar") rfl (plainFor_of_name pn_4) ?_
  intro p e s m below meth c T hx hby hml hret hlk hnm K
  rw [ef_rm_isn m x]
  have A := own_here K
  refine own_aloadN A hx (pc' := 1) (hb hby d_prog_29_method_4_0) rfl rfl rfl ?_
  refine own_getF K hx (host := "") (Or.inl (hw _ (List.mem_of_getElem? (i := 34) rfl))) Via.refl F2 (hb hby d_prog_29_method_4_1) (pc' := 4) rfl ?_
  intro T32 K32
  have A32 := own_here K32
  refine own_getS K32 hx (host := "") (Or.inl (hw _ (List.mem_of_getElem? (i := 41) rfl))) Via.refl S_NULL (hb hby d_prog_29_method_4_4) (pc' := 7) rfl ?_
  intro T33 K33
  have A33 := own_here K33
  by_cases hq : k = e3
  · refine own_acmp K33 hx rfl rfl true (decide_eq_true (congrArg Value.ref hq)) (pc' := 10) (hb hby d_prog_29_method_4_7) (by decide) (by decide) ?_
    refine own_iconst A33 hx (pc' := 11) (hb hby d_prog_29_method_4_10) (z := (1 : Int32)) (by decide) rfl ?_
    refine own_goto A33 hx 15 (hb hby d_prog_29_method_4_11) (by decide) (by decide) ?_
    exact own_retN K33 hx hlk hret (by simp) (hb hby d_prog_29_method_4_15) (by decide) (by decide) ⟨by rw [if_pos hq]; rfl, rfl⟩
  · refine own_acmp K33 hx rfl rfl false (decide_eq_false fun q => hq (Value.ref.inj q)) (pc' := 14) (hb hby d_prog_29_method_4_7) (by decide) (by decide) ?_
    refine own_iconst A33 hx (pc' := 15) (hb hby d_prog_29_method_4_14) (z := (0 : Int32)) (by decide) rfl ?_
    exact own_retN K33 hx hlk hret (by simp) (hb hby d_prog_29_method_4_15) (by decide) (by decide) ⟨by rw [if_neg hq]; rfl, rfl⟩
theorem pd_7 : parseMethodDescriptor "(I)Lcom/example/mannered_forms/manneredforms/JsonValue$Scalar$Kind;" = some ⟨[.int], some (.object "com/example/mannered_forms/manneredforms/JsonValue$Scalar$Kind")⟩ := by decide +kernel
theorem pd_8 : parseMethodDescriptor "(II)Ljava/lang/String;" = some ⟨[.int, .int], some (.object "java/lang/String")⟩ := by decide +kernel
theorem pd_9 : parseMethodDescriptor "(Ljava/lang/String;Lcom/example/mannered_forms/manneredforms/JsonValue$Scalar$Kind;)V" = some ⟨[(.object "java/lang/String"), (.object "com/example/mannered_forms/manneredforms/JsonValue$Scalar$Kind")], none⟩ := by decide +kernel
theorem pd_10 : parseMethodDescriptor "()Z" = some ⟨[], some .boolean⟩ := by decide +kernel
theorem ef_rm_law (m : MethodId) (i0 : Int32) (i1 : Int32) (i2 : Int32)  : entryFrame m #[(.int i0), (.int i1), (.int i2)] maxLocals = mkF m 0 #[.val (.int i0), .val (.int i1), .val (.int i2), .unset, .unset, .unset, .unset, .unset] [] := by  first | (simp [entryFrame, mkF, argsToLocals, Value.category, maxLocals]; done) | rfl
set_option maxRecDepth 65536 in
set_option maxHeartbeats 40000000 in
theorem rm_law (l : Launch) (Z : State) (a0 : Array Value) (hw : ∀ d ∈ tables_1, d.before a0 Z = true) (more : List Jvm.Cond) (h0 : Heap) (i0 : Int32) (i1 : Int32) (i2 : Int32) (e0 e1 e2 e3 : Addr) (G1 : Int32) (O2 : Sta Z Z.heap "java/lang/String" "COMPACT_STRINGS" "Z" (.int G1)) (P5 : ¬ (G1 = (0 : Int32))) (S_STRING : Sta Z Z.heap "com/example/mannered_forms/manneredforms/JsonValue$Scalar$Kind" "STRING" "Lcom/example/mannered_forms/manneredforms/JsonValue$Scalar$Kind;" (.ref e0)) (S_NUMBER : Sta Z Z.heap "com/example/mannered_forms/manneredforms/JsonValue$Scalar$Kind" "NUMBER" "Lcom/example/mannered_forms/manneredforms/JsonValue$Scalar$Kind;" (.ref e1)) (S_BOOLEAN : Sta Z Z.heap "com/example/mannered_forms/manneredforms/JsonValue$Scalar$Kind" "BOOLEAN" "Lcom/example/mannered_forms/manneredforms/JsonValue$Scalar$Kind;" (.ref e2)) (S_NULL : Sta Z Z.heap "com/example/mannered_forms/manneredforms/JsonValue$Scalar$Kind" "NULL" "Lcom/example/mannered_forms/manneredforms/JsonValue$Scalar$Kind;" (.ref e3)) (n01 : e0 ≠ e1) (n02 : e0 ≠ e2) (n03 : e0 ≠ e3) (n12 : e1 ≠ e2) (n13 : e1 ≠ e3) (n23 : e2 ≠ e3) :
    own_Met true false consts_1 l Z a0 x code maxLocals ret more room_1 #[(.int i0), (.int i1), (.int i2)] h0 [] (fun v h => v = some (.int 1)) := by
  refine own_enter (own := "com/example/mannered_forms/manneredforms/ScalarIsNullPinLaw") rfl (plainFor_of_name pn_0) ?_
  intro p e s m below meth c T hx hby hml hret hlk hnm K
  rw [ef_rm_law m i0 i1 i2]
  have A := own_here K
  refine own_iloadN A hx (pc' := 1) (hb hby at_0) rfl rfl ?_
  refine own_iconst A hx (pc' := 2) (hb hby at_1) (z := (3 : Int32)) (by decide) rfl ?_
  refine own_iand A hx (pc' := 3) (hb hby at_2) (z := (i0 &&& (3 : Int32))) rfl rfl ?_
  refine own_istoreN A hx (pc' := 4) #[.val (.int i0), .val (.int i1), .val (.int i2), .val (.int (i0 &&& (3 : Int32))), .unset, .unset, .unset, .unset] (hb hby at_3) rfl rfl ?_
  refine own_iloadN A hx (pc' := 5) (hb hby at_4) rfl rfl ?_
  refine own_callS K hx (by rw [hml]; rfl) (hw _ (List.mem_of_getElem? (i := 0) rfl)) (hw _ (List.mem_of_getElem? (i := 1) rfl)) (hw _ (List.mem_of_getElem? (i := 2) rfl)) (hw _ (List.mem_of_getElem? (i := 3) rfl)) (by decide) (rm_kind l Z a0 hw [] h0 (i0 &&& (3 : Int32)) e0 e1 e2 e3 S_STRING S_NUMBER S_BOOLEAN S_NULL) (fun _ q => nomatch q) (argsL := [(.int (i0 &&& (3 : Int32)))]) (rest := []) (lenOf pd_7 rfl) rfl 0 (Nat.le_of_eq rfl) (hb hby at_5) (pc' := 8) rfl (by decide) (by decide) (by decide) (by decide) ?_
  intro v34 T34 h34 K34 Kp34 Q34
  obtain ⟨rfl, -⟩ := Q34
  have A34 := own_here K34
  show own_Go p.tables e below _ T34 (mkF m 8 #[.val (.int i0), .val (.int i1), .val (.int i2), .val (.int (i0 &&& (3 : Int32))), .unset, .unset, .unset, .unset] [(.ref (own_kind (i0 &&& (3 : Int32)) e0 e1 e2 e3))])
  refine own_astore A34 hx (pc' := 10) #[.val (.int i0), .val (.int i1), .val (.int i2), .val (.int (i0 &&& (3 : Int32))), .val (.ref (own_kind (i0 &&& (3 : Int32)) e0 e1 e2 e3)), .unset, .unset, .unset] (hb hby at_8) rfl rfl rfl ?_
  refine own_iloadN A34 hx (pc' := 11) (hb hby at_10) rfl rfl ?_
  refine own_iconst A34 hx (pc' := 12) (hb hby at_11) (z := (3 : Int32)) (by decide) rfl ?_
  refine own_iand A34 hx (pc' := 13) (hb hby at_12) (z := (i1 &&& (3 : Int32))) rfl rfl ?_
  refine own_iloadN A34 hx (pc' := 14) (hb hby at_13) rfl rfl ?_
  refine own_callS K34 hx (by rw [hml]; rfl) (hw _ (List.mem_of_getElem? (i := 7) rfl)) (hw _ (List.mem_of_getElem? (i := 8) rfl)) (hw _ (List.mem_of_getElem? (i := 2) rfl)) (hw _ (List.mem_of_getElem? (i := 9) rfl)) (by decide) (rm_text l Z a0 hw [] h34 (i1 &&& (3 : Int32)) i2 G1 O2 P5) (fun _ q => nomatch q) (argsL := [(.int (i1 &&& (3 : Int32))), (.int i2)]) (rest := []) (lenOf pd_8 rfl) rfl 0 (Nat.le_of_eq rfl) (hb hby at_14) (pc' := 17) rfl (by decide) (by decide) (by decide) (by decide) ?_
  intro v35 T35 h35 K35 Kp35 Q35
  obtain ⟨t35, rfl, hr_t35⟩ := Q35
  have A35 := own_here K35
  show own_Go p.tables e below _ T35 (mkF m 17 #[.val (.int i0), .val (.int i1), .val (.int i2), .val (.int (i0 &&& (3 : Int32))), .val (.ref (own_kind (i0 &&& (3 : Int32)) e0 e1 e2 e3)), .unset, .unset, .unset] [t35])
  refine own_astore A35 hx (pc' := 19) #[.val (.int i0), .val (.int i1), .val (.int i2), .val (.int (i0 &&& (3 : Int32))), .val (.ref (own_kind (i0 &&& (3 : Int32)) e0 e1 e2 e3)), .val t35, .unset, .unset] (hb hby at_17) hr_t35 (by rcases ref_cases hr_t35 with rfl | ⟨_, rfl⟩ <;> rfl) rfl ?_
  refine own_new K35 hx (hw _ (List.mem_of_getElem? (i := 18) rfl)) (hw _ (List.mem_of_getElem? (i := 19) rfl)) (hw _ (List.mem_of_getElem? (i := 20) rfl)) (hb hby at_19) (pc' := 22) rfl (by decide) (by decide) ?_
  intro T36 h36 b36 g36 K36 E36 X36 D36 U36
  have A36 := own_here K36
  have F_text_b36 := D36 (Or.inr (hw _ (List.mem_of_getElem? (i := 33) rfl))) (ty := (.object "java/lang/String")) (by decide)
  have F_kind_b36 := D36 (Or.inr (hw _ (List.mem_of_getElem? (i := 35) rfl))) (ty := (.object "com/example/mannered_forms/manneredforms/JsonValue$Scalar$Kind")) (by decide)
  refine own_dup A36 hx (pc' := 23) (hb hby at_22) rfl rfl ?_
  refine own_aload A36 hx (pc' := 25) (hb hby at_23) rfl hr_t35 rfl ?_
  refine own_aload A36 hx (pc' := 27) (hb hby at_25) rfl rfl rfl ?_
  refine own_callSp K36 hx (by rw [hml]; rfl) rfl (hw _ (List.mem_of_getElem? (i := 21) rfl)) (hw _ (List.mem_of_getElem? (i := 22) rfl)) (hw _ (List.mem_of_getElem? (i := 20) rfl)) (hw _ (List.mem_of_getElem? (i := 23) rfl)) (by decide) (rm_sc l Z a0 hw [] h36 b36 t35 (own_kind (i0 &&& (3 : Int32)) e0 e1 e2 e3) _ _ hr_t35 X36 F_text_b36 F_kind_b36) (own_mem1 (List.mem_of_getElem? (i := 0) rfl)) (argsL := [t35, (.ref (own_kind (i0 &&& (3 : Int32)) e0 e1 e2 e3))]) (rest := [(.ref b36)]) (lenOf pd_9 rfl) rfl 1 (Nat.le_of_eq rfl) (hb hby at_27) (pc' := 30) rfl (by decide) (by decide) (by decide) (by decide) ?_
  intro v37 T37 h37 K37 Kp37 Q37
  obtain ⟨rfl, F37⟩ := Q37
  have X36 := X36.keep Kp37
  have A37 := own_here K37
  show own_Go p.tables e below _ T37 (mkF m 30 #[.val (.int i0), .val (.int i1), .val (.int i2), .val (.int (i0 &&& (3 : Int32))), .val (.ref (own_kind (i0 &&& (3 : Int32)) e0 e1 e2 e3)), .val t35, .unset, .unset] [(.ref b36)])
  refine own_astore A37 hx (pc' := 32) #[.val (.int i0), .val (.int i1), .val (.int i2), .val (.int (i0 &&& (3 : Int32))), .val (.ref (own_kind (i0 &&& (3 : Int32)) e0 e1 e2 e3)), .val t35, .val (.ref b36), .unset] (hb hby at_30) rfl rfl rfl ?_
  refine own_iloadN A37 hx (pc' := 33) (hb hby at_32) rfl rfl ?_
  refine own_iconst A37 hx (pc' := 34) (hb hby at_33) (z := (3 : Int32)) (by decide) rfl ?_
  refine own_icmp_ne A37 hx 41 37 (hb hby at_34) (by decide) (by decide) rfl (fun hc34 => ?_) (fun hc34 => ?_)
  · refine own_iconst A37 hx (pc' := 42) (hb hby at_41) (z := (0 : Int32)) (by decide) rfl ?_
    refine own_istore A37 hx (pc' := 44) #[.val (.int i0), .val (.int i1), .val (.int i2), .val (.int (i0 &&& (3 : Int32))), .val (.ref (own_kind (i0 &&& (3 : Int32)) e0 e1 e2 e3)), .val t35, .val (.ref b36), .val (.int (0 : Int32))] (hb hby at_42) rfl rfl ?_
    refine own_aload A37 hx (pc' := 46) (hb hby at_44) rfl rfl rfl ?_
    refine own_callV K37 hx (by rw [hml]; rfl) (hw _ (List.mem_of_getElem? (i := 36) rfl)) (hw _ (List.mem_of_getElem? (i := 37) rfl)) (fun U hU => notFace_of_selects (args := #[]) (mvT hU (hw _ (List.mem_of_getElem? (i := 39) rfl)))) (hw _ (List.mem_of_getElem? (i := 39) rfl)) (hw _ (List.mem_of_getElem? (i := 38) rfl)) (hw _ (List.mem_of_getElem? (i := 20) rfl)) (hw _ (List.mem_of_getElem? (i := 40) rfl)) (by decide) X36 (rm_isn l Z a0 hw [] h37 b36 (own_kind (i0 &&& (3 : Int32)) e0 e1 e2 e3) e0 e1 e2 e3 S_STRING S_NUMBER S_BOOLEAN S_NULL F37) (fun _ q => nomatch q) (argsL := []) (rest := []) (lenOf pd_10 rfl) rfl 0 (Nat.le_of_eq rfl) (hb hby at_46) (pc' := 49) rfl (by decide) (by decide) (by decide) (by decide) ?_
    intro v38 T38 h38 K38 Kp38 Q38
    obtain ⟨rfl, -⟩ := Q38
    have X36 := X36.keep Kp38
    have F37 := F37.keep Kp38 nin0
    have A38 := own_here K38
    show own_Go p.tables e below _ T38 (mkF m 49 #[.val (.int i0), .val (.int i1), .val (.int i2), .val (.int (i0 &&& (3 : Int32))), .val (.ref (own_kind (i0 &&& (3 : Int32)) e0 e1 e2 e3)), .val t35, .val (.ref b36), .val (.int (0 : Int32))] [(.int (if (own_kind (i0 &&& (3 : Int32)) e0 e1 e2 e3) = e3 then 1 else 0))])
    refine own_iload A38 hx (pc' := 51) (hb hby at_49) rfl rfl ?_
    have hk : (if (own_kind (i0 &&& (3 : Int32)) e0 e1 e2 e3) = e3 then (1 : Int32) else 0) = (0 : Int32) := by rw [own_k3 i0 n01 n02 n03 n12 n13 n23, if_neg hc34]
    refine own_icmp_ne A38 hx 58 54 (hb hby at_51) (by decide) (by decide) rfl (fun hc51 => ?_) (fun hc51 => ?_)
    · exact absurd hk hc51
    refine own_iconst A38 hx (pc' := 55) (hb hby at_54) (z := (1 : Int32)) (by decide) rfl ?_
    refine own_goto A38 hx 59 (hb hby at_55) (by decide) (by decide) ?_
    exact own_retN K38 hx hlk hret (by simp) (hb hby at_59) (by decide) (by decide) rfl
  · refine own_iconst A37 hx (pc' := 38) (hb hby at_37) (z := (1 : Int32)) (by decide) rfl ?_
    refine own_goto A37 hx 42 (hb hby at_38) (by decide) (by decide) ?_
    refine own_istore A37 hx (pc' := 44) #[.val (.int i0), .val (.int i1), .val (.int i2), .val (.int (i0 &&& (3 : Int32))), .val (.ref (own_kind (i0 &&& (3 : Int32)) e0 e1 e2 e3)), .val t35, .val (.ref b36), .val (.int (1 : Int32))] (hb hby at_42) rfl rfl ?_
    refine own_aload A37 hx (pc' := 46) (hb hby at_44) rfl rfl rfl ?_
    refine own_callV K37 hx (by rw [hml]; rfl) (hw _ (List.mem_of_getElem? (i := 36) rfl)) (hw _ (List.mem_of_getElem? (i := 37) rfl)) (fun U hU => notFace_of_selects (args := #[]) (mvT hU (hw _ (List.mem_of_getElem? (i := 39) rfl)))) (hw _ (List.mem_of_getElem? (i := 39) rfl)) (hw _ (List.mem_of_getElem? (i := 38) rfl)) (hw _ (List.mem_of_getElem? (i := 20) rfl)) (hw _ (List.mem_of_getElem? (i := 40) rfl)) (by decide) X36 (rm_isn l Z a0 hw [] h37 b36 (own_kind (i0 &&& (3 : Int32)) e0 e1 e2 e3) e0 e1 e2 e3 S_STRING S_NUMBER S_BOOLEAN S_NULL F37) (fun _ q => nomatch q) (argsL := []) (rest := []) (lenOf pd_10 rfl) rfl 0 (Nat.le_of_eq rfl) (hb hby at_46) (pc' := 49) rfl (by decide) (by decide) (by decide) (by decide) ?_
    intro v39 T39 h39 K39 Kp39 Q39
    obtain ⟨rfl, -⟩ := Q39
    have X36 := X36.keep Kp39
    have F37 := F37.keep Kp39 nin0
    have A39 := own_here K39
    show own_Go p.tables e below _ T39 (mkF m 49 #[.val (.int i0), .val (.int i1), .val (.int i2), .val (.int (i0 &&& (3 : Int32))), .val (.ref (own_kind (i0 &&& (3 : Int32)) e0 e1 e2 e3)), .val t35, .val (.ref b36), .val (.int (1 : Int32))] [(.int (if (own_kind (i0 &&& (3 : Int32)) e0 e1 e2 e3) = e3 then 1 else 0))])
    refine own_iload A39 hx (pc' := 51) (hb hby at_49) rfl rfl ?_
    have hk : (if (own_kind (i0 &&& (3 : Int32)) e0 e1 e2 e3) = e3 then (1 : Int32) else 0) = (1 : Int32) := by rw [own_k3 i0 n01 n02 n03 n12 n13 n23, if_pos hc34]
    refine own_icmp_ne A39 hx 58 54 (hb hby at_51) (by decide) (by decide) rfl (fun hc51 => ?_) (fun hc51 => ?_)
    · exact absurd hk hc51
    refine own_iconst A39 hx (pc' := 55) (hb hby at_54) (z := (1 : Int32)) (by decide) rfl ?_
    refine own_goto A39 hx 59 (hb hby at_55) (by decide) (by decide) ?_
    exact own_retN K39 hx hlk hret (by simp) (hb hby at_59) (by decide) (by decide) rfl
set_option maxRecDepth 65536 in
set_option maxHeartbeats 40000000 in
theorem comes_1 {Post : Tables → Env → Array Value → State → Outcome → State → Prop} (hpost : ∀ tb e args s v u, (limb_1_1.after args s (.returned v) u = true ∧ limb_1_2.after args s (.returned v) u = true ∧ True) → own_End true s (.returned v) u (Jvm.fieldLocs frame_1_writes args s ++ Jvm.arrayLocs frame_1_arrays args s ++ Jvm.staticLocs frame_1_statics s) 24 2176 → Post tb e args s (.returned v) u) :
    ArmFor flags0 classFile x code maxLocals ret World_1 tables_1 room_1 Calls_1 rest_1 Pre_1 Post := by
  intro l hfl _ _ p e ha hc hk s m args below hf hA hF happ hP
  obtain ⟨hcalls, hrest, hpre⟩ := hP
  obtain ⟨-, -, -, hnamed, -, -, -, hat⟩ := (Spec.applies_iff hf).mp happ
  obtain ⟨hg, hn⟩ := and_e (Cond.before_iff.mp (show (Jvm.Cond.and given_1 narrow_1).before args s = true from hpre))
  obtain ⟨g_c, g_r0⟩ := and_e hg
  obtain ⟨g_0, g_r1⟩ := and_e g_r0
  obtain ⟨g_1, g_r2⟩ := and_e g_r1
  obtain ⟨w0, w1, w2, rfl⟩ : ∃ w0 w1 w2 : Value, args = #[w0, w1, w2] := by
    have hs : args.size = 3 := by simpa [Cond.value, given_1] using g_c
    obtain ⟨L⟩ := args
    match L, hs with
    | [w0, w1, w2], _ => exact ⟨w0, w1, w2, rfl⟩
  have hw := fun d (hd : d ∈ tables_1) => atoms_spec (ws := Jvm.Cond.code x code maxLocals ret :: tables_1) hat d (List.mem_cons_of_mem _ hd)
  have hfit : Fit s := fun {y c} hc i hi => by
    obtain ⟨ha, rfl⟩ := Array.getElem?_eq_some_iff.mp hc
    have q := List.all_eq_true.mp ((Array.all_eq_true_iff_forall_mem.mp hF) _ (Array.getElem_mem ha)) i (List.mem_range.mpr hi)
    simpa [Array.getElem?_eq_getElem hi] using q
  obtain ⟨hsets, hown0⟩ := atoms_of _ (rest_1_c_eq ▸ (show rest_1_c.before _ s = true from hrest))
  obtain ⟨i0, ei0⟩ := is_v g_0
  obtain rfl : w0 = (.int i0) := Option.some.inj ei0
  obtain ⟨i1, ei1⟩ := is_v g_1
  obtain rfl : w1 = (.int i1) := Option.some.inj ei1
  obtain ⟨i2, ei2⟩ := is_v g_r2
  obtain rfl : w2 = (.int i2) := Option.some.inj ei2
  have n5 := not_v (Cond.before_iff.mp (hsets _ (List.mem_of_getElem? (i := 2) rfl)))
  obtain ⟨z1, ez1⟩ := is_v (Cond.before_iff.mp (hsets _ (List.mem_of_getElem? (i := 1) rfl)))
  have S12 : Sta s s.heap "java/lang/String" "COMPACT_STRINGS" "Z" (.int z1) := Sta.start ez1 (Or.inl (hsets _ (List.mem_of_getElem? (i := 0) rfl)))
  have c17 : ¬ (z1 = (0 : Int32)) := gotF (Cond.eq_ints ez1 (Term.int_eval (0))) n5
  obtain ⟨q0, r0⟩ := and_e hn
  obtain ⟨q1, r1⟩ := and_e r0
  obtain ⟨q2, r2⟩ := and_e r1
  obtain ⟨q3, r3⟩ := and_e r2
  obtain ⟨q4, r4⟩ := and_e r3
  obtain ⟨q5, r5⟩ := and_e r4
  obtain ⟨q6, r6⟩ := and_e r5
  obtain ⟨c0, ec0⟩ := exa_v q0
  have S_0 := Sta.start ec0 (Or.inr ⟨hw _ (List.mem_of_getElem? (i := 5) rfl), hw _ (List.mem_of_getElem? (i := 6) rfl)⟩)
  obtain ⟨c1, ec1⟩ := exa_v q4
  have S_1 := Sta.start ec1 (Or.inr ⟨hw _ (List.mem_of_getElem? (i := 5) rfl), hw _ (List.mem_of_getElem? (i := 44) rfl)⟩)
  obtain ⟨c2, ec2⟩ := exa_v q6
  have S_2 := Sta.start ec2 (Or.inr ⟨hw _ (List.mem_of_getElem? (i := 5) rfl), hw _ (List.mem_of_getElem? (i := 66) rfl)⟩)
  obtain ⟨c3, ec3⟩ := exa_v q1
  have S_3 := Sta.start ec3 (Or.inr ⟨hw _ (List.mem_of_getElem? (i := 5) rfl), hw _ (List.mem_of_getElem? (i := 42) rfl)⟩)
  have n01 : c0 ≠ c1 := own_ord ec0 ec1 q2 q5 (by decide)
  have n02 : c0 ≠ c2 := own_ord ec0 ec2 q2 r6 (by decide)
  have n03 : c0 ≠ c3 := own_ord ec0 ec3 q2 q3 (by decide)
  have n12 : c1 ≠ c2 := own_ord ec1 ec2 q5 r6 (by decide)
  have n13 : c1 ≠ c3 := own_ord ec1 ec3 q5 q3 (by decide)
  have n23 : c2 ≠ c3 := own_ord ec2 ec3 r6 q3 (by decide)
  have hEW : EW s _ consts_1 := (EW.cons (hw _ (List.mem_of_getElem? (i := 10) rfl)) (by decide +kernel) (EW.cons (hw _ (List.mem_of_getElem? (i := 75) rfl)) (by decide +kernel) EW.nil))
  have hCH : CHv s consts_1 s.vm s.heap := CHv.start hEW (fun p hp => hcalls.1 p hp) (hsets _ (List.mem_of_getElem? (i := 2) rfl)) (hw _ (List.mem_of_getElem? (i := 13) rfl)) (hw _ (List.mem_of_getElem? (i := 12) rfl))
  obtain ⟨n, o, h1, h2, h3, v, L, rfl, rfl, hKp, N, hCH, hE⟩ := rm_law l s _ hw tables_1 s.heap i0 i1 i2 c0 c1 c2 c3 z1 S12 c17 S_0 S_1 S_2 S_3 n01 n02 n03 n12 n13 n23 p e ha hc hk s m _ below hf ((Spec.applies_iff_loose hf).mp happ).1 ⟨rfl, State.Warmed39.refl s, rfl, ⟨Nat.le_refl _, fun _ _ q => q⟩, hEW, hCH, fun _ q => nomatch q⟩ (fun q => by cases q)
  refine ⟨n, _, h1, h2, h3, hpost _ _ _ _ _ _ ⟨Cond.after_iff.mpr rfl, Cond.after_iff.mpr (eq_i res_at (Term.int_eval (1)) rfl), trivial⟩ ⟨fun _ => ⟨(hE.1 rfl).1, (hE.1 rfl).2.1, (hE.1 rfl).2.2.1, ((hE.1 rfl).2.2.2.sift fun y hy => Or.inr (N y hy)).mono (by decide) (by decide)⟩, (fun q => by cases q)⟩⟩
theorem main_1_1 : Claimed_1_1 := comes_1 fun _ _ _ _ _ _ h hF => ⟨h.1, hF.1 rfl⟩
theorem main_1_2 : Claimed_1_2 := comes_1 fun _ _ _ _ _ _ h hF => ⟨h.2.1, hF.1 rfl⟩

end Jvm.Pilot.@@N@@
namespace Jvm.Pilot.@@N@@
open Jvm Jvm.ClassFile Sem Op Lib Jvm.Free Jvm.Stand Jvm.Pilot.@@N@@.Jvm.D
/-! MADE BY PROGRAM (witnessworld.py) out of the Statement's table words and the real class files: 23 classes; the members and pool entries that the words name. The judged class is class 1, her method 3. -/
namespace start1
open Jvm.ClassFile
def u (s : String) : CpInfo := .utf8 (stringToUtf16 s)
/-- a pool by its gaps: so many unusable entries, then the entry; so many at the end -/
def gap : Nat → List CpInfo → List CpInfo
  | 0, r => r
  | n + 1, r => .unusable :: gap n r
def poolList (es : List (Nat × CpInfo)) (last : Nat) : List CpInfo := es.foldr (fun e r => gap e.1 (e.2 :: r)) (gap last [])
def pool (es : List (Nat × CpInfo)) (last : Nat) : Array CpInfo := ⟨poolList es last⟩
def fileOf (pool : Array CpInfo) (this : Nat) (attrs : Array Attribute := #[]) (ms : Array MethodInfo := #[]) (fl : Nat := 33) (sup : Nat := 0) (ifs : Array Nat := #[]) (fds : Array FieldInfo := #[]) : ClassFile where
  minorVersion := 0
  majorVersion := 65
  constantPool := pool
  accessFlags := fl
  thisClass := this
  superClass := sup
  interfaces := ifs
  fields := fds
  methods := ms
  attributes := attrs
def plain (name : String) (sup : Option ClassId) : Class where
  name := name
  kind := .ordinary
  loader := none
  accessFlags := 33
  super := sup
  interfaces := #[]
  cf := none
  fields := #[]
  methods := #[]
  instanceTypes := #[]
  staticTypes := #[]
  resolved := #[]
  callSites := []
  init := .initialized
  statics := none
  mirror := none

def pool0 : Array CpInfo := pool [(5, u "<init>"), (0, u "()V"), (1, .class_ 10), (1, u "java/lang/Object")] 113

def k0c0 : Code := { maxStack := 0, maxLocals := 1, code := object_method_1_code, exceptionTable := #[], attributes := #[] }
def k0m0 : Method := { name := "<init>", desc := "()V", sig := { parameters := [], returnType := none }, accessFlags := 1, code := some k0c0 }
/-- java/lang/Object -/
def k0 : Class := { plain "java/lang/Object" none with
  accessFlags := 33
  interfaces := #[]
  cf := some (fileOf pool0 8 #[] #[{ accessFlags := 1, nameIndex := 5, descriptorIndex := 6, attributes := #[] }] 33 0 #[] #[])
  fields := #[]
  methods := #[k0m0]
  instanceTypes := #[]
  staticTypes := #[]
  resolved := Array.replicate 124 none
  statics := none }

def pool1 : Array CpInfo := pool [(2, .class_ 4), (1, u "java/lang/Object"), (0, u "<init>"), (0, u "()V"), (0, .fieldref 8 9), (0, .class_ 10), (0, .nameAndType 11 12), (0, u "com/example/mannered_forms/manneredforms/JsonValue$Scalar$Kind"), (0, u "STRING"), (0, u "Lcom/example/mannered_forms/manneredforms/JsonValue$Scalar$Kind;"), (0, .fieldref 8 14), (0, .nameAndType 15 12), (0, u "NUMBER"), (0, .fieldref 8 17), (0, .nameAndType 18 12), (0, u "BOOLEAN"), (0, .fieldref 8 20), (0, .nameAndType 21 12), (0, u "NULL"), (0, .class_ 23), (0, u "java/lang/String"), (0, .methodref 22 25), (0, .nameAndType 5 26), (0, u "([C)V"), (0, .methodref 22 28), (0, .nameAndType 29 30), (0, u "valueOf"), (0, u "(C)Ljava/lang/String;"), (0, .string 32), (0, u "null"), (0, .methodref 34 35), (0, .class_ 36), (0, .nameAndType 37 38), (0, u "com/example/mannered_forms/manneredforms/ScalarIsNullPinLaw"), (0, u "kindOf"), (0, u "(I)Lcom/example/mannered_forms/manneredforms/JsonValue$Scalar$Kind;"), (0, .methodref 34 40), (0, .nameAndType 41 42), (0, u "textOf"), (0, u "(II)Ljava/lang/String;"), (0, .class_ 44), (0, u "com/example/mannered_forms/manneredforms/JsonValue$Scalar"), (0, .methodref 43 46), (0, .nameAndType 5 47), (0, u "(Ljava/lang/String;Lcom/example/mannered_forms/manneredforms/JsonValue$Scalar$Kind;)V"), (0, .methodref 43 49), (0, .nameAndType 50 51), (0, u "isNull"), (0, u "()Z"), (3, u "law"), (0, u "(III)Z")] 7

def k1m0 : Method := { name := "<init>", desc := "()V", sig := { parameters := [], returnType := none }, accessFlags := 1, code := none }
def k1c1 : Code := { maxStack := 2, maxLocals := 1, code := method_2_code, exceptionTable := #[], attributes := #[] }
def k1m1 : Method := { name := "kindOf", desc := "(I)Lcom/example/mannered_forms/manneredforms/JsonValue$Scalar$Kind;", sig := { parameters := [.int], returnType := some (.object "com/example/mannered_forms/manneredforms/JsonValue$Scalar$Kind") }, accessFlags := 10, code := some k1c1 }
def k1c2 : Code := { maxStack := 3, maxLocals := 2, code := method_3_code, exceptionTable := #[], attributes := #[] }
def k1m2 : Method := { name := "textOf", desc := "(II)Ljava/lang/String;", sig := { parameters := [.int, .int], returnType := some (.object "java/lang/String") }, accessFlags := 10, code := some k1c2 }
def k1c3 : Code := { maxStack := 4, maxLocals := 8, code := code, exceptionTable := #[], attributes := #[] }
def k1m3 : Method := { name := "law", desc := "(III)Z", sig := { parameters := [.int, .int, .int], returnType := some .boolean }, accessFlags := 9, code := some k1c3 }
/-- com/example/mannered_forms/manneredforms/ScalarIsNullPinLaw -/
def k1 : Class := { plain "com/example/mannered_forms/manneredforms/ScalarIsNullPinLaw" (some 0) with
  accessFlags := 49
  interfaces := #[]
  cf := some (fileOf pool1 34 #[] #[{ accessFlags := 1, nameIndex := 5, descriptorIndex := 6, attributes := #[] }, { accessFlags := 10, nameIndex := 37, descriptorIndex := 38, attributes := #[] }, { accessFlags := 10, nameIndex := 41, descriptorIndex := 42, attributes := #[] }, { accessFlags := 9, nameIndex := 55, descriptorIndex := 56, attributes := #[] }] 49 2 #[] #[])
  fields := #[]
  methods := #[k1m0, k1m1, k1m2, k1m3]
  instanceTypes := #[]
  staticTypes := #[]
  resolved := Array.replicate 64 none
  statics := none }

def pool2 : Array CpInfo := pool [(1, .class_ 2), (0, u "java/lang/constant/Constable"), (0, .class_ 4), (0, u "java/lang/Object")] 6

/-- java/lang/constant/Constable -/
def k2 : Class := { plain "java/lang/constant/Constable" (some 0) with
  accessFlags := 1537
  interfaces := #[]
  cf := some (fileOf pool2 1 #[] #[] 1537 3 #[] #[])
  fields := #[]
  methods := #[]
  instanceTypes := #[]
  staticTypes := #[]
  resolved := Array.replicate 11 none
  statics := none }

def pool3 : Array CpInfo := pool [(1, .class_ 2), (0, u "java/lang/Comparable"), (0, .class_ 4), (0, u "java/lang/Object")] 7

/-- java/lang/Comparable -/
def k3 : Class := { plain "java/lang/Comparable" (some 0) with
  accessFlags := 1537
  interfaces := #[]
  cf := some (fileOf pool3 1 #[] #[] 1537 3 #[] #[])
  fields := #[]
  methods := #[]
  instanceTypes := #[]
  staticTypes := #[]
  resolved := Array.replicate 12 none
  statics := none }

def pool4 : Array CpInfo := pool [(1, .class_ 2), (0, u "java/io/Serializable"), (0, .class_ 4), (0, u "java/lang/Object")] 2

/-- java/io/Serializable -/
def k4 : Class := { plain "java/io/Serializable" (some 0) with
  accessFlags := 1537
  interfaces := #[]
  cf := some (fileOf pool4 1 #[] #[] 1537 3 #[] #[])
  fields := #[]
  methods := #[]
  instanceTypes := #[]
  staticTypes := #[]
  resolved := Array.replicate 7 none
  statics := none }

def pool5 : Array CpInfo := pool [(2, .class_ 4), (1, u "java/lang/Enum"), (0, u "name"), (0, u "Ljava/lang/String;"), (2, u "ordinal"), (0, u "I"), (1, .class_ 14), (1, u "java/lang/Object"), (4, u "hash"), (86, .class_ 108), (1, u "java/lang/Enum$EnumDesc"), (2, .class_ 112), (0, u "java/lang/constant/Constable"), (0, .class_ 114), (0, u "java/lang/Comparable"), (0, .class_ 116), (0, u "java/io/Serializable")] 87

/-- java/lang/Enum -/
def k5 : Class := { plain "java/lang/Enum" (some 0) with
  accessFlags := 1057
  interfaces := #[2, 3, 4]
  cf := some (fileOf pool5 2 #[.nestMembers #[106]] #[] 1057 12 #[111, 113, 115] #[{ accessFlags := 18, nameIndex := 5, descriptorIndex := 6, attributes := #[] }, { accessFlags := 18, nameIndex := 9, descriptorIndex := 10, attributes := #[] }, { accessFlags := 2, nameIndex := 19, descriptorIndex := 10, attributes := #[] }])
  fields := #[{ name := "name", type := (.object "java/lang/String"), accessFlags := 18, slot := 0, constantValue := 0 }, { name := "ordinal", type := .int, accessFlags := 18, slot := 1, constantValue := 0 }, { name := "hash", type := .int, accessFlags := 2, slot := 2, constantValue := 0 }]
  methods := #[]
  instanceTypes := #[(.object "java/lang/String"), .int, .int]
  staticTypes := #[]
  resolved := Array.replicate 204 none
  statics := none }

def pool6 : Array CpInfo := pool [(1, .class_ 2), (0, u "com/example/mannered_forms/manneredforms/JsonValue$Scalar$Kind"), (2, u "STRING"), (0, u "Lcom/example/mannered_forms/manneredforms/JsonValue$Scalar$Kind;"), (2, u "NUMBER"), (2, u "BOOLEAN"), (2, u "NULL"), (2, u "$VALUES"), (0, u "[Lcom/example/mannered_forms/manneredforms/JsonValue$Scalar$Kind;"), (6, .class_ 28), (1, u "java/lang/Enum"), (27, .class_ 57), (0, u "com/example/mannered_forms/manneredforms/JsonValue")] 5

/-- com/example/mannered_forms/manneredforms/JsonValue$Scalar$Kind -/
def k6 : Class := { plain "com/example/mannered_forms/manneredforms/JsonValue$Scalar$Kind" (some 5) with
  accessFlags := 16432
  interfaces := #[]
  cf := some (fileOf pool6 1 #[.nestHost 56] #[] 16432 26 #[] #[{ accessFlags := 16409, nameIndex := 5, descriptorIndex := 6, attributes := #[] }, { accessFlags := 16409, nameIndex := 9, descriptorIndex := 6, attributes := #[] }, { accessFlags := 16409, nameIndex := 12, descriptorIndex := 6, attributes := #[] }, { accessFlags := 16409, nameIndex := 15, descriptorIndex := 6, attributes := #[] }, { accessFlags := 4122, nameIndex := 18, descriptorIndex := 19, attributes := #[] }])
  fields := #[{ name := "STRING", type := (.object "com/example/mannered_forms/manneredforms/JsonValue$Scalar$Kind"), accessFlags := 16409, slot := 0, constantValue := 0 }, { name := "NUMBER", type := (.object "com/example/mannered_forms/manneredforms/JsonValue$Scalar$Kind"), accessFlags := 16409, slot := 1, constantValue := 0 }, { name := "BOOLEAN", type := (.object "com/example/mannered_forms/manneredforms/JsonValue$Scalar$Kind"), accessFlags := 16409, slot := 2, constantValue := 0 }, { name := "NULL", type := (.object "com/example/mannered_forms/manneredforms/JsonValue$Scalar$Kind"), accessFlags := 16409, slot := 3, constantValue := 0 }, { name := "$VALUES", type := (.array (.object "com/example/mannered_forms/manneredforms/JsonValue$Scalar$Kind")), accessFlags := 4122, slot := 4, constantValue := 0 }]
  methods := #[]
  instanceTypes := #[(.object "java/lang/String"), .int, .int]
  staticTypes := #[(.object "com/example/mannered_forms/manneredforms/JsonValue$Scalar$Kind"), (.object "com/example/mannered_forms/manneredforms/JsonValue$Scalar$Kind"), (.object "com/example/mannered_forms/manneredforms/JsonValue$Scalar$Kind"), (.object "com/example/mannered_forms/manneredforms/JsonValue$Scalar$Kind"), (.array (.object "com/example/mannered_forms/manneredforms/JsonValue$Scalar$Kind"))]
  resolved := Array.replicate 63 none
  statics := some 0 }

def pool7 : Array CpInfo := pool [(2, .class_ 4), (1, u "java/lang/CharSequence"), (42, .class_ 48), (0, u "java/lang/CharSequence$1CodePointIterator"), (10, .class_ 60), (0, u "java/lang/CharSequence$1CharIterator"), (5, .class_ 67), (0, u "java/lang/Object")] 63

/-- java/lang/CharSequence -/
def k7 : Class := { plain "java/lang/CharSequence" (some 0) with
  accessFlags := 1537
  interfaces := #[]
  cf := some (fileOf pool7 2 #[.nestMembers #[47, 59]] #[] 1537 66 #[] #[])
  fields := #[]
  methods := #[]
  instanceTypes := #[]
  staticTypes := #[]
  resolved := Array.replicate 131 none
  statics := none }

def pool8 : Array CpInfo := pool [(1, .class_ 2), (0, u "java/lang/constant/ConstantDesc"), (0, .class_ 4), (0, u "java/lang/Object")] 32

/-- java/lang/constant/ConstantDesc -/
def k8 : Class := { plain "java/lang/constant/ConstantDesc" (some 0) with
  accessFlags := 1537
  interfaces := #[]
  cf := some (fileOf pool8 1 #[] #[] 1537 3 #[] #[])
  fields := #[]
  methods := #[]
  instanceTypes := #[]
  staticTypes := #[]
  resolved := Array.replicate 37 none
  statics := none }

def pool9 : Array CpInfo := pool [(1, .methodref 2 3), (0, .class_ 4), (0, .nameAndType 5 6), (0, u "java/lang/Object"), (0, u "<init>"), (0, u "()V"), (0, .string 8), (0, u ""), (0, .fieldref 10 11), (0, .class_ 12), (0, .nameAndType 13 14), (0, u "java/lang/String"), (0, u "value"), (0, u "[B"), (0, .fieldref 10 16), (0, .nameAndType 17 18), (0, u "coder"), (0, u "B"), (2, u "hash"), (0, u "I"), (2, u "hashIsZero"), (0, u "Z"), (0, .methodref 10 28), (0, .nameAndType 5 29), (0, u "([CIILjava/lang/Void;)V"), (8, .fieldref 10 39), (0, .nameAndType 40 26), (0, u "COMPACT_STRINGS"), (12, u "toBytes"), (53, .class_ 109), (1, u "java/lang/StringLatin1"), (99, .methodref 10 210), (0, .nameAndType 5 211), (0, u "([BB)V"), (157, u "(C)Z"), (205, .class_ 576), (0, u "java/lang/CharSequence"), (22, u "CASE_INSENSITIVE_ORDER"), (0, u "Ljava/util/Comparator;"), (181, u "valueOf"), (0, u "(C)Ljava/lang/String;"), (226, u "([C)V"), (4, .methodref 107 1016), (0, .nameAndType 1017 369), (0, u "canEncode"), (0, .methodref 107 1019), (0, .nameAndType 53 1020), (0, u "(C)[B"), (80, u "serialPersistentFields"), (0, u "[Ljava/io/ObjectStreamField;"), (0, .class_ 1104), (0, u "java/lang/String$CaseInsensitiveComparator"), (1, .class_ 1107), (0, u "java/io/Serializable"), (0, .class_ 1109), (0, u "java/lang/Comparable"), (0, .class_ 1111), (0, u "java/lang/constant/Constable"), (0, .class_ 1113), (0, u "java/lang/constant/ConstantDesc"), (2, u "serialVersionUID"), (0, u "J"), (3, u "REPL"), (0, u "C"), (2, u "LATIN1"), (1, u "UTF16")] 323

def k9m0 : Method := { name := "<init>", desc := "()V", sig := { parameters := [], returnType := none }, accessFlags := 1, code := none }
def k9c1 : Code := { maxStack := 5, maxLocals := 2, code := jdk_42_method_3_code, exceptionTable := #[], attributes := #[] }
def k9m1 : Method := { name := "<init>", desc := "([C)V", sig := { parameters := [(.array .char)], returnType := none }, accessFlags := 1, code := some k9c1 }
def k9c2 : Code := { maxStack := 4, maxLocals := 1, code := jdk_42_method_139_code, exceptionTable := #[], attributes := #[] }
def k9m2 : Method := { name := "valueOf", desc := "(C)Ljava/lang/String;", sig := { parameters := [.char], returnType := some (.object "java/lang/String") }, accessFlags := 9, code := some k9c2 }
def k9c3 : Code := { maxStack := 4, maxLocals := 6, code := jdk_42_method_149_code, exceptionTable := #[], attributes := #[] }
def k9m3 : Method := { name := "<init>", desc := "([CIILjava/lang/Void;)V", sig := { parameters := [(.array .char), .int, .int, (.object "java/lang/Void")], returnType := none }, accessFlags := 2, code := some k9c3 }
def k9c4 : Code := { maxStack := 2, maxLocals := 3, code := jdk_42_method_151_code, exceptionTable := #[], attributes := #[] }
def k9m4 : Method := { name := "<init>", desc := "([BB)V", sig := { parameters := [(.array .byte), .byte], returnType := none }, accessFlags := 0, code := some k9c4 }
/-- java/lang/String -/
def k9 : Class := { plain "java/lang/String" (some 0) with
  accessFlags := 49
  interfaces := #[4, 3, 7, 2, 8]
  cf := some (fileOf pool9 10 #[.nestMembers #[1103]] #[{ accessFlags := 1, nameIndex := 5, descriptorIndex := 6, attributes := #[] }, { accessFlags := 1, nameIndex := 5, descriptorIndex := 1010, attributes := #[] }, { accessFlags := 9, nameIndex := 782, descriptorIndex := 783, attributes := #[] }, { accessFlags := 2, nameIndex := 5, descriptorIndex := 29, attributes := #[] }, { accessFlags := 0, nameIndex := 5, descriptorIndex := 211, attributes := #[] }] 49 2 #[1106, 1108, 575, 1110, 1112] #[{ accessFlags := 18, nameIndex := 13, descriptorIndex := 14, attributes := #[] }, { accessFlags := 18, nameIndex := 17, descriptorIndex := 18, attributes := #[] }, { accessFlags := 2, nameIndex := 21, descriptorIndex := 22, attributes := #[] }, { accessFlags := 2, nameIndex := 25, descriptorIndex := 26, attributes := #[] }, { accessFlags := 26, nameIndex := 1116, descriptorIndex := 1117, attributes := #[] }, { accessFlags := 24, nameIndex := 40, descriptorIndex := 26, attributes := #[] }, { accessFlags := 26, nameIndex := 1101, descriptorIndex := 1102, attributes := #[] }, { accessFlags := 26, nameIndex := 1121, descriptorIndex := 1122, attributes := #[] }, { accessFlags := 25, nameIndex := 599, descriptorIndex := 600, attributes := #[] }, { accessFlags := 24, nameIndex := 1125, descriptorIndex := 18, attributes := #[] }, { accessFlags := 24, nameIndex := 1127, descriptorIndex := 18, attributes := #[] }])
  fields := #[{ name := "value", type := (.array .byte), accessFlags := 18, slot := 0, constantValue := 0 }, { name := "coder", type := .byte, accessFlags := 18, slot := 1, constantValue := 0 }, { name := "hash", type := .int, accessFlags := 2, slot := 2, constantValue := 0 }, { name := "hashIsZero", type := .boolean, accessFlags := 2, slot := 3, constantValue := 0 }, { name := "serialVersionUID", type := .long, accessFlags := 26, slot := 0, constantValue := 0 }, { name := "COMPACT_STRINGS", type := .boolean, accessFlags := 24, slot := 1, constantValue := 0 }, { name := "serialPersistentFields", type := (.array (.object "java/io/ObjectStreamField")), accessFlags := 26, slot := 2, constantValue := 0 }, { name := "REPL", type := .char, accessFlags := 26, slot := 3, constantValue := 0 }, { name := "CASE_INSENSITIVE_ORDER", type := (.object "java/util/Comparator"), accessFlags := 25, slot := 4, constantValue := 0 }, { name := "LATIN1", type := .byte, accessFlags := 24, slot := 5, constantValue := 0 }, { name := "UTF16", type := .byte, accessFlags := 24, slot := 6, constantValue := 0 }]
  methods := #[k9m0, k9m1, k9m2, k9m3, k9m4]
  instanceTypes := #[(.array .byte), .byte, .int, .boolean]
  staticTypes := #[.long, .boolean, (.array (.object "java/io/ObjectStreamField")), .char, (.object "java/util/Comparator"), .byte, .byte]
  resolved := Array.replicate 1451 none
  statics := some 1 }

def pool10 : Array CpInfo := pool [(1, .methodref 2 3), (0, .class_ 4), (0, .nameAndType 5 6), (0, u "java/lang/Object"), (0, u "<init>"), (0, u "()V"), (0, .class_ 8), (0, u "java/lang/Record")] 13

def k10c0 : Code := { maxStack := 1, maxLocals := 1, code := jdk_30_method_1_code, exceptionTable := #[], attributes := #[] }
def k10m0 : Method := { name := "<init>", desc := "()V", sig := { parameters := [], returnType := none }, accessFlags := 4, code := some k10c0 }
/-- java/lang/Record -/
def k10 : Class := { plain "java/lang/Record" (some 0) with
  accessFlags := 1057
  interfaces := #[]
  cf := some (fileOf pool10 7 #[] #[{ accessFlags := 4, nameIndex := 5, descriptorIndex := 6, attributes := #[] }] 1057 2 #[] #[])
  fields := #[]
  methods := #[k10m0]
  instanceTypes := #[]
  staticTypes := #[]
  resolved := Array.replicate 22 none
  statics := none }

def pool11 : Array CpInfo := pool [(1, .class_ 2), (0, u "com/example/mannered_forms/manneredforms/JsonValue"), (0, .class_ 4), (0, u "java/lang/Object"), (3, .class_ 9), (0, u "com/example/mannered_forms/manneredforms/JsonValue$Scalar"), (0, .class_ 11), (0, u "com/example/mannered_forms/manneredforms/JsonValue$Scalar$Kind"), (0, .class_ 13), (0, u "com/example/mannered_forms/manneredforms/JsonValue$ArrayValue"), (0, .class_ 15), (0, u "com/example/mannered_forms/manneredforms/JsonValue$ObjectValue")] 6

/-- com/example/mannered_forms/manneredforms/JsonValue -/
def k11 : Class := { plain "com/example/mannered_forms/manneredforms/JsonValue" (some 0) with
  accessFlags := 1536
  interfaces := #[]
  cf := some (fileOf pool11 1 #[.nestMembers #[8, 10, 12, 14]] #[] 1536 3 #[] #[])
  fields := #[]
  methods := #[]
  instanceTypes := #[]
  staticTypes := #[]
  resolved := Array.replicate 22 none
  statics := none }

def pool12 : Array CpInfo := pool [(1, .methodref 2 3), (0, .class_ 4), (0, .nameAndType 5 6), (0, u "java/lang/Record"), (0, u "<init>"), (0, u "()V"), (0, .fieldref 8 9), (0, .class_ 10), (0, .nameAndType 11 12), (0, u "com/example/mannered_forms/manneredforms/JsonValue$Scalar"), (0, u "text"), (0, u "Ljava/lang/String;"), (0, .fieldref 8 14), (0, .nameAndType 15 16), (0, u "kind"), (0, u "Lcom/example/mannered_forms/manneredforms/JsonValue$Scalar$Kind;"), (1, .class_ 20), (1, u "com/example/mannered_forms/manneredforms/JsonValue$Scalar$Kind"), (4, .fieldref 18 26), (0, .nameAndType 27 16), (0, u "NULL"), (12, .class_ 41), (0, u "com/example/mannered_forms/manneredforms/JsonValue"), (0, u "(Ljava/lang/String;Lcom/example/mannered_forms/manneredforms/JsonValue$Scalar$Kind;)V"), (4, u "()Z"), (2, u "isNull")] 28

def k12c0 : Code := { maxStack := 2, maxLocals := 3, code := prog_29_method_1_code, exceptionTable := #[], attributes := #[] }
def k12m0 : Method := { name := "<init>", desc := "(Ljava/lang/String;Lcom/example/mannered_forms/manneredforms/JsonValue$Scalar$Kind;)V", sig := { parameters := [(.object "java/lang/String"), (.object "com/example/mannered_forms/manneredforms/JsonValue$Scalar$Kind")], returnType := none }, accessFlags := 1, code := some k12c0 }
def k12c1 : Code := { maxStack := 2, maxLocals := 1, code := prog_29_method_4_code, exceptionTable := #[], attributes := #[] }
def k12m1 : Method := { name := "isNull", desc := "()Z", sig := { parameters := [], returnType := some .boolean }, accessFlags := 0, code := some k12c1 }
/-- com/example/mannered_forms/manneredforms/JsonValue$Scalar -/
def k12 : Class := { plain "com/example/mannered_forms/manneredforms/JsonValue$Scalar" (some 10) with
  accessFlags := 49
  interfaces := #[11]
  cf := some (fileOf pool12 8 #[.nestHost 40] #[{ accessFlags := 1, nameIndex := 5, descriptorIndex := 42, attributes := #[] }, { accessFlags := 0, nameIndex := 50, descriptorIndex := 47, attributes := #[] }] 49 2 #[40] #[{ accessFlags := 18, nameIndex := 11, descriptorIndex := 12, attributes := #[] }, { accessFlags := 18, nameIndex := 15, descriptorIndex := 16, attributes := #[] }])
  fields := #[{ name := "text", type := (.object "java/lang/String"), accessFlags := 18, slot := 0, constantValue := 0 }, { name := "kind", type := (.object "com/example/mannered_forms/manneredforms/JsonValue$Scalar$Kind"), accessFlags := 18, slot := 1, constantValue := 0 }]
  methods := #[k12m0, k12m1]
  instanceTypes := #[(.object "java/lang/String"), (.object "com/example/mannered_forms/manneredforms/JsonValue$Scalar$Kind")]
  staticTypes := #[]
  resolved := Array.replicate 79 none
  statics := none }

def pool13 : Array CpInfo := pool [(4, .class_ 6), (1, u "java/lang/Object"), (0, u "<init>"), (0, u "()V"), (5, .class_ 16), (1, u "java/lang/StringLatin1"), (73, u "canEncode"), (14, u "(C)Z"), (15, u "$assertionsDisabled"), (0, u "Z"), (98, .class_ 223), (1, u "java/lang/StringLatin1$LinesSpliterator"), (156, u "toBytes"), (1, u "(C)[B"), (7, .class_ 391), (0, u "java/lang/StringLatin1$CharsSpliterator")] 3

def k13m0 : Method := { name := "<init>", desc := "()V", sig := { parameters := [], returnType := none }, accessFlags := 0, code := none }
def k13c1 : Code := { maxStack := 2, maxLocals := 1, code := jdk_43_method_3_code, exceptionTable := #[], attributes := #[] }
def k13m1 : Method := { name := "canEncode", desc := "(C)Z", sig := { parameters := [.char], returnType := some .boolean }, accessFlags := 9, code := some k13c1 }
def k13c2 : Code := { maxStack := 4, maxLocals := 1, code := jdk_43_method_46_code, exceptionTable := #[], attributes := #[] }
def k13m2 : Method := { name := "toBytes", desc := "(C)[B", sig := { parameters := [.char], returnType := some (.array .byte) }, accessFlags := 9, code := some k13c2 }
/-- java/lang/StringLatin1 -/
def k13 : Class := { plain "java/lang/StringLatin1" (some 0) with
  accessFlags := 48
  interfaces := #[]
  cf := some (fileOf pool13 14 #[.nestMembers #[390, 221]] #[{ accessFlags := 0, nameIndex := 7, descriptorIndex := 8, attributes := #[] }, { accessFlags := 9, nameIndex := 90, descriptorIndex := 105, attributes := #[] }, { accessFlags := 9, nameIndex := 380, descriptorIndex := 382, attributes := #[] }] 48 4 #[] #[{ accessFlags := 4120, nameIndex := 121, descriptorIndex := 122, attributes := #[] }])
  fields := #[{ name := "$assertionsDisabled", type := .boolean, accessFlags := 4120, slot := 0, constantValue := 0 }]
  methods := #[k13m0, k13m1, k13m2]
  instanceTypes := #[]
  staticTypes := #[.boolean]
  resolved := Array.replicate 395 none
  statics := none }

def pool14 : Array CpInfo := pool [(2, .class_ 4), (1, u "java/lang/Object"), (0, u "<init>"), (0, u "()V"), (17, .class_ 26), (1, u "jdk/internal/util/Preconditions"), (28, .class_ 56), (0, u "jdk/internal/util/Preconditions$4"), (57, .class_ 115), (0, u "jdk/internal/util/Preconditions$1"), (7, u "SIOOBE_FORMATTER"), (0, u "Ljava/util/function/BiFunction;"), (0, .class_ 126), (0, u "jdk/internal/util/Preconditions$2"), (3, u "AIOOBE_FORMATTER"), (0, .class_ 132), (0, u "jdk/internal/util/Preconditions$3"), (3, u "IOOBE_FORMATTER")] 57

def k14m0 : Method := { name := "<init>", desc := "()V", sig := { parameters := [], returnType := none }, accessFlags := 1, code := none }
/-- jdk/internal/util/Preconditions -/
def k14 : Class := { plain "jdk/internal/util/Preconditions" (some 0) with
  accessFlags := 33
  interfaces := #[]
  cf := some (fileOf pool14 24 #[.nestMembers #[55, 131, 125, 114]] #[{ accessFlags := 1, nameIndex := 5, descriptorIndex := 6, attributes := #[] }] 33 2 #[] #[{ accessFlags := 25, nameIndex := 123, descriptorIndex := 124, attributes := #[] }, { accessFlags := 25, nameIndex := 130, descriptorIndex := 124, attributes := #[] }, { accessFlags := 25, nameIndex := 136, descriptorIndex := 124, attributes := #[] }])
  fields := #[{ name := "SIOOBE_FORMATTER", type := (.object "java/util/function/BiFunction"), accessFlags := 25, slot := 0, constantValue := 0 }, { name := "AIOOBE_FORMATTER", type := (.object "java/util/function/BiFunction"), accessFlags := 25, slot := 1, constantValue := 0 }, { name := "IOOBE_FORMATTER", type := (.object "java/util/function/BiFunction"), accessFlags := 25, slot := 2, constantValue := 0 }]
  methods := #[k14m0]
  instanceTypes := #[]
  staticTypes := #[(.object "java/util/function/BiFunction"), (.object "java/util/function/BiFunction"), (.object "java/util/function/BiFunction")]
  resolved := Array.replicate 194 none
  statics := some 2 }

def pool15 : Array CpInfo := pool [(9, u "<init>"), (6, .class_ 18), (1, u "java/lang/Object"), (0, u "()V"), (1, .class_ 23), (1, u "jdk/internal/util/ArraysSupport"), (0, u "LOG2_ARRAY_LONG_INDEX_SCALE"), (0, u "I"), (2, u "U"), (0, u "Ljdk/internal/misc/Unsafe;"), (8, u "BIG_ENDIAN"), (0, u "Z"), (8, u "LOG2_BYTE_BIT_SIZE"), (4, u "LOG2_ARRAY_INT_INDEX_SCALE"), (54, u "JLA"), (0, u "Ljdk/internal/access/JavaLangAccess;"), (11, u "LOG2_ARRAY_BOOLEAN_INDEX_SCALE"), (9, u "LOG2_ARRAY_BYTE_INDEX_SCALE"), (5, u "LOG2_ARRAY_CHAR_INDEX_SCALE"), (5, u "LOG2_ARRAY_SHORT_INDEX_SCALE"), (18, u "LOG2_ARRAY_FLOAT_INDEX_SCALE"), (24, u "LOG2_ARRAY_DOUBLE_INDEX_SCALE"), (89, u "T_BOOLEAN"), (2, u "T_CHAR"), (1, u "T_FLOAT"), (1, u "T_DOUBLE"), (1, u "T_BYTE"), (1, u "T_SHORT"), (1, u "T_INT"), (1, u "T_LONG"), (1, u "SOFT_MAX_ARRAY_LENGTH")] 83

def k15m0 : Method := { name := "<init>", desc := "()V", sig := { parameters := [], returnType := none }, accessFlags := 2, code := none }
/-- jdk/internal/util/ArraysSupport -/
def k15 : Class := { plain "jdk/internal/util/ArraysSupport" (some 0) with
  accessFlags := 33
  interfaces := #[]
  cf := some (fileOf pool15 21 #[] #[{ accessFlags := 2, nameIndex := 9, descriptorIndex := 19, attributes := #[] }] 33 16 #[] #[{ accessFlags := 24, nameIndex := 28, descriptorIndex := 29, attributes := #[] }, { accessFlags := 26, nameIndex := 38, descriptorIndex := 39, attributes := #[] }, { accessFlags := 25, nameIndex := 121, descriptorIndex := 25, attributes := #[] }, { accessFlags := 25, nameIndex := 131, descriptorIndex := 25, attributes := #[] }, { accessFlags := 25, nameIndex := 137, descriptorIndex := 25, attributes := #[] }, { accessFlags := 25, nameIndex := 143, descriptorIndex := 25, attributes := #[] }, { accessFlags := 25, nameIndex := 53, descriptorIndex := 25, attributes := #[] }, { accessFlags := 25, nameIndex := 24, descriptorIndex := 25, attributes := #[] }, { accessFlags := 25, nameIndex := 162, descriptorIndex := 25, attributes := #[] }, { accessFlags := 25, nameIndex := 187, descriptorIndex := 25, attributes := #[] }, { accessFlags := 26, nameIndex := 48, descriptorIndex := 25, attributes := #[] }, { accessFlags := 25, nameIndex := 277, descriptorIndex := 25, attributes := #[] }, { accessFlags := 25, nameIndex := 280, descriptorIndex := 25, attributes := #[] }, { accessFlags := 25, nameIndex := 282, descriptorIndex := 25, attributes := #[] }, { accessFlags := 25, nameIndex := 284, descriptorIndex := 25, attributes := #[] }, { accessFlags := 25, nameIndex := 286, descriptorIndex := 25, attributes := #[] }, { accessFlags := 25, nameIndex := 288, descriptorIndex := 25, attributes := #[] }, { accessFlags := 25, nameIndex := 290, descriptorIndex := 25, attributes := #[] }, { accessFlags := 25, nameIndex := 292, descriptorIndex := 25, attributes := #[] }, { accessFlags := 26, nameIndex := 108, descriptorIndex := 109, attributes := #[] }, { accessFlags := 25, nameIndex := 294, descriptorIndex := 25, attributes := #[] }])
  fields := #[{ name := "U", type := (.object "jdk/internal/misc/Unsafe"), accessFlags := 24, slot := 0, constantValue := 0 }, { name := "BIG_ENDIAN", type := .boolean, accessFlags := 26, slot := 1, constantValue := 0 }, { name := "LOG2_ARRAY_BOOLEAN_INDEX_SCALE", type := .int, accessFlags := 25, slot := 2, constantValue := 0 }, { name := "LOG2_ARRAY_BYTE_INDEX_SCALE", type := .int, accessFlags := 25, slot := 3, constantValue := 0 }, { name := "LOG2_ARRAY_CHAR_INDEX_SCALE", type := .int, accessFlags := 25, slot := 4, constantValue := 0 }, { name := "LOG2_ARRAY_SHORT_INDEX_SCALE", type := .int, accessFlags := 25, slot := 5, constantValue := 0 }, { name := "LOG2_ARRAY_INT_INDEX_SCALE", type := .int, accessFlags := 25, slot := 6, constantValue := 0 }, { name := "LOG2_ARRAY_LONG_INDEX_SCALE", type := .int, accessFlags := 25, slot := 7, constantValue := 0 }, { name := "LOG2_ARRAY_FLOAT_INDEX_SCALE", type := .int, accessFlags := 25, slot := 8, constantValue := 0 }, { name := "LOG2_ARRAY_DOUBLE_INDEX_SCALE", type := .int, accessFlags := 25, slot := 9, constantValue := 0 }, { name := "LOG2_BYTE_BIT_SIZE", type := .int, accessFlags := 26, slot := 10, constantValue := 0 }, { name := "T_BOOLEAN", type := .int, accessFlags := 25, slot := 11, constantValue := 0 }, { name := "T_CHAR", type := .int, accessFlags := 25, slot := 12, constantValue := 0 }, { name := "T_FLOAT", type := .int, accessFlags := 25, slot := 13, constantValue := 0 }, { name := "T_DOUBLE", type := .int, accessFlags := 25, slot := 14, constantValue := 0 }, { name := "T_BYTE", type := .int, accessFlags := 25, slot := 15, constantValue := 0 }, { name := "T_SHORT", type := .int, accessFlags := 25, slot := 16, constantValue := 0 }, { name := "T_INT", type := .int, accessFlags := 25, slot := 17, constantValue := 0 }, { name := "T_LONG", type := .int, accessFlags := 25, slot := 18, constantValue := 0 }, { name := "JLA", type := (.object "jdk/internal/access/JavaLangAccess"), accessFlags := 26, slot := 19, constantValue := 0 }, { name := "SOFT_MAX_ARRAY_LENGTH", type := .int, accessFlags := 25, slot := 20, constantValue := 0 }]
  methods := #[k15m0]
  instanceTypes := #[]
  staticTypes := #[(.object "jdk/internal/misc/Unsafe"), .boolean, .int, .int, .int, .int, .int, .int, .int, .int, .int, .int, .int, .int, .int, .int, .int, .int, .int, (.object "jdk/internal/access/JavaLangAccess"), .int]
  resolved := Array.replicate 378 none
  statics := none }

def pool16 : Array CpInfo := pool [(1, u "java/lang/Cloneable"), (0, .class_ 1), (0, u "java/lang/Object"), (0, .class_ 3)] 3

/-- java/lang/Cloneable -/
def k16 : Class := { plain "java/lang/Cloneable" (some 0) with
  accessFlags := 1537
  interfaces := #[]
  cf := some (fileOf pool16 2 #[] #[] 1537 4 #[] #[])
  fields := #[]
  methods := #[]
  instanceTypes := #[]
  staticTypes := #[]
  resolved := Array.replicate 8 none
  statics := none }

/-- the primitive byte -/
def k17 : Class := { plain "byte" none with kind := .primitive 'B', accessFlags := 0x411 }
/-- [B -/
def k18 : Class := { plain "[B" (some 0) with kind := .array 17 .byte, interfaces := #[16, 4], accessFlags := 1041 }

/-- the primitive char -/
def k19 : Class := { plain "char" none with kind := .primitive 'C', accessFlags := 0x411 }
/-- [C -/
def k20 : Class := { plain "[C" (some 0) with kind := .array 19 .char, interfaces := #[16, 4], accessFlags := 1041 }

/-- the primitive int -/
def k21 : Class := { plain "int" none with kind := .primitive 'I', accessFlags := 0x411 }
/-- [I -/
def k22 : Class := { plain "[I" (some 0) with kind := .array 21 .int, interfaces := #[16, 4], accessFlags := 1041 }

def heap : Heap := #[{ cls := 6, slots := #[.ref 3, .ref 4, .ref 5, .ref 6, .null], vm := .statics 6 },
  { cls := 9, slots := #[.long 0, .int 1, .null, .int 0, .null, .int 0, .int 0], vm := .statics 9 },
  { cls := 14, slots := #[.null, .null, .null], vm := .statics 14 },
  { cls := 6, slots := #[.null, .int 0, .int 0], vm := .none },
  { cls := 6, slots := #[.null, .int 1, .int 0], vm := .none },
  { cls := 6, slots := #[.null, .int 2, .int 0], vm := .none },
  { cls := 6, slots := #[.null, .int 3, .int 0], vm := .none }]
def classes : Array Class := #[k0, k1, k2, k3, k4, k5, k6, k7, k8, k9, k10, k11, k12, k13, k14, k15, k16, k17, k18, k19, k20, k21, k22]
def interned : List (Array UInt16 × Addr) := []
def slotsUsed : Nat := 27
def theMethod : MethodId := ⟨1, 3⟩
def args0 : Array Value := #[.int 3, .int 2, .int 65]
def aboutOver (below : List Frame) : State where
  vm := { classes := classes, interned := interned.toArray }
  heap := heap
  slotsUsed := slotsUsed
  threads := #[{ frames := .invoking theMethod args0 :: below }]
def below0 : List Frame := [.native { method := ⟨0, 0⟩, args := #[] }]
def about1 : State := aboutOver below0
def p0 : Program := .bare "" "" ""
def e0 : Env := launch0.env 0 0 0
theorem w_frames : about1.frames = Frame.invoking theMethod args0 :: below0 := rfl
set_option maxRecDepth 65536 in
theorem w_args : argsFit about1.vm theMethod args0 = true := by decide +kernel
set_option maxRecDepth 65536 in
theorem w_heap : heapFits about1 = true := by decide +kernel
set_option maxRecDepth 65536 in
theorem w_runnable : about1.curStatus? = some .runnable := by decide +kernel
set_option maxRecDepth 65536 in
theorem w_alone : about1.alone = true := by decide +kernel
set_option maxRecDepth 65536 in
theorem w_named : about1.methodNamed? x = some theMethod := by decide +kernel
set_option maxRecDepth 65536 in
theorem w_hears : about1.hears theMethod below0 = true := by decide +kernel
set_option maxRecDepth 65536 in
theorem w_ripe : about1.ripe theMethod args0 below0 = true := by decide +kernel
theorem w_running : about1.status = .running := rfl
set_option maxRecDepth 65536 in
theorem w_room : about1.hasRoom e0.platform room_1 = true :=
  launch0.hasRoom_least _ room_1 (by decide +kernel) (by decide +kernel) (by decide +kernel) (by decide +kernel) (by decide +kernel) (by decide +kernel)
theorem allAtoms_all (ts : List Jvm.Cond) (a : Array Jvm.Value) (st : Jvm.State) : (allAtoms ts).before a st = ts.all (fun c => c.before a st) := by
  induction ts with
  | nil => rfl
  | cons c t ih =>
    show (Jvm.Cond.and c (allAtoms t)).before a st = _
    rw [Jvm.Cond.before_and, ih, List.all_cons]
def words1 : List Jvm.Cond := Jvm.Cond.code x code maxLocals ret :: tables_1
/-- a 'code' word, met by the world's own term for the bytes: nothing is compared byte by byte -/
theorem code_word {y : MethodName} {bytes : ByteArray} {mx : Nat} {rt : Option FieldType} {a : Array Value} {s : State} {m : MethodId} {meth : Method} {c : Code} (h1 : s.methodNamed? y = some m) (h2 : s.vm.method? m = some meth) (h3 : meth.code = some c) (h4 : c.code = bytes)
    (h5 : (c.maxLocals == mx && c.exceptionTable.isEmpty && decide (c.maxStack ≤ mostOperands) && decide (meth.sig.returnType = rt) && !meth.locks && decide (parseMethodDescriptor y.desc = some meth.sig)) = true) : (Jvm.Cond.code y bytes mx rt).before a s = true := by
  simp only [Bool.and_eq_true, beq_iff_eq, Bool.not_eq_true', decide_eq_true_eq] at h5
  obtain ⟨⟨⟨⟨⟨g1, g2⟩, g3⟩, g4⟩, g5⟩, g6⟩ := h5
  simp [Cond.before, Cond.holds, Cond.value, h1, h2, h3, h4, g1, g2, g3, g4, g5, g6]
def isCode : Jvm.Cond → Bool
  | .code _ _ _ _ => true
  | _ => false
theorem all_split {L : List Jvm.Cond} {P : Jvm.Cond → Bool} (h1 : L.all (fun c => isCode c || P c) = true) (h2 : ∀ c ∈ L.filter isCode, P c = true) : L.all P = true := by
  refine List.all_eq_true.mpr fun c hc => ?_
  have h := List.all_eq_true.mp h1 c hc
  rcases Bool.eq_false_or_eq_true (isCode c) with hi | hi
  · exact h2 c (List.mem_filter.mpr ⟨hc, hi⟩)
  · simpa [hi] using h
set_option maxRecDepth 65536 in
theorem w_c0 : (Jvm.Cond.code x code maxLocals ret).before args0 about1 = true := code_word (m := ⟨1, 3⟩) (meth := k1m3) (c := k1c3) (by decide +kernel) rfl rfl rfl (by decide +kernel)
set_option maxRecDepth 65536 in
theorem w_c1 : (Jvm.Cond.code ({ cls := "com/example/mannered_forms/manneredforms/ScalarIsNullPinLaw", name := "kindOf", desc := "(I)Lcom/example/mannered_forms/manneredforms/JsonValue$Scalar$Kind;" } : Jvm.MethodName) method_2_code (1 : Nat) (Option.some (Jvm.ClassFile.FieldType.object "com/example/mannered_forms/manneredforms/JsonValue$Scalar$Kind"))).before args0 about1 = true := code_word (m := ⟨1, 1⟩) (meth := k1m1) (c := k1c1) (by decide +kernel) rfl rfl rfl (by decide +kernel)
set_option maxRecDepth 65536 in
theorem w_c2 : (Jvm.Cond.code ({ cls := "com/example/mannered_forms/manneredforms/ScalarIsNullPinLaw", name := "textOf", desc := "(II)Ljava/lang/String;" } : Jvm.MethodName) method_3_code (2 : Nat) (Option.some (Jvm.ClassFile.FieldType.object "java/lang/String"))).before args0 about1 = true := code_word (m := ⟨1, 2⟩) (meth := k1m2) (c := k1c2) (by decide +kernel) rfl rfl rfl (by decide +kernel)
set_option maxRecDepth 65536 in
theorem w_c3 : (Jvm.Cond.code ({ cls := "com/example/mannered_forms/manneredforms/JsonValue$Scalar", name := "<init>", desc := "(Ljava/lang/String;Lcom/example/mannered_forms/manneredforms/JsonValue$Scalar$Kind;)V" } : Jvm.MethodName) prog_29_method_1_code (3 : Nat) (Option.none : Option Jvm.ClassFile.FieldType)).before args0 about1 = true := code_word (m := ⟨12, 0⟩) (meth := k12m0) (c := k12c0) (by decide +kernel) rfl rfl rfl (by decide +kernel)
set_option maxRecDepth 65536 in
theorem w_c4 : (Jvm.Cond.code ({ cls := "java/lang/Record", name := "<init>", desc := "()V" } : Jvm.MethodName) jdk_30_method_1_code (1 : Nat) (Option.none : Option Jvm.ClassFile.FieldType)).before args0 about1 = true := code_word (m := ⟨10, 0⟩) (meth := k10m0) (c := k10c0) (by decide +kernel) rfl rfl rfl (by decide +kernel)
set_option maxRecDepth 65536 in
theorem w_c5 : (Jvm.Cond.code ({ cls := "java/lang/Object", name := "<init>", desc := "()V" } : Jvm.MethodName) object_method_1_code (1 : Nat) (Option.none : Option Jvm.ClassFile.FieldType)).before args0 about1 = true := code_word (m := ⟨0, 0⟩) (meth := k0m0) (c := k0c0) (by decide +kernel) rfl rfl rfl (by decide +kernel)
set_option maxRecDepth 65536 in
theorem w_c6 : (Jvm.Cond.code ({ cls := "com/example/mannered_forms/manneredforms/JsonValue$Scalar", name := "isNull", desc := "()Z" } : Jvm.MethodName) prog_29_method_4_code (1 : Nat) (Option.some Jvm.ClassFile.FieldType.boolean)).before args0 about1 = true := code_word (m := ⟨12, 1⟩) (meth := k12m1) (c := k12c1) (by decide +kernel) rfl rfl rfl (by decide +kernel)
set_option maxRecDepth 65536 in
theorem w_c7 : (Jvm.Cond.code ({ cls := "java/lang/String", name := "valueOf", desc := "(C)Ljava/lang/String;" } : Jvm.MethodName) jdk_42_method_139_code (1 : Nat) (Option.some (Jvm.ClassFile.FieldType.object "java/lang/String"))).before args0 about1 = true := code_word (m := ⟨9, 2⟩) (meth := k9m2) (c := k9c2) (by decide +kernel) rfl rfl rfl (by decide +kernel)
set_option maxRecDepth 65536 in
theorem w_c8 : (Jvm.Cond.code ({ cls := "java/lang/StringLatin1", name := "canEncode", desc := "(C)Z" } : Jvm.MethodName) jdk_43_method_3_code (1 : Nat) (Option.some Jvm.ClassFile.FieldType.boolean)).before args0 about1 = true := code_word (m := ⟨13, 1⟩) (meth := k13m1) (c := k13c1) (by decide +kernel) rfl rfl rfl (by decide +kernel)
set_option maxRecDepth 65536 in
theorem w_c9 : (Jvm.Cond.code ({ cls := "java/lang/StringLatin1", name := "toBytes", desc := "(C)[B" } : Jvm.MethodName) jdk_43_method_46_code (1 : Nat) (Option.some (Jvm.ClassFile.FieldType.array Jvm.ClassFile.FieldType.byte))).before args0 about1 = true := code_word (m := ⟨13, 2⟩) (meth := k13m2) (c := k13c2) (by decide +kernel) rfl rfl rfl (by decide +kernel)
set_option maxRecDepth 65536 in
theorem w_c10 : (Jvm.Cond.code ({ cls := "java/lang/String", name := "<init>", desc := "([BB)V" } : Jvm.MethodName) jdk_42_method_151_code (3 : Nat) (Option.none : Option Jvm.ClassFile.FieldType)).before args0 about1 = true := code_word (m := ⟨9, 4⟩) (meth := k9m4) (c := k9c4) (by decide +kernel) rfl rfl rfl (by decide +kernel)
set_option maxRecDepth 65536 in
theorem w_c11 : (Jvm.Cond.code ({ cls := "java/lang/String", name := "<init>", desc := "([C)V" } : Jvm.MethodName) jdk_42_method_3_code (2 : Nat) (Option.none : Option Jvm.ClassFile.FieldType)).before args0 about1 = true := code_word (m := ⟨9, 1⟩) (meth := k9m1) (c := k9c1) (by decide +kernel) rfl rfl rfl (by decide +kernel)
set_option maxRecDepth 65536 in
theorem w_c12 : (Jvm.Cond.code ({ cls := "java/lang/String", name := "<init>", desc := "([CIILjava/lang/Void;)V" } : Jvm.MethodName) jdk_42_method_149_code (6 : Nat) (Option.none : Option Jvm.ClassFile.FieldType)).before args0 about1 = true := code_word (m := ⟨9, 3⟩) (meth := k9m3) (c := k9c3) (by decide +kernel) rfl rfl rfl (by decide +kernel)
def codes1 : List Jvm.Cond := [Jvm.Cond.code x code maxLocals ret, Jvm.Cond.code ({ cls := "com/example/mannered_forms/manneredforms/ScalarIsNullPinLaw", name := "kindOf", desc := "(I)Lcom/example/mannered_forms/manneredforms/JsonValue$Scalar$Kind;" } : Jvm.MethodName) method_2_code (1 : Nat) (Option.some (Jvm.ClassFile.FieldType.object "com/example/mannered_forms/manneredforms/JsonValue$Scalar$Kind")), Jvm.Cond.code ({ cls := "com/example/mannered_forms/manneredforms/ScalarIsNullPinLaw", name := "textOf", desc := "(II)Ljava/lang/String;" } : Jvm.MethodName) method_3_code (2 : Nat) (Option.some (Jvm.ClassFile.FieldType.object "java/lang/String")), Jvm.Cond.code ({ cls := "com/example/mannered_forms/manneredforms/JsonValue$Scalar", name := "<init>", desc := "(Ljava/lang/String;Lcom/example/mannered_forms/manneredforms/JsonValue$Scalar$Kind;)V" } : Jvm.MethodName) prog_29_method_1_code (3 : Nat) (Option.none : Option Jvm.ClassFile.FieldType), Jvm.Cond.code ({ cls := "java/lang/Record", name := "<init>", desc := "()V" } : Jvm.MethodName) jdk_30_method_1_code (1 : Nat) (Option.none : Option Jvm.ClassFile.FieldType), Jvm.Cond.code ({ cls := "java/lang/Object", name := "<init>", desc := "()V" } : Jvm.MethodName) object_method_1_code (1 : Nat) (Option.none : Option Jvm.ClassFile.FieldType), Jvm.Cond.code ({ cls := "com/example/mannered_forms/manneredforms/JsonValue$Scalar", name := "isNull", desc := "()Z" } : Jvm.MethodName) prog_29_method_4_code (1 : Nat) (Option.some Jvm.ClassFile.FieldType.boolean), Jvm.Cond.code ({ cls := "java/lang/String", name := "valueOf", desc := "(C)Ljava/lang/String;" } : Jvm.MethodName) jdk_42_method_139_code (1 : Nat) (Option.some (Jvm.ClassFile.FieldType.object "java/lang/String")), Jvm.Cond.code ({ cls := "java/lang/StringLatin1", name := "canEncode", desc := "(C)Z" } : Jvm.MethodName) jdk_43_method_3_code (1 : Nat) (Option.some Jvm.ClassFile.FieldType.boolean), Jvm.Cond.code ({ cls := "java/lang/StringLatin1", name := "toBytes", desc := "(C)[B" } : Jvm.MethodName) jdk_43_method_46_code (1 : Nat) (Option.some (Jvm.ClassFile.FieldType.array Jvm.ClassFile.FieldType.byte)), Jvm.Cond.code ({ cls := "java/lang/String", name := "<init>", desc := "([BB)V" } : Jvm.MethodName) jdk_42_method_151_code (3 : Nat) (Option.none : Option Jvm.ClassFile.FieldType), Jvm.Cond.code ({ cls := "java/lang/String", name := "<init>", desc := "([C)V" } : Jvm.MethodName) jdk_42_method_3_code (2 : Nat) (Option.none : Option Jvm.ClassFile.FieldType), Jvm.Cond.code ({ cls := "java/lang/String", name := "<init>", desc := "([CIILjava/lang/Void;)V" } : Jvm.MethodName) jdk_42_method_149_code (6 : Nat) (Option.none : Option Jvm.ClassFile.FieldType)]
set_option maxRecDepth 65536 in
theorem codes_eq : words1.filter isCode = codes1 := rfl
theorem w_codes : ∀ c ∈ words1.filter isCode, c.before args0 about1 = true := by
  rw [codes_eq]
  intro c hc
  simp only [codes1, List.mem_cons, List.not_mem_nil, or_false] at hc
  rcases hc with rfl | rfl | rfl | rfl | rfl | rfl | rfl | rfl | rfl | rfl | rfl | rfl | rfl
  · exact w_c0
  · exact w_c1
  · exact w_c2
  · exact w_c3
  · exact w_c4
  · exact w_c5
  · exact w_c6
  · exact w_c7
  · exact w_c8
  · exact w_c9
  · exact w_c10
  · exact w_c11
  · exact w_c12
set_option maxRecDepth 65536 in
theorem w_t1 : (words1.take 24).all (fun c => isCode c || c.before args0 about1) = true := by decide +kernel
set_option maxRecDepth 65536 in
theorem w_t2 : ((words1.drop 24).take 24).all (fun c => isCode c || c.before args0 about1) = true := by decide +kernel
set_option maxRecDepth 65536 in
theorem w_t3 : (((words1.drop 24).drop 24).take 24).all (fun c => isCode c || c.before args0 about1) = true := by decide +kernel
set_option maxRecDepth 65536 in
theorem w_t4 : (((words1.drop 24).drop 24).drop 24).all (fun c => isCode c || c.before args0 about1) = true := by decide +kernel
theorem w_tables : (allAtoms (Jvm.Cond.code x code maxLocals ret :: tables_1)).before args0 about1 = true := by
  rw [allAtoms_all]
  show words1.all (fun c => c.before args0 about1) = true
  refine all_split ?_ w_codes
  rw [← List.take_append_drop 24 words1, List.all_append, w_t1, ← List.take_append_drop 24 (words1.drop 24), List.all_append, w_t2, ← List.take_append_drop 24 ((words1.drop 24).drop 24), List.all_append, w_t3, w_t4]
  rfl
set_option maxRecDepth 65536 in
theorem w_rest : rest_1_c.before args0 about1 = true := by decide +kernel
set_option maxRecDepth 65536 in
theorem w_case : (Jvm.Cond.and given_1 narrow_1).before args0 about1 = true := by decide +kernel
set_option maxRecDepth 65536 in
theorem w_consts : constsHeld consts_1 about1 := Jvm.Lit.constsHeldB_iff.mp (by decide +kernel)
theorem w_applies : (headSpec (Jvm.Cond.code x code maxLocals ret :: tables_1) room_1).applies x e0.platform about1 = true :=
  (Spec.applies_iff w_frames).mpr ⟨w_running, w_runnable, w_alone, w_named, w_hears, w_ripe, w_room, w_tables⟩
theorem atStart : AtStart classFile x code maxLocals ret World_1 tables_1 room_1 Calls_1 rest_1 Pre_1 launch0 p0 e0 about1 theMethod args0 below0 :=
  ⟨lists_1, trivial, launch0.admits_env _ _ _, launch0.least_env, fairChoices_fair.cas, fairChoices_fair.clock, w_frames, w_args, w_heap, w_applies, ⟨w_consts, trivial⟩, w_rest, w_case⟩
end start1
theorem witness_1 : WitnessClaimed_1 := ⟨start1.p0, start1.e0, start1.about1, start1.theMethod, start1.args0, start1.below0, start1.atStart⟩
end Jvm.Pilot.@@N@@
